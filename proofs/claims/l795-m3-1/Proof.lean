import JvmDerived
import JvmDerived.Pilot.@@N@@Statement
import JvmDerived.Pilot.@@N@@Code
set_option linter.unusedVariables false
set_option linter.unusedSimpArgs false
namespace Jvm.RoadKit
open Sem ClassFile Op Lib Jvm.Stand Jvm.Free Jvm.LawKit
section New
variable {p : Program} {l : Launch} {e : Env} {R : Room} {s : State} {m : MethodId} {args : Array Value} {below : List Frame} {meth : Method} {c : Code} {T : State} {locs : List Loc} {cells slots : Nat}
theorem retI (X : Stand p l e R s m args below meth c T locs cells slots) (hx : p.tables.exec = Jvm.exec) {pc : Nat} {Ls : Array Slot} {z : Int32} {rest : List Value} (hret : meth.sig.returnType = some .int) (hd : decode c.code pc = .ok (.ireturn, 1)) {fs : List Frame}
    (hl : ∀ (f : JFrame) (acts : List Action), f.method = m → f.locked = none → f.entered = [] → (doReturn e (T.setTop f) acts (some (.int z))).1 = T.setFrames fs) : Steps p.tables e below (T.setTop (mkF m pc Ls (.int z :: rest))) (T.setFrames fs) := by
  have hm' : T.vm.method? m = some meth := X.method'
  have hn : narrow .int (.int z) = .int z := rfl
  show Steps p.tables e below (T.setTop { method := m, pc := pc, locals := Ls, stack := _ :: rest, locked := none }) _
  jvm_step X.here [X.here.top, hx, hd, hm', hret, hn]
  first | (intro acts; rw [hl _ acts rfl rfl rfl]) | rw [hl _ _ rfl rfl rfl]
  exact Steps.refl _
theorem own_retJ (X : Stand p l e R s m args below meth c T locs cells slots) (hx : p.tables.exec = Jvm.exec) {pc : Nat} {Ls : Array Slot} {z : Int64} {rest : List Value} (hret : meth.sig.returnType = some .long) (hd : decode c.code pc = .ok (.lreturn, 1)) {fs : List Frame}
    (hl : ∀ (f : JFrame) (acts : List Action), f.method = m → f.locked = none → f.entered = [] → (doReturn e (T.setTop f) acts (some (.long z))).1 = T.setFrames fs) : Steps p.tables e below (T.setTop (mkF m pc Ls (.long z :: rest))) (T.setFrames fs) := by
  have hm' : T.vm.method? m = some meth := X.method'
  have hn : narrow .long (.long z) = .long z := rfl
  show Steps p.tables e below (T.setTop { method := m, pc := pc, locals := Ls, stack := _ :: rest, locked := none }) _
  jvm_step X.here [X.here.top, hx, hd, hm', hret, hn]
  first | (intro acts; rw [hl _ acts rfl rfl rfl]) | rw [hl _ _ rfl rfl rfl]
  exact Steps.refl _
theorem own_retD (X : Stand p l e R s m args below meth c T locs cells slots) (hx : p.tables.exec = Jvm.exec) {pc : Nat} {Ls : Array Slot} {z : UInt64} {rest : List Value} (hret : meth.sig.returnType = some .double) (hd : decode c.code pc = .ok (.dreturn, 1)) {fs : List Frame}
    (hl : ∀ (f : JFrame) (acts : List Action), f.method = m → f.locked = none → f.entered = [] → (doReturn e (T.setTop f) acts (some (.double z))).1 = T.setFrames fs) : Steps p.tables e below (T.setTop (mkF m pc Ls (.double z :: rest))) (T.setFrames fs) := by
  have hm' : T.vm.method? m = some meth := X.method'
  have hn : narrow .double (.double z) = .double z := rfl
  show Steps p.tables e below (T.setTop { method := m, pc := pc, locals := Ls, stack := _ :: rest, locked := none }) _
  jvm_step X.here [X.here.top, hx, hd, hm', hret, hn]
  first | (intro acts; rw [hl _ acts rfl rfl rfl]) | rw [hl _ _ rfl rfl rfl]
  exact Steps.refl _
theorem own_retR (X : Stand p l e R s m args below meth c T locs cells slots) (hx : p.tables.exec = Jvm.exec) {pc : Nat} {Ls : Array Slot} {w : Value} {t : FieldType} {rest : List Value} (hret : meth.sig.returnType = some t) (ht : t.isReference = true) (hw : w.isRef = true) (hd : decode c.code pc = .ok (.areturn, 1)) {fs : List Frame}
    (hl : ∀ (f : JFrame) (acts : List Action), f.method = m → f.locked = none → f.entered = [] → (doReturn e (T.setTop f) acts (some w)).1 = T.setFrames fs) : Steps p.tables e below (T.setTop (mkF m pc Ls (w :: rest))) (T.setFrames fs) := by
  have hm' : T.vm.method? m = some meth := X.method'
  rcases ref_cases hw with rfl | ⟨a, rfl⟩
  all_goals
    show Steps p.tables e below (T.setTop { method := m, pc := pc, locals := Ls, stack := _ :: rest, locked := none }) _
    jvm_step X.here [X.here.top, hx, hd, hm', hret, ht, Value.isRef]
    first | (intro acts; rw [hl _ acts rfl rfl rfl]) | rw [hl _ _ rfl rfl rfl]
    exact Steps.refl _
end New
end Jvm.RoadKit
namespace Jvm.Pilot.@@N@@
open Jvm Jvm.ClassFile Sem Op Lib Jvm.Free Jvm.Stand Jvm.LawKit Jvm.RoadKit Bundle Jvm.Pilot.@@N@@.Jvm.D
abbrev SS (p : Program) (e : Env) (below : List Frame) (T : State) (m : MethodId) (pc : Nat) (ls : Array Slot) (st : List Value) (t : State) : Prop := Steps p.tables e below (T.setTop (mkF m pc ls st)) t
theorem own_bool {P : Prop} [Decidable P] : nar .boolean (if P then (1 : Int32) else (0 : Int32)) = if P then (1 : Int32) else (0 : Int32) := by split <;> decide
abbrev HW (a0 : Array Value) (Z : State) : Prop := ∀ d ∈ tables_1, d.before a0 Z = true
section
variable {a0 : Array Value} {Z : State}
theorem mw (hw : HW a0 Z) {d : Jvm.Cond} (i : Nat) (h : tables_1[i]? = some d) : d.before a0 Z = true := hw d (List.mem_of_getElem? h)
theorem w0 (hw : HW a0 Z) : (Jvm.Cond.constant "com/example/patents_via_api/patentsviaapi/errors/UntrustedTextPrintablePinLaw" (13 : Nat) (2147483647 : Int32)).before a0 Z = true := mw hw 0 rfl
theorem w1 (hw : HW a0 Z) : (Jvm.Cond.constant "com/example/patents_via_api/patentsviaapi/errors/UntrustedTextPrintablePinLaw" (14 : Nat) (65535 : Int32)).before a0 Z = true := mw hw 1 rfl
theorem w2 (hw : HW a0 Z) : (Jvm.Cond.arrayClass Jvm.ClassFile.FieldType.char).before a0 Z = true := mw hw 2 rfl
theorem w3 (hw : HW a0 Z) : (Jvm.Cond.methodLink "com/example/patents_via_api/patentsviaapi/errors/UntrustedTextPrintablePinLaw" (15 : Nat) ({ cls := "com/example/patents_via_api/patentsviaapi/errors/UntrustedTextPrintablePinLaw", name := "safe", desc := "(C)C" } : Jvm.MethodName)).before a0 Z = true := mw hw 3 rfl
theorem w4 (hw : HW a0 Z) : (Jvm.Cond.static ({ cls := "com/example/patents_via_api/patentsviaapi/errors/UntrustedTextPrintablePinLaw", name := "safe", desc := "(C)C" } : Jvm.MethodName)).before a0 Z = true := mw hw 4 rfl
theorem w5 (hw : HW a0 Z) : (Jvm.Cond.initialized "com/example/patents_via_api/patentsviaapi/errors/UntrustedTextPrintablePinLaw").before a0 Z = true := mw hw 5 rfl
theorem w6 (hw : HW a0 Z) : (Jvm.Cond.code ({ cls := "com/example/patents_via_api/patentsviaapi/errors/UntrustedTextPrintablePinLaw", name := "safe", desc := "(C)C" } : Jvm.MethodName) method_2_code (1 : Nat) (Option.some Jvm.ClassFile.FieldType.char)).before a0 Z = true := mw hw 6 rfl
theorem w7 (hw : HW a0 Z) : (Jvm.Cond.classLink "com/example/patents_via_api/patentsviaapi/errors/UntrustedTextPrintablePinLaw" (8 : Nat) "java/lang/String").before a0 Z = true := mw hw 7 rfl
theorem w8 (hw : HW a0 Z) : (Jvm.Cond.instantiable "java/lang/String" (4 : Nat)).before a0 Z = true := mw hw 8 rfl
theorem w9 (hw : HW a0 Z) : (Jvm.Cond.initialized "java/lang/String").before a0 Z = true := mw hw 9 rfl
theorem w10 (hw : HW a0 Z) : (Jvm.Cond.methodLink "com/example/patents_via_api/patentsviaapi/errors/UntrustedTextPrintablePinLaw" (21 : Nat) ({ cls := "java/lang/String", name := "<init>", desc := "([C)V" } : Jvm.MethodName)).before a0 Z = true := mw hw 10 rfl
theorem w11 (hw : HW a0 Z) : (Jvm.Cond.instanceMethod ({ cls := "java/lang/String", name := "<init>", desc := "([C)V" } : Jvm.MethodName)).before a0 Z = true := mw hw 11 rfl
theorem w12 (hw : HW a0 Z) : (Jvm.Cond.code ({ cls := "java/lang/String", name := "<init>", desc := "([C)V" } : Jvm.MethodName) jdk_42_method_3_code (2 : Nat) (Option.none : Option Jvm.ClassFile.FieldType)).before a0 Z = true := mw hw 12 rfl
theorem w13 (hw : HW a0 Z) : (Jvm.Cond.methodLink "java/lang/String" (27 : Nat) ({ cls := "java/lang/String", name := "<init>", desc := "([CIILjava/lang/Void;)V" } : Jvm.MethodName)).before a0 Z = true := mw hw 13 rfl
theorem w14 (hw : HW a0 Z) : (Jvm.Cond.instanceMethod ({ cls := "java/lang/String", name := "<init>", desc := "([CIILjava/lang/Void;)V" } : Jvm.MethodName)).before a0 Z = true := mw hw 14 rfl
theorem w16 (hw : HW a0 Z) : (Jvm.Cond.code ({ cls := "java/lang/String", name := "<init>", desc := "([CIILjava/lang/Void;)V" } : Jvm.MethodName) jdk_42_method_149_code (6 : Nat) (Option.none : Option Jvm.ClassFile.FieldType)).before a0 Z = true := mw hw 16 rfl
theorem w17 (hw : HW a0 Z) : (Jvm.Cond.methodLink "java/lang/String" (1 : Nat) ({ cls := "java/lang/Object", name := "<init>", desc := "()V" } : Jvm.MethodName)).before a0 Z = true := mw hw 17 rfl
theorem w18 (hw : HW a0 Z) : (Jvm.Cond.instanceMethod ({ cls := "java/lang/Object", name := "<init>", desc := "()V" } : Jvm.MethodName)).before a0 Z = true := mw hw 18 rfl
theorem w19 (hw : HW a0 Z) : (Jvm.Cond.code ({ cls := "java/lang/Object", name := "<init>", desc := "()V" } : Jvm.MethodName) object_method_1_code (1 : Nat) (Option.none : Option Jvm.ClassFile.FieldType)).before a0 Z = true := mw hw 19 rfl
theorem w20 (hw : HW a0 Z) : (Jvm.Cond.fieldLink "java/lang/String" (38 : Nat) "java/lang/String" "COMPACT_STRINGS" "Z").before a0 Z = true := mw hw 20 rfl
theorem w21 (hw : HW a0 Z) : (Jvm.Cond.methodLink "java/lang/String" (177 : Nat) ({ cls := "java/lang/StringUTF16", name := "compress", desc := "([CII)[B" } : Jvm.MethodName)).before a0 Z = true := mw hw 21 rfl
theorem w22 (hw : HW a0 Z) : (Jvm.Cond.static ({ cls := "java/lang/StringUTF16", name := "compress", desc := "([CII)[B" } : Jvm.MethodName)).before a0 Z = true := mw hw 22 rfl
theorem w23 (hw : HW a0 Z) : (Jvm.Cond.initialized "java/lang/StringUTF16").before a0 Z = true := mw hw 23 rfl
theorem w24 (hw : HW a0 Z) : (Jvm.Cond.code ({ cls := "java/lang/StringUTF16", name := "compress", desc := "([CII)[B" } : Jvm.MethodName) jdk_52_method_16_code (6 : Nat) (Option.some (Jvm.ClassFile.FieldType.array Jvm.ClassFile.FieldType.byte))).before a0 Z = true := mw hw 24 rfl
theorem w25 (hw : HW a0 Z) : (Jvm.Cond.arrayClass Jvm.ClassFile.FieldType.byte).before a0 Z = true := mw hw 25 rfl
theorem w26 (hw : HW a0 Z) : (Jvm.Cond.methodLink "java/lang/StringUTF16" (115 : Nat) ({ cls := "java/lang/StringUTF16", name := "compress", desc := "([CI[BII)I" } : Jvm.MethodName)).before a0 Z = true := mw hw 26 rfl
theorem w27 (hw : HW a0 Z) : (Jvm.Cond.static ({ cls := "java/lang/StringUTF16", name := "compress", desc := "([CI[BII)I" } : Jvm.MethodName)).before a0 Z = true := mw hw 27 rfl
theorem w28 (hw : HW a0 Z) : (Jvm.Cond.code ({ cls := "java/lang/StringUTF16", name := "compress", desc := "([CI[BII)I" } : Jvm.MethodName) jdk_52_method_21_code (7 : Nat) (Option.some Jvm.ClassFile.FieldType.int)).before a0 Z = true := mw hw 28 rfl
theorem w29 (hw : HW a0 Z) : (Jvm.Cond.methodLink "java/lang/String" (47 : Nat) ({ cls := "java/lang/StringUTF16", name := "coderFromArrayLen", desc := "([BI)B" } : Jvm.MethodName)).before a0 Z = true := mw hw 29 rfl
theorem w30 (hw : HW a0 Z) : (Jvm.Cond.static ({ cls := "java/lang/StringUTF16", name := "coderFromArrayLen", desc := "([BI)B" } : Jvm.MethodName)).before a0 Z = true := mw hw 30 rfl
theorem w31 (hw : HW a0 Z) : (Jvm.Cond.code ({ cls := "java/lang/StringUTF16", name := "coderFromArrayLen", desc := "([BI)B" } : Jvm.MethodName) jdk_52_method_15_code (2 : Nat) (Option.some Jvm.ClassFile.FieldType.byte)).before a0 Z = true := mw hw 31 rfl
theorem w32 (hw : HW a0 Z) : (Jvm.Cond.fieldLink "java/lang/String" (15 : Nat) "java/lang/String" "coder" "B").before a0 Z = true := mw hw 32 rfl
theorem w33 (hw : HW a0 Z) : (Jvm.Cond.laysFinal "java/lang/String" "java/lang/String" "coder" "B").before a0 Z = true := mw hw 33 rfl
theorem w34 (hw : HW a0 Z) : (Jvm.Cond.fieldLink "java/lang/String" (9 : Nat) "java/lang/String" "value" "[B").before a0 Z = true := mw hw 34 rfl
theorem w35 (hw : HW a0 Z) : (Jvm.Cond.laysFinal "java/lang/String" "java/lang/String" "value" "[B").before a0 Z = true := mw hw 35 rfl
theorem w36 (hw : HW a0 Z) : (Jvm.Cond.methodLink "com/example/patents_via_api/patentsviaapi/errors/UntrustedTextPrintablePinLaw" (24 : Nat) ({ cls := "com/example/patents_via_api/patentsviaapi/errors/UntrustedText", name := "printable", desc := "(Ljava/lang/String;I)Ljava/lang/String;" } : Jvm.MethodName)).before a0 Z = true := mw hw 36 rfl
theorem w37 (hw : HW a0 Z) : (Jvm.Cond.static ({ cls := "com/example/patents_via_api/patentsviaapi/errors/UntrustedText", name := "printable", desc := "(Ljava/lang/String;I)Ljava/lang/String;" } : Jvm.MethodName)).before a0 Z = true := mw hw 37 rfl
theorem w38 (hw : HW a0 Z) : (Jvm.Cond.initialized "com/example/patents_via_api/patentsviaapi/errors/UntrustedText").before a0 Z = true := mw hw 38 rfl
theorem w39 (hw : HW a0 Z) : (Jvm.Cond.code ({ cls := "com/example/patents_via_api/patentsviaapi/errors/UntrustedText", name := "printable", desc := "(Ljava/lang/String;I)Ljava/lang/String;" } : Jvm.MethodName) prog_12_method_2_code (6 : Nat) (Option.some (Jvm.ClassFile.FieldType.object "java/lang/String"))).before a0 Z = true := mw hw 39 rfl
theorem w40 (hw : HW a0 Z) : (Jvm.Cond.methodLink "com/example/patents_via_api/patentsviaapi/errors/UntrustedText" (7 : Nat) ({ cls := "java/lang/String", name := "length", desc := "()I" } : Jvm.MethodName)).before a0 Z = true := mw hw 40 rfl
theorem w41 (hw : HW a0 Z) : (Jvm.Cond.declares ({ cls := "java/lang/String", name := "length", desc := "()I" } : Jvm.MethodName)).before a0 Z = true := mw hw 41 rfl
theorem w42 (hw : HW a0 Z) : (Jvm.Cond.instanceMethod ({ cls := "java/lang/String", name := "length", desc := "()I" } : Jvm.MethodName)).before a0 Z = true := mw hw 42 rfl
theorem w43 (hw : HW a0 Z) : (Jvm.Cond.selects "java/lang/String" ({ cls := "java/lang/String", name := "length", desc := "()I" } : Jvm.MethodName) ({ cls := "java/lang/String", name := "length", desc := "()I" } : Jvm.MethodName)).before a0 Z = true := mw hw 43 rfl
theorem w44 (hw : HW a0 Z) : (Jvm.Cond.code ({ cls := "java/lang/String", name := "length", desc := "()I" } : Jvm.MethodName) jdk_42_method_54_code (1 : Nat) (Option.some Jvm.ClassFile.FieldType.int)).before a0 Z = true := mw hw 44 rfl
theorem w45 (hw : HW a0 Z) : (Jvm.Cond.methodLink "java/lang/String" (335 : Nat) ({ cls := "java/lang/String", name := "coder", desc := "()B" } : Jvm.MethodName)).before a0 Z = true := mw hw 45 rfl
theorem w46 (hw : HW a0 Z) : (Jvm.Cond.declares ({ cls := "java/lang/String", name := "coder", desc := "()B" } : Jvm.MethodName)).before a0 Z = true := mw hw 46 rfl
theorem w47 (hw : HW a0 Z) : (Jvm.Cond.instanceMethod ({ cls := "java/lang/String", name := "coder", desc := "()B" } : Jvm.MethodName)).before a0 Z = true := mw hw 47 rfl
theorem w48 (hw : HW a0 Z) : (Jvm.Cond.selects "java/lang/String" ({ cls := "java/lang/String", name := "coder", desc := "()B" } : Jvm.MethodName) ({ cls := "java/lang/String", name := "coder", desc := "()B" } : Jvm.MethodName)).before a0 Z = true := mw hw 48 rfl
theorem w49 (hw : HW a0 Z) : (Jvm.Cond.code ({ cls := "java/lang/String", name := "coder", desc := "()B" } : Jvm.MethodName) jdk_42_method_152_code (1 : Nat) (Option.some Jvm.ClassFile.FieldType.byte)).before a0 Z = true := mw hw 49 rfl
theorem w50 (hw : HW a0 Z) : (Jvm.Cond.methodLink "com/example/patents_via_api/patentsviaapi/errors/UntrustedText" (13 : Nat) ({ cls := "java/lang/Math", name := "min", desc := "(II)I" } : Jvm.MethodName)).before a0 Z = true := mw hw 50 rfl
theorem w51 (hw : HW a0 Z) : (Jvm.Cond.static ({ cls := "java/lang/Math", name := "min", desc := "(II)I" } : Jvm.MethodName)).before a0 Z = true := mw hw 51 rfl
theorem w52 (hw : HW a0 Z) : (Jvm.Cond.initialized "java/lang/Math").before a0 Z = true := mw hw 52 rfl
theorem w53 (hw : HW a0 Z) : (Jvm.Cond.code ({ cls := "java/lang/Math", name := "min", desc := "(II)I" } : Jvm.MethodName) jdk_29_method_69_code (2 : Nat) (Option.some Jvm.ClassFile.FieldType.int)).before a0 Z = true := mw hw 53 rfl
theorem w54 (hw : HW a0 Z) : (Jvm.Cond.classLink "com/example/patents_via_api/patentsviaapi/errors/UntrustedText" (19 : Nat) "java/lang/StringBuilder").before a0 Z = true := mw hw 54 rfl
theorem w55 (hw : HW a0 Z) : (Jvm.Cond.instantiable "java/lang/StringBuilder" (4 : Nat)).before a0 Z = true := mw hw 55 rfl
theorem w56 (hw : HW a0 Z) : (Jvm.Cond.initialized "java/lang/StringBuilder").before a0 Z = true := mw hw 56 rfl
theorem w57 (hw : HW a0 Z) : (Jvm.Cond.methodLink "com/example/patents_via_api/patentsviaapi/errors/UntrustedText" (21 : Nat) ({ cls := "java/lang/StringBuilder", name := "<init>", desc := "(I)V" } : Jvm.MethodName)).before a0 Z = true := mw hw 57 rfl
theorem w58 (hw : HW a0 Z) : (Jvm.Cond.instanceMethod ({ cls := "java/lang/StringBuilder", name := "<init>", desc := "(I)V" } : Jvm.MethodName)).before a0 Z = true := mw hw 58 rfl
theorem w59 (hw : HW a0 Z) : (Jvm.Cond.code ({ cls := "java/lang/StringBuilder", name := "<init>", desc := "(I)V" } : Jvm.MethodName) jdk_67_method_2_code (2 : Nat) (Option.none : Option Jvm.ClassFile.FieldType)).before a0 Z = true := mw hw 59 rfl
theorem w60 (hw : HW a0 Z) : (Jvm.Cond.methodLink "java/lang/StringBuilder" (1 : Nat) ({ cls := "java/lang/AbstractStringBuilder", name := "<init>", desc := "(I)V" } : Jvm.MethodName)).before a0 Z = true := mw hw 60 rfl
theorem w61 (hw : HW a0 Z) : (Jvm.Cond.instanceMethod ({ cls := "java/lang/AbstractStringBuilder", name := "<init>", desc := "(I)V" } : Jvm.MethodName)).before a0 Z = true := mw hw 61 rfl
theorem w64 (hw : HW a0 Z) : (Jvm.Cond.initialized "java/lang/AbstractStringBuilder").before a0 Z = true := mw hw 64 rfl
theorem w65 (hw : HW a0 Z) : (Jvm.Cond.code ({ cls := "java/lang/AbstractStringBuilder", name := "<init>", desc := "(I)V" } : Jvm.MethodName) jdk_68_method_2_code (2 : Nat) (Option.none : Option Jvm.ClassFile.FieldType)).before a0 Z = true := mw hw 65 rfl
theorem w66 (hw : HW a0 Z) : (Jvm.Cond.methodLink "java/lang/AbstractStringBuilder" (3 : Nat) ({ cls := "java/lang/Object", name := "<init>", desc := "()V" } : Jvm.MethodName)).before a0 Z = true := mw hw 66 rfl
theorem w67 (hw : HW a0 Z) : (Jvm.Cond.fieldLink "java/lang/AbstractStringBuilder" (18 : Nat) "java/lang/String" "COMPACT_STRINGS" "Z").before a0 Z = true := mw hw 67 rfl
theorem w68 (hw : HW a0 Z) : (Jvm.Cond.fieldLink "java/lang/AbstractStringBuilder" (15 : Nat) "java/lang/AbstractStringBuilder" "value" "[B").before a0 Z = true := mw hw 68 rfl
theorem w69 (hw : HW a0 Z) : (Jvm.Cond.lays "java/lang/StringBuilder" "java/lang/AbstractStringBuilder" "value" "[B").before a0 Z = true := mw hw 69 rfl
theorem w70 (hw : HW a0 Z) : (Jvm.Cond.fieldLink "java/lang/AbstractStringBuilder" (22 : Nat) "java/lang/AbstractStringBuilder" "coder" "B").before a0 Z = true := mw hw 70 rfl
theorem w71 (hw : HW a0 Z) : (Jvm.Cond.lays "java/lang/StringBuilder" "java/lang/AbstractStringBuilder" "coder" "B").before a0 Z = true := mw hw 71 rfl
theorem w72 (hw : HW a0 Z) : (Jvm.Cond.methodLink "com/example/patents_via_api/patentsviaapi/errors/UntrustedText" (24 : Nat) ({ cls := "java/lang/String", name := "charAt", desc := "(I)C" } : Jvm.MethodName)).before a0 Z = true := mw hw 72 rfl
theorem w73 (hw : HW a0 Z) : (Jvm.Cond.declares ({ cls := "java/lang/String", name := "charAt", desc := "(I)C" } : Jvm.MethodName)).before a0 Z = true := mw hw 73 rfl
theorem w74 (hw : HW a0 Z) : (Jvm.Cond.instanceMethod ({ cls := "java/lang/String", name := "charAt", desc := "(I)C" } : Jvm.MethodName)).before a0 Z = true := mw hw 74 rfl
theorem w75 (hw : HW a0 Z) : (Jvm.Cond.selects "java/lang/String" ({ cls := "java/lang/String", name := "charAt", desc := "(I)C" } : Jvm.MethodName) ({ cls := "java/lang/String", name := "charAt", desc := "(I)C" } : Jvm.MethodName)).before a0 Z = true := mw hw 75 rfl
theorem w76 (hw : HW a0 Z) : (Jvm.Cond.code ({ cls := "java/lang/String", name := "charAt", desc := "(I)C" } : Jvm.MethodName) jdk_42_method_56_code (2 : Nat) (Option.some Jvm.ClassFile.FieldType.char)).before a0 Z = true := mw hw 76 rfl
theorem w77 (hw : HW a0 Z) : (Jvm.Cond.methodLink "java/lang/String" (492 : Nat) ({ cls := "java/lang/String", name := "isLatin1", desc := "()Z" } : Jvm.MethodName)).before a0 Z = true := mw hw 77 rfl
theorem w78 (hw : HW a0 Z) : (Jvm.Cond.declares ({ cls := "java/lang/String", name := "isLatin1", desc := "()Z" } : Jvm.MethodName)).before a0 Z = true := mw hw 78 rfl
theorem w79 (hw : HW a0 Z) : (Jvm.Cond.instanceMethod ({ cls := "java/lang/String", name := "isLatin1", desc := "()Z" } : Jvm.MethodName)).before a0 Z = true := mw hw 79 rfl
theorem w80 (hw : HW a0 Z) : (Jvm.Cond.selects "java/lang/String" ({ cls := "java/lang/String", name := "isLatin1", desc := "()Z" } : Jvm.MethodName) ({ cls := "java/lang/String", name := "isLatin1", desc := "()Z" } : Jvm.MethodName)).before a0 Z = true := mw hw 80 rfl
theorem w81 (hw : HW a0 Z) : (Jvm.Cond.code ({ cls := "java/lang/String", name := "isLatin1", desc := "()Z" } : Jvm.MethodName) jdk_42_method_154_code (1 : Nat) (Option.some Jvm.ClassFile.FieldType.boolean)).before a0 Z = true := mw hw 81 rfl
theorem w82 (hw : HW a0 Z) : (Jvm.Cond.methodLink "java/lang/String" (495 : Nat) ({ cls := "java/lang/StringLatin1", name := "charAt", desc := "([BI)C" } : Jvm.MethodName)).before a0 Z = true := mw hw 82 rfl
theorem w83 (hw : HW a0 Z) : (Jvm.Cond.static ({ cls := "java/lang/StringLatin1", name := "charAt", desc := "([BI)C" } : Jvm.MethodName)).before a0 Z = true := mw hw 83 rfl
theorem w84 (hw : HW a0 Z) : (Jvm.Cond.initialized "java/lang/StringLatin1").before a0 Z = true := mw hw 84 rfl
theorem w85 (hw : HW a0 Z) : (Jvm.Cond.code ({ cls := "java/lang/StringLatin1", name := "charAt", desc := "([BI)C" } : Jvm.MethodName) jdk_43_method_2_code (2 : Nat) (Option.some Jvm.ClassFile.FieldType.char)).before a0 Z = true := mw hw 85 rfl
theorem w86 (hw : HW a0 Z) : (Jvm.Cond.methodLink "java/lang/StringLatin1" (9 : Nat) ({ cls := "java/lang/String", name := "checkIndex", desc := "(II)V" } : Jvm.MethodName)).before a0 Z = true := mw hw 86 rfl
theorem w87 (hw : HW a0 Z) : (Jvm.Cond.static ({ cls := "java/lang/String", name := "checkIndex", desc := "(II)V" } : Jvm.MethodName)).before a0 Z = true := mw hw 87 rfl
theorem w88 (hw : HW a0 Z) : (Jvm.Cond.code ({ cls := "java/lang/String", name := "checkIndex", desc := "(II)V" } : Jvm.MethodName) jdk_42_method_155_code (2 : Nat) (Option.none : Option Jvm.ClassFile.FieldType)).before a0 Z = true := mw hw 88 rfl
theorem w89 (hw : HW a0 Z) : (Jvm.Cond.fieldLink "java/lang/String" (1053 : Nat) "jdk/internal/util/Preconditions" "SIOOBE_FORMATTER" "Ljava/util/function/BiFunction;").before a0 Z = true := mw hw 89 rfl
theorem w90 (hw : HW a0 Z) : (Jvm.Cond.initialized "jdk/internal/util/Preconditions").before a0 Z = true := mw hw 90 rfl
theorem w91 (hw : HW a0 Z) : (Jvm.Cond.methodLink "java/lang/String" (1059 : Nat) ({ cls := "jdk/internal/util/Preconditions", name := "checkIndex", desc := "(IILjava/util/function/BiFunction;)I" } : Jvm.MethodName)).before a0 Z = true := mw hw 91 rfl
theorem w92 (hw : HW a0 Z) : (Jvm.Cond.static ({ cls := "jdk/internal/util/Preconditions", name := "checkIndex", desc := "(IILjava/util/function/BiFunction;)I" } : Jvm.MethodName)).before a0 Z = true := mw hw 92 rfl
theorem w93 (hw : HW a0 Z) : (Jvm.Cond.code ({ cls := "jdk/internal/util/Preconditions", name := "checkIndex", desc := "(IILjava/util/function/BiFunction;)I" } : Jvm.MethodName) jdk_41_method_11_code (3 : Nat) (Option.some Jvm.ClassFile.FieldType.int)).before a0 Z = true := mw hw 93 rfl
theorem w94 (hw : HW a0 Z) : (Jvm.Cond.methodLink "com/example/patents_via_api/patentsviaapi/errors/UntrustedText" (28 : Nat) ({ cls := "java/lang/StringBuilder", name := "append", desc := "(C)Ljava/lang/StringBuilder;" } : Jvm.MethodName)).before a0 Z = true := mw hw 94 rfl
theorem w95 (hw : HW a0 Z) : (Jvm.Cond.declares ({ cls := "java/lang/StringBuilder", name := "append", desc := "(C)Ljava/lang/StringBuilder;" } : Jvm.MethodName)).before a0 Z = true := mw hw 95 rfl
theorem w96 (hw : HW a0 Z) : (Jvm.Cond.instanceMethod ({ cls := "java/lang/StringBuilder", name := "append", desc := "(C)Ljava/lang/StringBuilder;" } : Jvm.MethodName)).before a0 Z = true := mw hw 96 rfl
theorem w97 (hw : HW a0 Z) : (Jvm.Cond.selects "java/lang/StringBuilder" ({ cls := "java/lang/StringBuilder", name := "append", desc := "(C)Ljava/lang/StringBuilder;" } : Jvm.MethodName) ({ cls := "java/lang/StringBuilder", name := "append", desc := "(C)Ljava/lang/StringBuilder;" } : Jvm.MethodName)).before a0 Z = true := mw hw 97 rfl
theorem w98 (hw : HW a0 Z) : (Jvm.Cond.code ({ cls := "java/lang/StringBuilder", name := "append", desc := "(C)Ljava/lang/StringBuilder;" } : Jvm.MethodName) jdk_67_method_14_code (2 : Nat) (Option.some (Jvm.ClassFile.FieldType.object "java/lang/StringBuilder"))).before a0 Z = true := mw hw 98 rfl
theorem w99 (hw : HW a0 Z) : (Jvm.Cond.methodLink "java/lang/StringBuilder" (50 : Nat) ({ cls := "java/lang/AbstractStringBuilder", name := "append", desc := "(C)Ljava/lang/AbstractStringBuilder;" } : Jvm.MethodName)).before a0 Z = true := mw hw 99 rfl
theorem w100 (hw : HW a0 Z) : (Jvm.Cond.instanceMethod ({ cls := "java/lang/AbstractStringBuilder", name := "append", desc := "(C)Ljava/lang/AbstractStringBuilder;" } : Jvm.MethodName)).before a0 Z = true := mw hw 100 rfl
theorem w101 (hw : HW a0 Z) : (Jvm.Cond.superclass "java/lang/StringBuilder" "java/lang/AbstractStringBuilder").before a0 Z = true := mw hw 101 rfl
theorem w103 (hw : HW a0 Z) : (Jvm.Cond.code ({ cls := "java/lang/AbstractStringBuilder", name := "append", desc := "(C)Ljava/lang/AbstractStringBuilder;" } : Jvm.MethodName) jdk_68_method_31_code (2 : Nat) (Option.some (Jvm.ClassFile.FieldType.object "java/lang/AbstractStringBuilder"))).before a0 Z = true := mw hw 103 rfl
theorem w104 (hw : HW a0 Z) : (Jvm.Cond.fieldLink "java/lang/AbstractStringBuilder" (79 : Nat) "java/lang/AbstractStringBuilder" "count" "I").before a0 Z = true := mw hw 104 rfl
theorem w105 (hw : HW a0 Z) : (Jvm.Cond.lays "java/lang/StringBuilder" "java/lang/AbstractStringBuilder" "count" "I").before a0 Z = true := mw hw 105 rfl
theorem w106 (hw : HW a0 Z) : (Jvm.Cond.methodLink "java/lang/AbstractStringBuilder" (100 : Nat) ({ cls := "java/lang/AbstractStringBuilder", name := "ensureCapacityInternal", desc := "(I)V" } : Jvm.MethodName)).before a0 Z = true := mw hw 106 rfl
theorem w107 (hw : HW a0 Z) : (Jvm.Cond.instanceMethod ({ cls := "java/lang/AbstractStringBuilder", name := "ensureCapacityInternal", desc := "(I)V" } : Jvm.MethodName)).before a0 Z = true := mw hw 107 rfl
theorem w108 (hw : HW a0 Z) : (Jvm.Cond.privateMethod ({ cls := "java/lang/AbstractStringBuilder", name := "ensureCapacityInternal", desc := "(I)V" } : Jvm.MethodName)).before a0 Z = true := mw hw 108 rfl
theorem w109 (hw : HW a0 Z) : (Jvm.Cond.selects "java/lang/StringBuilder" ({ cls := "java/lang/AbstractStringBuilder", name := "ensureCapacityInternal", desc := "(I)V" } : Jvm.MethodName) ({ cls := "java/lang/AbstractStringBuilder", name := "ensureCapacityInternal", desc := "(I)V" } : Jvm.MethodName)).before a0 Z = true := mw hw 109 rfl
theorem w110 (hw : HW a0 Z) : (Jvm.Cond.code ({ cls := "java/lang/AbstractStringBuilder", name := "ensureCapacityInternal", desc := "(I)V" } : Jvm.MethodName) jdk_68_method_9_code (3 : Nat) (Option.none : Option Jvm.ClassFile.FieldType)).before a0 Z = true := mw hw 110 rfl
theorem w111 (hw : HW a0 Z) : (Jvm.Cond.methodLink "java/lang/AbstractStringBuilder" (83 : Nat) ({ cls := "java/lang/AbstractStringBuilder", name := "isLatin1", desc := "()Z" } : Jvm.MethodName)).before a0 Z = true := mw hw 111 rfl
theorem w112 (hw : HW a0 Z) : (Jvm.Cond.declares ({ cls := "java/lang/AbstractStringBuilder", name := "isLatin1", desc := "()Z" } : Jvm.MethodName)).before a0 Z = true := mw hw 112 rfl
theorem w113 (hw : HW a0 Z) : (Jvm.Cond.instanceMethod ({ cls := "java/lang/AbstractStringBuilder", name := "isLatin1", desc := "()Z" } : Jvm.MethodName)).before a0 Z = true := mw hw 113 rfl
theorem w114 (hw : HW a0 Z) : (Jvm.Cond.selects "java/lang/StringBuilder" ({ cls := "java/lang/AbstractStringBuilder", name := "isLatin1", desc := "()Z" } : Jvm.MethodName) ({ cls := "java/lang/AbstractStringBuilder", name := "isLatin1", desc := "()Z" } : Jvm.MethodName)).before a0 Z = true := mw hw 114 rfl
theorem w115 (hw : HW a0 Z) : (Jvm.Cond.code ({ cls := "java/lang/AbstractStringBuilder", name := "isLatin1", desc := "()Z" } : Jvm.MethodName) jdk_68_method_68_code (1 : Nat) (Option.some Jvm.ClassFile.FieldType.boolean)).before a0 Z = true := mw hw 115 rfl
theorem w116 (hw : HW a0 Z) : (Jvm.Cond.methodLink "java/lang/AbstractStringBuilder" (191 : Nat) ({ cls := "java/lang/StringLatin1", name := "canEncode", desc := "(C)Z" } : Jvm.MethodName)).before a0 Z = true := mw hw 116 rfl
theorem w117 (hw : HW a0 Z) : (Jvm.Cond.static ({ cls := "java/lang/StringLatin1", name := "canEncode", desc := "(C)Z" } : Jvm.MethodName)).before a0 Z = true := mw hw 117 rfl
theorem w118 (hw : HW a0 Z) : (Jvm.Cond.code ({ cls := "java/lang/StringLatin1", name := "canEncode", desc := "(C)Z" } : Jvm.MethodName) jdk_43_method_3_code (1 : Nat) (Option.some Jvm.ClassFile.FieldType.boolean)).before a0 Z = true := mw hw 118 rfl
theorem w119 (hw : HW a0 Z) : (Jvm.Cond.stringLink "com/example/patents_via_api/patentsviaapi/errors/UntrustedText" (32 : Nat) "...").before a0 Z = true := mw hw 119 rfl
theorem w120 (hw : HW a0 Z) : (Jvm.Cond.soleField "java/lang/String" "value").before a0 Z = true := mw hw 120 rfl
theorem w121 (hw : HW a0 Z) : (Jvm.Cond.soleField "java/lang/String" "coder").before a0 Z = true := mw hw 121 rfl
theorem w122 (hw : HW a0 Z) : (Jvm.Cond.methodLink "com/example/patents_via_api/patentsviaapi/errors/UntrustedText" (34 : Nat) ({ cls := "java/lang/StringBuilder", name := "append", desc := "(Ljava/lang/String;)Ljava/lang/StringBuilder;" } : Jvm.MethodName)).before a0 Z = true := mw hw 122 rfl
theorem w123 (hw : HW a0 Z) : (Jvm.Cond.declares ({ cls := "java/lang/StringBuilder", name := "append", desc := "(Ljava/lang/String;)Ljava/lang/StringBuilder;" } : Jvm.MethodName)).before a0 Z = true := mw hw 123 rfl
theorem w124 (hw : HW a0 Z) : (Jvm.Cond.instanceMethod ({ cls := "java/lang/StringBuilder", name := "append", desc := "(Ljava/lang/String;)Ljava/lang/StringBuilder;" } : Jvm.MethodName)).before a0 Z = true := mw hw 124 rfl
theorem w125 (hw : HW a0 Z) : (Jvm.Cond.selects "java/lang/StringBuilder" ({ cls := "java/lang/StringBuilder", name := "append", desc := "(Ljava/lang/String;)Ljava/lang/StringBuilder;" } : Jvm.MethodName) ({ cls := "java/lang/StringBuilder", name := "append", desc := "(Ljava/lang/String;)Ljava/lang/StringBuilder;" } : Jvm.MethodName)).before a0 Z = true := mw hw 125 rfl
theorem w126 (hw : HW a0 Z) : (Jvm.Cond.code ({ cls := "java/lang/StringBuilder", name := "append", desc := "(Ljava/lang/String;)Ljava/lang/StringBuilder;" } : Jvm.MethodName) jdk_67_method_7_code (2 : Nat) (Option.some (Jvm.ClassFile.FieldType.object "java/lang/StringBuilder"))).before a0 Z = true := mw hw 126 rfl
theorem w127 (hw : HW a0 Z) : (Jvm.Cond.methodLink "java/lang/StringBuilder" (29 : Nat) ({ cls := "java/lang/AbstractStringBuilder", name := "append", desc := "(Ljava/lang/String;)Ljava/lang/AbstractStringBuilder;" } : Jvm.MethodName)).before a0 Z = true := mw hw 127 rfl
theorem w128 (hw : HW a0 Z) : (Jvm.Cond.instanceMethod ({ cls := "java/lang/AbstractStringBuilder", name := "append", desc := "(Ljava/lang/String;)Ljava/lang/AbstractStringBuilder;" } : Jvm.MethodName)).before a0 Z = true := mw hw 128 rfl
theorem w130 (hw : HW a0 Z) : (Jvm.Cond.code ({ cls := "java/lang/AbstractStringBuilder", name := "append", desc := "(Ljava/lang/String;)Ljava/lang/AbstractStringBuilder;" } : Jvm.MethodName) jdk_68_method_22_code (3 : Nat) (Option.some (Jvm.ClassFile.FieldType.object "java/lang/AbstractStringBuilder"))).before a0 Z = true := mw hw 130 rfl
theorem w131 (hw : HW a0 Z) : (Jvm.Cond.methodLink "java/lang/AbstractStringBuilder" (32 : Nat) ({ cls := "java/lang/String", name := "length", desc := "()I" } : Jvm.MethodName)).before a0 Z = true := mw hw 131 rfl
theorem w132 (hw : HW a0 Z) : (Jvm.Cond.methodLink "java/lang/AbstractStringBuilder" (208 : Nat) ({ cls := "java/lang/AbstractStringBuilder", name := "putStringAt", desc := "(ILjava/lang/String;)V" } : Jvm.MethodName)).before a0 Z = true := mw hw 132 rfl
theorem w133 (hw : HW a0 Z) : (Jvm.Cond.instanceMethod ({ cls := "java/lang/AbstractStringBuilder", name := "putStringAt", desc := "(ILjava/lang/String;)V" } : Jvm.MethodName)).before a0 Z = true := mw hw 133 rfl
theorem w134 (hw : HW a0 Z) : (Jvm.Cond.privateMethod ({ cls := "java/lang/AbstractStringBuilder", name := "putStringAt", desc := "(ILjava/lang/String;)V" } : Jvm.MethodName)).before a0 Z = true := mw hw 134 rfl
theorem w135 (hw : HW a0 Z) : (Jvm.Cond.selects "java/lang/StringBuilder" ({ cls := "java/lang/AbstractStringBuilder", name := "putStringAt", desc := "(ILjava/lang/String;)V" } : Jvm.MethodName) ({ cls := "java/lang/AbstractStringBuilder", name := "putStringAt", desc := "(ILjava/lang/String;)V" } : Jvm.MethodName)).before a0 Z = true := mw hw 135 rfl
theorem w136 (hw : HW a0 Z) : (Jvm.Cond.code ({ cls := "java/lang/AbstractStringBuilder", name := "putStringAt", desc := "(ILjava/lang/String;)V" } : Jvm.MethodName) jdk_68_method_73_code (3 : Nat) (Option.none : Option Jvm.ClassFile.FieldType)).before a0 Z = true := mw hw 136 rfl
theorem w137 (hw : HW a0 Z) : (Jvm.Cond.methodLink "java/lang/AbstractStringBuilder" (397 : Nat) ({ cls := "java/lang/AbstractStringBuilder", name := "inflateIfNeededFor", desc := "(Ljava/lang/String;)V" } : Jvm.MethodName)).before a0 Z = true := mw hw 137 rfl
theorem w138 (hw : HW a0 Z) : (Jvm.Cond.instanceMethod ({ cls := "java/lang/AbstractStringBuilder", name := "inflateIfNeededFor", desc := "(Ljava/lang/String;)V" } : Jvm.MethodName)).before a0 Z = true := mw hw 138 rfl
theorem w139 (hw : HW a0 Z) : (Jvm.Cond.privateMethod ({ cls := "java/lang/AbstractStringBuilder", name := "inflateIfNeededFor", desc := "(Ljava/lang/String;)V" } : Jvm.MethodName)).before a0 Z = true := mw hw 139 rfl
theorem w140 (hw : HW a0 Z) : (Jvm.Cond.selects "java/lang/StringBuilder" ({ cls := "java/lang/AbstractStringBuilder", name := "inflateIfNeededFor", desc := "(Ljava/lang/String;)V" } : Jvm.MethodName) ({ cls := "java/lang/AbstractStringBuilder", name := "inflateIfNeededFor", desc := "(Ljava/lang/String;)V" } : Jvm.MethodName)).before a0 Z = true := mw hw 140 rfl
theorem w141 (hw : HW a0 Z) : (Jvm.Cond.code ({ cls := "java/lang/AbstractStringBuilder", name := "inflateIfNeededFor", desc := "(Ljava/lang/String;)V" } : Jvm.MethodName) jdk_68_method_71_code (2 : Nat) (Option.none : Option Jvm.ClassFile.FieldType)).before a0 Z = true := mw hw 141 rfl
theorem w142 (hw : HW a0 Z) : (Jvm.Cond.methodLink "java/lang/AbstractStringBuilder" (40 : Nat) ({ cls := "java/lang/String", name := "coder", desc := "()B" } : Jvm.MethodName)).before a0 Z = true := mw hw 142 rfl
theorem w143 (hw : HW a0 Z) : (Jvm.Cond.methodLink "java/lang/AbstractStringBuilder" (399 : Nat) ({ cls := "java/lang/String", name := "getBytes", desc := "([BIB)V" } : Jvm.MethodName)).before a0 Z = true := mw hw 143 rfl
theorem w144 (hw : HW a0 Z) : (Jvm.Cond.declares ({ cls := "java/lang/String", name := "getBytes", desc := "([BIB)V" } : Jvm.MethodName)).before a0 Z = true := mw hw 144 rfl
theorem w145 (hw : HW a0 Z) : (Jvm.Cond.instanceMethod ({ cls := "java/lang/String", name := "getBytes", desc := "([BIB)V" } : Jvm.MethodName)).before a0 Z = true := mw hw 145 rfl
theorem w146 (hw : HW a0 Z) : (Jvm.Cond.selects "java/lang/String" ({ cls := "java/lang/String", name := "getBytes", desc := "([BIB)V" } : Jvm.MethodName) ({ cls := "java/lang/String", name := "getBytes", desc := "([BIB)V" } : Jvm.MethodName)).before a0 Z = true := mw hw 146 rfl
theorem w147 (hw : HW a0 Z) : (Jvm.Cond.code ({ cls := "java/lang/String", name := "getBytes", desc := "([BIB)V" } : Jvm.MethodName) jdk_42_method_147_code (4 : Nat) (Option.none : Option Jvm.ClassFile.FieldType)).before a0 Z = true := mw hw 147 rfl
theorem w148 (hw : HW a0 Z) : (Jvm.Cond.methodLink "java/lang/String" (212 : Nat) ({ cls := "java/lang/System", name := "arraycopy", desc := "(Ljava/lang/Object;ILjava/lang/Object;II)V" } : Jvm.MethodName)).before a0 Z = true := mw hw 148 rfl
theorem w149 (hw : HW a0 Z) : (Jvm.Cond.static ({ cls := "java/lang/System", name := "arraycopy", desc := "(Ljava/lang/Object;ILjava/lang/Object;II)V" } : Jvm.MethodName)).before a0 Z = true := mw hw 149 rfl
theorem w150 (hw : HW a0 Z) : (Jvm.Cond.initialized "java/lang/System").before a0 Z = true := mw hw 150 rfl
theorem w151 (hw : HW a0 Z) : (Jvm.Cond.native ({ cls := "java/lang/System", name := "arraycopy", desc := "(Ljava/lang/Object;ILjava/lang/Object;II)V" } : Jvm.MethodName)).before a0 Z = true := mw hw 151 rfl
theorem w152 (hw : HW a0 Z) : (Jvm.Cond.methodLink "com/example/patents_via_api/patentsviaapi/errors/UntrustedText" (37 : Nat) ({ cls := "java/lang/StringBuilder", name := "toString", desc := "()Ljava/lang/String;" } : Jvm.MethodName)).before a0 Z = true := mw hw 152 rfl
theorem w153 (hw : HW a0 Z) : (Jvm.Cond.declares ({ cls := "java/lang/StringBuilder", name := "toString", desc := "()Ljava/lang/String;" } : Jvm.MethodName)).before a0 Z = true := mw hw 153 rfl
theorem w154 (hw : HW a0 Z) : (Jvm.Cond.instanceMethod ({ cls := "java/lang/StringBuilder", name := "toString", desc := "()Ljava/lang/String;" } : Jvm.MethodName)).before a0 Z = true := mw hw 154 rfl
theorem w155 (hw : HW a0 Z) : (Jvm.Cond.selects "java/lang/StringBuilder" ({ cls := "java/lang/StringBuilder", name := "toString", desc := "()Ljava/lang/String;" } : Jvm.MethodName) ({ cls := "java/lang/StringBuilder", name := "toString", desc := "()Ljava/lang/String;" } : Jvm.MethodName)).before a0 Z = true := mw hw 155 rfl
theorem w156 (hw : HW a0 Z) : (Jvm.Cond.code ({ cls := "java/lang/StringBuilder", name := "toString", desc := "()Ljava/lang/String;" } : Jvm.MethodName) jdk_67_method_42_code (1 : Nat) (Option.some (Jvm.ClassFile.FieldType.object "java/lang/String"))).before a0 Z = true := mw hw 156 rfl
theorem w157 (hw : HW a0 Z) : (Jvm.Cond.classLink "java/lang/StringBuilder" (18 : Nat) "java/lang/String").before a0 Z = true := mw hw 157 rfl
theorem w158 (hw : HW a0 Z) : (Jvm.Cond.methodLink "java/lang/StringBuilder" (137 : Nat) ({ cls := "java/lang/String", name := "<init>", desc := "(Ljava/lang/StringBuilder;)V" } : Jvm.MethodName)).before a0 Z = true := mw hw 158 rfl
theorem w159 (hw : HW a0 Z) : (Jvm.Cond.instanceMethod ({ cls := "java/lang/String", name := "<init>", desc := "(Ljava/lang/StringBuilder;)V" } : Jvm.MethodName)).before a0 Z = true := mw hw 159 rfl
theorem w160 (hw : HW a0 Z) : (Jvm.Cond.code ({ cls := "java/lang/String", name := "<init>", desc := "(Ljava/lang/StringBuilder;)V" } : Jvm.MethodName) jdk_42_method_53_code (2 : Nat) (Option.none : Option Jvm.ClassFile.FieldType)).before a0 Z = true := mw hw 160 rfl
theorem w161 (hw : HW a0 Z) : (Jvm.Cond.methodLink "java/lang/String" (489 : Nat) ({ cls := "java/lang/String", name := "<init>", desc := "(Ljava/lang/AbstractStringBuilder;Ljava/lang/Void;)V" } : Jvm.MethodName)).before a0 Z = true := mw hw 161 rfl
theorem w162 (hw : HW a0 Z) : (Jvm.Cond.instanceMethod ({ cls := "java/lang/String", name := "<init>", desc := "(Ljava/lang/AbstractStringBuilder;Ljava/lang/Void;)V" } : Jvm.MethodName)).before a0 Z = true := mw hw 162 rfl
theorem w163 (hw : HW a0 Z) : (Jvm.Cond.code ({ cls := "java/lang/String", name := "<init>", desc := "(Ljava/lang/AbstractStringBuilder;Ljava/lang/Void;)V" } : Jvm.MethodName) jdk_42_method_150_code (5 : Nat) (Option.none : Option Jvm.ClassFile.FieldType)).before a0 Z = true := mw hw 163 rfl
theorem w164 (hw : HW a0 Z) : (Jvm.Cond.methodLink "java/lang/String" (552 : Nat) ({ cls := "java/lang/AbstractStringBuilder", name := "getValue", desc := "()[B" } : Jvm.MethodName)).before a0 Z = true := mw hw 164 rfl
theorem w165 (hw : HW a0 Z) : (Jvm.Cond.declares ({ cls := "java/lang/AbstractStringBuilder", name := "getValue", desc := "()[B" } : Jvm.MethodName)).before a0 Z = true := mw hw 165 rfl
theorem w166 (hw : HW a0 Z) : (Jvm.Cond.instanceMethod ({ cls := "java/lang/AbstractStringBuilder", name := "getValue", desc := "()[B" } : Jvm.MethodName)).before a0 Z = true := mw hw 166 rfl
theorem w167 (hw : HW a0 Z) : (Jvm.Cond.selects "java/lang/StringBuilder" ({ cls := "java/lang/AbstractStringBuilder", name := "getValue", desc := "()[B" } : Jvm.MethodName) ({ cls := "java/lang/AbstractStringBuilder", name := "getValue", desc := "()[B" } : Jvm.MethodName)).before a0 Z = true := mw hw 167 rfl
theorem w168 (hw : HW a0 Z) : (Jvm.Cond.code ({ cls := "java/lang/AbstractStringBuilder", name := "getValue", desc := "()[B" } : Jvm.MethodName) jdk_68_method_64_code (1 : Nat) (Option.some (Jvm.ClassFile.FieldType.array Jvm.ClassFile.FieldType.byte))).before a0 Z = true := mw hw 168 rfl
theorem w169 (hw : HW a0 Z) : (Jvm.Cond.methodLink "java/lang/String" (549 : Nat) ({ cls := "java/lang/AbstractStringBuilder", name := "length", desc := "()I" } : Jvm.MethodName)).before a0 Z = true := mw hw 169 rfl
theorem w170 (hw : HW a0 Z) : (Jvm.Cond.declares ({ cls := "java/lang/AbstractStringBuilder", name := "length", desc := "()I" } : Jvm.MethodName)).before a0 Z = true := mw hw 170 rfl
theorem w171 (hw : HW a0 Z) : (Jvm.Cond.instanceMethod ({ cls := "java/lang/AbstractStringBuilder", name := "length", desc := "()I" } : Jvm.MethodName)).before a0 Z = true := mw hw 171 rfl
theorem w172 (hw : HW a0 Z) : (Jvm.Cond.selects "java/lang/StringBuilder" ({ cls := "java/lang/AbstractStringBuilder", name := "length", desc := "()I" } : Jvm.MethodName) ({ cls := "java/lang/StringBuilder", name := "length", desc := "()I" } : Jvm.MethodName)).before a0 Z = true := mw hw 172 rfl
theorem w173 (hw : HW a0 Z) : (Jvm.Cond.instanceMethod ({ cls := "java/lang/StringBuilder", name := "length", desc := "()I" } : Jvm.MethodName)).before a0 Z = true := mw hw 173 rfl
theorem w174 (hw : HW a0 Z) : (Jvm.Cond.code ({ cls := "java/lang/StringBuilder", name := "length", desc := "()I" } : Jvm.MethodName) jdk_67_method_93_code (1 : Nat) (Option.some Jvm.ClassFile.FieldType.int)).before a0 Z = true := mw hw 174 rfl
theorem w175 (hw : HW a0 Z) : (Jvm.Cond.methodLink "java/lang/StringBuilder" (343 : Nat) ({ cls := "java/lang/AbstractStringBuilder", name := "length", desc := "()I" } : Jvm.MethodName)).before a0 Z = true := mw hw 175 rfl
theorem w176 (hw : HW a0 Z) : (Jvm.Cond.code ({ cls := "java/lang/AbstractStringBuilder", name := "length", desc := "()I" } : Jvm.MethodName) jdk_68_method_6_code (1 : Nat) (Option.some Jvm.ClassFile.FieldType.int)).before a0 Z = true := mw hw 176 rfl
theorem w177 (hw : HW a0 Z) : (Jvm.Cond.methodLink "java/lang/String" (1047 : Nat) ({ cls := "java/lang/AbstractStringBuilder", name := "isLatin1", desc := "()Z" } : Jvm.MethodName)).before a0 Z = true := mw hw 177 rfl
theorem w178 (hw : HW a0 Z) : (Jvm.Cond.methodLink "java/lang/String" (54 : Nat) ({ cls := "java/util/Arrays", name := "copyOfRange", desc := "([BII)[B" } : Jvm.MethodName)).before a0 Z = true := mw hw 178 rfl
theorem w179 (hw : HW a0 Z) : (Jvm.Cond.static ({ cls := "java/util/Arrays", name := "copyOfRange", desc := "([BII)[B" } : Jvm.MethodName)).before a0 Z = true := mw hw 179 rfl
theorem w180 (hw : HW a0 Z) : (Jvm.Cond.initialized "java/util/Arrays").before a0 Z = true := mw hw 180 rfl
theorem w181 (hw : HW a0 Z) : (Jvm.Cond.code ({ cls := "java/util/Arrays", name := "copyOfRange", desc := "([BII)[B" } : Jvm.MethodName) jdk_65_method_132_code (3 : Nat) (Option.some (Jvm.ClassFile.FieldType.array Jvm.ClassFile.FieldType.byte))).before a0 Z = true := mw hw 181 rfl
theorem w182 (hw : HW a0 Z) : (Jvm.Cond.methodLink "java/util/Arrays" (310 : Nat) ({ cls := "[B", name := "clone", desc := "()Ljava/lang/Object;" } : Jvm.MethodName)).before a0 Z = true := mw hw 182 rfl
theorem w183 (hw : HW a0 Z) : (Jvm.Cond.sameMethod "[B" "java/lang/Object" "clone" "()Ljava/lang/Object;").before a0 Z = true := mw hw 183 rfl
theorem w185 (hw : HW a0 Z) : (Jvm.Cond.instanceMethod ({ cls := "java/lang/Object", name := "clone", desc := "()Ljava/lang/Object;" } : Jvm.MethodName)).before a0 Z = true := mw hw 185 rfl
theorem w186 (hw : HW a0 Z) : (Jvm.Cond.selects "[B" ({ cls := "[B", name := "clone", desc := "()Ljava/lang/Object;" } : Jvm.MethodName) ({ cls := "java/lang/Object", name := "clone", desc := "()Ljava/lang/Object;" } : Jvm.MethodName)).before a0 Z = true := mw hw 186 rfl
theorem w187 (hw : HW a0 Z) : (Jvm.Cond.native ({ cls := "java/lang/Object", name := "clone", desc := "()Ljava/lang/Object;" } : Jvm.MethodName)).before a0 Z = true := mw hw 187 rfl
theorem w188 (hw : HW a0 Z) : (Jvm.Cond.castable "[B" "java/lang/Cloneable").before a0 Z = true := mw hw 188 rfl
theorem w189 (hw : HW a0 Z) : (Jvm.Cond.classLink "java/util/Arrays" (311 : Nat) "[B").before a0 Z = true := mw hw 189 rfl
theorem w191 (hw : HW a0 Z) : (Jvm.Cond.methodLink "com/example/patents_via_api/patentsviaapi/errors/UntrustedTextPrintablePinLaw" (30 : Nat) ({ cls := "java/lang/String", name := "length", desc := "()I" } : Jvm.MethodName)).before a0 Z = true := mw hw 191 rfl
theorem w192 (hw : HW a0 Z) : (Jvm.Cond.methodLink "com/example/patents_via_api/patentsviaapi/errors/UntrustedTextPrintablePinLaw" (34 : Nat) ({ cls := "com/example/patents_via_api/patentsviaapi/errors/UntrustedTextPrintablePinLaw", name := "ok", desc := "(Ljava/lang/String;III[C)Z" } : Jvm.MethodName)).before a0 Z = true := mw hw 192 rfl
theorem w193 (hw : HW a0 Z) : (Jvm.Cond.static ({ cls := "com/example/patents_via_api/patentsviaapi/errors/UntrustedTextPrintablePinLaw", name := "ok", desc := "(Ljava/lang/String;III[C)Z" } : Jvm.MethodName)).before a0 Z = true := mw hw 193 rfl
theorem w194 (hw : HW a0 Z) : (Jvm.Cond.code ({ cls := "com/example/patents_via_api/patentsviaapi/errors/UntrustedTextPrintablePinLaw", name := "ok", desc := "(Ljava/lang/String;III[C)Z" } : Jvm.MethodName) method_3_code (6 : Nat) (Option.some Jvm.ClassFile.FieldType.boolean)).before a0 Z = true := mw hw 194 rfl
theorem w195 (hw : HW a0 Z) : (Jvm.Cond.methodLink "com/example/patents_via_api/patentsviaapi/errors/UntrustedTextPrintablePinLaw" (7 : Nat) ({ cls := "java/lang/String", name := "charAt", desc := "(I)C" } : Jvm.MethodName)).before a0 Z = true := mw hw 195 rfl
theorem w196 (hw : HW a0 Z) : (Jvm.Cond.methodLink "java/util/Arrays" (339 : Nat) ({ cls := "java/util/Arrays", name := "copyOfRangeByte", desc := "([BII)[B" } : Jvm.MethodName)).before a0 Z = true := mw hw 196 rfl
theorem w197 (hw : HW a0 Z) : (Jvm.Cond.static ({ cls := "java/util/Arrays", name := "copyOfRangeByte", desc := "([BII)[B" } : Jvm.MethodName)).before a0 Z = true := mw hw 197 rfl
theorem w198 (hw : HW a0 Z) : (Jvm.Cond.code ({ cls := "java/util/Arrays", name := "copyOfRangeByte", desc := "([BII)[B" } : Jvm.MethodName) jdk_65_method_133_code (5 : Nat) (Option.some (Jvm.ClassFile.FieldType.array Jvm.ClassFile.FieldType.byte))).before a0 Z = true := mw hw 198 rfl
theorem w199 (hw : HW a0 Z) : (Jvm.Cond.methodLink "java/util/Arrays" (343 : Nat) ({ cls := "java/util/Arrays", name := "checkLength", desc := "(II)V" } : Jvm.MethodName)).before a0 Z = true := mw hw 199 rfl
theorem w200 (hw : HW a0 Z) : (Jvm.Cond.static ({ cls := "java/util/Arrays", name := "checkLength", desc := "(II)V" } : Jvm.MethodName)).before a0 Z = true := mw hw 200 rfl
theorem w201 (hw : HW a0 Z) : (Jvm.Cond.code ({ cls := "java/util/Arrays", name := "checkLength", desc := "(II)V" } : Jvm.MethodName) jdk_65_method_131_code (2 : Nat) (Option.none : Option Jvm.ClassFile.FieldType)).before a0 Z = true := mw hw 201 rfl
theorem w202 (hw : HW a0 Z) : (Jvm.Cond.methodLink "java/util/Arrays" (304 : Nat) ({ cls := "java/lang/Math", name := "min", desc := "(II)I" } : Jvm.MethodName)).before a0 Z = true := mw hw 202 rfl
theorem w203 (hw : HW a0 Z) : (Jvm.Cond.methodLink "java/util/Arrays" (150 : Nat) ({ cls := "java/lang/System", name := "arraycopy", desc := "(Ljava/lang/Object;ILjava/lang/Object;II)V" } : Jvm.MethodName)).before a0 Z = true := mw hw 203 rfl
theorem w204 (hw : HW a0 Z) : (Jvm.Cond.methodLink "java/lang/StringUTF16" (119 : Nat) ({ cls := "java/lang/StringUTF16", name := "toBytes", desc := "([CII)[B" } : Jvm.MethodName)).before a0 Z = true := mw hw 204 rfl
theorem w205 (hw : HW a0 Z) : (Jvm.Cond.static ({ cls := "java/lang/StringUTF16", name := "toBytes", desc := "([CII)[B" } : Jvm.MethodName)).before a0 Z = true := mw hw 205 rfl
theorem w206 (hw : HW a0 Z) : (Jvm.Cond.code ({ cls := "java/lang/StringUTF16", name := "toBytes", desc := "([CII)[B" } : Jvm.MethodName) jdk_52_method_14_code (5 : Nat) (Option.some (Jvm.ClassFile.FieldType.array Jvm.ClassFile.FieldType.byte))).before a0 Z = true := mw hw 206 rfl
theorem w207 (hw : HW a0 Z) : (Jvm.Cond.methodLink "java/lang/StringUTF16" (107 : Nat) ({ cls := "java/lang/StringUTF16", name := "newBytesFor", desc := "(I)[B" } : Jvm.MethodName)).before a0 Z = true := mw hw 207 rfl
theorem w208 (hw : HW a0 Z) : (Jvm.Cond.static ({ cls := "java/lang/StringUTF16", name := "newBytesFor", desc := "(I)[B" } : Jvm.MethodName)).before a0 Z = true := mw hw 208 rfl
theorem w209 (hw : HW a0 Z) : (Jvm.Cond.code ({ cls := "java/lang/StringUTF16", name := "newBytesFor", desc := "(I)[B" } : Jvm.MethodName) jdk_52_method_2_code (1 : Nat) (Option.some (Jvm.ClassFile.FieldType.array Jvm.ClassFile.FieldType.byte))).before a0 Z = true := mw hw 209 rfl
theorem w210 (hw : HW a0 Z) : (Jvm.Cond.methodLink "java/lang/StringUTF16" (11 : Nat) ({ cls := "java/lang/StringUTF16", name := "newBytesLength", desc := "(I)I" } : Jvm.MethodName)).before a0 Z = true := mw hw 210 rfl
theorem w211 (hw : HW a0 Z) : (Jvm.Cond.static ({ cls := "java/lang/StringUTF16", name := "newBytesLength", desc := "(I)I" } : Jvm.MethodName)).before a0 Z = true := mw hw 211 rfl
theorem w212 (hw : HW a0 Z) : (Jvm.Cond.code ({ cls := "java/lang/StringUTF16", name := "newBytesLength", desc := "(I)I" } : Jvm.MethodName) jdk_52_method_3_code (1 : Nat) (Option.some Jvm.ClassFile.FieldType.int)).before a0 Z = true := mw hw 212 rfl
theorem w213 (hw : HW a0 Z) : (Jvm.Cond.constant "java/lang/StringUTF16" (20 : Nat) (1073741823 : Int32)).before a0 Z = true := mw hw 213 rfl
theorem w214 (hw : HW a0 Z) : (Jvm.Cond.methodLink "java/lang/StringUTF16" (111 : Nat) ({ cls := "java/lang/StringUTF16", name := "putChar", desc := "([BII)V" } : Jvm.MethodName)).before a0 Z = true := mw hw 214 rfl
theorem w215 (hw : HW a0 Z) : (Jvm.Cond.static ({ cls := "java/lang/StringUTF16", name := "putChar", desc := "([BII)V" } : Jvm.MethodName)).before a0 Z = true := mw hw 215 rfl
theorem w216 (hw : HW a0 Z) : (Jvm.Cond.code ({ cls := "java/lang/StringUTF16", name := "putChar", desc := "([BII)V" } : Jvm.MethodName) jdk_52_method_4_code (3 : Nat) (Option.none : Option Jvm.ClassFile.FieldType)).before a0 Z = true := mw hw 216 rfl
theorem w217 (hw : HW a0 Z) : (Jvm.Cond.fieldLink "java/lang/StringUTF16" (44 : Nat) "java/lang/StringUTF16" "$assertionsDisabled" "Z").before a0 Z = true := mw hw 217 rfl
theorem w218 (hw : HW a0 Z) : (Jvm.Cond.fieldLink "java/lang/StringUTF16" (59 : Nat) "java/lang/StringUTF16" "HI_BYTE_SHIFT" "I").before a0 Z = true := mw hw 218 rfl
theorem w219 (hw : HW a0 Z) : (Jvm.Cond.fieldLink "java/lang/StringUTF16" (63 : Nat) "java/lang/StringUTF16" "LO_BYTE_SHIFT" "I").before a0 Z = true := mw hw 219 rfl
theorem w220 (hw : HW a0 Z) : (Jvm.Cond.methodLink "java/lang/StringUTF16" (71 : Nat) ({ cls := "java/lang/StringUTF16", name := "getChar", desc := "([BI)C" } : Jvm.MethodName)).before a0 Z = true := mw hw 220 rfl
theorem w221 (hw : HW a0 Z) : (Jvm.Cond.static ({ cls := "java/lang/StringUTF16", name := "getChar", desc := "([BI)C" } : Jvm.MethodName)).before a0 Z = true := mw hw 221 rfl
theorem w222 (hw : HW a0 Z) : (Jvm.Cond.code ({ cls := "java/lang/StringUTF16", name := "getChar", desc := "([BI)C" } : Jvm.MethodName) jdk_52_method_5_code (2 : Nat) (Option.some Jvm.ClassFile.FieldType.char)).before a0 Z = true := mw hw 222 rfl
theorem w223 (hw : HW a0 Z) : (Jvm.Cond.stringLink "java/lang/String" (7 : Nat) "").before a0 Z = true := mw hw 223 rfl
theorem w224 (hw : HW a0 Z) : (Jvm.Cond.methodLink "java/lang/String" (498 : Nat) ({ cls := "java/lang/StringUTF16", name := "charAt", desc := "([BI)C" } : Jvm.MethodName)).before a0 Z = true := mw hw 224 rfl
theorem w225 (hw : HW a0 Z) : (Jvm.Cond.static ({ cls := "java/lang/StringUTF16", name := "charAt", desc := "([BI)C" } : Jvm.MethodName)).before a0 Z = true := mw hw 225 rfl
theorem w226 (hw : HW a0 Z) : (Jvm.Cond.code ({ cls := "java/lang/StringUTF16", name := "charAt", desc := "([BI)C" } : Jvm.MethodName) jdk_52_method_83_code (2 : Nat) (Option.some Jvm.ClassFile.FieldType.char)).before a0 Z = true := mw hw 226 rfl
theorem w227 (hw : HW a0 Z) : (Jvm.Cond.methodLink "java/lang/StringUTF16" (67 : Nat) ({ cls := "java/lang/StringUTF16", name := "checkIndex", desc := "(I[B)V" } : Jvm.MethodName)).before a0 Z = true := mw hw 227 rfl
theorem w228 (hw : HW a0 Z) : (Jvm.Cond.static ({ cls := "java/lang/StringUTF16", name := "checkIndex", desc := "(I[B)V" } : Jvm.MethodName)).before a0 Z = true := mw hw 228 rfl
theorem w229 (hw : HW a0 Z) : (Jvm.Cond.code ({ cls := "java/lang/StringUTF16", name := "checkIndex", desc := "(I[B)V" } : Jvm.MethodName) jdk_52_method_91_code (2 : Nat) (Option.none : Option Jvm.ClassFile.FieldType)).before a0 Z = true := mw hw 229 rfl
theorem w230 (hw : HW a0 Z) : (Jvm.Cond.methodLink "java/lang/StringUTF16" (48 : Nat) ({ cls := "java/lang/StringUTF16", name := "length", desc := "([B)I" } : Jvm.MethodName)).before a0 Z = true := mw hw 230 rfl
theorem w231 (hw : HW a0 Z) : (Jvm.Cond.static ({ cls := "java/lang/StringUTF16", name := "length", desc := "([B)I" } : Jvm.MethodName)).before a0 Z = true := mw hw 231 rfl
theorem w232 (hw : HW a0 Z) : (Jvm.Cond.code ({ cls := "java/lang/StringUTF16", name := "length", desc := "([B)I" } : Jvm.MethodName) jdk_52_method_6_code (1 : Nat) (Option.some Jvm.ClassFile.FieldType.int)).before a0 Z = true := mw hw 232 rfl
theorem w233 (hw : HW a0 Z) : (Jvm.Cond.methodLink "java/lang/StringUTF16" (414 : Nat) ({ cls := "java/lang/String", name := "checkIndex", desc := "(II)V" } : Jvm.MethodName)).before a0 Z = true := mw hw 233 rfl
end
theorem ef_pcheck (m : MethodId) (x0 : Int32) (x1 : Int32) (x2 : Value) (hx2 : x2.category = 1) : entryFrame m #[(.int x0), (.int x1), x2] 3 = mkF m 0 #[.val (.int x0), .val (.int x1), .val x2] [] := by first | (simp [entryFrame, mkF, argsToLocals, Value.category, hx2]; done) | rfl | (cases x2 <;> first | rfl | (simp [Value.category] at hx2))
theorem pn_jdk_internal_util_Preconditions : plainName "jdk/internal/util/Preconditions" = true := by first | (simp [plainName, overriddenIn]; done) | decide +kernel
theorem d_jdk_41_method_11_0 : decode jdk_41_method_11_code 0 = .ok (.iload_n 0, 1) := by decide +kernel
theorem d_jdk_41_method_11_1 : decode jdk_41_method_11_code 1 = .ok (.ifCond .lt 8, 3) := by decide +kernel
theorem d_jdk_41_method_11_4 : decode jdk_41_method_11_code 4 = .ok (.iload_n 0, 1) := by decide +kernel
theorem d_jdk_41_method_11_5 : decode jdk_41_method_11_code 5 = .ok (.iload_n 1, 1) := by decide +kernel
theorem d_jdk_41_method_11_6 : decode jdk_41_method_11_code 6 = .ok (.if_icmp .lt 10, 3) := by decide +kernel
theorem d_jdk_41_method_11_16 : decode jdk_41_method_11_code 16 = .ok (.iload_n 0, 1) := by decide +kernel
theorem d_jdk_41_method_11_17 : decode jdk_41_method_11_code 17 = .ok (.ireturn, 1) := by decide +kernel
abbrev yn0 : MethodName := ⟨"jdk/internal/util/Preconditions", "checkIndex", "(IILjava/util/function/BiFunction;)I"⟩
theorem ef_scheck (m : MethodId) (x0 : Int32) (x1 : Int32) : entryFrame m #[(.int x0), (.int x1)] 2 = mkF m 0 #[.val (.int x0), .val (.int x1)] [] := by first | (simp [entryFrame, mkF, argsToLocals, Value.category]; done) | rfl
theorem pn_java_lang_String : plainName "java/lang/String" = true := by first | (simp [plainName, overriddenIn]; done) | decide +kernel
theorem d_jdk_42_method_155_0 : decode jdk_42_method_155_code 0 = .ok (.iload_n 0, 1) := by decide +kernel
theorem d_jdk_42_method_155_1 : decode jdk_42_method_155_code 1 = .ok (.iload_n 1, 1) := by decide +kernel
theorem d_jdk_42_method_155_2 : decode jdk_42_method_155_code 2 = .ok (.getstatic 1053, 3) := by decide +kernel
theorem d_jdk_42_method_155_5 : decode jdk_42_method_155_code 5 = .ok (.invokestatic 1059, 3) := by decide +kernel
theorem pd__28_IILjava_2f_util_2f_function_2f_BiFunction_3b__29_I : parseMethodDescriptor "(IILjava/util/function/BiFunction;)I" = some ⟨[.int, .int, (.object "java/util/function/BiFunction")], some .int⟩ := by decide +kernel
theorem d_jdk_42_method_155_8 : decode jdk_42_method_155_code 8 = .ok (.pop, 1) := by decide +kernel
theorem d_jdk_42_method_155_9 : decode jdk_42_method_155_code 9 = .ok (.return_, 1) := by decide +kernel
abbrev yn1 : MethodName := ⟨"java/lang/String", "checkIndex", "(II)V"⟩
theorem ef_l1charAt (m : MethodId) (x0 : Addr) (x1 : Int32) : entryFrame m #[(.ref x0), (.int x1)] 2 = mkF m 0 #[.val (.ref x0), .val (.int x1)] [] := by first | (simp [entryFrame, mkF, argsToLocals, Value.category]; done) | rfl
theorem pn_java_lang_StringLatin1 : plainName "java/lang/StringLatin1" = true := by first | (simp [plainName, overriddenIn]; done) | decide +kernel
theorem d_jdk_43_method_2_0 : decode jdk_43_method_2_code 0 = .ok (.iload_n 1, 1) := by decide +kernel
theorem d_jdk_43_method_2_1 : decode jdk_43_method_2_code 1 = .ok (.aload_n 0, 1) := by decide +kernel
theorem d_jdk_43_method_2_2 : decode jdk_43_method_2_code 2 = .ok (.arraylength, 1) := by decide +kernel
theorem d_jdk_43_method_2_3 : decode jdk_43_method_2_code 3 = .ok (.invokestatic 9, 3) := by decide +kernel
theorem pd__28_II_29_V : parseMethodDescriptor "(II)V" = some ⟨[.int, .int], none⟩ := by decide +kernel
theorem d_jdk_43_method_2_6 : decode jdk_43_method_2_code 6 = .ok (.aload_n 0, 1) := by decide +kernel
theorem d_jdk_43_method_2_7 : decode jdk_43_method_2_code 7 = .ok (.iload_n 1, 1) := by decide +kernel
theorem d_jdk_43_method_2_8 : decode jdk_43_method_2_code 8 = .ok (.baload, 1) := by decide +kernel
theorem d_jdk_43_method_2_9 : decode jdk_43_method_2_code 9 = .ok (.sipush 255, 3) := by decide +kernel
theorem d_jdk_43_method_2_12 : decode jdk_43_method_2_code 12 = .ok (.iand, 1) := by decide +kernel
theorem d_jdk_43_method_2_13 : decode jdk_43_method_2_code 13 = .ok (.i2c, 1) := by decide +kernel
theorem d_jdk_43_method_2_14 : decode jdk_43_method_2_code 14 = .ok (.ireturn, 1) := by decide +kernel
abbrev yn2 : MethodName := ⟨"java/lang/StringLatin1", "charAt", "([BI)C"⟩
theorem ef_u16length (m : MethodId) (x0 : Addr) : entryFrame m #[(.ref x0)] 1 = mkF m 0 #[.val (.ref x0)] [] := by first | (simp [entryFrame, mkF, argsToLocals, Value.category]; done) | rfl
theorem pn_java_lang_StringUTF16 : plainName "java/lang/StringUTF16" = true := by first | (simp [plainName, overriddenIn]; done) | decide +kernel
theorem d_jdk_52_method_6_0 : decode jdk_52_method_6_code 0 = .ok (.aload_n 0, 1) := by decide +kernel
theorem d_jdk_52_method_6_1 : decode jdk_52_method_6_code 1 = .ok (.arraylength, 1) := by decide +kernel
theorem d_jdk_52_method_6_2 : decode jdk_52_method_6_code 2 = .ok (.iconst 1, 1) := by decide +kernel
theorem d_jdk_52_method_6_3 : decode jdk_52_method_6_code 3 = .ok (.ishr, 1) := by decide +kernel
theorem d_jdk_52_method_6_4 : decode jdk_52_method_6_code 4 = .ok (.ireturn, 1) := by decide +kernel
abbrev yn3 : MethodName := ⟨"java/lang/StringUTF16", "length", "([B)I"⟩
theorem ef_u16check (m : MethodId) (x0 : Int32) (x1 : Addr) : entryFrame m #[(.int x0), (.ref x1)] 2 = mkF m 0 #[.val (.int x0), .val (.ref x1)] [] := by first | (simp [entryFrame, mkF, argsToLocals, Value.category]; done) | rfl
theorem d_jdk_52_method_91_0 : decode jdk_52_method_91_code 0 = .ok (.iload_n 0, 1) := by decide +kernel
theorem d_jdk_52_method_91_1 : decode jdk_52_method_91_code 1 = .ok (.aload_n 1, 1) := by decide +kernel
theorem d_jdk_52_method_91_2 : decode jdk_52_method_91_code 2 = .ok (.invokestatic 48, 3) := by decide +kernel
theorem pd__28__5b_B_29_I : parseMethodDescriptor "([B)I" = some ⟨[(.array .byte)], some .int⟩ := by decide +kernel
theorem d_jdk_52_method_91_5 : decode jdk_52_method_91_code 5 = .ok (.invokestatic 414, 3) := by decide +kernel
theorem d_jdk_52_method_91_8 : decode jdk_52_method_91_code 8 = .ok (.return_, 1) := by decide +kernel
abbrev yn4 : MethodName := ⟨"java/lang/StringUTF16", "checkIndex", "(I[B)V"⟩
theorem ef_getChar (m : MethodId) (x0 : Addr) (x1 : Int32) : entryFrame m #[(.ref x0), (.int x1)] 2 = mkF m 0 #[.val (.ref x0), .val (.int x1)] [] := by first | (simp [entryFrame, mkF, argsToLocals, Value.category]; done) | rfl
theorem d_jdk_52_method_5_0 : decode jdk_52_method_5_code 0 = .ok (.getstatic 44, 3) := by decide +kernel
theorem d_jdk_52_method_5_3 : decode jdk_52_method_5_code 3 = .ok (.ifCond .ne 25, 3) := by decide +kernel
theorem d_jdk_52_method_5_28 : decode jdk_52_method_5_code 28 = .ok (.iload_n 1, 1) := by decide +kernel
theorem d_jdk_52_method_5_29 : decode jdk_52_method_5_code 29 = .ok (.iconst 1, 1) := by decide +kernel
theorem d_jdk_52_method_5_30 : decode jdk_52_method_5_code 30 = .ok (.ishl, 1) := by decide +kernel
theorem d_jdk_52_method_5_31 : decode jdk_52_method_5_code 31 = .ok (.istore_n 1, 1) := by decide +kernel
theorem d_jdk_52_method_5_32 : decode jdk_52_method_5_code 32 = .ok (.aload_n 0, 1) := by decide +kernel
theorem d_jdk_52_method_5_33 : decode jdk_52_method_5_code 33 = .ok (.iload_n 1, 1) := by decide +kernel
theorem d_jdk_52_method_5_34 : decode jdk_52_method_5_code 34 = .ok (.iinc 1 1, 3) := by decide +kernel
theorem d_jdk_52_method_5_37 : decode jdk_52_method_5_code 37 = .ok (.baload, 1) := by decide +kernel
theorem d_jdk_52_method_5_38 : decode jdk_52_method_5_code 38 = .ok (.sipush 255, 3) := by decide +kernel
theorem d_jdk_52_method_5_41 : decode jdk_52_method_5_code 41 = .ok (.iand, 1) := by decide +kernel
theorem d_jdk_52_method_5_42 : decode jdk_52_method_5_code 42 = .ok (.getstatic 59, 3) := by decide +kernel
theorem d_jdk_52_method_5_45 : decode jdk_52_method_5_code 45 = .ok (.ishl, 1) := by decide +kernel
theorem d_jdk_52_method_5_46 : decode jdk_52_method_5_code 46 = .ok (.aload_n 0, 1) := by decide +kernel
theorem d_jdk_52_method_5_47 : decode jdk_52_method_5_code 47 = .ok (.iload_n 1, 1) := by decide +kernel
theorem d_jdk_52_method_5_48 : decode jdk_52_method_5_code 48 = .ok (.baload, 1) := by decide +kernel
theorem d_jdk_52_method_5_49 : decode jdk_52_method_5_code 49 = .ok (.sipush 255, 3) := by decide +kernel
theorem d_jdk_52_method_5_52 : decode jdk_52_method_5_code 52 = .ok (.iand, 1) := by decide +kernel
theorem d_jdk_52_method_5_53 : decode jdk_52_method_5_code 53 = .ok (.getstatic 63, 3) := by decide +kernel
theorem d_jdk_52_method_5_56 : decode jdk_52_method_5_code 56 = .ok (.ishl, 1) := by decide +kernel
theorem d_jdk_52_method_5_57 : decode jdk_52_method_5_code 57 = .ok (.ior, 1) := by decide +kernel
theorem d_jdk_52_method_5_58 : decode jdk_52_method_5_code 58 = .ok (.i2c, 1) := by decide +kernel
theorem d_jdk_52_method_5_59 : decode jdk_52_method_5_code 59 = .ok (.ireturn, 1) := by decide +kernel
abbrev yn5 : MethodName := ⟨"java/lang/StringUTF16", "getChar", "([BI)C"⟩
theorem ef_u16charAt (m : MethodId) (x0 : Addr) (x1 : Int32) : entryFrame m #[(.ref x0), (.int x1)] 2 = mkF m 0 #[.val (.ref x0), .val (.int x1)] [] := by first | (simp [entryFrame, mkF, argsToLocals, Value.category]; done) | rfl
theorem d_jdk_52_method_83_0 : decode jdk_52_method_83_code 0 = .ok (.iload_n 1, 1) := by decide +kernel
theorem d_jdk_52_method_83_1 : decode jdk_52_method_83_code 1 = .ok (.aload_n 0, 1) := by decide +kernel
theorem d_jdk_52_method_83_2 : decode jdk_52_method_83_code 2 = .ok (.invokestatic 67, 3) := by decide +kernel
theorem pd__28_I_5b_B_29_V : parseMethodDescriptor "(I[B)V" = some ⟨[.int, (.array .byte)], none⟩ := by decide +kernel
theorem d_jdk_52_method_83_5 : decode jdk_52_method_83_code 5 = .ok (.aload_n 0, 1) := by decide +kernel
theorem d_jdk_52_method_83_6 : decode jdk_52_method_83_code 6 = .ok (.iload_n 1, 1) := by decide +kernel
theorem d_jdk_52_method_83_7 : decode jdk_52_method_83_code 7 = .ok (.invokestatic 71, 3) := by decide +kernel
theorem pd__28__5b_BI_29_C : parseMethodDescriptor "([BI)C" = some ⟨[(.array .byte), .int], some .char⟩ := by decide +kernel
theorem d_jdk_52_method_83_10 : decode jdk_52_method_83_code 10 = .ok (.ireturn, 1) := by decide +kernel
abbrev yn6 : MethodName := ⟨"java/lang/StringUTF16", "charAt", "([BI)C"⟩
theorem ef_isLatin1 (m : MethodId) (x0 : Addr) : entryFrame m #[(.ref x0)] 1 = mkF m 0 #[.val (.ref x0)] [] := by first | (simp [entryFrame, mkF, argsToLocals, Value.category]; done) | rfl
theorem d_jdk_42_method_154_0 : decode jdk_42_method_154_code 0 = .ok (.getstatic 38, 3) := by decide +kernel
theorem d_jdk_42_method_154_3 : decode jdk_42_method_154_code 3 = .ok (.ifCond .eq 14, 3) := by decide +kernel
theorem d_jdk_42_method_154_6 : decode jdk_42_method_154_code 6 = .ok (.aload_n 0, 1) := by decide +kernel
theorem d_jdk_42_method_154_7 : decode jdk_42_method_154_code 7 = .ok (.getfield 15, 3) := by decide +kernel
theorem d_jdk_42_method_154_10 : decode jdk_42_method_154_code 10 = .ok (.ifCond .ne 7, 3) := by decide +kernel
theorem d_jdk_42_method_154_13 : decode jdk_42_method_154_code 13 = .ok (.iconst 1, 1) := by decide +kernel
theorem d_jdk_42_method_154_14 : decode jdk_42_method_154_code 14 = .ok (.goto 4, 3) := by decide +kernel
theorem d_jdk_42_method_154_17 : decode jdk_42_method_154_code 17 = .ok (.iconst 0, 1) := by decide +kernel
theorem d_jdk_42_method_154_18 : decode jdk_42_method_154_code 18 = .ok (.ireturn, 1) := by decide +kernel
abbrev yn7 : MethodName := ⟨"java/lang/String", "isLatin1", "()Z"⟩
theorem ef_charAt (m : MethodId) (x0 : Addr) (x1 : Int32) : entryFrame m #[(.ref x0), (.int x1)] 2 = mkF m 0 #[.val (.ref x0), .val (.int x1)] [] := by first | (simp [entryFrame, mkF, argsToLocals, Value.category]; done) | rfl
theorem d_jdk_42_method_56_0 : decode jdk_42_method_56_code 0 = .ok (.aload_n 0, 1) := by decide +kernel
theorem d_jdk_42_method_56_1 : decode jdk_42_method_56_code 1 = .ok (.invokevirtual 492, 3) := by decide +kernel
theorem pd__28__29_Z : parseMethodDescriptor "()Z" = some ⟨[], some .boolean⟩ := by decide +kernel
theorem d_jdk_42_method_56_4 : decode jdk_42_method_56_code 4 = .ok (.ifCond .eq 12, 3) := by decide +kernel
theorem d_jdk_42_method_56_7 : decode jdk_42_method_56_code 7 = .ok (.aload_n 0, 1) := by decide +kernel
theorem d_jdk_42_method_56_8 : decode jdk_42_method_56_code 8 = .ok (.getfield 9, 3) := by decide +kernel
theorem d_jdk_42_method_56_11 : decode jdk_42_method_56_code 11 = .ok (.iload_n 1, 1) := by decide +kernel
theorem d_jdk_42_method_56_12 : decode jdk_42_method_56_code 12 = .ok (.invokestatic 495, 3) := by decide +kernel
theorem d_jdk_42_method_56_15 : decode jdk_42_method_56_code 15 = .ok (.ireturn, 1) := by decide +kernel
theorem d_jdk_42_method_56_16 : decode jdk_42_method_56_code 16 = .ok (.aload_n 0, 1) := by decide +kernel
theorem d_jdk_42_method_56_17 : decode jdk_42_method_56_code 17 = .ok (.getfield 9, 3) := by decide +kernel
theorem d_jdk_42_method_56_20 : decode jdk_42_method_56_code 20 = .ok (.iload_n 1, 1) := by decide +kernel
theorem d_jdk_42_method_56_21 : decode jdk_42_method_56_code 21 = .ok (.invokestatic 498, 3) := by decide +kernel
theorem d_jdk_42_method_56_24 : decode jdk_42_method_56_code 24 = .ok (.ireturn, 1) := by decide +kernel
abbrev yn8 : MethodName := ⟨"java/lang/String", "charAt", "(I)C"⟩
theorem ef_coder (m : MethodId) (x0 : Addr) : entryFrame m #[(.ref x0)] 1 = mkF m 0 #[.val (.ref x0)] [] := by first | (simp [entryFrame, mkF, argsToLocals, Value.category]; done) | rfl
theorem d_jdk_42_method_152_0 : decode jdk_42_method_152_code 0 = .ok (.getstatic 38, 3) := by decide +kernel
theorem d_jdk_42_method_152_3 : decode jdk_42_method_152_code 3 = .ok (.ifCond .eq 10, 3) := by decide +kernel
theorem d_jdk_42_method_152_6 : decode jdk_42_method_152_code 6 = .ok (.aload_n 0, 1) := by decide +kernel
theorem d_jdk_42_method_152_7 : decode jdk_42_method_152_code 7 = .ok (.getfield 15, 3) := by decide +kernel
theorem d_jdk_42_method_152_10 : decode jdk_42_method_152_code 10 = .ok (.goto 4, 3) := by decide +kernel
theorem d_jdk_42_method_152_14 : decode jdk_42_method_152_code 14 = .ok (.ireturn, 1) := by decide +kernel
abbrev yn9 : MethodName := ⟨"java/lang/String", "coder", "()B"⟩
theorem ef_length (m : MethodId) (x0 : Addr) : entryFrame m #[(.ref x0)] 1 = mkF m 0 #[.val (.ref x0)] [] := by first | (simp [entryFrame, mkF, argsToLocals, Value.category]; done) | rfl
theorem d_jdk_42_method_54_0 : decode jdk_42_method_54_code 0 = .ok (.aload_n 0, 1) := by decide +kernel
theorem d_jdk_42_method_54_1 : decode jdk_42_method_54_code 1 = .ok (.getfield 9, 3) := by decide +kernel
theorem d_jdk_42_method_54_4 : decode jdk_42_method_54_code 4 = .ok (.arraylength, 1) := by decide +kernel
theorem d_jdk_42_method_54_5 : decode jdk_42_method_54_code 5 = .ok (.aload_n 0, 1) := by decide +kernel
theorem d_jdk_42_method_54_6 : decode jdk_42_method_54_code 6 = .ok (.invokevirtual 335, 3) := by decide +kernel
theorem pd__28__29_B : parseMethodDescriptor "()B" = some ⟨[], some .byte⟩ := by decide +kernel
theorem d_jdk_42_method_54_9 : decode jdk_42_method_54_code 9 = .ok (.ishr, 1) := by decide +kernel
theorem d_jdk_42_method_54_10 : decode jdk_42_method_54_code 10 = .ok (.ireturn, 1) := by decide +kernel
abbrev yn10 : MethodName := ⟨"java/lang/String", "length", "()I"⟩
theorem d_jdk_52_method_21_3 : decode jdk_52_method_21_code 3 = .ok (.iload 5, 2) := by decide +kernel
theorem d_jdk_52_method_21_5 : decode jdk_52_method_21_code 5 = .ok (.iload 4, 2) := by decide +kernel
theorem d_jdk_52_method_21_7 : decode jdk_52_method_21_code 7 = .ok (.if_icmp .ge 37, 3) := by decide +kernel
theorem d_jdk_52_method_21_44 : decode jdk_52_method_21_code 44 = .ok (.iload 4, 2) := by decide +kernel
theorem d_jdk_52_method_21_46 : decode jdk_52_method_21_code 46 = .ok (.ireturn, 1) := by decide +kernel
theorem d_jdk_52_method_21_10 : decode jdk_52_method_21_code 10 = .ok (.aload_n 0, 1) := by decide +kernel
theorem d_jdk_52_method_21_11 : decode jdk_52_method_21_code 11 = .ok (.iload_n 1, 1) := by decide +kernel
theorem d_jdk_52_method_21_12 : decode jdk_52_method_21_code 12 = .ok (.caload, 1) := by decide +kernel
theorem d_jdk_52_method_21_13 : decode jdk_52_method_21_code 13 = .ok (.istore 6, 2) := by decide +kernel
theorem d_jdk_52_method_21_15 : decode jdk_52_method_21_code 15 = .ok (.iload 6, 2) := by decide +kernel
theorem d_jdk_52_method_21_17 : decode jdk_52_method_21_code 17 = .ok (.sipush 255, 3) := by decide +kernel
theorem d_jdk_52_method_21_20 : decode jdk_52_method_21_code 20 = .ok (.if_icmp .le 6, 3) := by decide +kernel
theorem d_jdk_52_method_21_23 : decode jdk_52_method_21_code 23 = .ok (.iload 5, 2) := by decide +kernel
theorem d_jdk_52_method_21_25 : decode jdk_52_method_21_code 25 = .ok (.ireturn, 1) := by decide +kernel
theorem d_jdk_52_method_21_26 : decode jdk_52_method_21_code 26 = .ok (.aload_n 2, 1) := by decide +kernel
theorem d_jdk_52_method_21_27 : decode jdk_52_method_21_code 27 = .ok (.iload_n 3, 1) := by decide +kernel
theorem d_jdk_52_method_21_28 : decode jdk_52_method_21_code 28 = .ok (.iload 6, 2) := by decide +kernel
theorem d_jdk_52_method_21_30 : decode jdk_52_method_21_code 30 = .ok (.i2b, 1) := by decide +kernel
theorem d_jdk_52_method_21_31 : decode jdk_52_method_21_code 31 = .ok (.bastore, 1) := by decide +kernel
theorem d_jdk_52_method_21_32 : decode jdk_52_method_21_code 32 = .ok (.iinc 1 1, 3) := by decide +kernel
theorem d_jdk_52_method_21_35 : decode jdk_52_method_21_code 35 = .ok (.iinc 3 1, 3) := by decide +kernel
theorem d_jdk_52_method_21_38 : decode jdk_52_method_21_code 38 = .ok (.iinc 5 1, 3) := by decide +kernel
theorem d_jdk_52_method_21_41 : decode jdk_52_method_21_code 41 = .ok (.goto (-38), 3) := by decide +kernel
theorem ef_compress21 (m : MethodId) (x0 : Addr) (x1 : Int32) (x2 : Addr) (x3 : Int32) (x4 : Int32) : entryFrame m #[(.ref x0), (.int x3), (.ref x2), (.int x3), (.int x4)] 7 = mkF m 0 #[.val (.ref x0), .val (.int x3), .val (.ref x2), .val (.int x3), .val (.int x4), .unset, .unset] [] := by first | (simp [entryFrame, mkF, argsToLocals, Value.category]; done) | rfl
theorem d_jdk_52_method_21_0 : decode jdk_52_method_21_code 0 = .ok (.iconst 0, 1) := by decide +kernel
theorem d_jdk_52_method_21_1 : decode jdk_52_method_21_code 1 = .ok (.istore 5, 2) := by decide +kernel
abbrev yn11 : MethodName := ⟨"java/lang/StringUTF16", "compress", "([CI[BII)I"⟩
theorem ef_coderOf (m : MethodId) (x0 : Addr) (x1 : Int32) : entryFrame m #[(.ref x0), (.int x1)] 2 = mkF m 0 #[.val (.ref x0), .val (.int x1)] [] := by first | (simp [entryFrame, mkF, argsToLocals, Value.category]; done) | rfl
theorem d_jdk_52_method_15_0 : decode jdk_52_method_15_code 0 = .ok (.iload_n 1, 1) := by decide +kernel
theorem d_jdk_52_method_15_1 : decode jdk_52_method_15_code 1 = .ok (.aload_n 0, 1) := by decide +kernel
theorem d_jdk_52_method_15_2 : decode jdk_52_method_15_code 2 = .ok (.arraylength, 1) := by decide +kernel
theorem d_jdk_52_method_15_3 : decode jdk_52_method_15_code 3 = .ok (.isub, 1) := by decide +kernel
theorem d_jdk_52_method_15_4 : decode jdk_52_method_15_code 4 = .ok (.bipush 31, 2) := by decide +kernel
theorem d_jdk_52_method_15_6 : decode jdk_52_method_15_code 6 = .ok (.iushr, 1) := by decide +kernel
theorem d_jdk_52_method_15_7 : decode jdk_52_method_15_code 7 = .ok (.i2b, 1) := by decide +kernel
theorem d_jdk_52_method_15_8 : decode jdk_52_method_15_code 8 = .ok (.ireturn, 1) := by decide +kernel
abbrev yn12 : MethodName := ⟨"java/lang/StringUTF16", "coderFromArrayLen", "([BI)B"⟩
theorem ef_nbl (m : MethodId) (x0 : Int32) : entryFrame m #[(.int x0)] 1 = mkF m 0 #[.val (.int x0)] [] := by first | (simp [entryFrame, mkF, argsToLocals, Value.category]; done) | rfl
theorem d_jdk_52_method_3_0 : decode jdk_52_method_3_code 0 = .ok (.iload_n 0, 1) := by decide +kernel
theorem d_jdk_52_method_3_1 : decode jdk_52_method_3_code 1 = .ok (.ifCond .ge 11, 3) := by decide +kernel
theorem d_jdk_52_method_3_12 : decode jdk_52_method_3_code 12 = .ok (.iload_n 0, 1) := by decide +kernel
theorem d_jdk_52_method_3_13 : decode jdk_52_method_3_code 13 = .ok (.ldc 20, 2) := by decide +kernel
theorem d_jdk_52_method_3_15 : decode jdk_52_method_3_code 15 = .ok (.if_icmp .lt 40, 3) := by decide +kernel
theorem d_jdk_52_method_3_55 : decode jdk_52_method_3_code 55 = .ok (.iload_n 0, 1) := by decide +kernel
theorem d_jdk_52_method_3_56 : decode jdk_52_method_3_code 56 = .ok (.iconst 1, 1) := by decide +kernel
theorem d_jdk_52_method_3_57 : decode jdk_52_method_3_code 57 = .ok (.ishl, 1) := by decide +kernel
theorem d_jdk_52_method_3_58 : decode jdk_52_method_3_code 58 = .ok (.ireturn, 1) := by decide +kernel
abbrev yn13 : MethodName := ⟨"java/lang/StringUTF16", "newBytesLength", "(I)I"⟩
theorem ef_nbf (m : MethodId) (x0 : Int32) : entryFrame m #[(.int x0)] 1 = mkF m 0 #[.val (.int x0)] [] := by first | (simp [entryFrame, mkF, argsToLocals, Value.category]; done) | rfl
theorem d_jdk_52_method_2_0 : decode jdk_52_method_2_code 0 = .ok (.iload_n 0, 1) := by decide +kernel
theorem d_jdk_52_method_2_1 : decode jdk_52_method_2_code 1 = .ok (.invokestatic 11, 3) := by decide +kernel
theorem pd__28_I_29_I : parseMethodDescriptor "(I)I" = some ⟨[.int], some .int⟩ := by decide +kernel
theorem d_jdk_52_method_2_4 : decode jdk_52_method_2_code 4 = .ok (.newarray .byte, 2) := by decide +kernel
theorem d_jdk_52_method_2_6 : decode jdk_52_method_2_code 6 = .ok (.areturn, 1) := by decide +kernel
abbrev yn14 : MethodName := ⟨"java/lang/StringUTF16", "newBytesFor", "(I)[B"⟩
theorem ef_putChar (m : MethodId) (x0 : Addr) (x1 : Int32) (x2 : Int32) : entryFrame m #[(.ref x0), (.int x1), (.int x2)] 3 = mkF m 0 #[.val (.ref x0), .val (.int x1), .val (.int x2)] [] := by first | (simp [entryFrame, mkF, argsToLocals, Value.category]; done) | rfl
theorem d_jdk_52_method_4_0 : decode jdk_52_method_4_code 0 = .ok (.getstatic 44, 3) := by decide +kernel
theorem d_jdk_52_method_4_3 : decode jdk_52_method_4_code 3 = .ok (.ifCond .ne 25, 3) := by decide +kernel
theorem d_jdk_52_method_4_28 : decode jdk_52_method_4_code 28 = .ok (.iload_n 1, 1) := by decide +kernel
theorem d_jdk_52_method_4_29 : decode jdk_52_method_4_code 29 = .ok (.iconst 1, 1) := by decide +kernel
theorem d_jdk_52_method_4_30 : decode jdk_52_method_4_code 30 = .ok (.ishl, 1) := by decide +kernel
theorem d_jdk_52_method_4_31 : decode jdk_52_method_4_code 31 = .ok (.istore_n 1, 1) := by decide +kernel
theorem d_jdk_52_method_4_32 : decode jdk_52_method_4_code 32 = .ok (.aload_n 0, 1) := by decide +kernel
theorem d_jdk_52_method_4_33 : decode jdk_52_method_4_code 33 = .ok (.iload_n 1, 1) := by decide +kernel
theorem d_jdk_52_method_4_34 : decode jdk_52_method_4_code 34 = .ok (.iinc 1 1, 3) := by decide +kernel
theorem d_jdk_52_method_4_37 : decode jdk_52_method_4_code 37 = .ok (.iload_n 2, 1) := by decide +kernel
theorem d_jdk_52_method_4_38 : decode jdk_52_method_4_code 38 = .ok (.getstatic 59, 3) := by decide +kernel
theorem d_jdk_52_method_4_41 : decode jdk_52_method_4_code 41 = .ok (.ishr, 1) := by decide +kernel
theorem d_jdk_52_method_4_42 : decode jdk_52_method_4_code 42 = .ok (.i2b, 1) := by decide +kernel
theorem d_jdk_52_method_4_43 : decode jdk_52_method_4_code 43 = .ok (.bastore, 1) := by decide +kernel
theorem d_jdk_52_method_4_44 : decode jdk_52_method_4_code 44 = .ok (.aload_n 0, 1) := by decide +kernel
theorem d_jdk_52_method_4_45 : decode jdk_52_method_4_code 45 = .ok (.iload_n 1, 1) := by decide +kernel
theorem d_jdk_52_method_4_46 : decode jdk_52_method_4_code 46 = .ok (.iload_n 2, 1) := by decide +kernel
theorem d_jdk_52_method_4_47 : decode jdk_52_method_4_code 47 = .ok (.getstatic 63, 3) := by decide +kernel
theorem d_jdk_52_method_4_50 : decode jdk_52_method_4_code 50 = .ok (.ishr, 1) := by decide +kernel
theorem d_jdk_52_method_4_51 : decode jdk_52_method_4_code 51 = .ok (.i2b, 1) := by decide +kernel
theorem d_jdk_52_method_4_52 : decode jdk_52_method_4_code 52 = .ok (.bastore, 1) := by decide +kernel
theorem d_jdk_52_method_4_53 : decode jdk_52_method_4_code 53 = .ok (.return_, 1) := by decide +kernel
abbrev yn15 : MethodName := ⟨"java/lang/StringUTF16", "putChar", "([BII)V"⟩
theorem d_jdk_52_method_14_8 : decode jdk_52_method_14_code 8 = .ok (.iload 4, 2) := by decide +kernel
theorem d_jdk_52_method_14_10 : decode jdk_52_method_14_code 10 = .ok (.iload_n 2, 1) := by decide +kernel
theorem d_jdk_52_method_14_11 : decode jdk_52_method_14_code 11 = .ok (.if_icmp .ge 21, 3) := by decide +kernel
theorem d_jdk_52_method_14_14 : decode jdk_52_method_14_code 14 = .ok (.aload_n 3, 1) := by decide +kernel
theorem d_jdk_52_method_14_15 : decode jdk_52_method_14_code 15 = .ok (.iload 4, 2) := by decide +kernel
theorem d_jdk_52_method_14_17 : decode jdk_52_method_14_code 17 = .ok (.aload_n 0, 1) := by decide +kernel
theorem d_jdk_52_method_14_18 : decode jdk_52_method_14_code 18 = .ok (.iload_n 1, 1) := by decide +kernel
theorem d_jdk_52_method_14_19 : decode jdk_52_method_14_code 19 = .ok (.caload, 1) := by decide +kernel
theorem d_jdk_52_method_14_20 : decode jdk_52_method_14_code 20 = .ok (.invokestatic 111, 3) := by decide +kernel
theorem pd__28__5b_BII_29_V : parseMethodDescriptor "([BII)V" = some ⟨[(.array .byte), .int, .int], none⟩ := by decide +kernel
theorem d_jdk_52_method_14_23 : decode jdk_52_method_14_code 23 = .ok (.iinc 1 1, 3) := by decide +kernel
theorem d_jdk_52_method_14_26 : decode jdk_52_method_14_code 26 = .ok (.iinc 4 1, 3) := by decide +kernel
theorem d_jdk_52_method_14_29 : decode jdk_52_method_14_code 29 = .ok (.goto (-21), 3) := by decide +kernel
theorem ef_toBytes (m : MethodId) (x0 : Addr) (x1 : Int32) (x2 : Int32) : entryFrame m #[(.ref x0), (.int x1), (.int x2)] 5 = mkF m 0 #[.val (.ref x0), .val (.int x1), .val (.int x2), .unset, .unset] [] := by first | (simp [entryFrame, mkF, argsToLocals, Value.category]; done) | rfl
theorem d_jdk_52_method_14_0 : decode jdk_52_method_14_code 0 = .ok (.iload_n 2, 1) := by decide +kernel
theorem d_jdk_52_method_14_1 : decode jdk_52_method_14_code 1 = .ok (.invokestatic 107, 3) := by decide +kernel
theorem pd__28_I_29__5b_B : parseMethodDescriptor "(I)[B" = some ⟨[.int], some (.array .byte)⟩ := by decide +kernel
theorem d_jdk_52_method_14_4 : decode jdk_52_method_14_code 4 = .ok (.astore_n 3, 1) := by decide +kernel
theorem d_jdk_52_method_14_5 : decode jdk_52_method_14_code 5 = .ok (.iconst 0, 1) := by decide +kernel
theorem d_jdk_52_method_14_6 : decode jdk_52_method_14_code 6 = .ok (.istore 4, 2) := by decide +kernel
theorem d_jdk_52_method_14_32 : decode jdk_52_method_14_code 32 = .ok (.aload_n 3, 1) := by decide +kernel
theorem d_jdk_52_method_14_33 : decode jdk_52_method_14_code 33 = .ok (.areturn, 1) := by decide +kernel
abbrev yn16 : MethodName := ⟨"java/lang/StringUTF16", "toBytes", "([CII)[B"⟩
theorem ef_compress16 (m : MethodId) (x0 : Addr) (x1 : Int32) (x2 : Int32) : entryFrame m #[(.ref x0), (.int x1), (.int x2)] 6 = mkF m 0 #[.val (.ref x0), .val (.int x1), .val (.int x2), .unset, .unset, .unset] [] := by first | (simp [entryFrame, mkF, argsToLocals, Value.category]; done) | rfl
theorem d_jdk_52_method_16_0 : decode jdk_52_method_16_code 0 = .ok (.iload_n 2, 1) := by decide +kernel
theorem d_jdk_52_method_16_1 : decode jdk_52_method_16_code 1 = .ok (.newarray .byte, 2) := by decide +kernel
theorem d_jdk_52_method_16_3 : decode jdk_52_method_16_code 3 = .ok (.astore_n 3, 1) := by decide +kernel
theorem d_jdk_52_method_16_4 : decode jdk_52_method_16_code 4 = .ok (.aload_n 0, 1) := by decide +kernel
theorem d_jdk_52_method_16_5 : decode jdk_52_method_16_code 5 = .ok (.iload_n 1, 1) := by decide +kernel
theorem d_jdk_52_method_16_6 : decode jdk_52_method_16_code 6 = .ok (.aload_n 3, 1) := by decide +kernel
theorem d_jdk_52_method_16_7 : decode jdk_52_method_16_code 7 = .ok (.iconst 0, 1) := by decide +kernel
theorem d_jdk_52_method_16_8 : decode jdk_52_method_16_code 8 = .ok (.iload_n 2, 1) := by decide +kernel
theorem d_jdk_52_method_16_9 : decode jdk_52_method_16_code 9 = .ok (.invokestatic 115, 3) := by decide +kernel
theorem pd__28__5b_CI_5b_BII_29_I : parseMethodDescriptor "([CI[BII)I" = some ⟨[(.array .char), .int, (.array .byte), .int, .int], some .int⟩ := by decide +kernel
theorem d_jdk_52_method_16_12 : decode jdk_52_method_16_code 12 = .ok (.istore 4, 2) := by decide +kernel
theorem d_jdk_52_method_16_14 : decode jdk_52_method_16_code 14 = .ok (.iload 4, 2) := by decide +kernel
theorem d_jdk_52_method_16_16 : decode jdk_52_method_16_code 16 = .ok (.iload_n 2, 1) := by decide +kernel
theorem d_jdk_52_method_16_17 : decode jdk_52_method_16_code 17 = .ok (.if_icmp .eq 40, 3) := by decide +kernel
theorem d_jdk_52_method_16_57 : decode jdk_52_method_16_code 57 = .ok (.aload_n 3, 1) := by decide +kernel
theorem d_jdk_52_method_16_58 : decode jdk_52_method_16_code 58 = .ok (.areturn, 1) := by decide +kernel
theorem d_jdk_52_method_16_20 : decode jdk_52_method_16_code 20 = .ok (.aload_n 0, 1) := by decide +kernel
theorem d_jdk_52_method_16_21 : decode jdk_52_method_16_code 21 = .ok (.iload_n 1, 1) := by decide +kernel
theorem d_jdk_52_method_16_22 : decode jdk_52_method_16_code 22 = .ok (.iload_n 2, 1) := by decide +kernel
theorem d_jdk_52_method_16_23 : decode jdk_52_method_16_code 23 = .ok (.invokestatic 119, 3) := by decide +kernel
theorem pd__28__5b_CII_29__5b_B : parseMethodDescriptor "([CII)[B" = some ⟨[(.array .char), .int, .int], some (.array .byte)⟩ := by decide +kernel
theorem d_jdk_52_method_16_26 : decode jdk_52_method_16_code 26 = .ok (.astore 5, 2) := by decide +kernel
theorem d_jdk_52_method_16_28 : decode jdk_52_method_16_code 28 = .ok (.aload 5, 2) := by decide +kernel
theorem d_jdk_52_method_16_30 : decode jdk_52_method_16_code 30 = .ok (.iload 4, 2) := by decide +kernel
theorem d_jdk_52_method_16_32 : decode jdk_52_method_16_code 32 = .ok (.invokestatic 71, 3) := by decide +kernel
theorem d_jdk_52_method_16_35 : decode jdk_52_method_16_code 35 = .ok (.sipush 255, 3) := by decide +kernel
theorem d_jdk_52_method_16_38 : decode jdk_52_method_16_code 38 = .ok (.if_icmp .gt 16, 3) := by decide +kernel
theorem d_jdk_52_method_16_54 : decode jdk_52_method_16_code 54 = .ok (.aload 5, 2) := by decide +kernel
theorem d_jdk_52_method_16_56 : decode jdk_52_method_16_code 56 = .ok (.areturn, 1) := by decide +kernel
abbrev yn17 : MethodName := ⟨"java/lang/StringUTF16", "compress", "([CII)[B"⟩
theorem ef_sinitV (m : MethodId) (x0 : Addr) (x1 : Addr) (x2 : Int32) (x3 : Int32) : entryFrame m #[(.ref x0), (.ref x1), (.int x2), (.int x3), .null] 6 = mkF m 0 #[.val (.ref x0), .val (.ref x1), .val (.int x2), .val (.int x3), .val .null, .unset] [] := by first | (simp [entryFrame, mkF, argsToLocals, Value.category]; done) | rfl
theorem d_jdk_42_method_149_0 : decode jdk_42_method_149_code 0 = .ok (.aload_n 0, 1) := by decide +kernel
theorem d_jdk_42_method_149_1 : decode jdk_42_method_149_code 1 = .ok (.invokespecial 1, 3) := by decide +kernel
theorem d_jdk_42_method_149_4 : decode jdk_42_method_149_code 4 = .ok (.iload_n 3, 1) := by decide +kernel
theorem d_jdk_42_method_149_5 : decode jdk_42_method_149_code 5 = .ok (.ifCond .ne 22, 3) := by decide +kernel
theorem d_jdk_42_method_149_27 : decode jdk_42_method_149_code 27 = .ok (.getstatic 38, 3) := by decide +kernel
theorem d_jdk_42_method_149_30 : decode jdk_42_method_149_code 30 = .ok (.ifCond .eq 28, 3) := by decide +kernel
theorem d_jdk_42_method_149_33 : decode jdk_42_method_149_code 33 = .ok (.aload_n 1, 1) := by decide +kernel
theorem d_jdk_42_method_149_34 : decode jdk_42_method_149_code 34 = .ok (.iload_n 2, 1) := by decide +kernel
theorem d_jdk_42_method_149_35 : decode jdk_42_method_149_code 35 = .ok (.iload_n 3, 1) := by decide +kernel
theorem d_jdk_42_method_149_36 : decode jdk_42_method_149_code 36 = .ok (.invokestatic 177, 3) := by decide +kernel
theorem d_jdk_42_method_149_39 : decode jdk_42_method_149_code 39 = .ok (.astore 5, 2) := by decide +kernel
theorem d_jdk_42_method_149_41 : decode jdk_42_method_149_code 41 = .ok (.aload_n 0, 1) := by decide +kernel
theorem d_jdk_42_method_149_42 : decode jdk_42_method_149_code 42 = .ok (.aload 5, 2) := by decide +kernel
theorem d_jdk_42_method_149_44 : decode jdk_42_method_149_code 44 = .ok (.iload_n 3, 1) := by decide +kernel
theorem d_jdk_42_method_149_45 : decode jdk_42_method_149_code 45 = .ok (.invokestatic 47, 3) := by decide +kernel
theorem pd__28__5b_BI_29_B : parseMethodDescriptor "([BI)B" = some ⟨[(.array .byte), .int], some .byte⟩ := by decide +kernel
theorem d_jdk_42_method_149_48 : decode jdk_42_method_149_code 48 = .ok (.putfield 15, 3) := by decide +kernel
theorem d_jdk_42_method_149_51 : decode jdk_42_method_149_code 51 = .ok (.aload_n 0, 1) := by decide +kernel
theorem d_jdk_42_method_149_52 : decode jdk_42_method_149_code 52 = .ok (.aload 5, 2) := by decide +kernel
theorem d_jdk_42_method_149_54 : decode jdk_42_method_149_code 54 = .ok (.putfield 9, 3) := by decide +kernel
theorem d_jdk_42_method_149_57 : decode jdk_42_method_149_code 57 = .ok (.return_, 1) := by decide +kernel
abbrev yn18 : MethodName := ⟨"java/lang/String", "<init>", "([CIILjava/lang/Void;)V"⟩
theorem ef_sinit (m : MethodId) (x0 : Addr) (x1 : Addr) : entryFrame m #[(.ref x0), (.ref x1)] 2 = mkF m 0 #[.val (.ref x0), .val (.ref x1)] [] := by first | (simp [entryFrame, mkF, argsToLocals, Value.category]; done) | rfl
theorem d_jdk_42_method_3_0 : decode jdk_42_method_3_code 0 = .ok (.aload_n 0, 1) := by decide +kernel
theorem d_jdk_42_method_3_1 : decode jdk_42_method_3_code 1 = .ok (.aload_n 1, 1) := by decide +kernel
theorem d_jdk_42_method_3_2 : decode jdk_42_method_3_code 2 = .ok (.iconst 0, 1) := by decide +kernel
theorem d_jdk_42_method_3_3 : decode jdk_42_method_3_code 3 = .ok (.aload_n 1, 1) := by decide +kernel
theorem d_jdk_42_method_3_4 : decode jdk_42_method_3_code 4 = .ok (.arraylength, 1) := by decide +kernel
theorem d_jdk_42_method_3_5 : decode jdk_42_method_3_code 5 = .ok (.aconst_null, 1) := by decide +kernel
theorem d_jdk_42_method_3_6 : decode jdk_42_method_3_code 6 = .ok (.invokespecial 27, 3) := by decide +kernel
theorem pd__28__5b_CIILjava_2f_lang_2f_Void_3b__29_V : parseMethodDescriptor "([CIILjava/lang/Void;)V" = some ⟨[(.array .char), .int, .int, (.object "java/lang/Void")], none⟩ := by decide +kernel
theorem d_jdk_42_method_3_9 : decode jdk_42_method_3_code 9 = .ok (.return_, 1) := by decide +kernel
abbrev yn19 : MethodName := ⟨"java/lang/String", "<init>", "([C)V"⟩
theorem ef_sinitV0 (m : MethodId) (x0 : Addr) (x1 : Addr) (x2 : Int32) (x3 : Int32) : entryFrame m #[(.ref x0), (.ref x1), (.int x3), (.int x3), .null] 6 = mkF m 0 #[.val (.ref x0), .val (.ref x1), .val (.int x3), .val (.int x3), .val .null, .unset] [] := by first | (simp [entryFrame, mkF, argsToLocals, Value.category]; done) | rfl
theorem d_jdk_42_method_149_8 : decode jdk_42_method_149_code 8 = .ok (.aload_n 0, 1) := by decide +kernel
theorem d_jdk_42_method_149_9 : decode jdk_42_method_149_code 9 = .ok (.ldc 7, 2) := by decide +kernel
theorem d_jdk_42_method_149_11 : decode jdk_42_method_149_code 11 = .ok (.getfield 9, 3) := by decide +kernel
theorem d_jdk_42_method_149_14 : decode jdk_42_method_149_code 14 = .ok (.putfield 9, 3) := by decide +kernel
theorem d_jdk_42_method_149_17 : decode jdk_42_method_149_code 17 = .ok (.aload_n 0, 1) := by decide +kernel
theorem d_jdk_42_method_149_18 : decode jdk_42_method_149_code 18 = .ok (.ldc 7, 2) := by decide +kernel
theorem d_jdk_42_method_149_20 : decode jdk_42_method_149_code 20 = .ok (.getfield 15, 3) := by decide +kernel
theorem d_jdk_42_method_149_23 : decode jdk_42_method_149_code 23 = .ok (.putfield 15, 3) := by decide +kernel
theorem d_jdk_42_method_149_26 : decode jdk_42_method_149_code 26 = .ok (.return_, 1) := by decide +kernel
theorem ef_sinit0 (m : MethodId) (x0 : Addr) (x1 : Addr) : entryFrame m #[(.ref x0), (.ref x1)] 2 = mkF m 0 #[.val (.ref x0), .val (.ref x1)] [] := by first | (simp [entryFrame, mkF, argsToLocals, Value.category]; done) | rfl
theorem ef_checkLength (m : MethodId) (x0 : Int32) (x1 : Int32) : entryFrame m #[(.int x0), (.int x1)] 2 = mkF m 0 #[.val (.int x0), .val (.int x1)] [] := by first | (simp [entryFrame, mkF, argsToLocals, Value.category]; done) | rfl
theorem pn_java_util_Arrays : plainName "java/util/Arrays" = true := by first | (simp [plainName, overriddenIn]; done) | decide +kernel
theorem d_jdk_65_method_131_0 : decode jdk_65_method_131_code 0 = .ok (.iload_n 1, 1) := by decide +kernel
theorem d_jdk_65_method_131_1 : decode jdk_65_method_131_code 1 = .ok (.iload_n 0, 1) := by decide +kernel
theorem d_jdk_65_method_131_2 : decode jdk_65_method_131_code 2 = .ok (.if_icmp .ge 35, 3) := by decide +kernel
theorem d_jdk_65_method_131_37 : decode jdk_65_method_131_code 37 = .ok (.return_, 1) := by decide +kernel
abbrev yn20 : MethodName := ⟨"java/util/Arrays", "checkLength", "(II)V"⟩
theorem ef_mini (m : MethodId) (x0 : Int32) (x1 : Int32) : entryFrame m #[(.int x0), (.int x1)] 2 = mkF m 0 #[.val (.int x0), .val (.int x1)] [] := by first | (simp [entryFrame, mkF, argsToLocals, Value.category]; done) | rfl
theorem d_jdk_29_method_69_0 : decode jdk_29_method_69_code 0 = .ok (.iload_n 0, 1) := by decide +kernel
theorem d_jdk_29_method_69_1 : decode jdk_29_method_69_code 1 = .ok (.iload_n 1, 1) := by decide +kernel
theorem d_jdk_29_method_69_2 : decode jdk_29_method_69_code 2 = .ok (.if_icmp .gt 7, 3) := by decide +kernel
theorem d_jdk_29_method_69_9 : decode jdk_29_method_69_code 9 = .ok (.iload_n 1, 1) := by decide +kernel
theorem d_jdk_29_method_69_5 : decode jdk_29_method_69_code 5 = .ok (.iload_n 0, 1) := by decide +kernel
theorem d_jdk_29_method_69_6 : decode jdk_29_method_69_code 6 = .ok (.goto 4, 3) := by decide +kernel
theorem d_jdk_29_method_69_10 : decode jdk_29_method_69_code 10 = .ok (.ireturn, 1) := by decide +kernel
abbrev yn21 : MethodName := ⟨"java/lang/Math", "min", "(II)I"⟩
theorem ef_corb (m : MethodId) (x0 : Addr) (x1 : Int32) (x2 : Int32) : entryFrame m #[(.ref x0), (.int x1), (.int x2)] 5 = mkF m 0 #[.val (.ref x0), .val (.int x1), .val (.int x2), .unset, .unset] [] := by first | (simp [entryFrame, mkF, argsToLocals, Value.category]; done) | rfl
theorem d_jdk_65_method_133_0 : decode jdk_65_method_133_code 0 = .ok (.iload_n 1, 1) := by decide +kernel
theorem d_jdk_65_method_133_1 : decode jdk_65_method_133_code 1 = .ok (.iload_n 2, 1) := by decide +kernel
theorem d_jdk_65_method_133_2 : decode jdk_65_method_133_code 2 = .ok (.invokestatic 343, 3) := by decide +kernel
theorem d_jdk_65_method_133_5 : decode jdk_65_method_133_code 5 = .ok (.iload_n 2, 1) := by decide +kernel
theorem d_jdk_65_method_133_6 : decode jdk_65_method_133_code 6 = .ok (.iload_n 1, 1) := by decide +kernel
theorem d_jdk_65_method_133_7 : decode jdk_65_method_133_code 7 = .ok (.isub, 1) := by decide +kernel
theorem d_jdk_65_method_133_8 : decode jdk_65_method_133_code 8 = .ok (.istore_n 3, 1) := by decide +kernel
theorem d_jdk_65_method_133_9 : decode jdk_65_method_133_code 9 = .ok (.iload_n 3, 1) := by decide +kernel
theorem d_jdk_65_method_133_10 : decode jdk_65_method_133_code 10 = .ok (.newarray .byte, 2) := by decide +kernel
theorem d_jdk_65_method_133_12 : decode jdk_65_method_133_code 12 = .ok (.astore 4, 2) := by decide +kernel
theorem d_jdk_65_method_133_14 : decode jdk_65_method_133_code 14 = .ok (.aload_n 0, 1) := by decide +kernel
theorem d_jdk_65_method_133_15 : decode jdk_65_method_133_code 15 = .ok (.iload_n 1, 1) := by decide +kernel
theorem d_jdk_65_method_133_16 : decode jdk_65_method_133_code 16 = .ok (.aload 4, 2) := by decide +kernel
theorem d_jdk_65_method_133_18 : decode jdk_65_method_133_code 18 = .ok (.iconst 0, 1) := by decide +kernel
theorem d_jdk_65_method_133_19 : decode jdk_65_method_133_code 19 = .ok (.aload_n 0, 1) := by decide +kernel
theorem d_jdk_65_method_133_20 : decode jdk_65_method_133_code 20 = .ok (.arraylength, 1) := by decide +kernel
theorem d_jdk_65_method_133_21 : decode jdk_65_method_133_code 21 = .ok (.iload_n 1, 1) := by decide +kernel
theorem d_jdk_65_method_133_22 : decode jdk_65_method_133_code 22 = .ok (.isub, 1) := by decide +kernel
theorem d_jdk_65_method_133_23 : decode jdk_65_method_133_code 23 = .ok (.iload_n 3, 1) := by decide +kernel
theorem d_jdk_65_method_133_24 : decode jdk_65_method_133_code 24 = .ok (.invokestatic 304, 3) := by decide +kernel
theorem pd__28_II_29_I : parseMethodDescriptor "(II)I" = some ⟨[.int, .int], some .int⟩ := by decide +kernel
theorem d_jdk_65_method_133_27 : decode jdk_65_method_133_code 27 = .ok (.invokestatic 150, 3) := by decide +kernel
theorem d_jdk_65_method_133_30 : decode jdk_65_method_133_code 30 = .ok (.aload 4, 2) := by decide +kernel
theorem d_jdk_65_method_133_32 : decode jdk_65_method_133_code 32 = .ok (.areturn, 1) := by decide +kernel
abbrev yn22 : MethodName := ⟨"java/util/Arrays", "copyOfRangeByte", "([BII)[B"⟩
theorem ef_cor (m : MethodId) (x0 : Addr) (x1 : Int32) (x2 : Int32) : entryFrame m #[(.ref x0), (.int x1), (.int x2)] 3 = mkF m 0 #[.val (.ref x0), .val (.int x1), .val (.int x2)] [] := by first | (simp [entryFrame, mkF, argsToLocals, Value.category]; done) | rfl
theorem d_jdk_65_method_132_0 : decode jdk_65_method_132_code 0 = .ok (.iload_n 1, 1) := by decide +kernel
theorem d_jdk_65_method_132_1 : decode jdk_65_method_132_code 1 = .ok (.ifCond .ne 9, 3) := by decide +kernel
theorem d_jdk_65_method_132_4 : decode jdk_65_method_132_code 4 = .ok (.iload_n 2, 1) := by decide +kernel
theorem d_jdk_65_method_132_5 : decode jdk_65_method_132_code 5 = .ok (.aload_n 0, 1) := by decide +kernel
theorem d_jdk_65_method_132_6 : decode jdk_65_method_132_code 6 = .ok (.arraylength, 1) := by decide +kernel
theorem d_jdk_65_method_132_7 : decode jdk_65_method_132_code 7 = .ok (.if_icmp .eq 10, 3) := by decide +kernel
theorem d_jdk_65_method_132_10 : decode jdk_65_method_132_code 10 = .ok (.aload_n 0, 1) := by decide +kernel
theorem d_jdk_65_method_132_11 : decode jdk_65_method_132_code 11 = .ok (.iload_n 1, 1) := by decide +kernel
theorem d_jdk_65_method_132_12 : decode jdk_65_method_132_code 12 = .ok (.iload_n 2, 1) := by decide +kernel
theorem d_jdk_65_method_132_13 : decode jdk_65_method_132_code 13 = .ok (.invokestatic 339, 3) := by decide +kernel
theorem pd__28__5b_BII_29__5b_B : parseMethodDescriptor "([BII)[B" = some ⟨[(.array .byte), .int, .int], some (.array .byte)⟩ := by decide +kernel
theorem d_jdk_65_method_132_16 : decode jdk_65_method_132_code 16 = .ok (.areturn, 1) := by decide +kernel
abbrev yn23 : MethodName := ⟨"java/util/Arrays", "copyOfRange", "([BII)[B"⟩
theorem ef_abinit (m : MethodId) (x0 : Addr) (x1 : Int32) : entryFrame m #[(.ref x0), (.int x1)] 2 = mkF m 0 #[.val (.ref x0), .val (.int x1)] [] := by first | (simp [entryFrame, mkF, argsToLocals, Value.category]; done) | rfl
theorem pn_java_lang_AbstractStringBuilder : plainName "java/lang/AbstractStringBuilder" = true := by first | (simp [plainName, overriddenIn]; done) | decide +kernel
theorem d_jdk_68_method_2_0 : decode jdk_68_method_2_code 0 = .ok (.aload_n 0, 1) := by decide +kernel
theorem d_jdk_68_method_2_1 : decode jdk_68_method_2_code 1 = .ok (.invokespecial 3, 3) := by decide +kernel
theorem d_jdk_68_method_2_4 : decode jdk_68_method_2_code 4 = .ok (.getstatic 18, 3) := by decide +kernel
theorem d_jdk_68_method_2_7 : decode jdk_68_method_2_code 7 = .ok (.ifCond .eq 18, 3) := by decide +kernel
theorem d_jdk_68_method_2_10 : decode jdk_68_method_2_code 10 = .ok (.aload_n 0, 1) := by decide +kernel
theorem d_jdk_68_method_2_11 : decode jdk_68_method_2_code 11 = .ok (.iload_n 1, 1) := by decide +kernel
theorem d_jdk_68_method_2_12 : decode jdk_68_method_2_code 12 = .ok (.newarray .byte, 2) := by decide +kernel
theorem own_newPE {p : Program} {l : Launch} {e : Env} {R : Room} {s : State} {m : MethodId} {args : Array Value} {below : List Frame} {meth : Method} {c : Code} {T : State} {locs : List Loc} {cells slots : Nat} {Z : State} {a0 : Array Value} {h : Heap}
    (X : Stand p l e R s m args below meth c T locs cells slots) (hx : p.tables.exec = Jvm.exec) (hZ : Z.Warmed39 s.vm) {aty : ArrayType} (w : (Jvm.Cond.arrayClass (newarray.typeOf aty)).before a0 Z = true) (eT : T.heap = h) {g : JFrame} (hg : g.method = m) (hd : decode c.code g.pc = .ok (.newarray aty, 2)) {n : Int32} {rest : List Value} (hs : g.stack = .int n :: rest)
    (hn : ¬ n < 0) {cap : Nat} (hcap : n.toNatClampNeg ≤ cap) (hb : cap * 8 ≤ 536870912) (hc : cells + 1 ≤ R.cells) (hl : slots + cap ≤ R.slots) {ad : String} (had : "[" ++ (newarray.typeOf aty).toString = ad) :
    ∃ T' h' cA, Stand p l e R s m args below meth c T' locs (cells + 1) (slots + cap) ∧ T'.heap = h' ∧ Ext h h' ∧ Arr Z h' h.size (newA cA (newarray.typeOf aty) n) (newarray.typeOf aty) ∧ Exa Z h' h.size ad ∧
      ∀ target, Steps p.tables e below (T'.setTop { g with pc := g.pc + 2, stack := .ref h.size :: rest }) target → Steps p.tables e below (T.setTop g) target := by
  have cb : componentBytes (newarray.typeOf aty) ≤ 8 := by cases aty <;> decide
  obtain ⟨cA, kA, comp, f1, f2, f3, Y, go⟩ := X.newarrayPrim hx (mvA hZ w) hg hd hs hn (Nat.le_trans (Nat.mul_le_mul hcap cb) hb) hc (by omega)
  rw [hZ.alike.findClass, had] at f1
  obtain ⟨kZ, u1, -⟩ := Vm.findClass_spec f1
  obtain ⟨kT, u2, u3⟩ := hZ.alike.2.2 _ _ u1
  have ek : kA = kT := Option.some.inj (f2.symm.trans u2)
  have kk : kZ.kind = .array comp (newarray.typeOf aty) := by rw [← f3, ek, u3]
  subst eT
  have A : Arr Z (T.heap.push (newA cA (newarray.typeOf aty) n)) T.heap.size (newA cA (newarray.typeOf aty) n) (newarray.typeOf aty) := ⟨by simp, ⟨by simp [newA], kZ, u1, comp, kk⟩, by simp [newA]⟩
  exact ⟨_, _, cA, Y.more (Nat.le_refl _) (by omega), rfl, ext_of fun a q => (Array.getElem?_push_lt q).trans (Array.getElem?_eq_getElem q).symm, A, exa_arr A f1 rfl, go⟩
theorem d_jdk_68_method_2_14 : decode jdk_68_method_2_code 14 = .ok (.putfield 15, 3) := by decide +kernel
theorem d_jdk_68_method_2_17 : decode jdk_68_method_2_code 17 = .ok (.aload_n 0, 1) := by decide +kernel
theorem d_jdk_68_method_2_18 : decode jdk_68_method_2_code 18 = .ok (.iconst 0, 1) := by decide +kernel
theorem d_jdk_68_method_2_19 : decode jdk_68_method_2_code 19 = .ok (.putfield 22, 3) := by decide +kernel
theorem d_jdk_68_method_2_22 : decode jdk_68_method_2_code 22 = .ok (.goto 16, 3) := by decide +kernel
theorem d_jdk_68_method_2_38 : decode jdk_68_method_2_code 38 = .ok (.return_, 1) := by decide +kernel
abbrev yn24 : MethodName := ⟨"java/lang/AbstractStringBuilder", "<init>", "(I)V"⟩
theorem ef_sbinit (m : MethodId) (x0 : Addr) (x1 : Int32) : entryFrame m #[(.ref x0), (.int x1)] 2 = mkF m 0 #[.val (.ref x0), .val (.int x1)] [] := by first | (simp [entryFrame, mkF, argsToLocals, Value.category]; done) | rfl
theorem pn_java_lang_StringBuilder : plainName "java/lang/StringBuilder" = true := by first | (simp [plainName, overriddenIn]; done) | decide +kernel
theorem d_jdk_67_method_2_0 : decode jdk_67_method_2_code 0 = .ok (.aload_n 0, 1) := by decide +kernel
theorem d_jdk_67_method_2_1 : decode jdk_67_method_2_code 1 = .ok (.iload_n 1, 1) := by decide +kernel
theorem d_jdk_67_method_2_2 : decode jdk_67_method_2_code 2 = .ok (.invokespecial 1, 3) := by decide +kernel
theorem pd__28_I_29_V : parseMethodDescriptor "(I)V" = some ⟨[.int], none⟩ := by decide +kernel
theorem d_jdk_67_method_2_5 : decode jdk_67_method_2_code 5 = .ok (.return_, 1) := by decide +kernel
abbrev yn25 : MethodName := ⟨"java/lang/StringBuilder", "<init>", "(I)V"⟩
theorem ef_ensure (m : MethodId) (x0 : Addr) (x1 : Int32) : entryFrame m #[(.ref x0), (.int x1)] 3 = mkF m 0 #[.val (.ref x0), .val (.int x1), .unset] [] := by first | (simp [entryFrame, mkF, argsToLocals, Value.category]; done) | rfl
theorem d_jdk_68_method_9_0 : decode jdk_68_method_9_code 0 = .ok (.aload_n 0, 1) := by decide +kernel
theorem d_jdk_68_method_9_1 : decode jdk_68_method_9_code 1 = .ok (.getfield 15, 3) := by decide +kernel
theorem d_jdk_68_method_9_4 : decode jdk_68_method_9_code 4 = .ok (.arraylength, 1) := by decide +kernel
theorem d_jdk_68_method_9_5 : decode jdk_68_method_9_code 5 = .ok (.aload_n 0, 1) := by decide +kernel
theorem d_jdk_68_method_9_6 : decode jdk_68_method_9_code 6 = .ok (.getfield 22, 3) := by decide +kernel
theorem d_jdk_68_method_9_9 : decode jdk_68_method_9_code 9 = .ok (.ishr, 1) := by decide +kernel
theorem d_jdk_68_method_9_10 : decode jdk_68_method_9_code 10 = .ok (.istore_n 2, 1) := by decide +kernel
theorem d_jdk_68_method_9_11 : decode jdk_68_method_9_code 11 = .ok (.iload_n 1, 1) := by decide +kernel
theorem d_jdk_68_method_9_12 : decode jdk_68_method_9_code 12 = .ok (.iload_n 2, 1) := by decide +kernel
theorem d_jdk_68_method_9_13 : decode jdk_68_method_9_code 13 = .ok (.isub, 1) := by decide +kernel
theorem d_jdk_68_method_9_14 : decode jdk_68_method_9_code 14 = .ok (.ifCond .le 24, 3) := by decide +kernel
theorem d_jdk_68_method_9_38 : decode jdk_68_method_9_code 38 = .ok (.return_, 1) := by decide +kernel
abbrev yn26 : MethodName := ⟨"java/lang/AbstractStringBuilder", "ensureCapacityInternal", "(I)V"⟩
theorem ef_abLatin (m : MethodId) (x0 : Addr) : entryFrame m #[(.ref x0)] 1 = mkF m 0 #[.val (.ref x0)] [] := by first | (simp [entryFrame, mkF, argsToLocals, Value.category]; done) | rfl
theorem d_jdk_68_method_68_0 : decode jdk_68_method_68_code 0 = .ok (.getstatic 18, 3) := by decide +kernel
theorem d_jdk_68_method_68_3 : decode jdk_68_method_68_code 3 = .ok (.ifCond .eq 14, 3) := by decide +kernel
theorem d_jdk_68_method_68_6 : decode jdk_68_method_68_code 6 = .ok (.aload_n 0, 1) := by decide +kernel
theorem d_jdk_68_method_68_7 : decode jdk_68_method_68_code 7 = .ok (.getfield 22, 3) := by decide +kernel
theorem d_jdk_68_method_68_10 : decode jdk_68_method_68_code 10 = .ok (.ifCond .ne 7, 3) := by decide +kernel
theorem d_jdk_68_method_68_13 : decode jdk_68_method_68_code 13 = .ok (.iconst 1, 1) := by decide +kernel
theorem d_jdk_68_method_68_14 : decode jdk_68_method_68_code 14 = .ok (.goto 4, 3) := by decide +kernel
theorem d_jdk_68_method_68_18 : decode jdk_68_method_68_code 18 = .ok (.ireturn, 1) := by decide +kernel
abbrev yn27 : MethodName := ⟨"java/lang/AbstractStringBuilder", "isLatin1", "()Z"⟩
theorem ef_canEncode (m : MethodId) (x0 : Int32) : entryFrame m #[(.int x0)] 1 = mkF m 0 #[.val (.int x0)] [] := by first | (simp [entryFrame, mkF, argsToLocals, Value.category]; done) | rfl
theorem d_jdk_43_method_3_0 : decode jdk_43_method_3_code 0 = .ok (.iload_n 0, 1) := by decide +kernel
theorem d_jdk_43_method_3_1 : decode jdk_43_method_3_code 1 = .ok (.sipush 255, 3) := by decide +kernel
theorem d_jdk_43_method_3_4 : decode jdk_43_method_3_code 4 = .ok (.if_icmp .gt 7, 3) := by decide +kernel
theorem d_jdk_43_method_3_7 : decode jdk_43_method_3_code 7 = .ok (.iconst 1, 1) := by decide +kernel
theorem d_jdk_43_method_3_8 : decode jdk_43_method_3_code 8 = .ok (.goto 4, 3) := by decide +kernel
theorem d_jdk_43_method_3_12 : decode jdk_43_method_3_code 12 = .ok (.ireturn, 1) := by decide +kernel
abbrev yn28 : MethodName := ⟨"java/lang/StringLatin1", "canEncode", "(C)Z"⟩
theorem ef_abAppC (m : MethodId) (x0 : Addr) (x1 : Int32) : entryFrame m #[(.ref x0), (.int x1)] 2 = mkF m 0 #[.val (.ref x0), .val (.int x1)] [] := by first | (simp [entryFrame, mkF, argsToLocals, Value.category]; done) | rfl
theorem d_jdk_68_method_31_0 : decode jdk_68_method_31_code 0 = .ok (.aload_n 0, 1) := by decide +kernel
theorem d_jdk_68_method_31_1 : decode jdk_68_method_31_code 1 = .ok (.aload_n 0, 1) := by decide +kernel
theorem d_jdk_68_method_31_2 : decode jdk_68_method_31_code 2 = .ok (.getfield 79, 3) := by decide +kernel
theorem d_jdk_68_method_31_5 : decode jdk_68_method_31_code 5 = .ok (.iconst 1, 1) := by decide +kernel
theorem d_jdk_68_method_31_6 : decode jdk_68_method_31_code 6 = .ok (.iadd, 1) := by decide +kernel
theorem d_jdk_68_method_31_7 : decode jdk_68_method_31_code 7 = .ok (.invokevirtual 100, 3) := by decide +kernel
theorem own_psel {a0 : Array Value} {Z : State} {C : String} {y : MethodName} (hs : (Jvm.Cond.selects C y y).before a0 Z = true) (hp : (Jvm.Cond.privateMethod y).before a0 Z = true) (hi : (Jvm.Cond.instanceMethod y).before a0 Z = true) (hy : y.cls ≠ "java/lang/invoke/MethodHandle" ∧ y.cls ≠ "java/lang/invoke/VarHandle") : (Jvm.Cond.selects y.cls y y).before a0 Z = true := by
  obtain ⟨c, r, m, h1, h2, h3, h4, k, hk, hki⟩ := Cond.selects_spec hs
  exact Jvm.Stand.selects_self_of_private (findClass_of_methodNamed h3) hk hki (Cond.privateMethod_at hp) hi hy
theorem d_jdk_68_method_31_10 : decode jdk_68_method_31_code 10 = .ok (.aload_n 0, 1) := by decide +kernel
theorem d_jdk_68_method_31_11 : decode jdk_68_method_31_code 11 = .ok (.invokevirtual 83, 3) := by decide +kernel
theorem d_jdk_68_method_31_14 : decode jdk_68_method_31_code 14 = .ok (.ifCond .eq 31, 3) := by decide +kernel
theorem d_jdk_68_method_31_17 : decode jdk_68_method_31_code 17 = .ok (.iload_n 1, 1) := by decide +kernel
theorem d_jdk_68_method_31_18 : decode jdk_68_method_31_code 18 = .ok (.invokestatic 191, 3) := by decide +kernel
theorem pd__28_C_29_Z : parseMethodDescriptor "(C)Z" = some ⟨[.char], some .boolean⟩ := by decide +kernel
theorem d_jdk_68_method_31_21 : decode jdk_68_method_31_code 21 = .ok (.ifCond .eq 24, 3) := by decide +kernel
theorem d_jdk_68_method_31_24 : decode jdk_68_method_31_code 24 = .ok (.aload_n 0, 1) := by decide +kernel
theorem d_jdk_68_method_31_25 : decode jdk_68_method_31_code 25 = .ok (.getfield 15, 3) := by decide +kernel
theorem d_jdk_68_method_31_28 : decode jdk_68_method_31_code 28 = .ok (.aload_n 0, 1) := by decide +kernel
theorem d_jdk_68_method_31_29 : decode jdk_68_method_31_code 29 = .ok (.dup, 1) := by decide +kernel
theorem d_jdk_68_method_31_30 : decode jdk_68_method_31_code 30 = .ok (.getfield 79, 3) := by decide +kernel
theorem d_jdk_68_method_31_33 : decode jdk_68_method_31_code 33 = .ok (.dup_x1, 1) := by decide +kernel
theorem d_jdk_68_method_31_34 : decode jdk_68_method_31_code 34 = .ok (.iconst 1, 1) := by decide +kernel
theorem d_jdk_68_method_31_35 : decode jdk_68_method_31_code 35 = .ok (.iadd, 1) := by decide +kernel
theorem d_jdk_68_method_31_36 : decode jdk_68_method_31_code 36 = .ok (.putfield 79, 3) := by decide +kernel
theorem d_jdk_68_method_31_39 : decode jdk_68_method_31_code 39 = .ok (.iload_n 1, 1) := by decide +kernel
theorem d_jdk_68_method_31_40 : decode jdk_68_method_31_code 40 = .ok (.i2b, 1) := by decide +kernel
theorem d_jdk_68_method_31_41 : decode jdk_68_method_31_code 41 = .ok (.bastore, 1) := by decide +kernel
theorem d_jdk_68_method_31_42 : decode jdk_68_method_31_code 42 = .ok (.goto 33, 3) := by decide +kernel
theorem d_jdk_68_method_31_75 : decode jdk_68_method_31_code 75 = .ok (.aload_n 0, 1) := by decide +kernel
theorem d_jdk_68_method_31_76 : decode jdk_68_method_31_code 76 = .ok (.areturn, 1) := by decide +kernel
abbrev yn29 : MethodName := ⟨"java/lang/AbstractStringBuilder", "append", "(C)Ljava/lang/AbstractStringBuilder;"⟩
theorem ef_sbAppC (m : MethodId) (x0 : Addr) (x1 : Int32) : entryFrame m #[(.ref x0), (.int x1)] 2 = mkF m 0 #[.val (.ref x0), .val (.int x1)] [] := by first | (simp [entryFrame, mkF, argsToLocals, Value.category]; done) | rfl
theorem d_jdk_67_method_14_0 : decode jdk_67_method_14_code 0 = .ok (.aload_n 0, 1) := by decide +kernel
theorem d_jdk_67_method_14_1 : decode jdk_67_method_14_code 1 = .ok (.iload_n 1, 1) := by decide +kernel
theorem d_jdk_67_method_14_2 : decode jdk_67_method_14_code 2 = .ok (.invokespecial 50, 3) := by decide +kernel
theorem pd__28_C_29_Ljava_2f_lang_2f_AbstractStringBuilder_3b_ : parseMethodDescriptor "(C)Ljava/lang/AbstractStringBuilder;" = some ⟨[.char], some (.object "java/lang/AbstractStringBuilder")⟩ := by decide +kernel
theorem own_nf {s : State} {args : Array Value} {C : String} {y y' : MethodName} (hc : y.cls = y'.cls) (hs : (Jvm.Cond.selects C y' y').before args s = true) (hd : (Jvm.Cond.declares y').before args s = true) : NotFace s y := fun r0 h0 => by
  obtain ⟨r1, r, hn, -⟩ := Cond.declares_spec hd
  obtain ⟨k, hk, hi⟩ := notFace_of_selects hs r1 hn
  have e1 := findClass_of_methodNamed h0
  rw [hc] at e1
  have e : r0.cls = r1.cls := Option.some.inj (e1.symm.trans (findClass_of_methodNamed hn))
  exact ⟨k, by rw [e]; exact hk, hi⟩
theorem own_same {a0 : Array Value} {Z : State} {y : MethodName} (hy : y.cls ≠ "java/lang/invoke/MethodHandle" ∧ y.cls ≠ "java/lang/invoke/VarHandle") (wi : (Jvm.Cond.instanceMethod y).before a0 Z = true) (nf : NotFace Z y) : (Jvm.Cond.sameMethod y.cls y.cls y.name y.desc).before a0 Z = true := by
  obtain ⟨m, meth, hn, -, -, -⟩ := Cond.instanceMethod_spec wi
  obtain ⟨k, hk, hi⟩ := nf m hn
  have hc := findClass_of_methodNamed hn
  have hf := State.methodFound?_of_named hn hy
  have hn' : Z.methodNamed? ⟨y.cls, y.name, y.desc⟩ = some m := hn
  simp [Cond.before, Cond.holds, Cond.value, hc, hf, hn', hk, hi]
theorem d_jdk_67_method_14_5 : decode jdk_67_method_14_code 5 = .ok (.pop, 1) := by decide +kernel
theorem d_jdk_67_method_14_6 : decode jdk_67_method_14_code 6 = .ok (.aload_n 0, 1) := by decide +kernel
theorem d_jdk_67_method_14_7 : decode jdk_67_method_14_code 7 = .ok (.areturn, 1) := by decide +kernel
abbrev yn30 : MethodName := ⟨"java/lang/StringBuilder", "append", "(C)Ljava/lang/StringBuilder;"⟩
theorem ef_sgetBytes (m : MethodId) (x0 : Addr) (x1 : Addr) (x2 : Int32) (x3 : Int32) : entryFrame m #[(.ref x0), (.ref x1), (.int x2), (.int x3)] 4 = mkF m 0 #[.val (.ref x0), .val (.ref x1), .val (.int x2), .val (.int x3)] [] := by first | (simp [entryFrame, mkF, argsToLocals, Value.category]; done) | rfl
theorem d_jdk_42_method_147_0 : decode jdk_42_method_147_code 0 = .ok (.aload_n 0, 1) := by decide +kernel
theorem d_jdk_42_method_147_1 : decode jdk_42_method_147_code 1 = .ok (.invokevirtual 335, 3) := by decide +kernel
theorem d_jdk_42_method_147_4 : decode jdk_42_method_147_code 4 = .ok (.iload_n 3, 1) := by decide +kernel
theorem d_jdk_42_method_147_5 : decode jdk_42_method_147_code 5 = .ok (.if_icmp .ne 23, 3) := by decide +kernel
theorem d_jdk_42_method_147_8 : decode jdk_42_method_147_code 8 = .ok (.aload_n 0, 1) := by decide +kernel
theorem d_jdk_42_method_147_9 : decode jdk_42_method_147_code 9 = .ok (.getfield 9, 3) := by decide +kernel
theorem d_jdk_42_method_147_12 : decode jdk_42_method_147_code 12 = .ok (.iconst 0, 1) := by decide +kernel
theorem d_jdk_42_method_147_13 : decode jdk_42_method_147_code 13 = .ok (.aload_n 1, 1) := by decide +kernel
theorem d_jdk_42_method_147_14 : decode jdk_42_method_147_code 14 = .ok (.iload_n 2, 1) := by decide +kernel
theorem d_jdk_42_method_147_15 : decode jdk_42_method_147_code 15 = .ok (.iload_n 3, 1) := by decide +kernel
theorem d_jdk_42_method_147_16 : decode jdk_42_method_147_code 16 = .ok (.ishl, 1) := by decide +kernel
theorem d_jdk_42_method_147_17 : decode jdk_42_method_147_code 17 = .ok (.aload_n 0, 1) := by decide +kernel
theorem d_jdk_42_method_147_18 : decode jdk_42_method_147_code 18 = .ok (.getfield 9, 3) := by decide +kernel
theorem d_jdk_42_method_147_21 : decode jdk_42_method_147_code 21 = .ok (.arraylength, 1) := by decide +kernel
theorem d_jdk_42_method_147_22 : decode jdk_42_method_147_code 22 = .ok (.invokestatic 212, 3) := by decide +kernel
theorem d_jdk_42_method_147_25 : decode jdk_42_method_147_code 25 = .ok (.goto 18, 3) := by decide +kernel
theorem d_jdk_42_method_147_43 : decode jdk_42_method_147_code 43 = .ok (.return_, 1) := by decide +kernel
abbrev yn31 : MethodName := ⟨"java/lang/String", "getBytes", "([BIB)V"⟩
theorem ef_inflate (m : MethodId) (x0 : Addr) (x1 : Addr) : entryFrame m #[(.ref x0), (.ref x1)] 2 = mkF m 0 #[.val (.ref x0), .val (.ref x1)] [] := by first | (simp [entryFrame, mkF, argsToLocals, Value.category]; done) | rfl
theorem d_jdk_68_method_71_0 : decode jdk_68_method_71_code 0 = .ok (.getstatic 18, 3) := by decide +kernel
theorem d_jdk_68_method_71_3 : decode jdk_68_method_71_code 3 = .ok (.ifCond .eq 18, 3) := by decide +kernel
theorem d_jdk_68_method_71_6 : decode jdk_68_method_71_code 6 = .ok (.aload_n 0, 1) := by decide +kernel
theorem d_jdk_68_method_71_7 : decode jdk_68_method_71_code 7 = .ok (.getfield 22, 3) := by decide +kernel
theorem d_jdk_68_method_71_10 : decode jdk_68_method_71_code 10 = .ok (.aload_n 1, 1) := by decide +kernel
theorem d_jdk_68_method_71_11 : decode jdk_68_method_71_code 11 = .ok (.invokevirtual 40, 3) := by decide +kernel
theorem d_jdk_68_method_71_14 : decode jdk_68_method_71_code 14 = .ok (.if_icmp .eq 7, 3) := by decide +kernel
theorem d_jdk_68_method_71_21 : decode jdk_68_method_71_code 21 = .ok (.return_, 1) := by decide +kernel
abbrev yn32 : MethodName := ⟨"java/lang/AbstractStringBuilder", "inflateIfNeededFor", "(Ljava/lang/String;)V"⟩
theorem ef_putAt (m : MethodId) (x0 : Addr) (x1 : Int32) (x2 : Addr) : entryFrame m #[(.ref x0), (.int x1), (.ref x2)] 3 = mkF m 0 #[.val (.ref x0), .val (.int x1), .val (.ref x2)] [] := by first | (simp [entryFrame, mkF, argsToLocals, Value.category]; done) | rfl
theorem d_jdk_68_method_73_0 : decode jdk_68_method_73_code 0 = .ok (.aload_n 0, 1) := by decide +kernel
theorem d_jdk_68_method_73_1 : decode jdk_68_method_73_code 1 = .ok (.aload_n 2, 1) := by decide +kernel
theorem d_jdk_68_method_73_2 : decode jdk_68_method_73_code 2 = .ok (.invokevirtual 397, 3) := by decide +kernel
theorem pd__28_Ljava_2f_lang_2f_String_3b__29_V : parseMethodDescriptor "(Ljava/lang/String;)V" = some ⟨[(.object "java/lang/String")], none⟩ := by decide +kernel
theorem d_jdk_68_method_73_5 : decode jdk_68_method_73_code 5 = .ok (.aload_n 2, 1) := by decide +kernel
theorem d_jdk_68_method_73_6 : decode jdk_68_method_73_code 6 = .ok (.aload_n 0, 1) := by decide +kernel
theorem d_jdk_68_method_73_7 : decode jdk_68_method_73_code 7 = .ok (.getfield 15, 3) := by decide +kernel
theorem d_jdk_68_method_73_10 : decode jdk_68_method_73_code 10 = .ok (.iload_n 1, 1) := by decide +kernel
theorem d_jdk_68_method_73_11 : decode jdk_68_method_73_code 11 = .ok (.aload_n 0, 1) := by decide +kernel
theorem d_jdk_68_method_73_12 : decode jdk_68_method_73_code 12 = .ok (.getfield 22, 3) := by decide +kernel
theorem d_jdk_68_method_73_15 : decode jdk_68_method_73_code 15 = .ok (.invokevirtual 399, 3) := by decide +kernel
theorem pd__28__5b_BIB_29_V : parseMethodDescriptor "([BIB)V" = some ⟨[(.array .byte), .int, .byte], none⟩ := by decide +kernel
theorem d_jdk_68_method_73_18 : decode jdk_68_method_73_code 18 = .ok (.return_, 1) := by decide +kernel
abbrev yn33 : MethodName := ⟨"java/lang/AbstractStringBuilder", "putStringAt", "(ILjava/lang/String;)V"⟩
theorem ef_abAppS (m : MethodId) (x0 : Addr) (x1 : Addr) : entryFrame m #[(.ref x0), (.ref x1)] 3 = mkF m 0 #[.val (.ref x0), .val (.ref x1), .unset] [] := by first | (simp [entryFrame, mkF, argsToLocals, Value.category]; done) | rfl
theorem d_jdk_68_method_22_0 : decode jdk_68_method_22_code 0 = .ok (.aload_n 1, 1) := by decide +kernel
theorem d_jdk_68_method_22_1 : decode jdk_68_method_22_code 1 = .ok (.ifnonnull 8, 3) := by decide +kernel
theorem d_jdk_68_method_22_9 : decode jdk_68_method_22_code 9 = .ok (.aload_n 1, 1) := by decide +kernel
theorem d_jdk_68_method_22_10 : decode jdk_68_method_22_code 10 = .ok (.invokevirtual 32, 3) := by decide +kernel
theorem pd__28__29_I : parseMethodDescriptor "()I" = some ⟨[], some .int⟩ := by decide +kernel
theorem d_jdk_68_method_22_13 : decode jdk_68_method_22_code 13 = .ok (.istore_n 2, 1) := by decide +kernel
theorem d_jdk_68_method_22_14 : decode jdk_68_method_22_code 14 = .ok (.aload_n 0, 1) := by decide +kernel
theorem d_jdk_68_method_22_15 : decode jdk_68_method_22_code 15 = .ok (.aload_n 0, 1) := by decide +kernel
theorem d_jdk_68_method_22_16 : decode jdk_68_method_22_code 16 = .ok (.getfield 79, 3) := by decide +kernel
theorem d_jdk_68_method_22_19 : decode jdk_68_method_22_code 19 = .ok (.iload_n 2, 1) := by decide +kernel
theorem d_jdk_68_method_22_20 : decode jdk_68_method_22_code 20 = .ok (.iadd, 1) := by decide +kernel
theorem d_jdk_68_method_22_21 : decode jdk_68_method_22_code 21 = .ok (.invokevirtual 100, 3) := by decide +kernel
theorem d_jdk_68_method_22_24 : decode jdk_68_method_22_code 24 = .ok (.aload_n 0, 1) := by decide +kernel
theorem d_jdk_68_method_22_25 : decode jdk_68_method_22_code 25 = .ok (.aload_n 0, 1) := by decide +kernel
theorem d_jdk_68_method_22_26 : decode jdk_68_method_22_code 26 = .ok (.getfield 79, 3) := by decide +kernel
theorem d_jdk_68_method_22_29 : decode jdk_68_method_22_code 29 = .ok (.aload_n 1, 1) := by decide +kernel
theorem d_jdk_68_method_22_30 : decode jdk_68_method_22_code 30 = .ok (.invokevirtual 208, 3) := by decide +kernel
theorem pd__28_ILjava_2f_lang_2f_String_3b__29_V : parseMethodDescriptor "(ILjava/lang/String;)V" = some ⟨[.int, (.object "java/lang/String")], none⟩ := by decide +kernel
theorem d_jdk_68_method_22_33 : decode jdk_68_method_22_code 33 = .ok (.aload_n 0, 1) := by decide +kernel
theorem d_jdk_68_method_22_34 : decode jdk_68_method_22_code 34 = .ok (.dup, 1) := by decide +kernel
theorem d_jdk_68_method_22_35 : decode jdk_68_method_22_code 35 = .ok (.getfield 79, 3) := by decide +kernel
theorem d_jdk_68_method_22_38 : decode jdk_68_method_22_code 38 = .ok (.iload_n 2, 1) := by decide +kernel
theorem d_jdk_68_method_22_39 : decode jdk_68_method_22_code 39 = .ok (.iadd, 1) := by decide +kernel
theorem d_jdk_68_method_22_40 : decode jdk_68_method_22_code 40 = .ok (.putfield 79, 3) := by decide +kernel
theorem d_jdk_68_method_22_43 : decode jdk_68_method_22_code 43 = .ok (.aload_n 0, 1) := by decide +kernel
theorem d_jdk_68_method_22_44 : decode jdk_68_method_22_code 44 = .ok (.areturn, 1) := by decide +kernel
abbrev yn34 : MethodName := ⟨"java/lang/AbstractStringBuilder", "append", "(Ljava/lang/String;)Ljava/lang/AbstractStringBuilder;"⟩
theorem ef_sbAppS (m : MethodId) (x0 : Addr) (x1 : Addr) : entryFrame m #[(.ref x0), (.ref x1)] 2 = mkF m 0 #[.val (.ref x0), .val (.ref x1)] [] := by first | (simp [entryFrame, mkF, argsToLocals, Value.category]; done) | rfl
theorem d_jdk_67_method_7_0 : decode jdk_67_method_7_code 0 = .ok (.aload_n 0, 1) := by decide +kernel
theorem d_jdk_67_method_7_1 : decode jdk_67_method_7_code 1 = .ok (.aload_n 1, 1) := by decide +kernel
theorem d_jdk_67_method_7_2 : decode jdk_67_method_7_code 2 = .ok (.invokespecial 29, 3) := by decide +kernel
theorem pd__28_Ljava_2f_lang_2f_String_3b__29_Ljava_2f_lang_2f_AbstractStringBuilder_3b_ : parseMethodDescriptor "(Ljava/lang/String;)Ljava/lang/AbstractStringBuilder;" = some ⟨[(.object "java/lang/String")], some (.object "java/lang/AbstractStringBuilder")⟩ := by decide +kernel
theorem d_jdk_67_method_7_5 : decode jdk_67_method_7_code 5 = .ok (.pop, 1) := by decide +kernel
theorem d_jdk_67_method_7_6 : decode jdk_67_method_7_code 6 = .ok (.aload_n 0, 1) := by decide +kernel
theorem d_jdk_67_method_7_7 : decode jdk_67_method_7_code 7 = .ok (.areturn, 1) := by decide +kernel
abbrev yn35 : MethodName := ⟨"java/lang/StringBuilder", "append", "(Ljava/lang/String;)Ljava/lang/StringBuilder;"⟩
theorem ef_abValue (m : MethodId) (x0 : Addr) : entryFrame m #[(.ref x0)] 1 = mkF m 0 #[.val (.ref x0)] [] := by first | (simp [entryFrame, mkF, argsToLocals, Value.category]; done) | rfl
theorem d_jdk_68_method_64_0 : decode jdk_68_method_64_code 0 = .ok (.aload_n 0, 1) := by decide +kernel
theorem d_jdk_68_method_64_1 : decode jdk_68_method_64_code 1 = .ok (.getfield 15, 3) := by decide +kernel
theorem d_jdk_68_method_64_4 : decode jdk_68_method_64_code 4 = .ok (.areturn, 1) := by decide +kernel
abbrev yn36 : MethodName := ⟨"java/lang/AbstractStringBuilder", "getValue", "()[B"⟩
theorem ef_abLength (m : MethodId) (x0 : Addr) : entryFrame m #[(.ref x0)] 1 = mkF m 0 #[.val (.ref x0)] [] := by first | (simp [entryFrame, mkF, argsToLocals, Value.category]; done) | rfl
theorem d_jdk_68_method_6_0 : decode jdk_68_method_6_code 0 = .ok (.aload_n 0, 1) := by decide +kernel
theorem d_jdk_68_method_6_1 : decode jdk_68_method_6_code 1 = .ok (.getfield 79, 3) := by decide +kernel
theorem d_jdk_68_method_6_4 : decode jdk_68_method_6_code 4 = .ok (.ireturn, 1) := by decide +kernel
abbrev yn37 : MethodName := ⟨"java/lang/AbstractStringBuilder", "length", "()I"⟩
theorem ef_sbLength (m : MethodId) (x0 : Addr) : entryFrame m #[(.ref x0)] 1 = mkF m 0 #[.val (.ref x0)] [] := by first | (simp [entryFrame, mkF, argsToLocals, Value.category]; done) | rfl
theorem d_jdk_67_method_93_0 : decode jdk_67_method_93_code 0 = .ok (.aload_n 0, 1) := by decide +kernel
theorem d_jdk_67_method_93_1 : decode jdk_67_method_93_code 1 = .ok (.invokespecial 343, 3) := by decide +kernel
theorem d_jdk_67_method_93_4 : decode jdk_67_method_93_code 4 = .ok (.ireturn, 1) := by decide +kernel
abbrev yn38 : MethodName := ⟨"java/lang/StringBuilder", "length", "()I"⟩
theorem ef_corAll (m : MethodId) (x0 : Addr) (x1 : Int32) (x2 : Int32) : entryFrame m #[(.ref x0), (.int x1), (.int x2)] 3 = mkF m 0 #[.val (.ref x0), .val (.int x1), .val (.int x2)] [] := by first | (simp [entryFrame, mkF, argsToLocals, Value.category]; done) | rfl
theorem d_jdk_65_method_132_17 : decode jdk_65_method_132_code 17 = .ok (.aload_n 0, 1) := by decide +kernel
theorem d_jdk_65_method_132_18 : decode jdk_65_method_132_code 18 = .ok (.invokevirtual 310, 3) := by decide +kernel
theorem d_jdk_65_method_132_21 : decode jdk_65_method_132_code 21 = .ok (.checkcast 311, 3) := by decide +kernel
theorem d_jdk_65_method_132_24 : decode jdk_65_method_132_code 24 = .ok (.areturn, 1) := by decide +kernel
theorem ef_sinitAB (m : MethodId) (x0 : Addr) (x1 : Addr) : entryFrame m #[(.ref x0), (.ref x1), .null] 5 = mkF m 0 #[.val (.ref x0), .val (.ref x1), .val .null, .unset, .unset] [] := by first | (simp [entryFrame, mkF, argsToLocals, Value.category]; done) | rfl
theorem d_jdk_42_method_150_0 : decode jdk_42_method_150_code 0 = .ok (.aload_n 0, 1) := by decide +kernel
theorem d_jdk_42_method_150_1 : decode jdk_42_method_150_code 1 = .ok (.invokespecial 1, 3) := by decide +kernel
theorem d_jdk_42_method_150_4 : decode jdk_42_method_150_code 4 = .ok (.aload_n 1, 1) := by decide +kernel
theorem d_jdk_42_method_150_5 : decode jdk_42_method_150_code 5 = .ok (.invokevirtual 552, 3) := by decide +kernel
theorem pd__28__29__5b_B : parseMethodDescriptor "()[B" = some ⟨[], some (.array .byte)⟩ := by decide +kernel
theorem d_jdk_42_method_150_8 : decode jdk_42_method_150_code 8 = .ok (.astore_n 3, 1) := by decide +kernel
theorem d_jdk_42_method_150_9 : decode jdk_42_method_150_code 9 = .ok (.aload_n 1, 1) := by decide +kernel
theorem d_jdk_42_method_150_10 : decode jdk_42_method_150_code 10 = .ok (.invokevirtual 549, 3) := by decide +kernel
theorem d_jdk_42_method_150_13 : decode jdk_42_method_150_code 13 = .ok (.istore 4, 2) := by decide +kernel
theorem d_jdk_42_method_150_15 : decode jdk_42_method_150_code 15 = .ok (.aload_n 1, 1) := by decide +kernel
theorem d_jdk_42_method_150_16 : decode jdk_42_method_150_code 16 = .ok (.invokevirtual 1047, 3) := by decide +kernel
theorem d_jdk_42_method_150_19 : decode jdk_42_method_150_code 19 = .ok (.ifCond .eq 22, 3) := by decide +kernel
theorem d_jdk_42_method_150_22 : decode jdk_42_method_150_code 22 = .ok (.aload_n 0, 1) := by decide +kernel
theorem d_jdk_42_method_150_23 : decode jdk_42_method_150_code 23 = .ok (.iconst 0, 1) := by decide +kernel
theorem d_jdk_42_method_150_24 : decode jdk_42_method_150_code 24 = .ok (.putfield 15, 3) := by decide +kernel
theorem d_jdk_42_method_150_27 : decode jdk_42_method_150_code 27 = .ok (.aload_n 0, 1) := by decide +kernel
theorem d_jdk_42_method_150_28 : decode jdk_42_method_150_code 28 = .ok (.aload_n 3, 1) := by decide +kernel
theorem d_jdk_42_method_150_29 : decode jdk_42_method_150_code 29 = .ok (.iconst 0, 1) := by decide +kernel
theorem d_jdk_42_method_150_30 : decode jdk_42_method_150_code 30 = .ok (.iload 4, 2) := by decide +kernel
theorem d_jdk_42_method_150_32 : decode jdk_42_method_150_code 32 = .ok (.invokestatic 54, 3) := by decide +kernel
theorem d_jdk_42_method_150_35 : decode jdk_42_method_150_code 35 = .ok (.putfield 9, 3) := by decide +kernel
theorem d_jdk_42_method_150_38 : decode jdk_42_method_150_code 38 = .ok (.goto 59, 3) := by decide +kernel
theorem d_jdk_42_method_150_97 : decode jdk_42_method_150_code 97 = .ok (.return_, 1) := by decide +kernel
abbrev yn39 : MethodName := ⟨"java/lang/String", "<init>", "(Ljava/lang/AbstractStringBuilder;Ljava/lang/Void;)V"⟩
theorem ef_sinitSB (m : MethodId) (x0 : Addr) (x1 : Addr) : entryFrame m #[(.ref x0), (.ref x1)] 2 = mkF m 0 #[.val (.ref x0), .val (.ref x1)] [] := by first | (simp [entryFrame, mkF, argsToLocals, Value.category]; done) | rfl
theorem d_jdk_42_method_53_0 : decode jdk_42_method_53_code 0 = .ok (.aload_n 0, 1) := by decide +kernel
theorem d_jdk_42_method_53_1 : decode jdk_42_method_53_code 1 = .ok (.aload_n 1, 1) := by decide +kernel
theorem d_jdk_42_method_53_2 : decode jdk_42_method_53_code 2 = .ok (.aconst_null, 1) := by decide +kernel
theorem d_jdk_42_method_53_3 : decode jdk_42_method_53_code 3 = .ok (.invokespecial 489, 3) := by decide +kernel
theorem pd__28_Ljava_2f_lang_2f_AbstractStringBuilder_3b_Ljava_2f_lang_2f_Void_3b__29_V : parseMethodDescriptor "(Ljava/lang/AbstractStringBuilder;Ljava/lang/Void;)V" = some ⟨[(.object "java/lang/AbstractStringBuilder"), (.object "java/lang/Void")], none⟩ := by decide +kernel
theorem d_jdk_42_method_53_6 : decode jdk_42_method_53_code 6 = .ok (.return_, 1) := by decide +kernel
abbrev yn40 : MethodName := ⟨"java/lang/String", "<init>", "(Ljava/lang/StringBuilder;)V"⟩
theorem ef_sbToString (m : MethodId) (x0 : Addr) : entryFrame m #[(.ref x0)] 1 = mkF m 0 #[.val (.ref x0)] [] := by first | (simp [entryFrame, mkF, argsToLocals, Value.category]; done) | rfl
theorem d_jdk_67_method_42_0 : decode jdk_67_method_42_code 0 = .ok (.new 18, 3) := by decide +kernel
theorem d_jdk_67_method_42_3 : decode jdk_67_method_42_code 3 = .ok (.dup, 1) := by decide +kernel
theorem d_jdk_67_method_42_4 : decode jdk_67_method_42_code 4 = .ok (.aload_n 0, 1) := by decide +kernel
theorem d_jdk_67_method_42_5 : decode jdk_67_method_42_code 5 = .ok (.invokespecial 137, 3) := by decide +kernel
theorem pd__28_Ljava_2f_lang_2f_StringBuilder_3b__29_V : parseMethodDescriptor "(Ljava/lang/StringBuilder;)V" = some ⟨[(.object "java/lang/StringBuilder")], none⟩ := by decide +kernel
theorem d_jdk_67_method_42_8 : decode jdk_67_method_42_code 8 = .ok (.areturn, 1) := by decide +kernel
abbrev yn41 : MethodName := ⟨"java/lang/StringBuilder", "toString", "()Ljava/lang/String;"⟩
theorem ef_safe (m : MethodId) (x0 : Int32) : entryFrame m #[(.int x0)] 1 = mkF m 0 #[.val (.int x0)] [] := by first | (simp [entryFrame, mkF, argsToLocals, Value.category]; done) | rfl
theorem pn_com_example_patents_via_api_patentsviaapi_errors_UntrustedTextPrintablePinLaw : plainName "com/example/patents_via_api/patentsviaapi/errors/UntrustedTextPrintablePinLaw" = true := by first | (simp [plainName, overriddenIn]; done) | decide +kernel
theorem d_method_2_0 : decode method_2_code 0 = .ok (.iload_n 0, 1) := by decide +kernel
theorem d_method_2_1 : decode method_2_code 1 = .ok (.bipush 32, 2) := by decide +kernel
theorem d_method_2_3 : decode method_2_code 3 = .ok (.if_icmp .ge 6, 3) := by decide +kernel
theorem d_method_2_6 : decode method_2_code 6 = .ok (.bipush 63, 2) := by decide +kernel
theorem d_method_2_8 : decode method_2_code 8 = .ok (.ireturn, 1) := by decide +kernel
theorem d_method_2_9 : decode method_2_code 9 = .ok (.iload_n 0, 1) := by decide +kernel
theorem d_method_2_10 : decode method_2_code 10 = .ok (.bipush 126, 2) := by decide +kernel
theorem d_method_2_12 : decode method_2_code 12 = .ok (.if_icmp .le 6, 3) := by decide +kernel
theorem d_method_2_15 : decode method_2_code 15 = .ok (.bipush 63, 2) := by decide +kernel
theorem d_method_2_17 : decode method_2_code 17 = .ok (.ireturn, 1) := by decide +kernel
theorem d_method_2_18 : decode method_2_code 18 = .ok (.iload_n 0, 1) := by decide +kernel
theorem d_method_2_19 : decode method_2_code 19 = .ok (.ireturn, 1) := by decide +kernel
abbrev yn42 : MethodName := ⟨"com/example/patents_via_api/patentsviaapi/errors/UntrustedTextPrintablePinLaw", "safe", "(C)C"⟩
theorem ef_okay (m : MethodId) (x0 : Addr) (x1 : Int32) (x2 : Int32) (x3 : Int32) (x4 : Addr) : entryFrame m #[(.ref x0), (.int x1), (.int x2), (.int x3), (.ref x4)] 6 = mkF m 0 #[.val (.ref x0), .val (.int x1), .val (.int x2), .val (.int x3), .val (.ref x4), .unset] [] := by first | (simp [entryFrame, mkF, argsToLocals, Value.category]; done) | rfl
theorem d_method_3_0 : decode method_3_code 0 = .ok (.iload_n 1, 1) := by decide +kernel
theorem d_method_3_1 : decode method_3_code 1 = .ok (.iload_n 3, 1) := by decide +kernel
theorem d_method_3_2 : decode method_3_code 2 = .ok (.if_icmp .lt 5, 3) := by decide +kernel
theorem d_method_3_7 : decode method_3_code 7 = .ok (.iload_n 1, 1) := by decide +kernel
theorem d_method_3_8 : decode method_3_code 8 = .ok (.iload_n 2, 1) := by decide +kernel
theorem d_method_3_9 : decode method_3_code 9 = .ok (.if_icmp .ge 10, 3) := by decide +kernel
theorem d_method_3_12 : decode method_3_code 12 = .ok (.aload 4, 2) := by decide +kernel
theorem d_method_3_14 : decode method_3_code 14 = .ok (.iload_n 1, 1) := by decide +kernel
theorem d_method_3_15 : decode method_3_code 15 = .ok (.caload, 1) := by decide +kernel
theorem d_method_3_16 : decode method_3_code 16 = .ok (.goto 5, 3) := by decide +kernel
theorem d_method_3_21 : decode method_3_code 21 = .ok (.istore 5, 2) := by decide +kernel
theorem d_method_3_23 : decode method_3_code 23 = .ok (.aload_n 0, 1) := by decide +kernel
theorem d_method_3_24 : decode method_3_code 24 = .ok (.iload_n 1, 1) := by decide +kernel
theorem d_method_3_25 : decode method_3_code 25 = .ok (.invokevirtual 7, 3) := by decide +kernel
theorem pd__28_I_29_C : parseMethodDescriptor "(I)C" = some ⟨[.int], some .char⟩ := by decide +kernel
theorem d_method_3_28 : decode method_3_code 28 = .ok (.iload 5, 2) := by decide +kernel
theorem d_method_3_30 : decode method_3_code 30 = .ok (.if_icmp .ne 7, 3) := by decide +kernel
theorem d_method_3_33 : decode method_3_code 33 = .ok (.iconst 1, 1) := by decide +kernel
theorem d_method_3_34 : decode method_3_code 34 = .ok (.goto 4, 3) := by decide +kernel
theorem d_method_3_38 : decode method_3_code 38 = .ok (.ireturn, 1) := by decide +kernel
theorem d_method_3_19 : decode method_3_code 19 = .ok (.bipush 46, 2) := by decide +kernel
theorem d_method_3_5 : decode method_3_code 5 = .ok (.iconst 1, 1) := by decide +kernel
theorem d_method_3_6 : decode method_3_code 6 = .ok (.ireturn, 1) := by decide +kernel
abbrev yn43 : MethodName := ⟨"com/example/patents_via_api/patentsviaapi/errors/UntrustedTextPrintablePinLaw", "ok", "(Ljava/lang/String;III[C)Z"⟩
theorem d_prog_12_method_2_23 : decode prog_12_method_2_code 23 = .ok (.iload 4, 2) := by decide +kernel
theorem d_prog_12_method_2_25 : decode prog_12_method_2_code 25 = .ok (.iload_n 2, 1) := by decide +kernel
theorem d_prog_12_method_2_26 : decode prog_12_method_2_code 26 = .ok (.if_icmp .ge 43, 3) := by decide +kernel
theorem d_prog_12_method_2_29 : decode prog_12_method_2_code 29 = .ok (.aload_n 0, 1) := by decide +kernel
theorem d_prog_12_method_2_30 : decode prog_12_method_2_code 30 = .ok (.iload 4, 2) := by decide +kernel
theorem d_prog_12_method_2_32 : decode prog_12_method_2_code 32 = .ok (.invokevirtual 24, 3) := by decide +kernel
theorem d_prog_12_method_2_35 : decode prog_12_method_2_code 35 = .ok (.istore 5, 2) := by decide +kernel
theorem d_prog_12_method_2_37 : decode prog_12_method_2_code 37 = .ok (.aload_n 3, 1) := by decide +kernel
theorem d_prog_12_method_2_38 : decode prog_12_method_2_code 38 = .ok (.iload 5, 2) := by decide +kernel
theorem d_prog_12_method_2_40 : decode prog_12_method_2_code 40 = .ok (.bipush 32, 2) := by decide +kernel
theorem d_prog_12_method_2_42 : decode prog_12_method_2_code 42 = .ok (.if_icmp .lt 15, 3) := by decide +kernel
theorem d_prog_12_method_2_57 : decode prog_12_method_2_code 57 = .ok (.bipush 63, 2) := by decide +kernel
theorem d_prog_12_method_2_45 : decode prog_12_method_2_code 45 = .ok (.iload 5, 2) := by decide +kernel
theorem d_prog_12_method_2_47 : decode prog_12_method_2_code 47 = .ok (.bipush 126, 2) := by decide +kernel
theorem d_prog_12_method_2_49 : decode prog_12_method_2_code 49 = .ok (.if_icmp .gt 8, 3) := by decide +kernel
theorem d_prog_12_method_2_52 : decode prog_12_method_2_code 52 = .ok (.iload 5, 2) := by decide +kernel
theorem d_prog_12_method_2_54 : decode prog_12_method_2_code 54 = .ok (.goto 5, 3) := by decide +kernel
theorem d_prog_12_method_2_59 : decode prog_12_method_2_code 59 = .ok (.invokevirtual 28, 3) := by decide +kernel
theorem pd__28_C_29_Ljava_2f_lang_2f_StringBuilder_3b_ : parseMethodDescriptor "(C)Ljava/lang/StringBuilder;" = some ⟨[.char], some (.object "java/lang/StringBuilder")⟩ := by decide +kernel
theorem d_prog_12_method_2_62 : decode prog_12_method_2_code 62 = .ok (.pop, 1) := by decide +kernel
theorem d_prog_12_method_2_63 : decode prog_12_method_2_code 63 = .ok (.iinc 4 1, 3) := by decide +kernel
theorem d_prog_12_method_2_66 : decode prog_12_method_2_code 66 = .ok (.goto (-43), 3) := by decide +kernel
theorem ef_printable (m : MethodId) (x0 : Addr) (x1 : Int32) : entryFrame m #[(.ref x0), (.int x1)] 6 = mkF m 0 #[.val (.ref x0), .val (.int x1), .unset, .unset, .unset, .unset] [] := by first | (simp [entryFrame, mkF, argsToLocals, Value.category]; done) | rfl
theorem pn_com_example_patents_via_api_patentsviaapi_errors_UntrustedText : plainName "com/example/patents_via_api/patentsviaapi/errors/UntrustedText" = true := by first | (simp [plainName, overriddenIn]; done) | decide +kernel
theorem d_prog_12_method_2_0 : decode prog_12_method_2_code 0 = .ok (.aload_n 0, 1) := by decide +kernel
theorem d_prog_12_method_2_1 : decode prog_12_method_2_code 1 = .ok (.invokevirtual 7, 3) := by decide +kernel
theorem d_prog_12_method_2_4 : decode prog_12_method_2_code 4 = .ok (.iload_n 1, 1) := by decide +kernel
theorem d_prog_12_method_2_5 : decode prog_12_method_2_code 5 = .ok (.invokestatic 13, 3) := by decide +kernel
theorem d_prog_12_method_2_8 : decode prog_12_method_2_code 8 = .ok (.istore_n 2, 1) := by decide +kernel
theorem d_prog_12_method_2_9 : decode prog_12_method_2_code 9 = .ok (.new 19, 3) := by decide +kernel
theorem d_prog_12_method_2_12 : decode prog_12_method_2_code 12 = .ok (.dup, 1) := by decide +kernel
theorem d_prog_12_method_2_13 : decode prog_12_method_2_code 13 = .ok (.iload_n 2, 1) := by decide +kernel
theorem d_prog_12_method_2_14 : decode prog_12_method_2_code 14 = .ok (.iconst 3, 1) := by decide +kernel
theorem d_prog_12_method_2_15 : decode prog_12_method_2_code 15 = .ok (.iadd, 1) := by decide +kernel
theorem d_prog_12_method_2_16 : decode prog_12_method_2_code 16 = .ok (.invokespecial 21, 3) := by decide +kernel
theorem d_prog_12_method_2_19 : decode prog_12_method_2_code 19 = .ok (.astore_n 3, 1) := by decide +kernel
theorem d_prog_12_method_2_20 : decode prog_12_method_2_code 20 = .ok (.iconst 0, 1) := by decide +kernel
theorem d_prog_12_method_2_21 : decode prog_12_method_2_code 21 = .ok (.istore 4, 2) := by decide +kernel
theorem d_prog_12_method_2_69 : decode prog_12_method_2_code 69 = .ok (.aload_n 0, 1) := by decide +kernel
theorem d_prog_12_method_2_70 : decode prog_12_method_2_code 70 = .ok (.invokevirtual 7, 3) := by decide +kernel
theorem d_prog_12_method_2_73 : decode prog_12_method_2_code 73 = .ok (.iload_n 2, 1) := by decide +kernel
theorem d_prog_12_method_2_74 : decode prog_12_method_2_code 74 = .ok (.if_icmp .le 10, 3) := by decide +kernel
theorem d_prog_12_method_2_77 : decode prog_12_method_2_code 77 = .ok (.aload_n 3, 1) := by decide +kernel
theorem d_prog_12_method_2_78 : decode prog_12_method_2_code 78 = .ok (.ldc 32, 2) := by decide +kernel
theorem d_prog_12_method_2_80 : decode prog_12_method_2_code 80 = .ok (.invokevirtual 34, 3) := by decide +kernel
theorem pd__28_Ljava_2f_lang_2f_String_3b__29_Ljava_2f_lang_2f_StringBuilder_3b_ : parseMethodDescriptor "(Ljava/lang/String;)Ljava/lang/StringBuilder;" = some ⟨[(.object "java/lang/String")], some (.object "java/lang/StringBuilder")⟩ := by decide +kernel
theorem d_prog_12_method_2_83 : decode prog_12_method_2_code 83 = .ok (.pop, 1) := by decide +kernel
theorem d_prog_12_method_2_84 : decode prog_12_method_2_code 84 = .ok (.aload_n 3, 1) := by decide +kernel
theorem d_prog_12_method_2_85 : decode prog_12_method_2_code 85 = .ok (.invokevirtual 37, 3) := by decide +kernel
theorem pd__28__29_Ljava_2f_lang_2f_String_3b_ : parseMethodDescriptor "()Ljava/lang/String;" = some ⟨[], some (.object "java/lang/String")⟩ := by decide +kernel
theorem d_prog_12_method_2_88 : decode prog_12_method_2_code 88 = .ok (.areturn, 1) := by decide +kernel
abbrev yn44 : MethodName := ⟨"com/example/patents_via_api/patentsviaapi/errors/UntrustedText", "printable", "(Ljava/lang/String;I)Ljava/lang/String;"⟩
theorem ef_law (m : MethodId) (x0 : Int32) (x1 : Int32) (x2 : Int32) (x3 : Int32) : entryFrame m #[(.int x0), (.int x1), (.int x2), (.int x3)] maxLocals = mkF m 0 #[.val (.int x0), .val (.int x1), .val (.int x2), .val (.int x3), .unset, .unset, .unset, .unset, .unset, .unset, .unset, .unset, .unset, .unset, .unset, .unset] [] := by first | (simp [entryFrame, mkF, argsToLocals, Value.category, maxLocals]; done) | rfl
theorem pd__28_C_29_C : parseMethodDescriptor "(C)C" = some ⟨[.char], some .char⟩ := by decide +kernel
theorem pd__28__5b_C_29_V : parseMethodDescriptor "([C)V" = some ⟨[(.array .char)], none⟩ := by decide +kernel
theorem pd__28_Ljava_2f_lang_2f_String_3b_I_29_Ljava_2f_lang_2f_String_3b_ : parseMethodDescriptor "(Ljava/lang/String;I)Ljava/lang/String;" = some ⟨[(.object "java/lang/String"), .int], some (.object "java/lang/String")⟩ := by decide +kernel
theorem pd__28_Ljava_2f_lang_2f_String_3b_III_5b_C_29_Z : parseMethodDescriptor "(Ljava/lang/String;III[C)Z" = some ⟨[(.object "java/lang/String"), .int, .int, .int, (.array .char)], some .boolean⟩ := by decide +kernel
theorem own_wS {a0 : Array Value} {Z : State} (hw : HW a0 Z) : ∀ a ∈ Bundle.stringAtoms, a.before a0 Z = true := by
  intro d hd
  simp only [Bundle.stringAtoms, List.mem_cons, List.not_mem_nil, or_false] at hd
  rcases hd with rfl | rfl | rfl | rfl | rfl | rfl | rfl
  · exact (w9 hw)
  · exact (w8 hw)
  · exact (w25 hw)
  · exact (w35 hw)
  · exact (w33 hw)
  · exact (w120 hw)
  · exact (w121 hw)
theorem own_rw {s t : State} {o : Outcome} {L : List Loc} {k n k' n' : Nat} (h : ReturnedEndW s o t L k n) (hk : k ≤ k') (hn : n ≤ n') : ReturnedEndW s o t L k' n' := ⟨h.1, h.2.1, h.2.2.1, h.2.2.2.mono hk hn⟩
def EL_1 : List (String × Nat) := [("com/example/patents_via_api/patentsviaapi/errors/UntrustedText", 32), ("java/lang/String", 7)]
theorem own_EW {a0 : Array Value} {Z : State} (hw : HW a0 Z) : EW Z a0 EL_1 := (EW.cons (w119 hw) (by decide +kernel) (EW.cons (w223 hw) (by decide +kernel) EW.nil))
theorem own_held {tb : Tables} {e : Env} {args : Array Value} {s : State} (hc : call_1_1 tb e args s) : ∀ p ∈ EL_1, Jvm.Lit.constHeld s p.1 p.2 := fun p hp => hc p ((by decide +kernel : ∀ p ∈ EL_1, p ∈ consts_1) p hp)
theorem own_chr {Z s T : State} {EL : List (String × Nat)} {vm0 vm : Vm} {h0 H : Heap} (R : CHr Z EL vm0 h0 vm H) (A : CHr Z EL vm H T.vm H) (hs : h0 = s.heap) (eT : T.heap = H) : CHr Z EL vm0 s.heap T.vm T.heap := by subst hs eT; exact R.trans A
theorem own_inskeep {Z : State} {h h' : Heap} {a : Addr} {C : String} {ws : List Addr} (F : Ins Z h a C true) (K : Keep h h' ws) : Ins Z h' a C true := by
  obtain ⟨cell, cT, h1, h2, h3⟩ := F
  obtain ⟨c', q1, q2, q3, -⟩ := K.2.2 _ _ h1
  exact ⟨c', cT, q1, h2, by rw [q2, q3]; exact h3⟩
theorem own_safeS {Z : State} {EL : List (String × Nat)} {vm : Vm} {h : Heap} {x : Addr} (hal : Z.vm.Alike vm) (E : Exa Z h x "java/lang/String") (F : Fld Z h x "java/lang/String" "value" "[B" .null) : Safe Z EL vm h x := fun B => by
  obtain ⟨cell, k, e1, e2, e3, -, -⟩ := E
  obtain ⟨p, -, u, a, -, q, -, S, rfl | rfl⟩ := B
  · obtain ⟨c1, _, _, _, f0, g1, g2, -, -, -, -, g7⟩ := F
    cases (show h[q.sa]? = some q.sC from S.ha).symm.trans g1
    obtain ⟨cS, ⟨⟨-, -, -, ⟨c1', k1, i1, f1, -⟩, -, -, -, v1, -⟩, -⟩, -⟩ := S
    obtain ⟨k3, e3', -⟩ := State.fieldFound?_setVm (s := Z) hal g2
    have e4 := (show (Wst Z vm h).fieldFound? _ _ _ = _ from e3').symm.trans f1
    simp only [Option.some.injEq, Prod.mk.injEq] at e4
    rw [← e4.2.2.2, g7] at v1
    simp at v1
  · cases (show h[q.sd]? = some q.SA from S.hd).symm.trans e1
    obtain ⟨cS, -, -, f, -⟩ := S
    have f' : vm.findClass "[B" = some q.SA.cls := f
    rw [hal.findClass] at f'
    obtain ⟨k1, q1, q2⟩ := Vm.findClass_spec f'
    obtain ⟨k2, q3, q4⟩ := Vm.findClass_spec e2
    cases q1.symm.trans q3
    exact absurd (q2.symm.trans q4) (by decide)
theorem own_chv {s : State} {args : Array Value} {tb : Tables} {e : Env} (hw : ∀ d ∈ tables_1, d.before args s = true) (hc : call_1_1 tb e args s) (hcw : Jvm.Lit.compactW.before args s = true) : CHv s EL_1 s.vm s.heap := CHv.start (own_EW hw) (fun p hp => own_held hc p hp) hcw (w25 hw) (w8 hw)
/- numbers -/
theorem own_i {n : Nat} (h : n < 2147483648) : (Int32.ofNat n).toInt = n := len_toInt h
theorem own_lt {i n : Nat} (h : i < n) (hn : n < 2147483648) : Int32.ofNat i < Int32.ofNat n := by
  rw [Int32.lt_iff_toInt_lt, own_i (Nat.lt_trans h hn), own_i hn]; omega
theorem own_nlt {i n : Nat} (h : n ≤ i) (hi : i < 2147483648) : ¬ (Int32.ofNat i < Int32.ofNat n) := by
  rw [Int32.lt_iff_toInt_lt, own_i hi, own_i (Nat.lt_of_le_of_lt h hi)]; omega
theorem own_nneg {i : Nat} (hi : i < 2147483648) : ¬ (Int32.ofNat i < (0 : Int32)) := by
  rw [Int32.lt_iff_toInt_lt, own_i hi]; have : (0 : Int32).toInt = 0 := rfl; omega
theorem own_cl {i : Nat} (hi : i < 2147483648) : (Int32.ofNat i).toNatClampNeg = i := by
  have h := own_i hi; simp only [Int32.toNatClampNeg, h]; omega
theorem own_succ (i : Nat) : Int32.ofNat i + (1 : Int32) = Int32.ofNat (i + 1) := (Int32.ofNat_add i 1).symm
theorem own_shl1 {i : Nat} (hi : 2 * i < 2147483648) : (Int32.ofNat i <<< ((1 : Int32) &&& 31)) = Int32.ofNat (2 * i) := by
  apply Int32.toInt_inj.mp
  have h := c_ishl (Int32.ofNat i) 1 1 rfl
  have r := rng32 (Int32.ofNat i <<< ((1 : Int32) &&& 31))
  rw [own_i (by omega)] at h; rw [own_i hi]; omega
theorem own_shr1 {i : Nat} (hi : 2 * i < 2147483648) : (Int32.ofNat (2 * i) >>> ((1 : Int32) &&& 31)) = Int32.ofNat i := by
  apply Int32.toInt_inj.mp
  have h := c_ishr (Int32.ofNat (2 * i)) 1 1 rfl
  rw [own_i hi] at h; rw [own_i (by omega)]; omega
theorem own_narb (x : Int32) : nar .byte (x.toInt8.toInt32) = x.toInt8.toInt32 := by simp [nar]
/- strings -/
def lat (cs : List Int32) : Bool := cs.all fun c => decide (¬ (255 : Int32) < c)
def fl : List Int32 → Nat
  | [] => 0
  | c :: r => if (255 : Int32) < c then 0 else fl r + 1
def l1 (cs : List Int32) : List Value := cs.map fun c => .int (c.toInt8.toInt32)
def u16 : List Int32 → List Value
  | [] => []
  | c :: r => .int ((c >>> ((0 : Int32) &&& 31)).toInt8.toInt32) :: .int ((c >>> ((8 : Int32) &&& 31)).toInt8.toInt32) :: u16 r
def cdr (cs : List Int32) : Int32 := if lat cs = true then 0 else 1
def blen (cs : List Int32) : Nat := if lat cs = true then cs.length else 2 * cs.length
def enc (cs : List Int32) : List Value := if lat cs = true then l1 cs else u16 cs
def OkS (cs : List Int32) : Prop := (∀ c ∈ cs, ¬ (c < (0 : Int32)) ∧ ¬ ((65535 : Int32) < c)) ∧ cs.length < 1048576
theorem lat_cons (c : Int32) (r : List Int32) : lat (c :: r) = true ↔ ¬ (255 : Int32) < c ∧ lat r = true := by simp [lat]
theorem fl_le : ∀ cs : List Int32, fl cs ≤ cs.length
  | [] => Nat.le_refl _
  | c :: r => by
    show (if (255 : Int32) < c then 0 else fl r + 1) ≤ r.length + 1
    have := fl_le r; split <;> omega
theorem fl_lat : ∀ {cs : List Int32}, lat cs = true → fl cs = cs.length
  | [], _ => rfl
  | c :: r, h => by
    obtain ⟨h1, h2⟩ := (lat_cons c r).mp h
    show (if (255 : Int32) < c then 0 else fl r + 1) = r.length + 1
    rw [if_neg h1, fl_lat h2]
theorem fl_nlat : ∀ {cs : List Int32}, ¬ lat cs = true → fl cs < cs.length ∧ (255 : Int32) < cs.getD (fl cs) 0
  | [], h => absurd rfl h
  | c :: r, h => by
    by_cases q : (255 : Int32) < c
    · have e : fl (c :: r) = 0 := if_pos q
      rw [e]; exact ⟨Nat.succ_pos _, q⟩
    · have e : fl (c :: r) = fl r + 1 := if_neg q
      have := fl_nlat (cs := r) fun z => h ((lat_cons c r).mpr ⟨q, z⟩)
      rw [e]; exact ⟨Nat.succ_lt_succ this.1, by simpa using this.2⟩
theorem fl_ne {cs : List Int32} (h : fl cs = cs.length) : lat cs = true := by
  by_cases q : lat cs = true
  · exact q
  · exact absurd h (Nat.ne_of_lt (fl_nlat q).1)
theorem fl_app : ∀ {pre : List Int32} (suf : List Int32), lat pre = true → fl (pre ++ suf) = pre.length + fl suf
  | [], suf, _ => by simp
  | c :: r, suf, h => by
    obtain ⟨h1, h2⟩ := (lat_cons c r).mp h
    show (if (255 : Int32) < c then 0 else fl (r ++ suf) + 1) = r.length + 1 + fl suf
    rw [if_neg h1, fl_app suf h2]; omega
theorem lat_snoc {pre : List Int32} {c : Int32} (h : lat pre = true) (hc : ¬ (255 : Int32) < c) : lat (pre ++ [c]) = true := by
  simp only [lat, List.all_append, Bool.and_eq_true]; exact ⟨h, by simpa using hc⟩
theorem l1_snoc (pre : List Int32) (c : Int32) : l1 pre ++ [.int (c.toInt8.toInt32)] = l1 (pre ++ [c]) := by simp [l1]
theorem u16_app : ∀ (pre suf : List Int32), u16 (pre ++ suf) = u16 pre ++ u16 suf
  | [], _ => rfl
  | c :: r, suf => by show _ :: _ :: u16 (r ++ suf) = _ :: _ :: (u16 r ++ u16 suf); rw [u16_app r suf]
theorem u16_len : ∀ cs : List Int32, (u16 cs).length = 2 * cs.length
  | [] => rfl
  | c :: r => by show (u16 r).length + 1 + 1 = 2 * (r.length + 1); rw [u16_len r]; omega
theorem l1_len (cs : List Int32) : (l1 cs).length = cs.length := by simp [l1]
theorem u16_at : ∀ (cs : List Int32) (i : Nat) (d : Value), i < cs.length → (u16 cs).getD (2 * i) d = .int ((cs.getD i 0 >>> ((0 : Int32) &&& 31)).toInt8.toInt32) ∧ (u16 cs).getD (2 * i + 1) d = .int ((cs.getD i 0 >>> ((8 : Int32) &&& 31)).toInt8.toInt32)
  | [], i, _, h => absurd h (Nat.not_lt_zero _)
  | c :: r, 0, d, _ => ⟨rfl, rfl⟩
  | c :: r, i + 1, d, h => by
    have := u16_at r i d (Nat.lt_of_succ_lt_succ h)
    exact this
theorem l1_at (cs : List Int32) (i : Nat) (d : Value) (h : i < cs.length) : (l1 cs).getD i d = .int ((cs.getD i 0).toInt8.toInt32) := by
  simp [l1, List.getD, h]
theorem ch_at (cs : List Int32) (i : Nat) (d : Value) (h : i < cs.length) : (cs.map Value.int).getD i d = .int (cs.getD i 0) := by
  simp [List.getD, h]
theorem app_at (pre r : List Int32) (c d : Int32) : (pre ++ c :: r).getD pre.length d = c := by simp [List.getD]
theorem getD_mem {cs : List Int32} {i : Nat} (h : i < cs.length) : cs.getD i 0 ∈ cs := by simp [List.getD, h]
theorem OkS.at {cs : List Int32} (h : OkS cs) {i : Nat} (hi : i < cs.length) : ¬ (cs.getD i 0 < (0 : Int32)) ∧ ¬ ((65535 : Int32) < cs.getD i 0) := h.1 _ (getD_mem hi)
theorem own_rng {c : Int32} (h1 : ¬ (c < (0 : Int32))) (h2 : ¬ ((65535 : Int32) < c)) : 0 ≤ c.toInt ∧ c.toInt ≤ 65535 := by
  rw [Int32.lt_iff_toInt_lt] at h1 h2; have a : (0 : Int32).toInt = 0 := rfl; have b : (65535 : Int32).toInt = 65535 := rfl; omega
theorem own_narc {c : Int32} (h1 : ¬ (c < (0 : Int32))) (h2 : ¬ ((65535 : Int32) < c)) : nar .char c = c := by
  apply Int32.toInt_inj.mp
  have := own_rng h1 h2; have := c_i2c c; show (c.toUInt32.toUInt16.toUInt32.toInt32).toInt = _; omega
theorem own_l1c {c : Int32} (h1 : ¬ (c < (0 : Int32))) (h2 : ¬ ((255 : Int32) < c)) : nar .char ((c.toInt8.toInt32 &&& (255 : Int32)).toUInt32.toUInt16.toUInt32.toInt32) = c := by
  apply Int32.toInt_inj.mp
  rw [Int32.lt_iff_toInt_lt] at h1 h2; have a : (0 : Int32).toInt = 0 := rfl; have b : (255 : Int32).toInt = 255 := rfl
  have q1 := c_i2b c; have q2 := c_mask c.toInt8.toInt32 255 8 (by decide) rfl
  have q3 := c_i2c (c.toInt8.toInt32 &&& 255); have q4 := c_i2c ((c.toInt8.toInt32 &&& (255 : Int32)).toUInt32.toUInt16.toUInt32.toInt32)
  show (((c.toInt8.toInt32 &&& (255 : Int32)).toUInt32.toUInt16.toUInt32.toInt32).toUInt32.toUInt16.toUInt32.toInt32).toInt = _
  omega
theorem own_u16c {c : Int32} (h1 : ¬ (c < (0 : Int32))) (h2 : ¬ ((65535 : Int32) < c)) :
    nar .char ((((((c >>> ((0 : Int32) &&& 31)).toInt8.toInt32) &&& (255 : Int32)) <<< ((0 : Int32) &&& 31)) ||| ((((c >>> ((8 : Int32) &&& 31)).toInt8.toInt32) &&& (255 : Int32)) <<< ((8 : Int32) &&& 31))).toUInt32.toUInt16.toUInt32.toInt32) = c := by
  apply Int32.toInt_inj.mp
  have r := own_rng h1 h2
  have s0 := c_ishr c 0 0 rfl; have s8 := c_ishr c 8 8 rfl
  have b0 := c_i2b (c >>> ((0 : Int32) &&& 31)); have b8 := c_i2b (c >>> ((8 : Int32) &&& 31))
  have m0 := c_mask ((c >>> ((0 : Int32) &&& 31)).toInt8.toInt32) 255 8 (by decide) rfl; have m8 := c_mask ((c >>> ((8 : Int32) &&& 31)).toInt8.toInt32) 255 8 (by decide) rfl
  generalize (c >>> ((0 : Int32) &&& 31)).toInt8.toInt32 = x at *
  generalize (c >>> ((8 : Int32) &&& 31)).toInt8.toInt32 = y at *
  have l0 := c_ishl (x &&& 255) 0 0 rfl; have l8 := c_ishl (y &&& 255) 8 8 rfl
  generalize (x &&& (255 : Int32)) = x' at *
  generalize (y &&& (255 : Int32)) = y' at *
  have r0 := rng32 (x' <<< ((0 : Int32) &&& 31)); have r8 := rng32 (y' <<< ((8 : Int32) &&& 31))
  have o := c_or' (x' <<< ((0 : Int32) &&& 31)) (y' <<< ((8 : Int32) &&& 31)) 8 (by decide) 256 rfl
  have ro := rng32 ((x' <<< ((0 : Int32) &&& 31)) ||| (y' <<< ((8 : Int32) &&& 31)))
  generalize ((x' <<< ((0 : Int32) &&& 31)) ||| (y' <<< ((8 : Int32) &&& 31))) = w at *
  have q3 := c_i2c w; have q4 := c_i2c (w.toUInt32.toUInt16.toUInt32.toInt32)
  show ((w.toUInt32.toUInt16.toUInt32.toInt32).toUInt32.toUInt16.toUInt32.toInt32).toInt = _
  have o' := o (by omega) (by omega) (by omega)
  omega
theorem own_len {cs : List Int32} (h : cs.length < 1048576) : (Int32.ofNat (blen cs) >>> (cdr cs &&& 31)) = Int32.ofNat cs.length := by
  apply Int32.toInt_inj.mp
  by_cases q : lat cs = true
  · have := c_ishr (Int32.ofNat cs.length) 0 0 rfl
    simp only [blen, cdr, if_pos q]; rw [own_i (by omega)] at *; omega
  · have := c_ishr (Int32.ofNat (2 * cs.length)) 1 1 rfl
    simp only [blen, cdr, if_neg q]; rw [own_i (by omega)] at *; rw [this]; omega
theorem own_narcdr (cs : List Int32) : nar .byte (cdr cs) = cdr cs := by by_cases q : lat cs = true <;> simp only [cdr, q] <;> decide
theorem own_cdr {cs : List Int32} (h : cs.length < 1048576) : nar .byte ((((Int32.ofNat cs.length - Int32.ofNat (blen cs)).toUInt32 >>> ((31 : Int32) &&& 31).toUInt32).toInt32).toInt8.toInt32) = cdr cs := by
  by_cases q : lat cs = true
  · simp only [blen, cdr, if_pos q, Int32.sub_self]; decide
  · have n0 := (fl_nlat q).1
    simp only [blen, cdr, if_neg q]
    have e : ((Int32.ofNat cs.length - Int32.ofNat (2 * cs.length)).toUInt32 >>> ((31 : Int32) &&& 31).toUInt32).toInt32 = 1 := by
      apply Int32.toInt_inj.mp
      have s := c_isub (Int32.ofNat cs.length) (Int32.ofNat (2 * cs.length)); have r := rng32 (Int32.ofNat cs.length - Int32.ofNat (2 * cs.length))
      rw [own_i (by omega), own_i (by omega)] at s
      rw [c_iushr _ 31 31 rfl (by decide)]; have : (1 : Int32).toInt = 1 := rfl; omega
    rw [e]; decide
theorem cdr_lat {cs : List Int32} (h : cdr cs = (0 : Int32)) : lat cs = true := by
  by_cases q : lat cs = true
  · exact q
  · simp only [cdr, if_neg q] at h; exact absurd h (by decide)
theorem cdr_nlat {cs : List Int32} (h : ¬ cdr cs = (0 : Int32)) : ¬ lat cs = true := fun q => h (by simp only [cdr, if_pos q])
theorem Arv.push {Z : State} {h h' : Heap} {a : Addr} {c : Cell} {k : ClassId} {ty : FieldType} {z j : Int32} {vs : List Value} {dv v : Value} (A : Arr Z h a c ty) (q1 : c.cls = k) (S : c.slots.size = z.toNatClampNeg) (q3 : ¬ z < 0) (H : Has c vs dv) (G : ∀ i, i < c.slots.size → fits ty (vs.getD i dv) = true) (hv : fits ty v = true) (W : Wr h h' a j.toNatClampNeg v) (hj : j.toNatClampNeg = vs.length) : Arv Z h' a k ty z (vs ++ [v]) dv := by
  have F : Arv Z h a k ty z (vs ++ List.replicate 1 dv) dv := Arv.pad ⟨c, A, q1, S, q3, H, G⟩ (pad_rep vs dv 1)
  obtain ⟨c', A', r1, r2, r3, H', G'⟩ := F
  have R := Arv.set A' r1 r2 r3 H' G' hv W vs.length hj (by simp)
  have e : (vs ++ List.replicate 1 dv).set vs.length v = vs ++ [v] := by simp
  rw [e] at R; exact R
def Str (Z : State) (h : Heap) (a t : Addr) (kb : ClassId) (cs : List Int32) : Prop := Exa Z h a "java/lang/String" ∧ Fld Z h a "java/lang/String" "value" "[B" (.ref t) ∧ Fld Z h a "java/lang/String" "coder" "B" (.int (cdr cs)) ∧ Arv Z h t kb .byte (Int32.ofNat (blen cs)) (enc cs) (.int (0 : Int32)) ∧ OkS cs
theorem Str.keep {Z : State} {h h' : Heap} {a t : Addr} {kb : ClassId} {cs : List Int32} {ws : List Addr} (S : Str Z h a t kb cs) (K : Keep h h' ws) (q1 : a ∉ ws) (q2 : t ∉ ws) : Str Z h' a t kb cs := ⟨S.1.keep K, S.2.1.keep K q1, S.2.2.1.keep K q1, S.2.2.2.1.keep K q2, S.2.2.2.2⟩
theorem Str.ext {Z : State} {h h' : Heap} {a t : Addr} {kb : ClassId} {cs : List Int32} (S : Str Z h a t kb cs) (E : Ext h h') : Str Z h' a t kb cs := ⟨S.1.ext E, S.2.1.ext E, S.2.2.1.ext E, S.2.2.2.1.ext E, S.2.2.2.2⟩
theorem Str.lt {Z : State} {h : Heap} {a t : Addr} {kb : ClassId} {cs : List Int32} (S : Str Z h a t kb cs) : a < h.size := S.1.lt
theorem Str.lt2 {Z : State} {h : Heap} {a t : Addr} {kb : ClassId} {cs : List Int32} (S : Str Z h a t kb cs) : t < h.size := S.2.2.2.1.lt
theorem enc_lat {cs : List Int32} (h : lat cs = true) : enc cs = l1 cs ∧ blen cs = cs.length ∧ cdr cs = (0 : Int32) := ⟨if_pos h, if_pos h, if_pos h⟩
theorem enc_nlat {cs : List Int32} (h : ¬ lat cs = true) : enc cs = u16 cs ∧ blen cs = 2 * cs.length ∧ cdr cs = (1 : Int32) := ⟨if_neg h, if_neg h, if_neg h⟩
theorem lat_at {cs : List Int32} (h : lat cs = true) {i : Nat} (hi : i < cs.length) : ¬ ((255 : Int32) < cs.getD i 0) := by
  have := List.all_eq_true.mp h _ (getD_mem hi); simpa using this
theorem own_fitcdr (cs : List Int32) : fits .byte (.int (cdr cs)) = true := by by_cases q : lat cs = true <;> simp only [cdr, q] <;> decide
theorem own_zero {i : Nat} (hi : i < 2147483648) (h : Int32.ofNat i = (0 : Int32)) : i = 0 := by
  have q := congrArg Int32.toInt h; rw [own_i hi] at q; have z : (0 : Int32).toInt = 0 := rfl; omega
theorem own_neq {i n : Nat} (h : i ≠ n) (hi : i < 2147483648) (hn : n < 2147483648) : ¬ (Int32.ofNat i = Int32.ofNat n) := fun q => by
  have q := congrArg Int32.toInt q; rw [own_i hi, own_i hn] at q; omega
theorem own_sub {i n : Nat} (h : i ≤ n) (hn : n < 2147483648) : Int32.ofNat n - Int32.ofNat i = Int32.ofNat (n - i) := by
  apply Int32.toInt_inj.mp
  have s := c_isub (Int32.ofNat n) (Int32.ofNat i); have r := rng32 (Int32.ofNat n - Int32.ofNat i)
  rw [own_i hn, own_i (by omega)] at s; rw [own_i (by omega)]; omega
theorem own_min {i n : Nat} (h : i ≤ n) (hn : n < 2147483648) : (if Int32.ofNat i < Int32.ofNat n then Int32.ofNat i else Int32.ofNat n) = Int32.ofNat i := by
  by_cases q : i < n
  · rw [if_pos (own_lt q hn)]
  · rw [if_neg (own_nlt (by omega) (by omega))]; congr 1; omega
theorem own_or3 {i n N : Nat} (hi : i < 2147483648) (hn : n < 2147483648) (hN : N < 2147483648) : ¬ ((Int32.ofNat N ||| Int32.ofNat i) ||| Int32.ofNat n < (0 : Int32)) := by
  rw [Int32.lt_iff_toInt_lt]
  have a := (c_orS (Int32.ofNat N) (Int32.ofNat i)).1 (by rw [own_i hN]; omega) (by rw [own_i hi]; omega)
  have b := (c_orS (Int32.ofNat N ||| Int32.ofNat i) (Int32.ofNat n)).1 a (by rw [own_i hn]; omega)
  have z : (0 : Int32).toInt = 0 := rfl; omega
theorem own_slice (vs : List Value) (f n : Nat) (d : Value) (h : f + n ≤ vs.length) : (vs.drop f).take n = (List.range n).map fun i => vs.getD (f + i) d := by
  apply List.ext_getElem
  · simp; omega
  · intro i h1 h2
    simp at h1
    simp [List.getD, List.getElem?_eq_getElem (show f + i < vs.length by omega)]
theorem own_fill (us : List Value) (n : Nat) (h : us.length = n) : (List.replicate n (.int (0 : Int32)) : List Value).take 0 ++ us ++ (List.replicate n (.int (0 : Int32))).drop (0 + n) = us := by simp
theorem own_okdt {cs : List Int32} {bg n : Nat} (h : OkS cs) : OkS ((cs.drop bg).take n) := ⟨fun c hc => h.1 c (List.mem_of_mem_drop (List.mem_of_mem_take hc)), by have := h.2; simp; omega⟩
theorem own_dt {cs : List Int32} {bg n i : Nat} (h : bg + n ≤ cs.length) (hd : ((cs.drop bg).take n).length = n) (hi : i < ((cs.drop bg).take n).length) : ((cs.drop bg).take n).getD i 0 = cs.getD (bg + i) 0 := by
  rw [hd] at hi; simp [List.getD, List.getElem?_take, List.getElem?_drop, hi]
theorem l1_dt (cs : List Int32) (bg n : Nat) : ((l1 cs).drop bg).take n = l1 ((cs.drop bg).take n) := by simp [l1, List.map_take, List.map_drop]
theorem own_u16s (cs : List Int32) (bg n : Nat) : ((u16 cs).drop (2 * bg)).take (2 * n) = u16 ((cs.drop bg).take n) := by
  induction bg generalizing cs with
  | zero =>
    simp only [Nat.mul_zero, List.drop_zero]
    induction n generalizing cs with
    | zero => simp [u16]
    | succ n ih => cases cs with
      | nil => simp [u16]
      | cons c r => rw [show 2 * (n + 1) = 2 * n + 1 + 1 from by omega]; simp only [u16, List.take_succ_cons]; rw [ih]
  | succ b ih => cases cs with
    | nil => simp [u16]
    | cons c r => rw [show 2 * (b + 1) = 2 * b + 1 + 1 from by omega]; simp only [u16, List.drop_succ_cons]; exact ih r
theorem lat_dt {cs : List Int32} {bg n : Nat} (h : lat cs = true) : lat ((cs.drop bg).take n) = true := List.all_eq_true.mpr fun c hc => List.all_eq_true.mp h c (List.mem_of_mem_drop (List.mem_of_mem_take hc))
theorem own_mkL {Z : State} {h : Heap} {a t : Addr} {kb : ClassId} {cs : List Int32} {bg n : Nat} (hl : lat cs = true) (ok : OkS cs) (hn : bg + n ≤ cs.length) (E : Exa Z h a "java/lang/String") (V : Fld Z h a "java/lang/String" "value" "[B" (.ref t)) (C : Fld Z h a "java/lang/String" "coder" "B" (.int (0 : Int32))) (A : Arv Z h t kb .byte (Int32.ofNat (bg + n - bg)) (((l1 cs).drop bg).take (bg + n - bg)) (.int (0 : Int32))) : Str Z h a t kb ((cs.drop bg).take n) := by
  obtain ⟨e1, e2, e3⟩ := enc_lat (lat_dt (bg := bg) (n := n) hl)
  rw [show bg + n - bg = n from by omega, l1_dt] at A
  refine ⟨E, V, by rw [e3]; exact C, ?_, own_okdt ok⟩
  rw [e1, e2, show ((cs.drop bg).take n).length = n from by simp; omega]; exact A
def pr (c : Int32) : Int32 := if c < (32 : Int32) then (63 : Int32) else (if (126 : Int32) < c then (63 : Int32) else c)
theorem pr_rng (c : Int32) : ¬ (pr c < (32 : Int32)) ∧ ¬ ((126 : Int32) < pr c) := by
  unfold pr; split
  · decide
  · split
    · decide
    · exact ⟨by assumption, by assumption⟩
theorem pr_le (c : Int32) : ¬ ((255 : Int32) < pr c) := by
  have h := (pr_rng c).2; have a : (255 : Int32).toInt = 255 := rfl; have b : (126 : Int32).toInt = 126 := rfl
  rw [Int32.lt_iff_toInt_lt] at *; omega
theorem pr_ok (c : Int32) : ¬ (pr c < (0 : Int32)) ∧ ¬ ((65535 : Int32) < pr c) := by
  have h := pr_rng c; have a : (32 : Int32).toInt = 32 := rfl; have b : (126 : Int32).toInt = 126 := rfl; have z : (0 : Int32).toInt = 0 := rfl; have y : (65535 : Int32).toInt = 65535 := rfl
  rw [Int32.lt_iff_toInt_lt, Int32.lt_iff_toInt_lt] at *; omega
theorem own_narpr (c : Int32) : nar .char (pr c) = pr c := own_narc (pr_ok c).1 (pr_ok c).2
def pres (cs : List Int32) (k : Nat) : List Int32 := (cs.take k).map pr ++ (if k < cs.length then [46, 46, 46] else [])
theorem lat_pr (cs : List Int32) : lat (cs.map pr) = true := by
  simp only [lat, List.all_eq_true]; intro x hx; obtain ⟨c, -, rfl⟩ := List.mem_map.mp hx; simpa using pr_le c
theorem lat_app {a b : List Int32} (h1 : lat a = true) (h2 : lat b = true) : lat (a ++ b) = true := by simp only [lat, List.all_append, Bool.and_eq_true]; exact ⟨h1, h2⟩
theorem ok_pr {cs : List Int32} (h : cs.length < 1048576) : OkS (cs.map pr) := ⟨fun x hx => by obtain ⟨c, -, rfl⟩ := List.mem_map.mp hx; exact pr_ok c, by simpa using h⟩
theorem ok_dots {cs : List Int32} (h : OkS cs) (hl : cs.length ≤ 4) : OkS (cs ++ [46, 46, 46]) := ⟨fun x hx => by
  rcases List.mem_append.mp hx with q | q
  · exact h.1 x q
  · have : x = 46 := by simpa using q
    subst this; decide, by simp; omega⟩
theorem own_ltof {i n : Nat} (hi : i < 2147483648) (hn : n < 2147483648) (h : Int32.ofNat i < Int32.ofNat n) : i < n := by
  rw [Int32.lt_iff_toInt_lt, own_i hi, own_i hn] at h; omega
theorem pres_len {cs : List Int32} {k : Nat} (hk : k ≤ cs.length) : (pres cs k).length = k + (if k < cs.length then 3 else 0) := by
  unfold pres; by_cases q : k < cs.length
  · rw [if_pos q, if_pos q]; simp; omega
  · rw [if_neg q, if_neg q]; simp; omega
theorem pres_at {cs es : List Int32} {k p : Nat} (hk : k ≤ cs.length) (hes : ∀ i, i < cs.length → es.getD i 0 = pr (cs.getD i 0)) (hp : p < (pres cs k).length) : (pres cs k).getD p 0 = if p < k then es.getD p 0 else 46 := by
  have hl : ((cs.take k).map pr).length = k := by simp; omega
  by_cases q : p < k
  · rw [if_pos q, hes p (by omega)]; unfold pres
    simp [List.getD_eq_getElem?_getD, List.getElem?_append, q, show p < cs.length by omega, show p < min k cs.length by omega]
  · rw [if_neg q]; rw [pres_len hk] at hp
    by_cases r : k < cs.length
    · rw [if_pos r] at hp; unfold pres; rw [if_pos r, List.getD_eq_getElem?_getD, List.getElem?_append_right (by omega), hl]
      have : p - k = 0 ∨ p - k = 1 ∨ p - k = 2 := by omega
      rcases this with e | e | e <;> rw [e] <;> rfl
    · rw [if_neg r] at hp; omega
theorem own_kk (L : Nat) (mx : Int32) (h0 : ¬ (mx < (0 : Int32))) (hL : L < 1048576) : ∃ kk : Nat, kk ≤ L ∧ (if mx < Int32.ofNat L then mx else Int32.ofNat L) = Int32.ofNat kk ∧ (if Int32.ofNat L < mx then Int32.ofNat L else mx) = Int32.ofNat kk ∧ (mx < Int32.ofNat L ↔ kk < L) := by
  have z : (0 : Int32).toInt = 0 := rfl; have r := rng32 mx
  have h1 : 0 ≤ mx.toInt := by rw [Int32.lt_iff_toInt_lt] at h0; omega
  by_cases q : mx < Int32.ofNat L
  · have q' := q; rw [Int32.lt_iff_toInt_lt, own_i (by omega)] at q'
    have e : Int32.ofNat mx.toInt.toNat = mx := Int32.toInt_inj.mp (by rw [own_i (by omega)]; omega)
    refine ⟨mx.toInt.toNat, by omega, by rw [if_pos q, e], by rw [if_neg (by rw [Int32.lt_iff_toInt_lt, own_i (by omega)]; omega), e], ⟨fun _ => by omega, fun _ => q⟩⟩
  · have q' := q; rw [Int32.lt_iff_toInt_lt, own_i (by omega)] at q'
    refine ⟨L, Nat.le_refl _, by rw [if_neg q], ?_, ⟨fun z => absurd z q, fun z => absurd z (Nat.lt_irrefl _)⟩⟩
    by_cases w : Int32.ofNat L < mx
    · rw [if_pos w]
    · rw [if_neg w]; apply Int32.toInt_inj.mp; rw [Int32.lt_iff_toInt_lt, own_i (by omega)] at w; rw [own_i (by omega)]; omega
theorem own_want {cs : List Int32} {kk : Nat} {mx : Int32} (hk : kk ≤ cs.length) (hq : mx < Int32.ofNat cs.length ↔ kk < cs.length) : Int32.ofNat kk + (if (if mx < Int32.ofNat cs.length then (1 : Int32) else (0 : Int32)) = (0 : Int32) then (0 : Int32) else (3 : Int32)) = Int32.ofNat (pres cs kk).length := by
  rw [pres_len hk]
  by_cases q : mx < Int32.ofNat cs.length
  · rw [if_pos q, if_neg (by decide), if_pos (hq.mp q), Int32.ofNat_add]; rfl
  · rw [if_neg q, if_pos rfl, if_neg fun z => q (hq.mpr z)]; simp
theorem own_i2cr (y : Int32) : ¬ (y.toUInt32.toUInt16.toUInt32.toInt32 < (0 : Int32)) ∧ ¬ ((65535 : Int32) < y.toUInt32.toUInt16.toUInt32.toInt32) := by
  have := c_i2c y; have a : (0 : Int32).toInt = 0 := rfl; have b : (65535 : Int32).toInt = 65535 := rfl
  rw [Int32.lt_iff_toInt_lt, Int32.lt_iff_toInt_lt]; omega
theorem own_r5 (x : Int32) : (x &&& (2147483647 : Int32)) % (5 : Int32) = 0 ∨ (x &&& (2147483647 : Int32)) % (5 : Int32) = 1 ∨ (x &&& (2147483647 : Int32)) % (5 : Int32) = 2 ∨ (x &&& (2147483647 : Int32)) % (5 : Int32) = 3 ∨ (x &&& (2147483647 : Int32)) % (5 : Int32) = 4 := by
  have h1 := c_and x 2147483647 (by decide); have h2 := (c_irem (x &&& 2147483647) 5 5 rfl).1 h1.1
  have a : (0 : Int32).toInt = 0 := rfl; have b : (1 : Int32).toInt = 1 := rfl; have c : (2 : Int32).toInt = 2 := rfl; have d : (3 : Int32).toInt = 3 := rfl; have e : (4 : Int32).toInt = 4 := rfl
  simp only [← Int32.toInt_inj]; omega
theorem own_mx (m : Int32) : ¬ ((if m < (0 : Int32) then (m &&& (7 : Int32)) else m) < (0 : Int32)) := by
  by_cases q : m < (0 : Int32)
  · rw [if_pos q]; have := c_and m 7 (by decide); have a : (0 : Int32).toInt = 0 := rfl; rw [Int32.lt_iff_toInt_lt]; omega
  · rw [if_neg q]; exact q
theorem own_mapat (cs : List Int32) (i : Nat) (d : Value) (h : i < cs.length) : (cs.map fun q => Value.int q).getD i d = .int (cs.getD i 0) := by
  simp [List.getD_eq_getElem?_getD, h]
theorem tk_at {cs pre r : List Int32} {kk : Nat} {cc : Int32} (h : cs.take kk = pre ++ cc :: r) : pre.length < cs.length ∧ pre.length < kk ∧ cs.getD pre.length 0 = cc := by
  have hl := congrArg List.length h; simp at hl
  have ha := congrArg (fun l => l.getD pre.length 0) h; simp only [app_at] at ha
  refine ⟨by omega, by omega, ?_⟩
  rw [← ha]; simp [List.getD_eq_getElem?_getD, List.getElem?_take, show pre.length < kk by omega]
def Q_pcheck (Z : State) (j : Int32) (z : Int32) (fm : Value) (h0 : Heap) (n0 : Nat) (vQ_ : Option Value) (hQ_ : Heap) (LQ_ : List Loc) : Prop := vQ_ = some (.int j) ∧ Fr n0 LQ_ ∧ hQ_ = h0
set_option maxRecDepth 65536 in
set_option maxHeartbeats 40000000 in
theorem rm_pcheck (l : Launch) (Z : State) (a0 : Array Value) (hw : HW a0 Z) (ws : List Jvm.Cond) (j : Int32) (z : Int32) (fm : Value) (h0 : Heap) (n0 : Nat) (Z0 : n0 ≤ h0.size) (hfm : fm.isRef = true) (hj0 : ¬ (j < (0 : Int32))) (hj1 : j < z) :
    MetFree l yn0 (head1 (Jvm.Cond.code yn0 jdk_41_method_11_code 3 (some .int) :: ws) ({ frames := 0, cells := 0, slots := 0, locals := 0 } : Room)) (fun aQ_ UQ => aQ_ = #[(.int j), (.int z), fm] ∧ Z.Warmed39 UQ.vm ∧ UQ.heap = h0) (fun _ _ _ _ _ => True) (fun _ UQ oQ UQ' => ∃ vQ_ LQ_, oQ = .returned vQ_ ∧ Q_pcheck Z j z fm h0 n0 vQ_ UQ'.heap LQ_ ∧ FrameEnd UQ oQ UQ' LQ_ ({ frames := 0, cells := 0, slots := 0, locals := 0 } : Room).cells ({ frames := 0, cells := 0, slots := 0, locals := 0 } : Room).slots) := by
  refine MetFree.of_bodySF (plainFor_of_name pn_jdk_internal_util_Preconditions) hisR ?_
  intro p e s m args below meth cO s₁ Bd hml0 hP hK
  obtain ⟨rfl, hZ, hh⟩ := hP
  have hx := Bd.exec
  have hby := Bd.bytes
  have hml : cO.maxLocals = 3 := hml0
  have hown : s.vm.findClass "jdk/internal/util/Preconditions" = some m.cls := findClass_of_methodNamed Bd.named
  have hnm := (name_of_methodNamed Bd.named Bd.method).1
  have X0 : Stand p l e ({ frames := 0, cells := 0, slots := 0, locals := 0 } : Room) s m #[(.int j), (.int z), fm] below meth cO s₁ [] 0 0 := Stand.of_body Bd
  have e0 : s₁.heap = h0 := by rw [← hh, Bd.state]; rfl
  have N0 := Fr.nil n0
  have W0 : ∀ zQ, SS p e below s₁ m 0 #[.val (.int j), .val (.int z), .val fm] [] zQ → Steps p.tables e below (s₁.setTop (entryFrame m #[(.int j), (.int z), fm] 3)) zQ := fun tt kt => castTop (ef_pcheck m j z fm (XT.cat1 hfm)) kt
  have W101 : ∀ zQ, SS p e below s₁ m 17 #[.val (.int j), .val (.int z), .val fm] [(.int j)] zQ → Steps p.tables e below (s₁.setTop (entryFrame m #[(.int j), (.int z), fm] 3)) zQ := by
    intro tt kt
    refine W0 tt ?_
    refine XS.iloadN X0.here hx rfl (hb hby d_jdk_41_method_11_0) rfl ?_
    refine XS.ifNo X0.here hx rfl (hb hby d_jdk_41_method_11_1) rfl ((if0 _ _).trans (flt hj0).1) ?_
    refine XS.iloadN X0.here hx rfl (hb hby d_jdk_41_method_11_4) rfl ?_
    refine XS.iloadN X0.here hx rfl (hb hby d_jdk_41_method_11_5) rfl ?_
    refine XS.icmpYes X0.here hx rfl (pc0 := 6) (pc' := 16) rfl (hb hby d_jdk_41_method_11_6) rfl (tlt hj1).1 (by decide) (by decide) ?_
    refine XS.iloadN X0.here hx rfl (hb hby d_jdk_41_method_11_16) rfl ?_
    exact kt
  obtain ⟨fs, hr, hrun, hended, hW, hsame⟩ := X0.leave (v := some (.int j)) (fun h => by rw [Bd.returns] at h; cases h)
  refine ⟨_, _, W101 _ (retI X0 hx Bd.returns (hb hby d_jdk_41_method_11_17) hr), hrun, hended, _, _, rfl, ?_, ⟨_, rfl⟩, hW, hsame.mono (by decide) (by decide)⟩
  show Q_pcheck Z j z fm h0 n0 _ s₁.heap _
  rw [e0]
  exact ⟨rfl, N0, rfl⟩
def Q_scheck (Z : State) (j : Int32) (z : Int32) (fm : Value) (h0 : Heap) (n0 : Nat) (vQ_ : Option Value) (hQ_ : Heap) (LQ_ : List Loc) : Prop := vQ_ = none ∧ Fr n0 LQ_ ∧ hQ_ = h0
set_option maxRecDepth 65536 in
set_option maxHeartbeats 40000000 in
theorem rm_scheck (l : Launch) (Z : State) (a0 : Array Value) (hw : HW a0 Z) (ws : List Jvm.Cond) (j : Int32) (z : Int32) (fm : Value) (h0 : Heap) (n0 : Nat) (Z0 : n0 ≤ h0.size) (O0 : Old Z n0 h0) (S_fm : Sta Z Z.heap "jdk/internal/util/Preconditions" "SIOOBE_FORMATTER" "Ljava/util/function/BiFunction;" fm) (hfm : fm.isRef = true) (hj0 : ¬ (j < (0 : Int32))) (hj1 : j < z) :
    MetFree l yn1 (head1 (Jvm.Cond.code yn1 jdk_42_method_155_code 2 none :: ws) ({ frames := 1, cells := 0, slots := 0, locals := 14 } : Room)) (fun aQ_ UQ => aQ_ = #[(.int j), (.int z)] ∧ Z.Warmed39 UQ.vm ∧ UQ.heap = h0) (fun _ _ _ _ _ => True) (fun _ UQ oQ UQ' => ∃ vQ_ LQ_, oQ = .returned vQ_ ∧ Q_scheck Z j z fm h0 n0 vQ_ UQ'.heap LQ_ ∧ FrameEnd UQ oQ UQ' LQ_ ({ frames := 1, cells := 0, slots := 0, locals := 14 } : Room).cells ({ frames := 1, cells := 0, slots := 0, locals := 14 } : Room).slots) := by
  refine MetFree.of_bodySF (plainFor_of_name pn_java_lang_String) hisR ?_
  intro p e s m args below meth cO s₁ Bd hml0 hP hK
  obtain ⟨rfl, hZ, hh⟩ := hP
  have hx := Bd.exec
  have hby := Bd.bytes
  have hml : cO.maxLocals = 2 := hml0
  have hown : s.vm.findClass "java/lang/String" = some m.cls := findClass_of_methodNamed Bd.named
  have hnm := (name_of_methodNamed Bd.named Bd.method).1
  have X0 : Stand p l e ({ frames := 1, cells := 0, slots := 0, locals := 14 } : Room) s m #[(.int j), (.int z)] below meth cO s₁ [] 0 0 := Stand.of_body Bd
  have e0 : s₁.heap = h0 := by rw [← hh, Bd.state]; rfl
  have N0 := Fr.nil n0
  have W0 : ∀ zQ, SS p e below s₁ m 0 #[.val (.int j), .val (.int z)] [] zQ → Steps p.tables e below (s₁.setTop (entryFrame m #[(.int j), (.int z)] 2)) zQ := fun tt kt => castTop (ef_scheck m j z) kt
  have F102 : Sta Z h0 "jdk/internal/util/Preconditions" "SIOOBE_FORMATTER" "Ljava/util/function/BiFunction;" fm := S_fm.ext O0.2
  obtain ⟨T101, X101, e101, st101⟩ := getS2 X0 hx hZ hown (host := "") (Or.inl (w89 hw)) Via.refl e0 F102 (g := (mkF m 2 #[.val (.int j), .val (.int z)] [(.int z), (.int j)])) rfl (hb hby d_jdk_42_method_155_2)
  obtain ⟨_, _, ⟨T103, L103, k103, n103⟩, -, X103, ⟨Lc103, hQ103, l103, y103, z103⟩, st103⟩ := Jvm.LawKit.callS X101 hx (y := yn0) hown (mvT hZ (w91 hw)) (mvT hZ (w92 hw)) (mvT hZ (w90 hw)) (mvT hZ (w93 hw)) (by decide) (backOf (W := 0) (rm_pcheck l Z a0 hw [] j z fm h0 n0 Z0 hfm hj0 hj1) hZ (w93 hw) (w90 hw) (by decide) (by decide)) (g := (mkF m 5 #[.val (.int j), .val (.int z)] [fm, (.int z), (.int j)])) rfl (by rw [hml]; rfl) (argsL := [(.int j), (.int z), fm]) (rest := []) (lenOf pd__28_IILjava_2f_util_2f_function_2f_BiFunction_3b__29_I rfl) rfl (by show 2 * 0 + _ ≤ _; exact Nat.le_of_eq rfl) (hb hby d_jdk_42_method_155_5) (fun _ _ => ⟨rfl, e101, (Nat.le_of_ble_eq_true rfl), (Nat.le_of_ble_eq_true rfl)⟩)
  dsimp only [Pt.U, Pt.locs, Pt.cells, Pt.slots] at X103 l103 y103 z103 st103 hQ103
  subst l103 y103 z103
  obtain ⟨rfl, Nq103, eq103⟩ := hQ103
  have N103 := Fr.app N0 Nq103
  have W104 : ∀ zQ, SS p e below T103 m 9 #[.val (.int j), .val (.int z)] [] zQ → Steps p.tables e below (s₁.setTop (entryFrame m #[(.int j), (.int z)] 2)) zQ := by
    intro tt kt
    refine W0 tt ?_
    refine XS.iloadN X0.here hx rfl (hb hby d_jdk_42_method_155_0) rfl ?_
    refine XS.iloadN X0.here hx rfl (hb hby d_jdk_42_method_155_1) rfl ?_
    show SS p e below s₁ m 2 #[.val (.int j), .val (.int z)] [(.int z), (.int j)] _
    refine st101 _ ?_
    show SS p e below T101 m 5 #[.val (.int j), .val (.int z)] [fm, (.int z), (.int j)] _
    refine st103 _ ?_
    refine XS.pop X103.here hx rfl (hb hby d_jdk_42_method_155_8) rfl rfl ?_
    exact kt
  obtain ⟨fs, hr, hrun, hended, hW, hsame⟩ := X103.leave (v := none) (fun _ => rfl)
  refine ⟨_, _, W104 _ (X103.returnOut hx Bd.returns (hb hby d_jdk_42_method_155_9) hr), hrun, hended, _, _, rfl, ?_, ⟨_, rfl⟩, hW, hsame.mono (by decide) (by decide)⟩
  show Q_scheck Z j z fm h0 n0 _ T103.heap _
  rw [eq103]
  exact ⟨rfl, N103, rfl⟩
def Q_l1charAt (Z : State) (t : Addr) (i : Nat) (kb : ClassId) (cs : List Int32) (fm : Value) (h0 : Heap) (n0 : Nat) (vQ_ : Option Value) (hQ_ : Heap) (LQ_ : List Loc) : Prop := vQ_ = some (.int (cs.getD i 0)) ∧ Fr n0 LQ_ ∧ hQ_ = h0
set_option maxRecDepth 65536 in
set_option maxHeartbeats 40000000 in
theorem rm_l1charAt (l : Launch) (Z : State) (a0 : Array Value) (hw : HW a0 Z) (ws : List Jvm.Cond) (t : Addr) (i : Nat) (kb : ClassId) (cs : List Int32) (fm : Value) (h0 : Heap) (n0 : Nat) (Z0 : n0 ≤ h0.size) (O0 : Old Z n0 h0) (S_fm : Sta Z Z.heap "jdk/internal/util/Preconditions" "SIOOBE_FORMATTER" "Ljava/util/function/BiFunction;" fm) (hfm : fm.isRef = true) (A1 : Arv Z h0 t kb .byte (Int32.ofNat cs.length) (l1 cs) (.int (0 : Int32))) (hi : i < cs.length) (ok : OkS cs) (hl : lat cs = true) :
    MetFree l yn2 (head1 (Jvm.Cond.code yn2 jdk_43_method_2_code 2 (some .char) :: ws) ({ frames := 2, cells := 0, slots := 0, locals := 27 } : Room)) (fun aQ_ UQ => aQ_ = #[(.ref t), (.int (Int32.ofNat i))] ∧ Z.Warmed39 UQ.vm ∧ UQ.heap = h0) (fun _ _ _ _ _ => True) (fun _ UQ oQ UQ' => ∃ vQ_ LQ_, oQ = .returned vQ_ ∧ Q_l1charAt Z t i kb cs fm h0 n0 vQ_ UQ'.heap LQ_ ∧ FrameEnd UQ oQ UQ' LQ_ ({ frames := 2, cells := 0, slots := 0, locals := 27 } : Room).cells ({ frames := 2, cells := 0, slots := 0, locals := 27 } : Room).slots) := by
  refine MetFree.of_bodySF (plainFor_of_name pn_java_lang_StringLatin1) hisR ?_
  intro p e s m args below meth cO s₁ Bd hml0 hP hK
  obtain ⟨rfl, hZ, hh⟩ := hP
  have hx := Bd.exec
  have hby := Bd.bytes
  have hml : cO.maxLocals = 2 := hml0
  have hown : s.vm.findClass "java/lang/StringLatin1" = some m.cls := findClass_of_methodNamed Bd.named
  have hnm := (name_of_methodNamed Bd.named Bd.method).1
  have X0 : Stand p l e ({ frames := 2, cells := 0, slots := 0, locals := 27 } : Room) s m #[(.ref t), (.int (Int32.ofNat i))] below meth cO s₁ [] 0 0 := Stand.of_body Bd
  have e0 : s₁.heap = h0 := by rw [← hh, Bd.state]; rfl
  have N0 := Fr.nil n0
  have W0 : ∀ zQ, SS p e below s₁ m 0 #[.val (.ref t), .val (.int (Int32.ofNat i))] [] zQ → Steps p.tables e below (s₁.setTop (entryFrame m #[(.ref t), (.int (Int32.ofNat i))] 2)) zQ := fun tt kt => castTop (ef_l1charAt m t (Int32.ofNat i)) kt
  obtain ⟨cl101, Ar101, -, S101, M101, -, -⟩ := id A1
  obtain ⟨_, _, ⟨T102, L102, k102, n102⟩, -, X102, ⟨Lc102, hQ102, l102, y102, z102⟩, st102⟩ := Jvm.LawKit.callS X0 hx (y := yn1) hown (mvT hZ (w86 hw)) (mvT hZ (w87 hw)) (mvT hZ (w9 hw)) (mvT hZ (w88 hw)) (by decide) (backOf (W := 0) (rm_scheck l Z a0 hw [] (Int32.ofNat i) (Int32.ofNat cs.length) fm h0 n0 Z0 O0 S_fm hfm (own_nneg (Nat.lt_trans hi (Nat.lt_trans ok.2 (by decide)))) (own_lt hi (Nat.lt_trans ok.2 (by decide)))) hZ (w88 hw) (w9 hw) (by decide) (by decide)) (g := (mkF m 3 #[.val (.ref t), .val (.int (Int32.ofNat i))] [(.int (Int32.ofNat cs.length)), (.int (Int32.ofNat i))])) rfl (by rw [hml]; rfl) (argsL := [(.int (Int32.ofNat i)), (.int (Int32.ofNat cs.length))]) (rest := []) (lenOf pd__28_II_29_V rfl) rfl (by show 2 * 0 + _ ≤ _; exact Nat.le_of_eq rfl) (hb hby d_jdk_43_method_2_3) (fun _ _ => ⟨rfl, e0, (Nat.le_of_ble_eq_true rfl), (Nat.le_of_ble_eq_true rfl)⟩)
  dsimp only [Pt.U, Pt.locs, Pt.cells, Pt.slots] at X102 l102 y102 z102 st102 hQ102
  subst l102 y102 z102
  obtain ⟨rfl, Nq102, eq102⟩ := hQ102
  have N102 := Fr.app N0 Nq102
  obtain ⟨cl103, Ar103, q103, S103, M103, H103, F103g⟩ := id A1
  have hin103 : ¬ ((Int32.ofNat i) < 0 ∨ cl103.slots.size ≤ ((Int32.ofNat i)).toNatClampNeg) := inb_of S103 ⟨own_nneg (Nat.lt_trans hi (Nat.lt_trans ok.2 (by decide))), own_lt hi (Nat.lt_trans ok.2 (by decide))⟩
  have hat103 : cl103.slots[((Int32.ofNat i)).toNatClampNeg]? = some (.int ((cs.getD i 0).toInt8.toInt32)) := Has.at H103 hin103 (by rw [own_cl (Nat.lt_trans hi (Nat.lt_trans ok.2 (by decide)))]; exact l1_at cs i _ hi)
  have W104 : ∀ zQ, SS p e below T102 m 14 #[.val (.ref t), .val (.int (Int32.ofNat i))] [(.int ((((cs.getD i 0).toInt8.toInt32) &&& (255 : Int32)).toUInt32.toUInt16.toUInt32.toInt32))] zQ → Steps p.tables e below (s₁.setTop (entryFrame m #[(.ref t), (.int (Int32.ofNat i))] 2)) zQ := by
    intro tt kt
    refine W0 tt ?_
    refine XS.iloadN X0.here hx rfl (hb hby d_jdk_43_method_2_0) rfl ?_
    refine XS.aloadN X0.here hx rfl (hb hby d_jdk_43_method_2_1) rfl rfl ?_
    show SS p e below s₁ m 2 #[.val (.ref t), .val (.int (Int32.ofNat i))] [(.ref t), (.int (Int32.ofNat i))] _
    refine X0.arraylength hx (by first | exact Ar101.1 | (rw [e0]; exact Ar101.1)) (State.isArrayOf_alike hZ.alike Ar101.2.1) (g := (mkF m 2 #[.val (.ref t), .val (.int (Int32.ofNat i))] [(.ref t), (.int (Int32.ofNat i))])) rfl rfl (hb hby d_jdk_43_method_2_2) _ ?_
    rw [len_of S101 M101]
    show SS p e below s₁ m 3 #[.val (.ref t), .val (.int (Int32.ofNat i))] [(.int (Int32.ofNat cs.length)), (.int (Int32.ofNat i))] _
    refine st102 _ ?_
    refine XS.aloadN X102.here hx rfl (hb hby d_jdk_43_method_2_6) rfl rfl ?_
    refine XS.iloadN X102.here hx rfl (hb hby d_jdk_43_method_2_7) rfl ?_
    show SS p e below T102 m 8 #[.val (.ref t), .val (.int (Int32.ofNat i))] [(.int (Int32.ofNat i)), (.ref t)] _
    refine X102.baloadBytes hx (j := (Int32.ofNat i)) (v := (.int ((cs.getD i 0).toInt8.toInt32))) (by first | exact Ar103.1 | (rw [eq102]; exact Ar103.1)) (State.isArrayOf_alike hZ.alike Ar103.2.1) Ar103.2.2 hin103 hat103 (g := (mkF m 8 #[.val (.ref t), .val (.int (Int32.ofNat i))] [(.int (Int32.ofNat i)), (.ref t)])) rfl rfl (hb hby d_jdk_43_method_2_8) _ ?_
    refine XS.sipush X102.here hx rfl (hb hby d_jdk_43_method_2_9) ?_
    refine XS.iand X102.here hx rfl (hb hby d_jdk_43_method_2_12) rfl ?_
    refine XS.i2c X102.here hx rfl (hb hby d_jdk_43_method_2_13) rfl ?_
    exact kt
  obtain ⟨fs, hr, hrun, hended, hW, hsame⟩ := X102.leave (v := some (.int (nar .char ((((cs.getD i 0).toInt8.toInt32) &&& (255 : Int32)).toUInt32.toUInt16.toUInt32.toInt32)))) (fun h => by rw [Bd.returns] at h; cases h)
  refine ⟨_, _, W104 _ (retN X102 hx (t := .char) Bd.returns (by simp) (hb hby d_jdk_43_method_2_14) hr), hrun, hended, _, _, rfl, ?_, ⟨_, rfl⟩, hW, hsame.mono (by decide) (by decide)⟩
  show Q_l1charAt Z t i kb cs fm h0 n0 _ T102.heap _
  rw [eq102]
  exact ⟨(congrArg (fun q => some (Value.int q)) (own_l1c (ok.at hi).1 (lat_at hl hi))), N102, rfl⟩
def Q_u16length (Z : State) (t : Addr) (N : Nat) (kb : ClassId) (vs : List Value) (h0 : Heap) (n0 : Nat) (vQ_ : Option Value) (hQ_ : Heap) (LQ_ : List Loc) : Prop := vQ_ = some (.int (Int32.ofNat N)) ∧ Fr n0 LQ_ ∧ hQ_ = h0
set_option maxRecDepth 65536 in
set_option maxHeartbeats 40000000 in
theorem rm_u16length (l : Launch) (Z : State) (a0 : Array Value) (hw : HW a0 Z) (ws : List Jvm.Cond) (t : Addr) (N : Nat) (kb : ClassId) (vs : List Value) (h0 : Heap) (n0 : Nat) (Z0 : n0 ≤ h0.size) (A1 : Arv Z h0 t kb .byte (Int32.ofNat (2 * N)) vs (.int (0 : Int32))) (hN : 2 * N < 2147483648) :
    MetFree l yn3 (head1 (Jvm.Cond.code yn3 jdk_52_method_6_code 1 (some .int) :: ws) ({ frames := 0, cells := 0, slots := 0, locals := 0 } : Room)) (fun aQ_ UQ => aQ_ = #[(.ref t)] ∧ Z.Warmed39 UQ.vm ∧ UQ.heap = h0) (fun _ _ _ _ _ => True) (fun _ UQ oQ UQ' => ∃ vQ_ LQ_, oQ = .returned vQ_ ∧ Q_u16length Z t N kb vs h0 n0 vQ_ UQ'.heap LQ_ ∧ FrameEnd UQ oQ UQ' LQ_ ({ frames := 0, cells := 0, slots := 0, locals := 0 } : Room).cells ({ frames := 0, cells := 0, slots := 0, locals := 0 } : Room).slots) := by
  refine MetFree.of_bodySF (plainFor_of_name pn_java_lang_StringUTF16) hisR ?_
  intro p e s m args below meth cO s₁ Bd hml0 hP hK
  obtain ⟨rfl, hZ, hh⟩ := hP
  have hx := Bd.exec
  have hby := Bd.bytes
  have hml : cO.maxLocals = 1 := hml0
  have hown : s.vm.findClass "java/lang/StringUTF16" = some m.cls := findClass_of_methodNamed Bd.named
  have hnm := (name_of_methodNamed Bd.named Bd.method).1
  have X0 : Stand p l e ({ frames := 0, cells := 0, slots := 0, locals := 0 } : Room) s m #[(.ref t)] below meth cO s₁ [] 0 0 := Stand.of_body Bd
  have e0 : s₁.heap = h0 := by rw [← hh, Bd.state]; rfl
  have N0 := Fr.nil n0
  have W0 : ∀ zQ, SS p e below s₁ m 0 #[.val (.ref t)] [] zQ → Steps p.tables e below (s₁.setTop (entryFrame m #[(.ref t)] 1)) zQ := fun tt kt => castTop (ef_u16length m t) kt
  obtain ⟨cl101, Ar101, -, S101, M101, -, -⟩ := id A1
  have W102 : ∀ zQ, SS p e below s₁ m 4 #[.val (.ref t)] [(.int (Int32.ofNat N))] zQ → Steps p.tables e below (s₁.setTop (entryFrame m #[(.ref t)] 1)) zQ := by
    intro tt kt
    refine W0 tt ?_
    refine XS.aloadN X0.here hx rfl (hb hby d_jdk_52_method_6_0) rfl rfl ?_
    show SS p e below s₁ m 1 #[.val (.ref t)] [(.ref t)] _
    refine X0.arraylength hx (by first | exact Ar101.1 | (rw [e0]; exact Ar101.1)) (State.isArrayOf_alike hZ.alike Ar101.2.1) (g := (mkF m 1 #[.val (.ref t)] [(.ref t)])) rfl rfl (hb hby d_jdk_52_method_6_1) _ ?_
    rw [len_of S101 M101]
    refine XS.iconst X0.here hx rfl (hb hby d_jdk_52_method_6_2) ?_
    refine XS.ishr X0.here hx rfl (hb hby d_jdk_52_method_6_3) rfl ?_
    show SS p e below s₁ m 4 #[.val (.ref t)] [(.int ((Int32.ofNat (2 * N)) >>> ((1 : Int32) &&& 31)))] _
    rw [show ((Int32.ofNat (2 * N)) >>> ((1 : Int32) &&& 31)) = (Int32.ofNat N) from own_shr1 hN]
    exact kt
  obtain ⟨fs, hr, hrun, hended, hW, hsame⟩ := X0.leave (v := some (.int (Int32.ofNat N))) (fun h => by rw [Bd.returns] at h; cases h)
  refine ⟨_, _, W102 _ (retI X0 hx Bd.returns (hb hby d_jdk_52_method_6_4) hr), hrun, hended, _, _, rfl, ?_, ⟨_, rfl⟩, hW, hsame.mono (by decide) (by decide)⟩
  show Q_u16length Z t N kb vs h0 n0 _ s₁.heap _
  rw [e0]
  exact ⟨rfl, N0, rfl⟩
def Q_u16check (Z : State) (t : Addr) (i : Nat) (N : Nat) (kb : ClassId) (vs : List Value) (fm : Value) (h0 : Heap) (n0 : Nat) (vQ_ : Option Value) (hQ_ : Heap) (LQ_ : List Loc) : Prop := vQ_ = none ∧ Fr n0 LQ_ ∧ hQ_ = h0
set_option maxRecDepth 65536 in
set_option maxHeartbeats 40000000 in
theorem rm_u16check (l : Launch) (Z : State) (a0 : Array Value) (hw : HW a0 Z) (ws : List Jvm.Cond) (t : Addr) (i : Nat) (N : Nat) (kb : ClassId) (vs : List Value) (fm : Value) (h0 : Heap) (n0 : Nat) (Z0 : n0 ≤ h0.size) (O0 : Old Z n0 h0) (S_fm : Sta Z Z.heap "jdk/internal/util/Preconditions" "SIOOBE_FORMATTER" "Ljava/util/function/BiFunction;" fm) (hfm : fm.isRef = true) (A1 : Arv Z h0 t kb .byte (Int32.ofNat (2 * N)) vs (.int (0 : Int32))) (hN : 2 * N < 2147483648) (hi : i < N) :
    MetFree l yn4 (head1 (Jvm.Cond.code yn4 jdk_52_method_91_code 2 none :: ws) ({ frames := 2, cells := 0, slots := 0, locals := 27 } : Room)) (fun aQ_ UQ => aQ_ = #[(.int (Int32.ofNat i)), (.ref t)] ∧ Z.Warmed39 UQ.vm ∧ UQ.heap = h0) (fun _ _ _ _ _ => True) (fun _ UQ oQ UQ' => ∃ vQ_ LQ_, oQ = .returned vQ_ ∧ Q_u16check Z t i N kb vs fm h0 n0 vQ_ UQ'.heap LQ_ ∧ FrameEnd UQ oQ UQ' LQ_ ({ frames := 2, cells := 0, slots := 0, locals := 27 } : Room).cells ({ frames := 2, cells := 0, slots := 0, locals := 27 } : Room).slots) := by
  refine MetFree.of_bodySF (plainFor_of_name pn_java_lang_StringUTF16) hisR ?_
  intro p e s m args below meth cO s₁ Bd hml0 hP hK
  obtain ⟨rfl, hZ, hh⟩ := hP
  have hx := Bd.exec
  have hby := Bd.bytes
  have hml : cO.maxLocals = 2 := hml0
  have hown : s.vm.findClass "java/lang/StringUTF16" = some m.cls := findClass_of_methodNamed Bd.named
  have hnm := (name_of_methodNamed Bd.named Bd.method).1
  have X0 : Stand p l e ({ frames := 2, cells := 0, slots := 0, locals := 27 } : Room) s m #[(.int (Int32.ofNat i)), (.ref t)] below meth cO s₁ [] 0 0 := Stand.of_body Bd
  have e0 : s₁.heap = h0 := by rw [← hh, Bd.state]; rfl
  have N0 := Fr.nil n0
  have W0 : ∀ zQ, SS p e below s₁ m 0 #[.val (.int (Int32.ofNat i)), .val (.ref t)] [] zQ → Steps p.tables e below (s₁.setTop (entryFrame m #[(.int (Int32.ofNat i)), (.ref t)] 2)) zQ := fun tt kt => castTop (ef_u16check m (Int32.ofNat i) t) kt
  obtain ⟨_, _, ⟨T101, L101, k101, n101⟩, -, X101, ⟨Lc101, hQ101, l101, y101, z101⟩, st101⟩ := Jvm.LawKit.callS X0 hx (y := yn3) hown (mvT hZ (w230 hw)) (mvT hZ (w231 hw)) (mvT hZ (w23 hw)) (mvT hZ (w232 hw)) (by decide) (backOf (W := 1) (rm_u16length l Z a0 hw [] t N kb vs h0 n0 Z0 A1 hN) hZ (w232 hw) (w23 hw) (by decide) (by decide)) (g := (mkF m 2 #[.val (.int (Int32.ofNat i)), .val (.ref t)] [(.ref t), (.int (Int32.ofNat i))])) rfl (by rw [hml]; rfl) (argsL := [(.ref t)]) (rest := [(.int (Int32.ofNat i))]) (lenOf pd__28__5b_B_29_I rfl) rfl (by show 2 * 0 + _ ≤ _; exact Nat.le_of_eq rfl) (hb hby d_jdk_52_method_91_2) (fun _ _ => ⟨rfl, e0, (Nat.le_of_ble_eq_true rfl), (Nat.le_of_ble_eq_true rfl)⟩)
  dsimp only [Pt.U, Pt.locs, Pt.cells, Pt.slots] at X101 l101 y101 z101 st101 hQ101
  subst l101 y101 z101
  obtain ⟨rfl, Nq101, eq101⟩ := hQ101
  have N101 := Fr.app N0 Nq101
  obtain ⟨_, _, ⟨T102, L102, k102, n102⟩, -, X102, ⟨Lc102, hQ102, l102, y102, z102⟩, st102⟩ := Jvm.LawKit.callS X101 hx (y := yn1) hown (mvT hZ (w233 hw)) (mvT hZ (w87 hw)) (mvT hZ (w9 hw)) (mvT hZ (w88 hw)) (by decide) (backOf (W := 0) (rm_scheck l Z a0 hw [] (Int32.ofNat i) (Int32.ofNat N) fm h0 n0 Z0 O0 S_fm hfm (own_nneg (by omega)) (own_lt hi (by omega))) hZ (w88 hw) (w9 hw) (by decide) (by decide)) (g := (mkF m 5 #[.val (.int (Int32.ofNat i)), .val (.ref t)] [(.int (Int32.ofNat N)), (.int (Int32.ofNat i))])) rfl (by rw [hml]; rfl) (argsL := [(.int (Int32.ofNat i)), (.int (Int32.ofNat N))]) (rest := []) (lenOf pd__28_II_29_V rfl) rfl (by show 2 * 0 + _ ≤ _; exact Nat.le_of_eq rfl) (hb hby d_jdk_52_method_91_5) (fun _ _ => ⟨rfl, eq101, (Nat.le_of_ble_eq_true rfl), (Nat.le_of_ble_eq_true rfl)⟩)
  dsimp only [Pt.U, Pt.locs, Pt.cells, Pt.slots] at X102 l102 y102 z102 st102 hQ102
  subst l102 y102 z102
  obtain ⟨rfl, Nq102, eq102⟩ := hQ102
  have N102 := Fr.app N101 Nq102
  have W103 : ∀ zQ, SS p e below T102 m 8 #[.val (.int (Int32.ofNat i)), .val (.ref t)] [] zQ → Steps p.tables e below (s₁.setTop (entryFrame m #[(.int (Int32.ofNat i)), (.ref t)] 2)) zQ := by
    intro tt kt
    refine W0 tt ?_
    refine XS.iloadN X0.here hx rfl (hb hby d_jdk_52_method_91_0) rfl ?_
    refine XS.aloadN X0.here hx rfl (hb hby d_jdk_52_method_91_1) rfl rfl ?_
    show SS p e below s₁ m 2 #[.val (.int (Int32.ofNat i)), .val (.ref t)] [(.ref t), (.int (Int32.ofNat i))] _
    refine st101 _ ?_
    show SS p e below T101 m 5 #[.val (.int (Int32.ofNat i)), .val (.ref t)] [(.int (Int32.ofNat N)), (.int (Int32.ofNat i))] _
    refine st102 _ ?_
    exact kt
  obtain ⟨fs, hr, hrun, hended, hW, hsame⟩ := X102.leave (v := none) (fun _ => rfl)
  refine ⟨_, _, W103 _ (X102.returnOut hx Bd.returns (hb hby d_jdk_52_method_91_8) hr), hrun, hended, _, _, rfl, ?_, ⟨_, rfl⟩, hW, hsame.mono (by decide) (by decide)⟩
  show Q_u16check Z t i N kb vs fm h0 n0 _ T102.heap _
  rw [eq102]
  exact ⟨rfl, N102, rfl⟩
def Q_getChar (Z : State) (t : Addr) (i : Nat) (kb : ClassId) (cs : List Int32) (h0 : Heap) (n0 : Nat) (vQ_ : Option Value) (hQ_ : Heap) (LQ_ : List Loc) : Prop := vQ_ = some (.int (cs.getD i 0)) ∧ Fr n0 LQ_ ∧ hQ_ = h0
set_option maxRecDepth 65536 in
set_option maxHeartbeats 40000000 in
theorem rm_getChar (l : Launch) (Z : State) (a0 : Array Value) (hw : HW a0 Z) (ws : List Jvm.Cond) (t : Addr) (i : Nat) (kb : ClassId) (cs : List Int32) (h0 : Heap) (n0 : Nat) (Z0 : n0 ≤ h0.size) (O0 : Old Z n0 h0) (S_ad : Sta Z Z.heap "java/lang/StringUTF16" "$assertionsDisabled" "Z" (.int (1 : Int32))) (S_hi : Sta Z Z.heap "java/lang/StringUTF16" "HI_BYTE_SHIFT" "I" (.int (0 : Int32))) (S_lo : Sta Z Z.heap "java/lang/StringUTF16" "LO_BYTE_SHIFT" "I" (.int (8 : Int32))) (A1 : Arv Z h0 t kb .byte (Int32.ofNat (2 * cs.length)) (u16 cs) (.int (0 : Int32))) (hi : i < cs.length) (ok : OkS cs) :
    MetFree l yn5 (head1 (Jvm.Cond.code yn5 jdk_52_method_5_code 2 (some .char) :: ws) ({ frames := 0, cells := 0, slots := 0, locals := 0 } : Room)) (fun aQ_ UQ => aQ_ = #[(.ref t), (.int (Int32.ofNat i))] ∧ Z.Warmed39 UQ.vm ∧ UQ.heap = h0) (fun _ _ _ _ _ => True) (fun _ UQ oQ UQ' => ∃ vQ_ LQ_, oQ = .returned vQ_ ∧ Q_getChar Z t i kb cs h0 n0 vQ_ UQ'.heap LQ_ ∧ FrameEnd UQ oQ UQ' LQ_ ({ frames := 0, cells := 0, slots := 0, locals := 0 } : Room).cells ({ frames := 0, cells := 0, slots := 0, locals := 0 } : Room).slots) := by
  refine MetFree.of_bodySF (plainFor_of_name pn_java_lang_StringUTF16) hisR ?_
  intro p e s m args below meth cO s₁ Bd hml0 hP hK
  obtain ⟨rfl, hZ, hh⟩ := hP
  have hx := Bd.exec
  have hby := Bd.bytes
  have hml : cO.maxLocals = 2 := hml0
  have hown : s.vm.findClass "java/lang/StringUTF16" = some m.cls := findClass_of_methodNamed Bd.named
  have hnm := (name_of_methodNamed Bd.named Bd.method).1
  have X0 : Stand p l e ({ frames := 0, cells := 0, slots := 0, locals := 0 } : Room) s m #[(.ref t), (.int (Int32.ofNat i))] below meth cO s₁ [] 0 0 := Stand.of_body Bd
  have e0 : s₁.heap = h0 := by rw [← hh, Bd.state]; rfl
  have N0 := Fr.nil n0
  have W0 : ∀ zQ, SS p e below s₁ m 0 #[.val (.ref t), .val (.int (Int32.ofNat i))] [] zQ → Steps p.tables e below (s₁.setTop (entryFrame m #[(.ref t), (.int (Int32.ofNat i))] 2)) zQ := fun tt kt => castTop (ef_getChar m t (Int32.ofNat i)) kt
  have hn : cs.length < 1048576 := ok.2
  have F102 : Sta Z h0 "java/lang/StringUTF16" "$assertionsDisabled" "Z" (.int (1 : Int32)) := S_ad.ext O0.2
  obtain ⟨T101, X101, e101, st101⟩ := getS2 X0 hx hZ hown (host := "") (Or.inl (w217 hw)) Via.refl e0 F102 (g := (mkF m 0 #[.val (.ref t), .val (.int (Int32.ofNat i))] [])) rfl (hb hby d_jdk_52_method_5_0)
  obtain ⟨cl103, Ar103, q103, S103, M103, H103, F103g⟩ := id A1
  have hin103 : ¬ ((Int32.ofNat (2 * i)) < 0 ∨ cl103.slots.size ≤ ((Int32.ofNat (2 * i))).toNatClampNeg) := inb_of S103 ⟨own_nneg (by omega), own_lt (by omega) (by omega)⟩
  have hat103 : cl103.slots[((Int32.ofNat (2 * i))).toNatClampNeg]? = some (.int ((cs.getD i 0 >>> ((0 : Int32) &&& 31)).toInt8.toInt32)) := Has.at H103 hin103 (by rw [own_cl (by omega)]; exact (u16_at cs i _ hi).1)
  have F105 : Sta Z h0 "java/lang/StringUTF16" "HI_BYTE_SHIFT" "I" (.int (0 : Int32)) := S_hi.ext O0.2
  obtain ⟨T104, X104, e104, st104⟩ := getS2 X101 hx hZ hown (host := "") (Or.inl (w218 hw)) Via.refl e101 F105 (g := (mkF m 42 #[.val (.ref t), .val (.int (Int32.ofNat (2 * i + 1)))] [(.int (((cs.getD i 0 >>> ((0 : Int32) &&& 31)).toInt8.toInt32) &&& (255 : Int32)))])) rfl (hb hby d_jdk_52_method_5_42)
  obtain ⟨cl106, Ar106, q106, S106, M106, H106, F106g⟩ := id A1
  have hin106 : ¬ ((Int32.ofNat (2 * i + 1)) < 0 ∨ cl106.slots.size ≤ ((Int32.ofNat (2 * i + 1))).toNatClampNeg) := inb_of S106 ⟨own_nneg (by omega), own_lt (by omega) (by omega)⟩
  have hat106 : cl106.slots[((Int32.ofNat (2 * i + 1))).toNatClampNeg]? = some (.int ((cs.getD i 0 >>> ((8 : Int32) &&& 31)).toInt8.toInt32)) := Has.at H106 hin106 (by rw [own_cl (by omega)]; exact (u16_at cs i _ hi).2)
  have F108 : Sta Z h0 "java/lang/StringUTF16" "LO_BYTE_SHIFT" "I" (.int (8 : Int32)) := S_lo.ext O0.2
  obtain ⟨T107, X107, e107, st107⟩ := getS2 X104 hx hZ hown (host := "") (Or.inl (w219 hw)) Via.refl e104 F108 (g := (mkF m 53 #[.val (.ref t), .val (.int (Int32.ofNat (2 * i + 1)))] [(.int (((cs.getD i 0 >>> ((8 : Int32) &&& 31)).toInt8.toInt32) &&& (255 : Int32))), (.int ((((cs.getD i 0 >>> ((0 : Int32) &&& 31)).toInt8.toInt32) &&& (255 : Int32)) <<< ((0 : Int32) &&& 31)))])) rfl (hb hby d_jdk_52_method_5_53)
  have W109 : ∀ zQ, SS p e below T107 m 59 #[.val (.ref t), .val (.int (Int32.ofNat (2 * i + 1)))] [(.int ((((((cs.getD i 0 >>> ((0 : Int32) &&& 31)).toInt8.toInt32) &&& (255 : Int32)) <<< ((0 : Int32) &&& 31)) ||| ((((cs.getD i 0 >>> ((8 : Int32) &&& 31)).toInt8.toInt32) &&& (255 : Int32)) <<< ((8 : Int32) &&& 31))).toUInt32.toUInt16.toUInt32.toInt32))] zQ → Steps p.tables e below (s₁.setTop (entryFrame m #[(.ref t), (.int (Int32.ofNat i))] 2)) zQ := by
    intro tt kt
    refine W0 tt ?_
    refine st101 _ ?_
    refine XS.ifYes X101.here hx rfl (pc0 := 3) (pc' := 28) rfl (hb hby d_jdk_52_method_5_3) rfl ((if0 _ _).trans (feq (by decide)).2) (by decide) (by decide) ?_
    refine XS.iloadN X101.here hx rfl (hb hby d_jdk_52_method_5_28) rfl ?_
    refine XS.iconst X101.here hx rfl (hb hby d_jdk_52_method_5_29) ?_
    refine XS.ishl X101.here hx rfl (hb hby d_jdk_52_method_5_30) rfl ?_
    show SS p e below T101 m 31 #[.val (.ref t), .val (.int (Int32.ofNat i))] [(.int ((Int32.ofNat i) <<< ((1 : Int32) &&& 31)))] _
    rw [show ((Int32.ofNat i) <<< ((1 : Int32) &&& 31)) = (Int32.ofNat (2 * i)) from own_shl1 (by omega)]
    refine XS.istoreN X101.here hx rfl (hb hby d_jdk_52_method_5_31) rfl (l' := #[.val (.ref t), .val (.int (Int32.ofNat (2 * i)))]) rfl ?_
    refine XS.aloadN X101.here hx rfl (hb hby d_jdk_52_method_5_32) rfl rfl ?_
    refine XS.iloadN X101.here hx rfl (hb hby d_jdk_52_method_5_33) rfl ?_
    show SS p e below T101 m 34 #[.val (.ref t), .val (.int (Int32.ofNat (2 * i)))] [(.int (Int32.ofNat (2 * i))), (.ref t)] _
    refine XS.iinc X101.here hx rfl (hb hby d_jdk_52_method_5_34) rfl (l' := #[.val (.ref t), .val (.int ((Int32.ofNat (2 * i)) + (1 : Int32)))]) rfl ?_
    show SS p e below T101 m 37 #[.val (.ref t), .val (.int ((Int32.ofNat (2 * i)) + (1 : Int32)))] [(.int (Int32.ofNat (2 * i))), (.ref t)] _
    rw [show ((Int32.ofNat (2 * i)) + (1 : Int32)) = (Int32.ofNat (2 * i + 1)) from own_succ _]
    show SS p e below T101 m 37 #[.val (.ref t), .val (.int (Int32.ofNat (2 * i + 1)))] [(.int (Int32.ofNat (2 * i))), (.ref t)] _
    refine X101.baloadBytes hx (j := (Int32.ofNat (2 * i))) (v := (.int ((cs.getD i 0 >>> ((0 : Int32) &&& 31)).toInt8.toInt32))) (by first | exact Ar103.1 | (rw [e101]; exact Ar103.1)) (State.isArrayOf_alike hZ.alike Ar103.2.1) Ar103.2.2 hin103 hat103 (g := (mkF m 37 #[.val (.ref t), .val (.int (Int32.ofNat (2 * i + 1)))] [(.int (Int32.ofNat (2 * i))), (.ref t)])) rfl rfl (hb hby d_jdk_52_method_5_37) _ ?_
    refine XS.sipush X101.here hx rfl (hb hby d_jdk_52_method_5_38) ?_
    refine XS.iand X101.here hx rfl (hb hby d_jdk_52_method_5_41) rfl ?_
    show SS p e below T101 m 42 #[.val (.ref t), .val (.int (Int32.ofNat (2 * i + 1)))] [(.int (((cs.getD i 0 >>> ((0 : Int32) &&& 31)).toInt8.toInt32) &&& (255 : Int32)))] _
    refine st104 _ ?_
    refine XS.ishl X104.here hx rfl (hb hby d_jdk_52_method_5_45) rfl ?_
    refine XS.aloadN X104.here hx rfl (hb hby d_jdk_52_method_5_46) rfl rfl ?_
    refine XS.iloadN X104.here hx rfl (hb hby d_jdk_52_method_5_47) rfl ?_
    show SS p e below T104 m 48 #[.val (.ref t), .val (.int (Int32.ofNat (2 * i + 1)))] [(.int (Int32.ofNat (2 * i + 1))), (.ref t), (.int ((((cs.getD i 0 >>> ((0 : Int32) &&& 31)).toInt8.toInt32) &&& (255 : Int32)) <<< ((0 : Int32) &&& 31)))] _
    refine X104.baloadBytes hx (j := (Int32.ofNat (2 * i + 1))) (v := (.int ((cs.getD i 0 >>> ((8 : Int32) &&& 31)).toInt8.toInt32))) (by first | exact Ar106.1 | (rw [e104]; exact Ar106.1)) (State.isArrayOf_alike hZ.alike Ar106.2.1) Ar106.2.2 hin106 hat106 (g := (mkF m 48 #[.val (.ref t), .val (.int (Int32.ofNat (2 * i + 1)))] [(.int (Int32.ofNat (2 * i + 1))), (.ref t), (.int ((((cs.getD i 0 >>> ((0 : Int32) &&& 31)).toInt8.toInt32) &&& (255 : Int32)) <<< ((0 : Int32) &&& 31)))])) rfl rfl (hb hby d_jdk_52_method_5_48) _ ?_
    refine XS.sipush X104.here hx rfl (hb hby d_jdk_52_method_5_49) ?_
    refine XS.iand X104.here hx rfl (hb hby d_jdk_52_method_5_52) rfl ?_
    show SS p e below T104 m 53 #[.val (.ref t), .val (.int (Int32.ofNat (2 * i + 1)))] [(.int (((cs.getD i 0 >>> ((8 : Int32) &&& 31)).toInt8.toInt32) &&& (255 : Int32))), (.int ((((cs.getD i 0 >>> ((0 : Int32) &&& 31)).toInt8.toInt32) &&& (255 : Int32)) <<< ((0 : Int32) &&& 31)))] _
    refine st107 _ ?_
    refine XS.ishl X107.here hx rfl (hb hby d_jdk_52_method_5_56) rfl ?_
    refine XS.ior X107.here hx rfl (hb hby d_jdk_52_method_5_57) rfl ?_
    refine XS.i2c X107.here hx rfl (hb hby d_jdk_52_method_5_58) rfl ?_
    exact kt
  obtain ⟨fs, hr, hrun, hended, hW, hsame⟩ := X107.leave (v := some (.int (nar .char ((((((cs.getD i 0 >>> ((0 : Int32) &&& 31)).toInt8.toInt32) &&& (255 : Int32)) <<< ((0 : Int32) &&& 31)) ||| ((((cs.getD i 0 >>> ((8 : Int32) &&& 31)).toInt8.toInt32) &&& (255 : Int32)) <<< ((8 : Int32) &&& 31))).toUInt32.toUInt16.toUInt32.toInt32)))) (fun h => by rw [Bd.returns] at h; cases h)
  refine ⟨_, _, W109 _ (retN X107 hx (t := .char) Bd.returns (by simp) (hb hby d_jdk_52_method_5_59) hr), hrun, hended, _, _, rfl, ?_, ⟨_, rfl⟩, hW, hsame.mono (by decide) (by decide)⟩
  show Q_getChar Z t i kb cs h0 n0 _ T107.heap _
  rw [e107]
  exact ⟨(congrArg (fun q => some (Value.int q)) (own_u16c (ok.at hi).1 (ok.at hi).2)), N0, rfl⟩
def Q_u16charAt (Z : State) (t : Addr) (i : Nat) (kb : ClassId) (cs : List Int32) (fm : Value) (h0 : Heap) (n0 : Nat) (vQ_ : Option Value) (hQ_ : Heap) (LQ_ : List Loc) : Prop := vQ_ = some (.int (cs.getD i 0)) ∧ Fr n0 LQ_ ∧ hQ_ = h0
set_option maxRecDepth 65536 in
set_option maxHeartbeats 40000000 in
theorem rm_u16charAt (l : Launch) (Z : State) (a0 : Array Value) (hw : HW a0 Z) (ws : List Jvm.Cond) (t : Addr) (i : Nat) (kb : ClassId) (cs : List Int32) (fm : Value) (h0 : Heap) (n0 : Nat) (Z0 : n0 ≤ h0.size) (O0 : Old Z n0 h0) (S_fm : Sta Z Z.heap "jdk/internal/util/Preconditions" "SIOOBE_FORMATTER" "Ljava/util/function/BiFunction;" fm) (hfm : fm.isRef = true) (S_ad : Sta Z Z.heap "java/lang/StringUTF16" "$assertionsDisabled" "Z" (.int (1 : Int32))) (S_hi : Sta Z Z.heap "java/lang/StringUTF16" "HI_BYTE_SHIFT" "I" (.int (0 : Int32))) (S_lo : Sta Z Z.heap "java/lang/StringUTF16" "LO_BYTE_SHIFT" "I" (.int (8 : Int32))) (A1 : Arv Z h0 t kb .byte (Int32.ofNat (2 * cs.length)) (u16 cs) (.int (0 : Int32))) (hi : i < cs.length) (ok : OkS cs) :
    MetFree l yn6 (head1 (Jvm.Cond.code yn6 jdk_52_method_83_code 2 (some .char) :: ws) ({ frames := 3, cells := 0, slots := 0, locals := 40 } : Room)) (fun aQ_ UQ => aQ_ = #[(.ref t), (.int (Int32.ofNat i))] ∧ Z.Warmed39 UQ.vm ∧ UQ.heap = h0) (fun _ _ _ _ _ => True) (fun _ UQ oQ UQ' => ∃ vQ_ LQ_, oQ = .returned vQ_ ∧ Q_u16charAt Z t i kb cs fm h0 n0 vQ_ UQ'.heap LQ_ ∧ FrameEnd UQ oQ UQ' LQ_ ({ frames := 3, cells := 0, slots := 0, locals := 40 } : Room).cells ({ frames := 3, cells := 0, slots := 0, locals := 40 } : Room).slots) := by
  refine MetFree.of_bodySF (plainFor_of_name pn_java_lang_StringUTF16) hisR ?_
  intro p e s m args below meth cO s₁ Bd hml0 hP hK
  obtain ⟨rfl, hZ, hh⟩ := hP
  have hx := Bd.exec
  have hby := Bd.bytes
  have hml : cO.maxLocals = 2 := hml0
  have hown : s.vm.findClass "java/lang/StringUTF16" = some m.cls := findClass_of_methodNamed Bd.named
  have hnm := (name_of_methodNamed Bd.named Bd.method).1
  have X0 : Stand p l e ({ frames := 3, cells := 0, slots := 0, locals := 40 } : Room) s m #[(.ref t), (.int (Int32.ofNat i))] below meth cO s₁ [] 0 0 := Stand.of_body Bd
  have e0 : s₁.heap = h0 := by rw [← hh, Bd.state]; rfl
  have N0 := Fr.nil n0
  have W0 : ∀ zQ, SS p e below s₁ m 0 #[.val (.ref t), .val (.int (Int32.ofNat i))] [] zQ → Steps p.tables e below (s₁.setTop (entryFrame m #[(.ref t), (.int (Int32.ofNat i))] 2)) zQ := fun tt kt => castTop (ef_u16charAt m t (Int32.ofNat i)) kt
  have hn : cs.length < 1048576 := ok.2
  obtain ⟨_, _, ⟨T101, L101, k101, n101⟩, -, X101, ⟨Lc101, hQ101, l101, y101, z101⟩, st101⟩ := Jvm.LawKit.callS X0 hx (y := yn4) hown (mvT hZ (w227 hw)) (mvT hZ (w228 hw)) (mvT hZ (w23 hw)) (mvT hZ (w229 hw)) (by decide) (backOf (W := 0) (rm_u16check l Z a0 hw [] t i cs.length kb (u16 cs) fm h0 n0 Z0 O0 S_fm hfm A1 (by omega) hi) hZ (w229 hw) (w23 hw) (by decide) (by decide)) (g := (mkF m 2 #[.val (.ref t), .val (.int (Int32.ofNat i))] [(.ref t), (.int (Int32.ofNat i))])) rfl (by rw [hml]; rfl) (argsL := [(.int (Int32.ofNat i)), (.ref t)]) (rest := []) (lenOf pd__28_I_5b_B_29_V rfl) rfl (by show 2 * 0 + _ ≤ _; exact Nat.le_of_eq rfl) (hb hby d_jdk_52_method_83_2) (fun _ _ => ⟨rfl, e0, (Nat.le_of_ble_eq_true rfl), (Nat.le_of_ble_eq_true rfl)⟩)
  dsimp only [Pt.U, Pt.locs, Pt.cells, Pt.slots] at X101 l101 y101 z101 st101 hQ101
  subst l101 y101 z101
  obtain ⟨rfl, Nq101, eq101⟩ := hQ101
  have N101 := Fr.app N0 Nq101
  obtain ⟨_, _, ⟨T102, L102, k102, n102⟩, -, X102, ⟨Lc102, hQ102, l102, y102, z102⟩, st102⟩ := Jvm.LawKit.callS X101 hx (y := yn5) hown (mvT hZ (w220 hw)) (mvT hZ (w221 hw)) (mvT hZ (w23 hw)) (mvT hZ (w222 hw)) (by decide) (backOf (W := 0) (rm_getChar l Z a0 hw [] t i kb cs h0 n0 Z0 O0 S_ad S_hi S_lo A1 hi ok) hZ (w222 hw) (w23 hw) (by decide) (by decide)) (g := (mkF m 7 #[.val (.ref t), .val (.int (Int32.ofNat i))] [(.int (Int32.ofNat i)), (.ref t)])) rfl (by rw [hml]; rfl) (argsL := [(.ref t), (.int (Int32.ofNat i))]) (rest := []) (lenOf pd__28__5b_BI_29_C rfl) rfl (by show 2 * 0 + _ ≤ _; exact Nat.le_of_eq rfl) (hb hby d_jdk_52_method_83_7) (fun _ _ => ⟨rfl, eq101, (Nat.le_of_ble_eq_true rfl), (Nat.le_of_ble_eq_true rfl)⟩)
  dsimp only [Pt.U, Pt.locs, Pt.cells, Pt.slots] at X102 l102 y102 z102 st102 hQ102
  subst l102 y102 z102
  obtain ⟨rfl, Nq102, eq102⟩ := hQ102
  have N102 := Fr.app N101 Nq102
  have W103 : ∀ zQ, SS p e below T102 m 10 #[.val (.ref t), .val (.int (Int32.ofNat i))] [(.int (cs.getD i 0))] zQ → Steps p.tables e below (s₁.setTop (entryFrame m #[(.ref t), (.int (Int32.ofNat i))] 2)) zQ := by
    intro tt kt
    refine W0 tt ?_
    refine XS.iloadN X0.here hx rfl (hb hby d_jdk_52_method_83_0) rfl ?_
    refine XS.aloadN X0.here hx rfl (hb hby d_jdk_52_method_83_1) rfl rfl ?_
    show SS p e below s₁ m 2 #[.val (.ref t), .val (.int (Int32.ofNat i))] [(.ref t), (.int (Int32.ofNat i))] _
    refine st101 _ ?_
    refine XS.aloadN X101.here hx rfl (hb hby d_jdk_52_method_83_5) rfl rfl ?_
    refine XS.iloadN X101.here hx rfl (hb hby d_jdk_52_method_83_6) rfl ?_
    show SS p e below T101 m 7 #[.val (.ref t), .val (.int (Int32.ofNat i))] [(.int (Int32.ofNat i)), (.ref t)] _
    refine st102 _ ?_
    exact kt
  obtain ⟨fs, hr, hrun, hended, hW, hsame⟩ := X102.leave (v := some (.int (nar .char (cs.getD i 0)))) (fun h => by rw [Bd.returns] at h; cases h)
  refine ⟨_, _, W103 _ (retN X102 hx (t := .char) Bd.returns (by simp) (hb hby d_jdk_52_method_83_10) hr), hrun, hended, _, _, rfl, ?_, ⟨_, rfl⟩, hW, hsame.mono (by decide) (by decide)⟩
  show Q_u16charAt Z t i kb cs fm h0 n0 _ T102.heap _
  rw [eq102]
  exact ⟨(congrArg (fun q => some (Value.int q)) (own_narc (ok.at hi).1 (ok.at hi).2)), N102, rfl⟩
def Q_isLatin1 (Z : State) (a : Addr) (w : Int32) (cS : Int32) (h0 : Heap) (n0 : Nat) (vQ_ : Option Value) (hQ_ : Heap) (LQ_ : List Loc) : Prop := vQ_ = some (.int (if w = (0 : Int32) then (1 : Int32) else (0 : Int32))) ∧ Fr n0 LQ_ ∧ hQ_ = h0
set_option maxRecDepth 65536 in
set_option maxHeartbeats 40000000 in
theorem rm_isLatin1 (l : Launch) (Z : State) (a0 : Array Value) (hw : HW a0 Z) (ws : List Jvm.Cond) (a : Addr) (w : Int32) (cS : Int32) (h0 : Heap) (n0 : Nat) (Z0 : n0 ≤ h0.size) (O0 : Old Z n0 h0) (S_cs : Sta Z Z.heap "java/lang/String" "COMPACT_STRINGS" "Z" (.int cS)) (hcS : ¬ (cS = (0 : Int32))) (F1 : Fld Z h0 a "java/lang/String" "coder" "B" (.int w)) :
    MetFree l yn7 (head1 (Jvm.Cond.code yn7 jdk_42_method_154_code 1 (some .boolean) :: ws) ({ frames := 0, cells := 0, slots := 0, locals := 0 } : Room)) (fun aQ_ UQ => aQ_ = #[(.ref a)] ∧ Z.Warmed39 UQ.vm ∧ UQ.heap = h0) (fun _ _ _ _ _ => True) (fun _ UQ oQ UQ' => ∃ vQ_ LQ_, oQ = .returned vQ_ ∧ Q_isLatin1 Z a w cS h0 n0 vQ_ UQ'.heap LQ_ ∧ FrameEnd UQ oQ UQ' LQ_ ({ frames := 0, cells := 0, slots := 0, locals := 0 } : Room).cells ({ frames := 0, cells := 0, slots := 0, locals := 0 } : Room).slots) := by
  refine MetFree.of_bodySF (plainFor_of_name pn_java_lang_String) hisR ?_
  intro p e s m args below meth cO s₁ Bd hml0 hP hK
  obtain ⟨rfl, hZ, hh⟩ := hP
  have hx := Bd.exec
  have hby := Bd.bytes
  have hml : cO.maxLocals = 1 := hml0
  have hown : s.vm.findClass "java/lang/String" = some m.cls := findClass_of_methodNamed Bd.named
  have hnm := (name_of_methodNamed Bd.named Bd.method).1
  have X0 : Stand p l e ({ frames := 0, cells := 0, slots := 0, locals := 0 } : Room) s m #[(.ref a)] below meth cO s₁ [] 0 0 := Stand.of_body Bd
  have e0 : s₁.heap = h0 := by rw [← hh, Bd.state]; rfl
  have N0 := Fr.nil n0
  have W0 : ∀ zQ, SS p e below s₁ m 0 #[.val (.ref a)] [] zQ → Steps p.tables e below (s₁.setTop (entryFrame m #[(.ref a)] 1)) zQ := fun tt kt => castTop (ef_isLatin1 m a) kt
  have F102 : Sta Z h0 "java/lang/String" "COMPACT_STRINGS" "Z" (.int cS) := S_cs.ext O0.2
  obtain ⟨T101, X101, e101, st101⟩ := getS2 X0 hx hZ hown (host := "") (Or.inl (w20 hw)) Via.refl e0 F102 (g := (mkF m 0 #[.val (.ref a)] [])) rfl (hb hby d_jdk_42_method_154_0)
  obtain ⟨T103, X103, e103, st103⟩ := getF X101 hx hZ hown (host := "") (Or.inl (w32 hw)) Via.refl e101 F1 (g := (mkF m 7 #[.val (.ref a)] [(.ref a)])) rfl rfl (hb hby d_jdk_42_method_154_7)
  have W104 : ∀ zQ, SS p e below T103 m 10 #[.val (.ref a)] [(.int w)] zQ → Steps p.tables e below (s₁.setTop (entryFrame m #[(.ref a)] 1)) zQ := by
    intro tt kt
    refine W0 tt ?_
    refine st101 _ ?_
    refine XS.ifNo X101.here hx rfl (hb hby d_jdk_42_method_154_3) rfl ((if0 _ _).trans (feq hcS).1) ?_
    refine XS.aloadN X101.here hx rfl (hb hby d_jdk_42_method_154_6) rfl rfl ?_
    show SS p e below T101 m 7 #[.val (.ref a)] [(.ref a)] _
    refine st103 _ ?_
    exact kt
  have W106 : ∀ zQ, SS p e below T103 m 18 #[.val (.ref a)] [(.int (if w = (0 : Int32) then (1 : Int32) else (0 : Int32)))] zQ → Steps p.tables e below (s₁.setTop (entryFrame m #[(.ref a)] 1)) zQ := by
    intro tt kt
    refine W104 tt ?_
    by_cases hj105 : w = (0 : Int32)
    ·
      refine XS.ifNo X103.here hx rfl (hb hby d_jdk_42_method_154_10) rfl ((if0 _ _).trans (teq hj105).2) ?_
      refine XS.iconst X103.here hx rfl (hb hby d_jdk_42_method_154_13) ?_
      refine XS.goto X103.here hx rfl (pc0 := 14) (pc' := 18) rfl (hb hby d_jdk_42_method_154_14) (by decide) (by decide) ?_
      exact castTop (by first | rfl | (simp only [if_pos hj105]; first | done | rfl)) kt
    ·
      refine XS.ifYes X103.here hx rfl (pc0 := 10) (pc' := 17) rfl (hb hby d_jdk_42_method_154_10) rfl ((if0 _ _).trans (feq hj105).2) (by decide) (by decide) ?_
      refine XS.iconst X103.here hx rfl (hb hby d_jdk_42_method_154_17) ?_
      exact castTop (by first | rfl | (simp only [if_neg hj105]; first | done | rfl)) kt
  obtain ⟨fs, hr, hrun, hended, hW, hsame⟩ := X103.leave (v := some (.int (nar .boolean (if w = (0 : Int32) then (1 : Int32) else (0 : Int32))))) (fun h => by rw [Bd.returns] at h; cases h)
  refine ⟨_, _, W106 _ (retN X103 hx (t := .boolean) Bd.returns (by simp) (hb hby d_jdk_42_method_154_18) hr), hrun, hended, _, _, rfl, ?_, ⟨_, rfl⟩, hW, hsame.mono (by decide) (by decide)⟩
  show Q_isLatin1 Z a w cS h0 n0 _ T103.heap _
  rw [e103]
  exact ⟨(congrArg (fun q => some (Value.int q)) own_bool), N0, rfl⟩
def Q_charAt (Z : State) (a : Addr) (i : Nat) (t : Addr) (kb : ClassId) (cs : List Int32) (cS : Int32) (fm : Value) (h0 : Heap) (n0 : Nat) (vQ_ : Option Value) (hQ_ : Heap) (LQ_ : List Loc) : Prop := vQ_ = some (.int (cs.getD i 0)) ∧ Fr n0 LQ_ ∧ hQ_ = h0
set_option maxRecDepth 65536 in
set_option maxHeartbeats 40000000 in
theorem rm_charAt (l : Launch) (Z : State) (a0 : Array Value) (hw : HW a0 Z) (ws : List Jvm.Cond) (a : Addr) (i : Nat) (t : Addr) (kb : ClassId) (cs : List Int32) (cS : Int32) (fm : Value) (h0 : Heap) (n0 : Nat) (Z0 : n0 ≤ h0.size) (O0 : Old Z n0 h0) (S_cs : Sta Z Z.heap "java/lang/String" "COMPACT_STRINGS" "Z" (.int cS)) (hcS : ¬ (cS = (0 : Int32))) (S_fm : Sta Z Z.heap "jdk/internal/util/Preconditions" "SIOOBE_FORMATTER" "Ljava/util/function/BiFunction;" fm) (hfm : fm.isRef = true) (S_ad : Sta Z Z.heap "java/lang/StringUTF16" "$assertionsDisabled" "Z" (.int (1 : Int32))) (S_hi : Sta Z Z.heap "java/lang/StringUTF16" "HI_BYTE_SHIFT" "I" (.int (0 : Int32))) (S_lo : Sta Z Z.heap "java/lang/StringUTF16" "LO_BYTE_SHIFT" "I" (.int (8 : Int32))) (hS : Str Z h0 a t kb cs) (hi : i < cs.length) :
    MetFree l yn8 (head1 (Jvm.Cond.code yn8 jdk_42_method_56_code 2 (some .char) :: ws) ({ frames := 4, cells := 0, slots := 0, locals := 53 } : Room)) (fun aQ_ UQ => aQ_ = #[(.ref a), (.int (Int32.ofNat i))] ∧ Z.Warmed39 UQ.vm ∧ UQ.heap = h0) (fun _ _ _ _ _ => True) (fun _ UQ oQ UQ' => ∃ vQ_ LQ_, oQ = .returned vQ_ ∧ Q_charAt Z a i t kb cs cS fm h0 n0 vQ_ UQ'.heap LQ_ ∧ FrameEnd UQ oQ UQ' LQ_ ({ frames := 4, cells := 0, slots := 0, locals := 53 } : Room).cells ({ frames := 4, cells := 0, slots := 0, locals := 53 } : Room).slots) := by
  refine MetFree.of_bodySF (plainFor_of_name pn_java_lang_String) hisR ?_
  intro p e s m args below meth cO s₁ Bd hml0 hP hK
  obtain ⟨rfl, hZ, hh⟩ := hP
  have hx := Bd.exec
  have hby := Bd.bytes
  have hml : cO.maxLocals = 2 := hml0
  have hown : s.vm.findClass "java/lang/String" = some m.cls := findClass_of_methodNamed Bd.named
  have hnm := (name_of_methodNamed Bd.named Bd.method).1
  have X0 : Stand p l e ({ frames := 4, cells := 0, slots := 0, locals := 53 } : Room) s m #[(.ref a), (.int (Int32.ofNat i))] below meth cO s₁ [] 0 0 := Stand.of_body Bd
  have e0 : s₁.heap = h0 := by rw [← hh, Bd.state]; rfl
  have N0 := Fr.nil n0
  have W0 : ∀ zQ, SS p e below s₁ m 0 #[.val (.ref a), .val (.int (Int32.ofNat i))] [] zQ → Steps p.tables e below (s₁.setTop (entryFrame m #[(.ref a), (.int (Int32.ofNat i))] 2)) zQ := fun tt kt => castTop (ef_charAt m a (Int32.ofNat i)) kt
  obtain ⟨hE, hV, hC, hA, ok⟩ := hS
  obtain ⟨cq101, kq101, q101a, q101b, q101c⟩ := isOf hZ e0 hE
  obtain ⟨_, _, ⟨T101, L101, k101, n101⟩, -, X101, ⟨Lc101, hQ101, l101, y101, z101⟩, st101⟩ := X0.virtualBack hx (y := yn7) (z := yn7) hown (mvT hZ (w77 hw)) (mvT hZ (w78 hw)) (notFace_of_selects (args := #[]) (mvT hZ (w80 hw))) (mvT hZ (w80 hw)) (mvT hZ (w79 hw)) (by decide) (backOf (W := 0) (rm_isLatin1 l Z a0 hw [] a (cdr cs) cS h0 n0 Z0 O0 S_cs hcS hC) hZ (w81 hw) (w9 hw) (by decide) (by decide)) q101a q101c (g := (mkF m 1 #[.val (.ref a), .val (.int (Int32.ofNat i))] [(.ref a)])) rfl (by rw [hml]; rfl) (Steps.refl _) (argsL := []) (rest := []) (lenOf pd__28__29_Z rfl) rfl (by show 2 * 0 + _ ≤ _; exact Nat.le_of_eq rfl) (hb hby d_jdk_42_method_56_1) (fun _ _ => ⟨rfl, e0, (Nat.le_of_ble_eq_true rfl), (Nat.le_of_ble_eq_true rfl)⟩)
  dsimp only [Pt.U, Pt.locs, Pt.cells, Pt.slots] at X101 l101 y101 z101 st101 hQ101
  subst l101 y101 z101
  obtain ⟨rfl, Nq101, eq101⟩ := hQ101
  have N101 := Fr.app N0 Nq101
  have W102 : ∀ zQ, SS p e below T101 m 4 #[.val (.ref a), .val (.int (Int32.ofNat i))] [(.int (if (cdr cs) = (0 : Int32) then (1 : Int32) else (0 : Int32)))] zQ → Steps p.tables e below (s₁.setTop (entryFrame m #[(.ref a), (.int (Int32.ofNat i))] 2)) zQ := by
    intro tt kt
    refine W0 tt ?_
    refine XS.aloadN X0.here hx rfl (hb hby d_jdk_42_method_56_0) rfl rfl ?_
    show SS p e below s₁ m 1 #[.val (.ref a), .val (.int (Int32.ofNat i))] [(.ref a)] _
    refine st101.trans ?_
    exact kt
  by_cases hc103 : (cdr cs) = (0 : Int32)
  ·
    have hl := cdr_lat hc103
    have hA104 : Arv Z h0 t kb .byte (Int32.ofNat cs.length) (l1 cs) (.int (0 : Int32)) := by have q := enc_lat hl; rw [← q.1, ← q.2.1]; exact hA
    obtain ⟨T105, X105, e105, st105⟩ := getF X101 hx hZ hown (host := "") (Or.inl (w34 hw)) Via.refl eq101 hV (g := (mkF m 8 #[.val (.ref a), .val (.int (Int32.ofNat i))] [(.ref a)])) rfl rfl (hb hby d_jdk_42_method_56_8)
    obtain ⟨_, _, ⟨T106, L106, k106, n106⟩, -, X106, ⟨Lc106, hQ106, l106, y106, z106⟩, st106⟩ := Jvm.LawKit.callS X105 hx (y := yn2) hown (mvT hZ (w82 hw)) (mvT hZ (w83 hw)) (mvT hZ (w84 hw)) (mvT hZ (w85 hw)) (by decide) (backOf (W := 0) (rm_l1charAt l Z a0 hw [] t i kb cs fm h0 n0 Z0 O0 S_fm hfm hA104 hi ok hl) hZ (w85 hw) (w84 hw) (by decide) (by decide)) (g := (mkF m 12 #[.val (.ref a), .val (.int (Int32.ofNat i))] [(.int (Int32.ofNat i)), (.ref t)])) rfl (by rw [hml]; rfl) (argsL := [(.ref t), (.int (Int32.ofNat i))]) (rest := []) (lenOf pd__28__5b_BI_29_C rfl) rfl (by show 2 * 0 + _ ≤ _; exact Nat.le_of_eq rfl) (hb hby d_jdk_42_method_56_12) (fun _ _ => ⟨rfl, e105, (Nat.le_of_ble_eq_true rfl), (Nat.le_of_ble_eq_true rfl)⟩)
    dsimp only [Pt.U, Pt.locs, Pt.cells, Pt.slots] at X106 l106 y106 z106 st106 hQ106
    subst l106 y106 z106
    obtain ⟨rfl, Nq106, eq106⟩ := hQ106
    have N106 := Fr.app N101 Nq106
    have W107 : ∀ zQ, SS p e below T106 m 15 #[.val (.ref a), .val (.int (Int32.ofNat i))] [(.int (cs.getD i 0))] zQ → Steps p.tables e below (s₁.setTop (entryFrame m #[(.ref a), (.int (Int32.ofNat i))] 2)) zQ := by
      intro tt kt
      refine W102 tt ?_
      rw [show (if (cdr cs) = (0 : Int32) then (1 : Int32) else (0 : Int32)) = (1 : Int32) from if_pos hc103]
      refine XS.ifNo X101.here hx rfl (hb hby d_jdk_42_method_56_4) rfl ((if0 _ _).trans (feq (by decide)).1) ?_
      refine XS.aloadN X101.here hx rfl (hb hby d_jdk_42_method_56_7) rfl rfl ?_
      show SS p e below T101 m 8 #[.val (.ref a), .val (.int (Int32.ofNat i))] [(.ref a)] _
      refine st105 _ ?_
      refine XS.iloadN X105.here hx rfl (hb hby d_jdk_42_method_56_11) rfl ?_
      show SS p e below T105 m 12 #[.val (.ref a), .val (.int (Int32.ofNat i))] [(.int (Int32.ofNat i)), (.ref t)] _
      refine st106 _ ?_
      exact kt
    obtain ⟨fs, hr, hrun, hended, hW, hsame⟩ := X106.leave (v := some (.int (nar .char (cs.getD i 0)))) (fun h => by rw [Bd.returns] at h; cases h)
    refine ⟨_, _, W107 _ (retN X106 hx (t := .char) Bd.returns (by simp) (hb hby d_jdk_42_method_56_15) hr), hrun, hended, _, _, rfl, ?_, ⟨_, rfl⟩, hW, hsame.mono (by decide) (by decide)⟩
    show Q_charAt Z a i t kb cs cS fm h0 n0 _ T106.heap _
    rw [eq106]
    exact ⟨(congrArg (fun q => some (Value.int q)) (own_narc (ok.at hi).1 (ok.at hi).2)), N106, rfl⟩
  ·
    have hl := cdr_nlat hc103
    have hA108 : Arv Z h0 t kb .byte (Int32.ofNat (2 * cs.length)) (u16 cs) (.int (0 : Int32)) := by have q := enc_nlat hl; rw [← q.1, ← q.2.1]; exact hA
    obtain ⟨T109, X109, e109, st109⟩ := getF X101 hx hZ hown (host := "") (Or.inl (w34 hw)) Via.refl eq101 hV (g := (mkF m 17 #[.val (.ref a), .val (.int (Int32.ofNat i))] [(.ref a)])) rfl rfl (hb hby d_jdk_42_method_56_17)
    obtain ⟨_, _, ⟨T110, L110, k110, n110⟩, -, X110, ⟨Lc110, hQ110, l110, y110, z110⟩, st110⟩ := Jvm.LawKit.callS X109 hx (y := yn6) hown (mvT hZ (w224 hw)) (mvT hZ (w225 hw)) (mvT hZ (w23 hw)) (mvT hZ (w226 hw)) (by decide) (backOf (W := 0) (rm_u16charAt l Z a0 hw [] t i kb cs fm h0 n0 Z0 O0 S_fm hfm S_ad S_hi S_lo hA108 hi ok) hZ (w226 hw) (w23 hw) (by decide) (by decide)) (g := (mkF m 21 #[.val (.ref a), .val (.int (Int32.ofNat i))] [(.int (Int32.ofNat i)), (.ref t)])) rfl (by rw [hml]; rfl) (argsL := [(.ref t), (.int (Int32.ofNat i))]) (rest := []) (lenOf pd__28__5b_BI_29_C rfl) rfl (by show 2 * 0 + _ ≤ _; exact Nat.le_of_eq rfl) (hb hby d_jdk_42_method_56_21) (fun _ _ => ⟨rfl, e109, (Nat.le_of_ble_eq_true rfl), (Nat.le_of_ble_eq_true rfl)⟩)
    dsimp only [Pt.U, Pt.locs, Pt.cells, Pt.slots] at X110 l110 y110 z110 st110 hQ110
    subst l110 y110 z110
    obtain ⟨rfl, Nq110, eq110⟩ := hQ110
    have N110 := Fr.app N101 Nq110
    have W111 : ∀ zQ, SS p e below T110 m 24 #[.val (.ref a), .val (.int (Int32.ofNat i))] [(.int (cs.getD i 0))] zQ → Steps p.tables e below (s₁.setTop (entryFrame m #[(.ref a), (.int (Int32.ofNat i))] 2)) zQ := by
      intro tt kt
      refine W102 tt ?_
      rw [show (if (cdr cs) = (0 : Int32) then (1 : Int32) else (0 : Int32)) = (0 : Int32) from if_neg hc103]
      refine XS.ifYes X101.here hx rfl (pc0 := 4) (pc' := 16) rfl (hb hby d_jdk_42_method_56_4) rfl ((if0 _ _).trans (teq (by decide)).1) (by decide) (by decide) ?_
      refine XS.aloadN X101.here hx rfl (hb hby d_jdk_42_method_56_16) rfl rfl ?_
      show SS p e below T101 m 17 #[.val (.ref a), .val (.int (Int32.ofNat i))] [(.ref a)] _
      refine st109 _ ?_
      refine XS.iloadN X109.here hx rfl (hb hby d_jdk_42_method_56_20) rfl ?_
      show SS p e below T109 m 21 #[.val (.ref a), .val (.int (Int32.ofNat i))] [(.int (Int32.ofNat i)), (.ref t)] _
      refine st110 _ ?_
      exact kt
    obtain ⟨fs, hr, hrun, hended, hW, hsame⟩ := X110.leave (v := some (.int (nar .char (cs.getD i 0)))) (fun h => by rw [Bd.returns] at h; cases h)
    refine ⟨_, _, W111 _ (retN X110 hx (t := .char) Bd.returns (by simp) (hb hby d_jdk_42_method_56_24) hr), hrun, hended, _, _, rfl, ?_, ⟨_, rfl⟩, hW, hsame.mono (by decide) (by decide)⟩
    show Q_charAt Z a i t kb cs cS fm h0 n0 _ T110.heap _
    rw [eq110]
    exact ⟨(congrArg (fun q => some (Value.int q)) (own_narc (ok.at hi).1 (ok.at hi).2)), N110, rfl⟩
def Q_coder (Z : State) (a : Addr) (w : Int32) (cS : Int32) (h0 : Heap) (n0 : Nat) (vQ_ : Option Value) (hQ_ : Heap) (LQ_ : List Loc) : Prop := vQ_ = some (.int w) ∧ Fr n0 LQ_ ∧ hQ_ = h0
set_option maxRecDepth 65536 in
set_option maxHeartbeats 40000000 in
theorem rm_coder (l : Launch) (Z : State) (a0 : Array Value) (hw : HW a0 Z) (ws : List Jvm.Cond) (a : Addr) (w : Int32) (cS : Int32) (h0 : Heap) (n0 : Nat) (Z0 : n0 ≤ h0.size) (O0 : Old Z n0 h0) (S_cs : Sta Z Z.heap "java/lang/String" "COMPACT_STRINGS" "Z" (.int cS)) (hcS : ¬ (cS = (0 : Int32))) (F1 : Fld Z h0 a "java/lang/String" "coder" "B" (.int w)) (hw8 : nar .byte w = w) :
    MetFree l yn9 (head1 (Jvm.Cond.code yn9 jdk_42_method_152_code 1 (some .byte) :: ws) ({ frames := 0, cells := 0, slots := 0, locals := 0 } : Room)) (fun aQ_ UQ => aQ_ = #[(.ref a)] ∧ Z.Warmed39 UQ.vm ∧ UQ.heap = h0) (fun _ _ _ _ _ => True) (fun _ UQ oQ UQ' => ∃ vQ_ LQ_, oQ = .returned vQ_ ∧ Q_coder Z a w cS h0 n0 vQ_ UQ'.heap LQ_ ∧ FrameEnd UQ oQ UQ' LQ_ ({ frames := 0, cells := 0, slots := 0, locals := 0 } : Room).cells ({ frames := 0, cells := 0, slots := 0, locals := 0 } : Room).slots) := by
  refine MetFree.of_bodySF (plainFor_of_name pn_java_lang_String) hisR ?_
  intro p e s m args below meth cO s₁ Bd hml0 hP hK
  obtain ⟨rfl, hZ, hh⟩ := hP
  have hx := Bd.exec
  have hby := Bd.bytes
  have hml : cO.maxLocals = 1 := hml0
  have hown : s.vm.findClass "java/lang/String" = some m.cls := findClass_of_methodNamed Bd.named
  have hnm := (name_of_methodNamed Bd.named Bd.method).1
  have X0 : Stand p l e ({ frames := 0, cells := 0, slots := 0, locals := 0 } : Room) s m #[(.ref a)] below meth cO s₁ [] 0 0 := Stand.of_body Bd
  have e0 : s₁.heap = h0 := by rw [← hh, Bd.state]; rfl
  have N0 := Fr.nil n0
  have W0 : ∀ zQ, SS p e below s₁ m 0 #[.val (.ref a)] [] zQ → Steps p.tables e below (s₁.setTop (entryFrame m #[(.ref a)] 1)) zQ := fun tt kt => castTop (ef_coder m a) kt
  have F102 : Sta Z h0 "java/lang/String" "COMPACT_STRINGS" "Z" (.int cS) := S_cs.ext O0.2
  obtain ⟨T101, X101, e101, st101⟩ := getS2 X0 hx hZ hown (host := "") (Or.inl (w20 hw)) Via.refl e0 F102 (g := (mkF m 0 #[.val (.ref a)] [])) rfl (hb hby d_jdk_42_method_152_0)
  obtain ⟨T103, X103, e103, st103⟩ := getF X101 hx hZ hown (host := "") (Or.inl (w32 hw)) Via.refl e101 F1 (g := (mkF m 7 #[.val (.ref a)] [(.ref a)])) rfl rfl (hb hby d_jdk_42_method_152_7)
  have W104 : ∀ zQ, SS p e below T103 m 14 #[.val (.ref a)] [(.int w)] zQ → Steps p.tables e below (s₁.setTop (entryFrame m #[(.ref a)] 1)) zQ := by
    intro tt kt
    refine W0 tt ?_
    refine st101 _ ?_
    refine XS.ifNo X101.here hx rfl (hb hby d_jdk_42_method_152_3) rfl ((if0 _ _).trans (feq hcS).1) ?_
    refine XS.aloadN X101.here hx rfl (hb hby d_jdk_42_method_152_6) rfl rfl ?_
    show SS p e below T101 m 7 #[.val (.ref a)] [(.ref a)] _
    refine st103 _ ?_
    refine XS.goto X103.here hx rfl (pc0 := 10) (pc' := 14) rfl (hb hby d_jdk_42_method_152_10) (by decide) (by decide) ?_
    exact kt
  obtain ⟨fs, hr, hrun, hended, hW, hsame⟩ := X103.leave (v := some (.int (nar .byte w))) (fun h => by rw [Bd.returns] at h; cases h)
  refine ⟨_, _, W104 _ (retN X103 hx (t := .byte) Bd.returns (by simp) (hb hby d_jdk_42_method_152_14) hr), hrun, hended, _, _, rfl, ?_, ⟨_, rfl⟩, hW, hsame.mono (by decide) (by decide)⟩
  show Q_coder Z a w cS h0 n0 _ T103.heap _
  rw [e103]
  exact ⟨(congrArg (fun q => some (Value.int q)) hw8), N0, rfl⟩
def Q_length (Z : State) (a : Addr) (t : Addr) (kb : ClassId) (cs : List Int32) (cS : Int32) (h0 : Heap) (n0 : Nat) (vQ_ : Option Value) (hQ_ : Heap) (LQ_ : List Loc) : Prop := vQ_ = some (.int (Int32.ofNat cs.length)) ∧ Fr n0 LQ_ ∧ hQ_ = h0
set_option maxRecDepth 65536 in
set_option maxHeartbeats 40000000 in
theorem rm_length (l : Launch) (Z : State) (a0 : Array Value) (hw : HW a0 Z) (ws : List Jvm.Cond) (a : Addr) (t : Addr) (kb : ClassId) (cs : List Int32) (cS : Int32) (h0 : Heap) (n0 : Nat) (Z0 : n0 ≤ h0.size) (O0 : Old Z n0 h0) (S_cs : Sta Z Z.heap "java/lang/String" "COMPACT_STRINGS" "Z" (.int cS)) (hcS : ¬ (cS = (0 : Int32))) (hS : Str Z h0 a t kb cs) :
    MetFree l yn10 (head1 (Jvm.Cond.code yn10 jdk_42_method_54_code 1 (some .int) :: ws) ({ frames := 1, cells := 0, slots := 0, locals := 13 } : Room)) (fun aQ_ UQ => aQ_ = #[(.ref a)] ∧ Z.Warmed39 UQ.vm ∧ UQ.heap = h0) (fun _ _ _ _ _ => True) (fun _ UQ oQ UQ' => ∃ vQ_ LQ_, oQ = .returned vQ_ ∧ Q_length Z a t kb cs cS h0 n0 vQ_ UQ'.heap LQ_ ∧ FrameEnd UQ oQ UQ' LQ_ ({ frames := 1, cells := 0, slots := 0, locals := 13 } : Room).cells ({ frames := 1, cells := 0, slots := 0, locals := 13 } : Room).slots) := by
  refine MetFree.of_bodySF (plainFor_of_name pn_java_lang_String) hisR ?_
  intro p e s m args below meth cO s₁ Bd hml0 hP hK
  obtain ⟨rfl, hZ, hh⟩ := hP
  have hx := Bd.exec
  have hby := Bd.bytes
  have hml : cO.maxLocals = 1 := hml0
  have hown : s.vm.findClass "java/lang/String" = some m.cls := findClass_of_methodNamed Bd.named
  have hnm := (name_of_methodNamed Bd.named Bd.method).1
  have X0 : Stand p l e ({ frames := 1, cells := 0, slots := 0, locals := 13 } : Room) s m #[(.ref a)] below meth cO s₁ [] 0 0 := Stand.of_body Bd
  have e0 : s₁.heap = h0 := by rw [← hh, Bd.state]; rfl
  have N0 := Fr.nil n0
  have W0 : ∀ zQ, SS p e below s₁ m 0 #[.val (.ref a)] [] zQ → Steps p.tables e below (s₁.setTop (entryFrame m #[(.ref a)] 1)) zQ := fun tt kt => castTop (ef_length m a) kt
  obtain ⟨hE, hV, hC, hA, ok⟩ := hS
  obtain ⟨T101, X101, e101, st101⟩ := getF X0 hx hZ hown (host := "") (Or.inl (w34 hw)) Via.refl e0 hV (g := (mkF m 1 #[.val (.ref a)] [(.ref a)])) rfl rfl (hb hby d_jdk_42_method_54_1)
  obtain ⟨cl102, Ar102, -, S102, M102, -, -⟩ := id hA
  obtain ⟨cq103, kq103, q103a, q103b, q103c⟩ := isOf hZ e101 hE
  obtain ⟨_, _, ⟨T103, L103, k103, n103⟩, -, X103, ⟨Lc103, hQ103, l103, y103, z103⟩, st103⟩ := X101.virtualBack hx (y := yn9) (z := yn9) hown (mvT hZ (w45 hw)) (mvT hZ (w46 hw)) (notFace_of_selects (args := #[]) (mvT hZ (w48 hw))) (mvT hZ (w48 hw)) (mvT hZ (w47 hw)) (by decide) (backOf (W := 1) (rm_coder l Z a0 hw [] a (cdr cs) cS h0 n0 Z0 O0 S_cs hcS hC (own_narcdr cs)) hZ (w49 hw) (w9 hw) (by decide) (by decide)) q103a q103c (g := (mkF m 6 #[.val (.ref a)] [(.ref a), (.int (Int32.ofNat (blen cs)))])) rfl (by rw [hml]; rfl) (Steps.refl _) (argsL := []) (rest := [(.int (Int32.ofNat (blen cs)))]) (lenOf pd__28__29_B rfl) rfl (by show 2 * 0 + _ ≤ _; exact Nat.le_of_eq rfl) (hb hby d_jdk_42_method_54_6) (fun _ _ => ⟨rfl, e101, (Nat.le_of_ble_eq_true rfl), (Nat.le_of_ble_eq_true rfl)⟩)
  dsimp only [Pt.U, Pt.locs, Pt.cells, Pt.slots] at X103 l103 y103 z103 st103 hQ103
  subst l103 y103 z103
  obtain ⟨rfl, Nq103, eq103⟩ := hQ103
  have N103 := Fr.app N0 Nq103
  have W104 : ∀ zQ, SS p e below T103 m 10 #[.val (.ref a)] [(.int (Int32.ofNat cs.length))] zQ → Steps p.tables e below (s₁.setTop (entryFrame m #[(.ref a)] 1)) zQ := by
    intro tt kt
    refine W0 tt ?_
    refine XS.aloadN X0.here hx rfl (hb hby d_jdk_42_method_54_0) rfl rfl ?_
    show SS p e below s₁ m 1 #[.val (.ref a)] [(.ref a)] _
    refine st101 _ ?_
    show SS p e below T101 m 4 #[.val (.ref a)] [(.ref t)] _
    refine X101.arraylength hx (by first | exact Ar102.1 | (rw [e101]; exact Ar102.1)) (State.isArrayOf_alike hZ.alike Ar102.2.1) (g := (mkF m 4 #[.val (.ref a)] [(.ref t)])) rfl rfl (hb hby d_jdk_42_method_54_4) _ ?_
    rw [len_of S102 M102]
    refine XS.aloadN X101.here hx rfl (hb hby d_jdk_42_method_54_5) rfl rfl ?_
    show SS p e below T101 m 6 #[.val (.ref a)] [(.ref a), (.int (Int32.ofNat (blen cs)))] _
    refine st103.trans ?_
    refine XS.ishr X103.here hx rfl (hb hby d_jdk_42_method_54_9) rfl ?_
    show SS p e below T103 m 10 #[.val (.ref a)] [(.int ((Int32.ofNat (blen cs)) >>> ((cdr cs) &&& 31)))] _
    rw [show ((Int32.ofNat (blen cs)) >>> ((cdr cs) &&& 31)) = (Int32.ofNat cs.length) from own_len ok.2]
    exact kt
  obtain ⟨fs, hr, hrun, hended, hW, hsame⟩ := X103.leave (v := some (.int (Int32.ofNat cs.length))) (fun h => by rw [Bd.returns] at h; cases h)
  refine ⟨_, _, W104 _ (retI X103 hx Bd.returns (hb hby d_jdk_42_method_54_10) hr), hrun, hended, _, _, rfl, ?_, ⟨_, rfl⟩, hW, hsame.mono (by decide) (by decide)⟩
  show Q_length Z a t kb cs cS h0 n0 _ T103.heap _
  rw [eq103]
  exact ⟨rfl, N103, rfl⟩
set_option maxRecDepth 65536 in
set_option maxHeartbeats 40000000 in
theorem lp_compr {p : Program} {l : Launch} {e : Env} {R : Room} {s : State} {m : MethodId} {args : Array Value} {below : List Frame} {meth : Method} {cO : Code} {cells slots : Nat} {Z : State} {a0 : Array Value} (hx : p.tables.exec = Jvm.exec) (hZ : Z.Warmed39 s.vm) (hw : HW a0 Z) (hby : cO.code = jdk_52_method_21_code) (hml : cO.maxLocals = 7) (hown : s.vm.findClass "java/lang/StringUTF16" = some m.cls) (hRf : 0 ≤ R.frames) (hRl : 0 ≤ R.locals) (hRc : cells ≤ R.cells) (hRs : slots ≤ R.slots) (hret : meth.sig.returnType = some .int) (src : Addr) (dst : Addr) (kc : ClassId) (kb : ClassId) (cs : List Int32) (n0 : Nat) (hne : src ≠ dst) (hg : n0 ≤ dst) (ok : OkS cs) :
    ∀ suf : List Int32, ∀ (pre : List Int32) (s6 : Slot) (T0 : State) (L0 : List Loc) (h0 : Heap) (X0 : Stand p l e R s m args below meth cO T0 L0 cells slots) (e0 : T0.heap = h0) (N0 : Fr n0 L0) (Z0 : n0 ≤ h0.size) (Vs : Arv Z h0 src kc .char (Int32.ofNat cs.length) (cs.map Value.int) (.int (0 : Int32))) (Vd : Arv Z h0 dst kb .byte (Int32.ofNat cs.length) (l1 pre) (.int (0 : Int32))) (hl : lat pre = true) (h6 : One s6) (hk : cs = pre ++ suf), ∃ (T' : State) (L' : List Loc) (h' : Heap), Stand p l e R s m args below meth cO T' L' cells slots ∧ T'.heap = h' ∧ Fr n0 L' ∧ Keep h0 h' [dst] ∧ Arv Z h' dst kb .byte (Int32.ofNat cs.length) (l1 (cs.take (fl cs))) (.int (0 : Int32)) ∧ ∀ fs, (∀ (f : JFrame) (acts : List Action), f.method = m → f.locked = none → f.entered = [] → (doReturn e (T'.setTop f) acts (some (.int (Int32.ofNat (fl cs))))).1 = T'.setFrames fs) → SS p e below T0 m 3 #[.val (.ref src), .val (.int (Int32.ofNat pre.length)), .val (.ref dst), .val (.int (Int32.ofNat pre.length)), .val (.int (Int32.ofNat cs.length)), .val (.int (Int32.ofNat pre.length)), s6] [] (T'.setFrames fs) := by
  intro suf
  induction suf with
  | nil =>
    intro pre s6 T0 L0 h0 X0 e0 N0 Z0 Vs Vd hl h6 hk
    have W0 : ∀ zQ, SS p e below T0 m 3 #[.val (.ref src), .val (.int (Int32.ofNat pre.length)), .val (.ref dst), .val (.int (Int32.ofNat pre.length)), .val (.int (Int32.ofNat cs.length)), .val (.int (Int32.ofNat pre.length)), s6] [] zQ → Steps p.tables e below (T0.setTop (mkF m 3 #[.val (.ref src), .val (.int (Int32.ofNat pre.length)), .val (.ref dst), .val (.int (Int32.ofNat pre.length)), .val (.int (Int32.ofNat cs.length)), .val (.int (Int32.ofNat pre.length)), s6] [])) zQ := fun tt kt => kt
    have hn : cs.length < 1048576 := ok.2
    have hfl : fl cs = pre.length := by rw [hk, fl_app _ hl]; rfl
    have hlen : cs.length = pre.length := by rw [hk]; simp
    have W101 : ∀ zQ, SS p e below T0 m 46 #[.val (.ref src), .val (.int (Int32.ofNat pre.length)), .val (.ref dst), .val (.int (Int32.ofNat pre.length)), .val (.int (Int32.ofNat cs.length)), .val (.int (Int32.ofNat pre.length)), s6] [(.int (Int32.ofNat cs.length))] zQ → Steps p.tables e below (T0.setTop (mkF m 3 #[.val (.ref src), .val (.int (Int32.ofNat pre.length)), .val (.ref dst), .val (.int (Int32.ofNat pre.length)), .val (.int (Int32.ofNat cs.length)), .val (.int (Int32.ofNat pre.length)), s6] [])) zQ := by
      intro tt kt
      refine W0 tt ?_
      refine XS.iload X0.here hx rfl (hb hby d_jdk_52_method_21_3) rfl ?_
      refine XS.iload X0.here hx rfl (hb hby d_jdk_52_method_21_5) rfl ?_
      refine XS.icmpYes X0.here hx rfl (pc0 := 7) (pc' := 44) rfl (hb hby d_jdk_52_method_21_7) rfl (flt (own_nlt (by omega) (by omega))).2.1 (by decide) (by decide) ?_
      refine XS.iload X0.here hx rfl (hb hby d_jdk_52_method_21_44) rfl ?_
      exact kt
    have hR102 : Arv Z h0 dst kb .byte (Int32.ofNat cs.length) (l1 (cs.take (fl cs))) (.int (0 : Int32)) := by rw [show cs.take (fl cs) = pre from by rw [hfl, hk]; exact List.take_left]; exact Vd
    exact ⟨T0, _, h0, X0, e0, N0, (Keep.refl h0 [dst]), hR102, fun fs hr => W101 _ (retI X0 hx hret (hb hby d_jdk_52_method_21_46) (by rw [show (Value.int (Int32.ofNat cs.length)) = (Value.int (Int32.ofNat (fl cs))) from (by rw [hfl, hlen])]; exact hr))⟩
  | cons cc r ih =>
    intro pre s6 T0 L0 h0 X0 e0 N0 Z0 Vs Vd hl h6 hk
    have W0 : ∀ zQ, SS p e below T0 m 3 #[.val (.ref src), .val (.int (Int32.ofNat pre.length)), .val (.ref dst), .val (.int (Int32.ofNat pre.length)), .val (.int (Int32.ofNat cs.length)), .val (.int (Int32.ofNat pre.length)), s6] [] zQ → Steps p.tables e below (T0.setTop (mkF m 3 #[.val (.ref src), .val (.int (Int32.ofNat pre.length)), .val (.ref dst), .val (.int (Int32.ofNat pre.length)), .val (.int (Int32.ofNat cs.length)), .val (.int (Int32.ofNat pre.length)), s6] [])) zQ := fun tt kt => kt
    have hn : cs.length < 1048576 := ok.2
    have hlt : pre.length < cs.length := by rw [hk]; simp
    have hcc : cs.getD pre.length 0 = cc := by rw [hk]; exact app_at pre r cc 0
    obtain ⟨cl103, Ar103, q103, S103, M103, H103, F103g⟩ := id Vs
    have hin103 : ¬ ((Int32.ofNat pre.length) < 0 ∨ cl103.slots.size ≤ ((Int32.ofNat pre.length)).toNatClampNeg) := inb_of S103 ⟨own_nneg (by omega), own_lt hlt (by omega)⟩
    have hat103 : cl103.slots[((Int32.ofNat pre.length)).toNatClampNeg]? = some (.int cc) := Has.at H103 hin103 (by rw [own_cl (by omega), ch_at _ _ _ hlt, hcc])
    have W104 : ∀ zQ, SS p e below T0 m 20 #[.val (.ref src), .val (.int (Int32.ofNat pre.length)), .val (.ref dst), .val (.int (Int32.ofNat pre.length)), .val (.int (Int32.ofNat cs.length)), .val (.int (Int32.ofNat pre.length)), .val (.int cc)] [(.int (255 : Int32)), (.int cc)] zQ → Steps p.tables e below (T0.setTop (mkF m 3 #[.val (.ref src), .val (.int (Int32.ofNat pre.length)), .val (.ref dst), .val (.int (Int32.ofNat pre.length)), .val (.int (Int32.ofNat cs.length)), .val (.int (Int32.ofNat pre.length)), s6] [])) zQ := by
      intro tt kt
      refine W0 tt ?_
      refine XS.iload X0.here hx rfl (hb hby d_jdk_52_method_21_3) rfl ?_
      refine XS.iload X0.here hx rfl (hb hby d_jdk_52_method_21_5) rfl ?_
      refine XS.icmpNo X0.here hx rfl (hb hby d_jdk_52_method_21_7) rfl (tlt (own_lt hlt (by omega))).2.1 ?_
      refine XS.aloadN X0.here hx rfl (hb hby d_jdk_52_method_21_10) rfl rfl ?_
      refine XS.iloadN X0.here hx rfl (hb hby d_jdk_52_method_21_11) rfl ?_
      show SS p e below T0 m 12 #[.val (.ref src), .val (.int (Int32.ofNat pre.length)), .val (.ref dst), .val (.int (Int32.ofNat pre.length)), .val (.int (Int32.ofNat cs.length)), .val (.int (Int32.ofNat pre.length)), s6] [(.int (Int32.ofNat pre.length)), (.ref src)] _
      refine X0.caload hx (j := (Int32.ofNat pre.length)) (v := (.int cc)) (by first | exact Ar103.1 | (rw [e0]; exact Ar103.1)) (State.isArrayOf_alike hZ.alike Ar103.2.1) Ar103.2.2 hin103 hat103 (g := (mkF m 12 #[.val (.ref src), .val (.int (Int32.ofNat pre.length)), .val (.ref dst), .val (.int (Int32.ofNat pre.length)), .val (.int (Int32.ofNat cs.length)), .val (.int (Int32.ofNat pre.length)), s6] [(.int (Int32.ofNat pre.length)), (.ref src)])) rfl rfl (hb hby d_jdk_52_method_21_12) _ ?_
      refine XS.istore X0.here hx rfl (hb hby d_jdk_52_method_21_13) rfl (l' := #[.val (.ref src), .val (.int (Int32.ofNat pre.length)), .val (.ref dst), .val (.int (Int32.ofNat pre.length)), .val (.int (Int32.ofNat cs.length)), .val (.int (Int32.ofNat pre.length)), .val (.int cc)]) (XS.store1 (o := s6) rfl h6 rfl) ?_
      refine XS.iload X0.here hx rfl (hb hby d_jdk_52_method_21_15) rfl ?_
      refine XS.sipush X0.here hx rfl (hb hby d_jdk_52_method_21_17) ?_
      exact kt
    by_cases hc105 : (255 : Int32) < cc
    ·
      have hfl : fl cs = pre.length := by rw [hk, fl_app _ hl]; show _ + (if (255 : Int32) < cc then 0 else fl r + 1) = _; rw [if_pos hc105]; rfl
      have W106 : ∀ zQ, SS p e below T0 m 25 #[.val (.ref src), .val (.int (Int32.ofNat pre.length)), .val (.ref dst), .val (.int (Int32.ofNat pre.length)), .val (.int (Int32.ofNat cs.length)), .val (.int (Int32.ofNat pre.length)), .val (.int cc)] [(.int (Int32.ofNat pre.length))] zQ → Steps p.tables e below (T0.setTop (mkF m 3 #[.val (.ref src), .val (.int (Int32.ofNat pre.length)), .val (.ref dst), .val (.int (Int32.ofNat pre.length)), .val (.int (Int32.ofNat cs.length)), .val (.int (Int32.ofNat pre.length)), s6] [])) zQ := by
        intro tt kt
        refine W104 tt ?_
        refine XS.icmpNo X0.here hx rfl (hb hby d_jdk_52_method_21_20) rfl (tlt hc105).2.2.2 ?_
        refine XS.iload X0.here hx rfl (hb hby d_jdk_52_method_21_23) rfl ?_
        exact kt
      have hR107 : Arv Z h0 dst kb .byte (Int32.ofNat cs.length) (l1 (cs.take (fl cs))) (.int (0 : Int32)) := by rw [show cs.take (fl cs) = pre from by rw [hfl, hk]; exact List.take_left]; exact Vd
      exact ⟨T0, _, h0, X0, e0, N0, (Keep.refl h0 [dst]), hR107, fun fs hr => W106 _ (retI X0 hx hret (hb hby d_jdk_52_method_21_25) (by rw [show (Value.int (Int32.ofNat pre.length)) = (Value.int (Int32.ofNat (fl cs))) from (by rw [hfl])]; exact hr))⟩
    ·
      obtain ⟨cl108, Ar108, q108, S108, M108, H108, F108g⟩ := id Vd
      have hin108 : ¬ ((Int32.ofNat pre.length) < 0 ∨ cl108.slots.size ≤ ((Int32.ofNat pre.length)).toNatClampNeg) := inb_of S108 ⟨own_nneg (by omega), own_lt hlt (by omega)⟩
      obtain ⟨T108, h108, X108, e108, Wr108, st108⟩ := stB X0 hx hZ e0 Ar108 (j := (Int32.ofNat pre.length)) hin108 (g := (mkF m 31 #[.val (.ref src), .val (.int (Int32.ofNat pre.length)), .val (.ref dst), .val (.int (Int32.ofNat pre.length)), .val (.int (Int32.ofNat cs.length)), .val (.int (Int32.ofNat pre.length)), .val (.int cc)] [(.int (cc.toInt8.toInt32)), (.int (Int32.ofNat pre.length)), (.ref dst)])) rfl rfl (hb hby d_jdk_52_method_21_31)
      have G108 : Arv Z h108 dst kb .byte (Int32.ofNat cs.length) ((l1 pre) ++ [(.int (nar .byte (cc.toInt8.toInt32)))]) (.int (0 : Int32)) := Arv.push Ar108 q108 S108 M108 H108 F108g (fits_nar_byte _) Wr108 (by rw [own_cl (by omega), l1_len])
      have K108 := Keep.of_wr Wr108
      have N108 := Fr.snoc X108 N0 hg
      have J108 : Arv Z h108 dst kb .byte (Int32.ofNat cs.length) (l1 (pre ++ [cc])) (.int (0 : Int32)) := by rw [← l1_snoc, ← own_narb]; exact G108
      have W109 : ∀ zQ, SS p e below T108 m 3 #[.val (.ref src), .val (.int (Int32.ofNat (pre ++ [cc]).length)), .val (.ref dst), .val (.int (Int32.ofNat (pre ++ [cc]).length)), .val (.int (Int32.ofNat cs.length)), .val (.int (Int32.ofNat (pre ++ [cc]).length)), .val (.int cc)] [] zQ → Steps p.tables e below (T0.setTop (mkF m 3 #[.val (.ref src), .val (.int (Int32.ofNat pre.length)), .val (.ref dst), .val (.int (Int32.ofNat pre.length)), .val (.int (Int32.ofNat cs.length)), .val (.int (Int32.ofNat pre.length)), s6] [])) zQ := by
        intro tt kt
        refine W104 tt ?_
        refine XS.icmpYes X0.here hx rfl (pc0 := 20) (pc' := 26) rfl (hb hby d_jdk_52_method_21_20) rfl (flt hc105).2.2.2 (by decide) (by decide) ?_
        refine XS.aloadN X0.here hx rfl (hb hby d_jdk_52_method_21_26) rfl rfl ?_
        refine XS.iloadN X0.here hx rfl (hb hby d_jdk_52_method_21_27) rfl ?_
        refine XS.iload X0.here hx rfl (hb hby d_jdk_52_method_21_28) rfl ?_
        refine XS.i2b X0.here hx rfl (hb hby d_jdk_52_method_21_30) rfl ?_
        show SS p e below T0 m 31 #[.val (.ref src), .val (.int (Int32.ofNat pre.length)), .val (.ref dst), .val (.int (Int32.ofNat pre.length)), .val (.int (Int32.ofNat cs.length)), .val (.int (Int32.ofNat pre.length)), .val (.int cc)] [(.int (cc.toInt8.toInt32)), (.int (Int32.ofNat pre.length)), (.ref dst)] _
        refine st108 _ ?_
        show SS p e below T108 m 32 #[.val (.ref src), .val (.int (Int32.ofNat pre.length)), .val (.ref dst), .val (.int (Int32.ofNat pre.length)), .val (.int (Int32.ofNat cs.length)), .val (.int (Int32.ofNat pre.length)), .val (.int cc)] [] _
        refine XS.iinc X108.here hx rfl (hb hby d_jdk_52_method_21_32) rfl (l' := #[.val (.ref src), .val (.int ((Int32.ofNat pre.length) + (1 : Int32))), .val (.ref dst), .val (.int (Int32.ofNat pre.length)), .val (.int (Int32.ofNat cs.length)), .val (.int (Int32.ofNat pre.length)), .val (.int cc)]) rfl ?_
        show SS p e below T108 m 35 #[.val (.ref src), .val (.int ((Int32.ofNat pre.length) + (1 : Int32))), .val (.ref dst), .val (.int (Int32.ofNat pre.length)), .val (.int (Int32.ofNat cs.length)), .val (.int (Int32.ofNat pre.length)), .val (.int cc)] [] _
        refine XS.iinc X108.here hx rfl (hb hby d_jdk_52_method_21_35) rfl (l' := #[.val (.ref src), .val (.int ((Int32.ofNat pre.length) + (1 : Int32))), .val (.ref dst), .val (.int ((Int32.ofNat pre.length) + (1 : Int32))), .val (.int (Int32.ofNat cs.length)), .val (.int (Int32.ofNat pre.length)), .val (.int cc)]) rfl ?_
        show SS p e below T108 m 38 #[.val (.ref src), .val (.int ((Int32.ofNat pre.length) + (1 : Int32))), .val (.ref dst), .val (.int ((Int32.ofNat pre.length) + (1 : Int32))), .val (.int (Int32.ofNat cs.length)), .val (.int (Int32.ofNat pre.length)), .val (.int cc)] [] _
        refine XS.iinc X108.here hx rfl (hb hby d_jdk_52_method_21_38) rfl (l' := #[.val (.ref src), .val (.int ((Int32.ofNat pre.length) + (1 : Int32))), .val (.ref dst), .val (.int ((Int32.ofNat pre.length) + (1 : Int32))), .val (.int (Int32.ofNat cs.length)), .val (.int ((Int32.ofNat pre.length) + (1 : Int32))), .val (.int cc)]) rfl ?_
        show SS p e below T108 m 41 #[.val (.ref src), .val (.int ((Int32.ofNat pre.length) + (1 : Int32))), .val (.ref dst), .val (.int ((Int32.ofNat pre.length) + (1 : Int32))), .val (.int (Int32.ofNat cs.length)), .val (.int ((Int32.ofNat pre.length) + (1 : Int32))), .val (.int cc)] [] _
        rw [show ((Int32.ofNat pre.length) + (1 : Int32)) = (Int32.ofNat (pre ++ [cc]).length) from (by rw [own_succ]; simp)]
        refine XS.goto X108.here hx rfl (pc0 := 41) (pc' := 3) rfl (hb hby d_jdk_52_method_21_41) (by decide) (by decide) ?_
        exact kt
      have F111 : Arv Z h108 src kc .char (Int32.ofNat cs.length) (cs.map Value.int) (.int (0 : Int32)) := (Vs.keep K108 (ninS hne nin0))
      obtain ⟨T110, L110, h110, X110, e110, N110, K110, P110_0, st110⟩ := ih (pre ++ [cc]) (.val (.int cc)) T108 _ h108 X108 e108 N108 (Nat.le_trans Z0 K108.1) F111 J108 (lat_snoc hl hc105) (One.val rfl) (by rw [hk]; simp)
      exact ⟨T110, L110, h110, X110, e110, N110, (Keep.trans (Keep.trans (Keep.refl h0 [dst]) K108 (allS (Or.inl (List.mem_of_getElem? (i := 0) rfl)) all0)) K110 (allS (Or.inl (List.mem_of_getElem? (i := 0) rfl)) all0)), P110_0, fun tt kt => W109 _ (st110 _ kt)⟩
def Q_compress21 (Z : State) (src : Addr) (dst : Addr) (kc : ClassId) (kb : ClassId) (cs : List Int32) (h0 : Heap) (n0 : Nat) (vQ_ : Option Value) (hQ_ : Heap) (LQ_ : List Loc) : Prop := vQ_ = some (.int (Int32.ofNat (fl cs))) ∧ Fr n0 LQ_ ∧ Keep h0 hQ_ [dst] ∧ Arv Z hQ_ dst kb .byte (Int32.ofNat cs.length) (l1 (cs.take (fl cs))) (.int (0 : Int32))
set_option maxRecDepth 65536 in
set_option maxHeartbeats 40000000 in
theorem rm_compress21 (l : Launch) (Z : State) (a0 : Array Value) (hw : HW a0 Z) (ws : List Jvm.Cond) (src : Addr) (dst : Addr) (kc : ClassId) (kb : ClassId) (cs : List Int32) (h0 : Heap) (n0 : Nat) (Z0 : n0 ≤ h0.size) (Vs : Arv Z h0 src kc .char (Int32.ofNat cs.length) (cs.map Value.int) (.int (0 : Int32))) (Vd : Arv Z h0 dst kb .byte (Int32.ofNat cs.length) [] (.int (0 : Int32))) (hne : src ≠ dst) (hg : n0 ≤ dst) (ok : OkS cs) :
    MetFree l yn11 (head1 (Jvm.Cond.code yn11 jdk_52_method_21_code 7 (some .int) :: ws) ({ frames := 0, cells := 0, slots := 0, locals := 0 } : Room)) (fun aQ_ UQ => aQ_ = #[(.ref src), (.int (0 : Int32)), (.ref dst), (.int (0 : Int32)), (.int (Int32.ofNat cs.length))] ∧ Z.Warmed39 UQ.vm ∧ UQ.heap = h0) (fun _ _ _ _ _ => True) (fun _ UQ oQ UQ' => ∃ vQ_ LQ_, oQ = .returned vQ_ ∧ Q_compress21 Z src dst kc kb cs h0 n0 vQ_ UQ'.heap LQ_ ∧ FrameEnd UQ oQ UQ' LQ_ ({ frames := 0, cells := 0, slots := 0, locals := 0 } : Room).cells ({ frames := 0, cells := 0, slots := 0, locals := 0 } : Room).slots) := by
  refine MetFree.of_bodySF (plainFor_of_name pn_java_lang_StringUTF16) hisR ?_
  intro p e s m args below meth cO s₁ Bd hml0 hP hK
  obtain ⟨rfl, hZ, hh⟩ := hP
  have hx := Bd.exec
  have hby := Bd.bytes
  have hml : cO.maxLocals = 7 := hml0
  have hown : s.vm.findClass "java/lang/StringUTF16" = some m.cls := findClass_of_methodNamed Bd.named
  have hnm := (name_of_methodNamed Bd.named Bd.method).1
  have X0 : Stand p l e ({ frames := 0, cells := 0, slots := 0, locals := 0 } : Room) s m #[(.ref src), (.int (0 : Int32)), (.ref dst), (.int (0 : Int32)), (.int (Int32.ofNat cs.length))] below meth cO s₁ [] 0 0 := Stand.of_body Bd
  have e0 : s₁.heap = h0 := by rw [← hh, Bd.state]; rfl
  have N0 := Fr.nil n0
  have W0 : ∀ zQ, SS p e below s₁ m 0 #[.val (.ref src), .val (.int (0 : Int32)), .val (.ref dst), .val (.int (0 : Int32)), .val (.int (Int32.ofNat cs.length)), .unset, .unset] [] zQ → Steps p.tables e below (s₁.setTop (entryFrame m #[(.ref src), (.int (0 : Int32)), (.ref dst), (.int (0 : Int32)), (.int (Int32.ofNat cs.length))] 7)) zQ := fun tt kt => castTop (ef_compress21 m src (0 : Int32) dst (0 : Int32) (Int32.ofNat cs.length)) kt
  have W101 : ∀ zQ, SS p e below s₁ m 3 #[.val (.ref src), .val (.int (0 : Int32)), .val (.ref dst), .val (.int (0 : Int32)), .val (.int (Int32.ofNat cs.length)), .val (.int (0 : Int32)), .unset] [] zQ → Steps p.tables e below (s₁.setTop (entryFrame m #[(.ref src), (.int (0 : Int32)), (.ref dst), (.int (0 : Int32)), (.int (Int32.ofNat cs.length))] 7)) zQ := by
    intro tt kt
    refine W0 tt ?_
    refine XS.iconst X0.here hx rfl (hb hby d_jdk_52_method_21_0) ?_
    refine XS.istore X0.here hx rfl (hb hby d_jdk_52_method_21_1) rfl (l' := #[.val (.ref src), .val (.int (0 : Int32)), .val (.ref dst), .val (.int (0 : Int32)), .val (.int (Int32.ofNat cs.length)), .val (.int (0 : Int32)), .unset]) rfl ?_
    exact kt
  obtain ⟨T102, L102, h102, X102, e102, Nl102, K102, P102_0, st102⟩ := lp_compr hx hZ hw hby hml hown (by decide) (by decide) (by decide) (by decide) Bd.returns src dst kc kb cs n0 hne hg ok cs [] .unset s₁ _ h0 X0 e0 N0 Z0 Vs Vd rfl One.u rfl
  obtain ⟨fs, hr, hrun, hended, hW, hsame⟩ := X102.leave (v := some (.int (Int32.ofNat (fl cs)))) (fun h => by rw [Bd.returns] at h; cases h)
  refine ⟨_, _, W101 _ (st102 _ hr), hrun, hended, _, _, rfl, ?_, ⟨_, rfl⟩, hW, hsame.mono (by decide) (by decide)⟩
  show Q_compress21 Z src dst kc kb cs h0 n0 _ T102.heap _
  rw [e102]
  exact ⟨rfl, Nl102, (Keep.trans (Keep.refl h0 [dst]) K102 (allS (Or.inl (List.mem_of_getElem? (i := 0) rfl)) all0)), P102_0⟩
def Q_coderOf (Z : State) (t : Addr) (kb : ClassId) (vs : List Value) (cs : List Int32) (h0 : Heap) (n0 : Nat) (vQ_ : Option Value) (hQ_ : Heap) (LQ_ : List Loc) : Prop := vQ_ = some (.int (cdr cs)) ∧ Fr n0 LQ_ ∧ hQ_ = h0
set_option maxRecDepth 65536 in
set_option maxHeartbeats 40000000 in
theorem rm_coderOf (l : Launch) (Z : State) (a0 : Array Value) (hw : HW a0 Z) (ws : List Jvm.Cond) (t : Addr) (kb : ClassId) (vs : List Value) (cs : List Int32) (h0 : Heap) (n0 : Nat) (Z0 : n0 ≤ h0.size) (A1 : Arv Z h0 t kb .byte (Int32.ofNat (blen cs)) vs (.int (0 : Int32))) (ok : OkS cs) :
    MetFree l yn12 (head1 (Jvm.Cond.code yn12 jdk_52_method_15_code 2 (some .byte) :: ws) ({ frames := 0, cells := 0, slots := 0, locals := 0 } : Room)) (fun aQ_ UQ => aQ_ = #[(.ref t), (.int (Int32.ofNat cs.length))] ∧ Z.Warmed39 UQ.vm ∧ UQ.heap = h0) (fun _ _ _ _ _ => True) (fun _ UQ oQ UQ' => ∃ vQ_ LQ_, oQ = .returned vQ_ ∧ Q_coderOf Z t kb vs cs h0 n0 vQ_ UQ'.heap LQ_ ∧ FrameEnd UQ oQ UQ' LQ_ ({ frames := 0, cells := 0, slots := 0, locals := 0 } : Room).cells ({ frames := 0, cells := 0, slots := 0, locals := 0 } : Room).slots) := by
  refine MetFree.of_bodySF (plainFor_of_name pn_java_lang_StringUTF16) hisR ?_
  intro p e s m args below meth cO s₁ Bd hml0 hP hK
  obtain ⟨rfl, hZ, hh⟩ := hP
  have hx := Bd.exec
  have hby := Bd.bytes
  have hml : cO.maxLocals = 2 := hml0
  have hown : s.vm.findClass "java/lang/StringUTF16" = some m.cls := findClass_of_methodNamed Bd.named
  have hnm := (name_of_methodNamed Bd.named Bd.method).1
  have X0 : Stand p l e ({ frames := 0, cells := 0, slots := 0, locals := 0 } : Room) s m #[(.ref t), (.int (Int32.ofNat cs.length))] below meth cO s₁ [] 0 0 := Stand.of_body Bd
  have e0 : s₁.heap = h0 := by rw [← hh, Bd.state]; rfl
  have N0 := Fr.nil n0
  have W0 : ∀ zQ, SS p e below s₁ m 0 #[.val (.ref t), .val (.int (Int32.ofNat cs.length))] [] zQ → Steps p.tables e below (s₁.setTop (entryFrame m #[(.ref t), (.int (Int32.ofNat cs.length))] 2)) zQ := fun tt kt => castTop (ef_coderOf m t (Int32.ofNat cs.length)) kt
  obtain ⟨cl101, Ar101, -, S101, M101, -, -⟩ := id A1
  have W102 : ∀ zQ, SS p e below s₁ m 8 #[.val (.ref t), .val (.int (Int32.ofNat cs.length))] [(.int (((((Int32.ofNat cs.length) - (Int32.ofNat (blen cs))).toUInt32 >>> ((31 : Int32) &&& 31).toUInt32).toInt32).toInt8.toInt32))] zQ → Steps p.tables e below (s₁.setTop (entryFrame m #[(.ref t), (.int (Int32.ofNat cs.length))] 2)) zQ := by
    intro tt kt
    refine W0 tt ?_
    refine XS.iloadN X0.here hx rfl (hb hby d_jdk_52_method_15_0) rfl ?_
    refine XS.aloadN X0.here hx rfl (hb hby d_jdk_52_method_15_1) rfl rfl ?_
    show SS p e below s₁ m 2 #[.val (.ref t), .val (.int (Int32.ofNat cs.length))] [(.ref t), (.int (Int32.ofNat cs.length))] _
    refine X0.arraylength hx (by first | exact Ar101.1 | (rw [e0]; exact Ar101.1)) (State.isArrayOf_alike hZ.alike Ar101.2.1) (g := (mkF m 2 #[.val (.ref t), .val (.int (Int32.ofNat cs.length))] [(.ref t), (.int (Int32.ofNat cs.length))])) rfl rfl (hb hby d_jdk_52_method_15_2) _ ?_
    rw [len_of S101 M101]
    refine XS.isub X0.here hx rfl (hb hby d_jdk_52_method_15_3) rfl ?_
    refine XS.bipush X0.here hx rfl (hb hby d_jdk_52_method_15_4) ?_
    refine XS.iushr X0.here hx rfl (hb hby d_jdk_52_method_15_6) rfl ?_
    refine XS.i2b X0.here hx rfl (hb hby d_jdk_52_method_15_7) rfl ?_
    exact kt
  obtain ⟨fs, hr, hrun, hended, hW, hsame⟩ := X0.leave (v := some (.int (nar .byte (((((Int32.ofNat cs.length) - (Int32.ofNat (blen cs))).toUInt32 >>> ((31 : Int32) &&& 31).toUInt32).toInt32).toInt8.toInt32)))) (fun h => by rw [Bd.returns] at h; cases h)
  refine ⟨_, _, W102 _ (retN X0 hx (t := .byte) Bd.returns (by simp) (hb hby d_jdk_52_method_15_8) hr), hrun, hended, _, _, rfl, ?_, ⟨_, rfl⟩, hW, hsame.mono (by decide) (by decide)⟩
  show Q_coderOf Z t kb vs cs h0 n0 _ s₁.heap _
  rw [e0]
  exact ⟨(congrArg (fun q => some (Value.int q)) (own_cdr ok.2)), N0, rfl⟩
def Q_nbl (Z : State) (N : Nat) (h0 : Heap) (n0 : Nat) (vQ_ : Option Value) (hQ_ : Heap) (LQ_ : List Loc) : Prop := vQ_ = some (.int (Int32.ofNat (2 * N))) ∧ Fr n0 LQ_ ∧ hQ_ = h0
set_option maxRecDepth 65536 in
set_option maxHeartbeats 40000000 in
theorem rm_nbl (l : Launch) (Z : State) (a0 : Array Value) (hw : HW a0 Z) (ws : List Jvm.Cond) (N : Nat) (h0 : Heap) (n0 : Nat) (Z0 : n0 ≤ h0.size) (hN : 2 * N < 2147483646) :
    MetFree l yn13 (head1 (Jvm.Cond.code yn13 jdk_52_method_3_code 1 (some .int) :: ws) ({ frames := 0, cells := 0, slots := 0, locals := 0 } : Room)) (fun aQ_ UQ => aQ_ = #[(.int (Int32.ofNat N))] ∧ Z.Warmed39 UQ.vm ∧ UQ.heap = h0) (fun _ _ _ _ _ => True) (fun _ UQ oQ UQ' => ∃ vQ_ LQ_, oQ = .returned vQ_ ∧ Q_nbl Z N h0 n0 vQ_ UQ'.heap LQ_ ∧ FrameEnd UQ oQ UQ' LQ_ ({ frames := 0, cells := 0, slots := 0, locals := 0 } : Room).cells ({ frames := 0, cells := 0, slots := 0, locals := 0 } : Room).slots) := by
  refine MetFree.of_bodySF (plainFor_of_name pn_java_lang_StringUTF16) hisR ?_
  intro p e s m args below meth cO s₁ Bd hml0 hP hK
  obtain ⟨rfl, hZ, hh⟩ := hP
  have hx := Bd.exec
  have hby := Bd.bytes
  have hml : cO.maxLocals = 1 := hml0
  have hown : s.vm.findClass "java/lang/StringUTF16" = some m.cls := findClass_of_methodNamed Bd.named
  have hnm := (name_of_methodNamed Bd.named Bd.method).1
  have X0 : Stand p l e ({ frames := 0, cells := 0, slots := 0, locals := 0 } : Room) s m #[(.int (Int32.ofNat N))] below meth cO s₁ [] 0 0 := Stand.of_body Bd
  have e0 : s₁.heap = h0 := by rw [← hh, Bd.state]; rfl
  have N0 := Fr.nil n0
  have W0 : ∀ zQ, SS p e below s₁ m 0 #[.val (.int (Int32.ofNat N))] [] zQ → Steps p.tables e below (s₁.setTop (entryFrame m #[(.int (Int32.ofNat N))] 1)) zQ := fun tt kt => castTop (ef_nbl m (Int32.ofNat N)) kt
  have W101 : ∀ zQ, SS p e below s₁ m 58 #[.val (.int (Int32.ofNat N))] [(.int (Int32.ofNat (2 * N)))] zQ → Steps p.tables e below (s₁.setTop (entryFrame m #[(.int (Int32.ofNat N))] 1)) zQ := by
    intro tt kt
    refine W0 tt ?_
    refine XS.iloadN X0.here hx rfl (hb hby d_jdk_52_method_3_0) rfl ?_
    refine XS.ifYes X0.here hx rfl (pc0 := 1) (pc' := 12) rfl (hb hby d_jdk_52_method_3_1) rfl ((if0 _ _).trans (flt (own_nneg (by omega))).2.1) (by decide) (by decide) ?_
    refine XS.iloadN X0.here hx rfl (hb hby d_jdk_52_method_3_12) rfl ?_
    show SS p e below s₁ m 13 #[.val (.int (Int32.ofNat N))] [(.int (Int32.ofNat N))] _
    refine X0.ldcInt hx hown (mvT hZ (w213 hw)) (g := (mkF m 13 #[.val (.int (Int32.ofNat N))] [(.int (Int32.ofNat N))])) rfl (hb hby d_jdk_52_method_3_13) _ ?_
    refine XS.icmpYes X0.here hx rfl (pc0 := 15) (pc' := 55) rfl (hb hby d_jdk_52_method_3_15) rfl (tlt (own_lt (n := 1073741823) (by omega) (by decide))).1 (by decide) (by decide) ?_
    refine XS.iloadN X0.here hx rfl (hb hby d_jdk_52_method_3_55) rfl ?_
    refine XS.iconst X0.here hx rfl (hb hby d_jdk_52_method_3_56) ?_
    refine XS.ishl X0.here hx rfl (hb hby d_jdk_52_method_3_57) rfl ?_
    show SS p e below s₁ m 58 #[.val (.int (Int32.ofNat N))] [(.int ((Int32.ofNat N) <<< ((1 : Int32) &&& 31)))] _
    rw [show ((Int32.ofNat N) <<< ((1 : Int32) &&& 31)) = (Int32.ofNat (2 * N)) from own_shl1 (by omega)]
    exact kt
  obtain ⟨fs, hr, hrun, hended, hW, hsame⟩ := X0.leave (v := some (.int (Int32.ofNat (2 * N)))) (fun h => by rw [Bd.returns] at h; cases h)
  refine ⟨_, _, W101 _ (retI X0 hx Bd.returns (hb hby d_jdk_52_method_3_58) hr), hrun, hended, _, _, rfl, ?_, ⟨_, rfl⟩, hW, hsame.mono (by decide) (by decide)⟩
  show Q_nbl Z N h0 n0 _ s₁.heap _
  rw [e0]
  exact ⟨rfl, N0, rfl⟩
def Q_nbf (Z : State) (N : Nat) (h0 : Heap) (n0 : Nat) (vQ_ : Option Value) (hQ_ : Heap) (LQ_ : List Loc) : Prop := ∃ t : Addr, ∃ kb : ClassId, vQ_ = some (.ref t) ∧ Fr n0 LQ_ ∧ Keep h0 hQ_ [] ∧ h0.size ≤ t ∧ Arv Z hQ_ t kb .byte (Int32.ofNat (2 * N)) [] (.int (0 : Int32))
set_option maxRecDepth 65536 in
set_option maxHeartbeats 40000000 in
theorem rm_nbf (l : Launch) (Z : State) (a0 : Array Value) (hw : HW a0 Z) (ws : List Jvm.Cond) (N : Nat) (h0 : Heap) (n0 : Nat) (Z0 : n0 ≤ h0.size) (hN : 2 * N ≤ 8) :
    MetFree l yn14 (head1 (Jvm.Cond.code yn14 jdk_52_method_2_code 1 (some (.array .byte)) :: ws) ({ frames := 1, cells := 1, slots := 8, locals := 12 } : Room)) (fun aQ_ UQ => aQ_ = #[(.int (Int32.ofNat N))] ∧ Z.Warmed39 UQ.vm ∧ UQ.heap = h0) (fun _ _ _ _ _ => True) (fun _ UQ oQ UQ' => ∃ vQ_ LQ_, oQ = .returned vQ_ ∧ Q_nbf Z N h0 n0 vQ_ UQ'.heap LQ_ ∧ FrameEnd UQ oQ UQ' LQ_ ({ frames := 1, cells := 1, slots := 8, locals := 12 } : Room).cells ({ frames := 1, cells := 1, slots := 8, locals := 12 } : Room).slots) := by
  refine MetFree.of_bodySF (plainFor_of_name pn_java_lang_StringUTF16) hisR ?_
  intro p e s m args below meth cO s₁ Bd hml0 hP hK
  obtain ⟨rfl, hZ, hh⟩ := hP
  have hx := Bd.exec
  have hby := Bd.bytes
  have hml : cO.maxLocals = 1 := hml0
  have hown : s.vm.findClass "java/lang/StringUTF16" = some m.cls := findClass_of_methodNamed Bd.named
  have hnm := (name_of_methodNamed Bd.named Bd.method).1
  have X0 : Stand p l e ({ frames := 1, cells := 1, slots := 8, locals := 12 } : Room) s m #[(.int (Int32.ofNat N))] below meth cO s₁ [] 0 0 := Stand.of_body Bd
  have e0 : s₁.heap = h0 := by rw [← hh, Bd.state]; rfl
  have N0 := Fr.nil n0
  have W0 : ∀ zQ, SS p e below s₁ m 0 #[.val (.int (Int32.ofNat N))] [] zQ → Steps p.tables e below (s₁.setTop (entryFrame m #[(.int (Int32.ofNat N))] 1)) zQ := fun tt kt => castTop (ef_nbf m (Int32.ofNat N)) kt
  obtain ⟨_, _, ⟨T101, L101, k101, n101⟩, -, X101, ⟨Lc101, hQ101, l101, y101, z101⟩, st101⟩ := Jvm.LawKit.callS X0 hx (y := yn13) hown (mvT hZ (w210 hw)) (mvT hZ (w211 hw)) (mvT hZ (w23 hw)) (mvT hZ (w212 hw)) (by decide) (backOf (W := 0) (rm_nbl l Z a0 hw [] N h0 n0 Z0 (by omega)) hZ (w212 hw) (w23 hw) (by decide) (by decide)) (g := (mkF m 1 #[.val (.int (Int32.ofNat N))] [(.int (Int32.ofNat N))])) rfl (by rw [hml]; rfl) (argsL := [(.int (Int32.ofNat N))]) (rest := []) (lenOf pd__28_I_29_I rfl) rfl (by show 2 * 0 + _ ≤ _; exact Nat.le_of_eq rfl) (hb hby d_jdk_52_method_2_1) (fun _ _ => ⟨rfl, e0, (Nat.le_of_ble_eq_true rfl), (Nat.le_of_ble_eq_true rfl)⟩)
  dsimp only [Pt.U, Pt.locs, Pt.cells, Pt.slots] at X101 l101 y101 z101 st101 hQ101
  subst l101 y101 z101
  obtain ⟨rfl, Nq101, eq101⟩ := hQ101
  have N101 := Fr.app N0 Nq101
  obtain ⟨T102, h102, k102, X102, e102, E102, A102, st102⟩ := newP X101 hx hZ (aty := .byte) (w25 hw) eq101 (g := (mkF m 4 #[.val (.int (Int32.ofNat N))] [(.int (Int32.ofNat (2 * N)))])) rfl (hb hby d_jdk_52_method_2_4) (n := (Int32.ofNat (2 * N))) rfl (own_nneg (by omega)) (cap := 8) (by rw [own_cl (by omega)]; exact hN) (by decide) (by decide) (by decide)
  obtain ⟨b102, g102⟩ : ∃ z, z = h0.size := ⟨_, rfl⟩
  rw [← g102] at A102 st102
  have K102 := (Keep.refl h0 []).ext E102
  have G102 : Arv Z h102 b102 k102 .byte (Int32.ofNat (2 * N)) [] (.int (0 : Int32)) := Arv.new A102 (own_nneg (by omega))
  have W103 : ∀ zQ, SS p e below T102 m 6 #[.val (.int (Int32.ofNat N))] [(.ref b102)] zQ → Steps p.tables e below (s₁.setTop (entryFrame m #[(.int (Int32.ofNat N))] 1)) zQ := by
    intro tt kt
    refine W0 tt ?_
    refine XS.iloadN X0.here hx rfl (hb hby d_jdk_52_method_2_0) rfl ?_
    show SS p e below s₁ m 1 #[.val (.int (Int32.ofNat N))] [(.int (Int32.ofNat N))] _
    refine st101 _ ?_
    show SS p e below T101 m 4 #[.val (.int (Int32.ofNat N))] [(.int (Int32.ofNat (2 * N)))] _
    refine st102 _ ?_
    exact kt
  obtain ⟨fs, hr, hrun, hended, hW, hsame⟩ := X102.leave (v := some (.ref b102)) (fun h => by rw [Bd.returns] at h; cases h)
  refine ⟨_, _, W103 _ (own_retR X102 hx Bd.returns rfl rfl (hb hby d_jdk_52_method_2_6) hr), hrun, hended, _, _, rfl, ?_, ⟨_, rfl⟩, hW, hsame.mono (by decide) (by decide)⟩
  show Q_nbf Z N h0 n0 _ T102.heap _
  rw [e102]
  exact ⟨b102, k102, rfl, N101, (Keep.trans (Keep.refl h0 []) K102 all0), (Nat.le_of_eq g102.symm), G102⟩
def Q_putChar (Z : State) (t : Addr) (c : Int32) (i : Nat) (N : Nat) (kb : ClassId) (vs : List Value) (h0 : Heap) (n0 : Nat) (vQ_ : Option Value) (hQ_ : Heap) (LQ_ : List Loc) : Prop := vQ_ = none ∧ Fr n0 LQ_ ∧ Keep h0 hQ_ [t] ∧ Arv Z hQ_ t kb .byte (Int32.ofNat (2 * N)) (vs ++ [.int ((c >>> ((0 : Int32) &&& 31)).toInt8.toInt32), .int ((c >>> ((8 : Int32) &&& 31)).toInt8.toInt32)]) (.int (0 : Int32))
set_option maxRecDepth 65536 in
set_option maxHeartbeats 40000000 in
theorem rm_putChar (l : Launch) (Z : State) (a0 : Array Value) (hw : HW a0 Z) (ws : List Jvm.Cond) (t : Addr) (c : Int32) (i : Nat) (N : Nat) (kb : ClassId) (vs : List Value) (h0 : Heap) (n0 : Nat) (Z0 : n0 ≤ h0.size) (O0 : Old Z n0 h0) (S_ad : Sta Z Z.heap "java/lang/StringUTF16" "$assertionsDisabled" "Z" (.int (1 : Int32))) (S_hi : Sta Z Z.heap "java/lang/StringUTF16" "HI_BYTE_SHIFT" "I" (.int (0 : Int32))) (S_lo : Sta Z Z.heap "java/lang/StringUTF16" "LO_BYTE_SHIFT" "I" (.int (8 : Int32))) (A1 : Arv Z h0 t kb .byte (Int32.ofNat (2 * N)) vs (.int (0 : Int32))) (hvs : vs.length = 2 * i) (hi : i < N) (hN : 2 * N < 2147483646) (hg : n0 ≤ t) :
    MetFree l yn15 (head1 (Jvm.Cond.code yn15 jdk_52_method_4_code 3 none :: ws) ({ frames := 0, cells := 0, slots := 0, locals := 0 } : Room)) (fun aQ_ UQ => aQ_ = #[(.ref t), (.int (Int32.ofNat i)), (.int c)] ∧ Z.Warmed39 UQ.vm ∧ UQ.heap = h0) (fun _ _ _ _ _ => True) (fun _ UQ oQ UQ' => ∃ vQ_ LQ_, oQ = .returned vQ_ ∧ Q_putChar Z t c i N kb vs h0 n0 vQ_ UQ'.heap LQ_ ∧ FrameEnd UQ oQ UQ' LQ_ ({ frames := 0, cells := 0, slots := 0, locals := 0 } : Room).cells ({ frames := 0, cells := 0, slots := 0, locals := 0 } : Room).slots) := by
  refine MetFree.of_bodySF (plainFor_of_name pn_java_lang_StringUTF16) hisR ?_
  intro p e s m args below meth cO s₁ Bd hml0 hP hK
  obtain ⟨rfl, hZ, hh⟩ := hP
  have hx := Bd.exec
  have hby := Bd.bytes
  have hml : cO.maxLocals = 3 := hml0
  have hown : s.vm.findClass "java/lang/StringUTF16" = some m.cls := findClass_of_methodNamed Bd.named
  have hnm := (name_of_methodNamed Bd.named Bd.method).1
  have X0 : Stand p l e ({ frames := 0, cells := 0, slots := 0, locals := 0 } : Room) s m #[(.ref t), (.int (Int32.ofNat i)), (.int c)] below meth cO s₁ [] 0 0 := Stand.of_body Bd
  have e0 : s₁.heap = h0 := by rw [← hh, Bd.state]; rfl
  have N0 := Fr.nil n0
  have W0 : ∀ zQ, SS p e below s₁ m 0 #[.val (.ref t), .val (.int (Int32.ofNat i)), .val (.int c)] [] zQ → Steps p.tables e below (s₁.setTop (entryFrame m #[(.ref t), (.int (Int32.ofNat i)), (.int c)] 3)) zQ := fun tt kt => castTop (ef_putChar m t (Int32.ofNat i) c) kt
  have F102 : Sta Z h0 "java/lang/StringUTF16" "$assertionsDisabled" "Z" (.int (1 : Int32)) := S_ad.ext O0.2
  obtain ⟨T101, X101, e101, st101⟩ := getS2 X0 hx hZ hown (host := "") (Or.inl (w217 hw)) Via.refl e0 F102 (g := (mkF m 0 #[.val (.ref t), .val (.int (Int32.ofNat i)), .val (.int c)] [])) rfl (hb hby d_jdk_52_method_4_0)
  have F104 : Sta Z h0 "java/lang/StringUTF16" "HI_BYTE_SHIFT" "I" (.int (0 : Int32)) := S_hi.ext O0.2
  obtain ⟨T103, X103, e103, st103⟩ := getS2 X101 hx hZ hown (host := "") (Or.inl (w218 hw)) Via.refl e101 F104 (g := (mkF m 38 #[.val (.ref t), .val (.int (Int32.ofNat (2 * i + 1))), .val (.int c)] [(.int c), (.int (Int32.ofNat (2 * i))), (.ref t)])) rfl (hb hby d_jdk_52_method_4_38)
  obtain ⟨cl105, Ar105, q105, S105, M105, H105, F105g⟩ := id A1
  have hin105 : ¬ ((Int32.ofNat (2 * i)) < 0 ∨ cl105.slots.size ≤ ((Int32.ofNat (2 * i))).toNatClampNeg) := inb_of S105 ⟨own_nneg (by omega), own_lt (by omega) (by omega)⟩
  obtain ⟨T105, h105, X105, e105, Wr105, st105⟩ := stB X103 hx hZ e103 Ar105 (j := (Int32.ofNat (2 * i))) hin105 (g := (mkF m 43 #[.val (.ref t), .val (.int (Int32.ofNat (2 * i + 1))), .val (.int c)] [(.int ((c >>> ((0 : Int32) &&& 31)).toInt8.toInt32)), (.int (Int32.ofNat (2 * i))), (.ref t)])) rfl rfl (hb hby d_jdk_52_method_4_43)
  have G105 : Arv Z h105 t kb .byte (Int32.ofNat (2 * N)) (vs ++ [(.int (nar .byte ((c >>> ((0 : Int32) &&& 31)).toInt8.toInt32)))]) (.int (0 : Int32)) := Arv.push Ar105 q105 S105 M105 H105 F105g (fits_nar_byte _) Wr105 (by rw [own_cl (by omega), hvs])
  have K105 := Keep.of_wr Wr105
  have N105 := Fr.snoc X105 N0 hg
  have J105 : Arv Z h105 t kb .byte (Int32.ofNat (2 * N)) (vs ++ [.int ((c >>> ((0 : Int32) &&& 31)).toInt8.toInt32)]) (.int (0 : Int32)) := by rw [← own_narb]; exact G105
  have O107 : Old Z n0 h105 := (O0.keep K105 (allS hg all0))
  have F108 : Sta Z h105 "java/lang/StringUTF16" "LO_BYTE_SHIFT" "I" (.int (8 : Int32)) := S_lo.ext O107.2
  obtain ⟨T106, X106, e106, st106⟩ := getS2 X105 hx hZ hown (host := "") (Or.inl (w219 hw)) Via.refl e105 F108 (g := (mkF m 47 #[.val (.ref t), .val (.int (Int32.ofNat (2 * i + 1))), .val (.int c)] [(.int c), (.int (Int32.ofNat (2 * i + 1))), (.ref t)])) rfl (hb hby d_jdk_52_method_4_47)
  obtain ⟨cl109, Ar109, q109, S109, M109, H109, F109g⟩ := id J105
  have hin109 : ¬ ((Int32.ofNat (2 * i + 1)) < 0 ∨ cl109.slots.size ≤ ((Int32.ofNat (2 * i + 1))).toNatClampNeg) := inb_of S109 ⟨own_nneg (by omega), own_lt (by omega) (by omega)⟩
  obtain ⟨T109, h109, X109, e109, Wr109, st109⟩ := stB X106 hx hZ e106 Ar109 (j := (Int32.ofNat (2 * i + 1))) hin109 (g := (mkF m 52 #[.val (.ref t), .val (.int (Int32.ofNat (2 * i + 1))), .val (.int c)] [(.int ((c >>> ((8 : Int32) &&& 31)).toInt8.toInt32)), (.int (Int32.ofNat (2 * i + 1))), (.ref t)])) rfl rfl (hb hby d_jdk_52_method_4_52)
  have G109 : Arv Z h109 t kb .byte (Int32.ofNat (2 * N)) ((vs ++ [.int ((c >>> ((0 : Int32) &&& 31)).toInt8.toInt32)]) ++ [(.int (nar .byte ((c >>> ((8 : Int32) &&& 31)).toInt8.toInt32)))]) (.int (0 : Int32)) := Arv.push Ar109 q109 S109 M109 H109 F109g (fits_nar_byte _) Wr109 (by rw [own_cl (by omega)]; simp [hvs])
  have K109 := Keep.of_wr Wr109
  have N109 := Fr.snoc X109 N105 hg
  have J109 : Arv Z h109 t kb .byte (Int32.ofNat (2 * N)) (vs ++ [.int ((c >>> ((0 : Int32) &&& 31)).toInt8.toInt32), .int ((c >>> ((8 : Int32) &&& 31)).toInt8.toInt32)]) (.int (0 : Int32)) := by rw [show vs ++ [Value.int ((c >>> ((0 : Int32) &&& 31)).toInt8.toInt32), Value.int ((c >>> ((8 : Int32) &&& 31)).toInt8.toInt32)] = (vs ++ [Value.int ((c >>> ((0 : Int32) &&& 31)).toInt8.toInt32)]) ++ [Value.int (nar .byte ((c >>> ((8 : Int32) &&& 31)).toInt8.toInt32))] from by rw [own_narb]; simp]; exact G109
  have W110 : ∀ zQ, SS p e below T109 m 53 #[.val (.ref t), .val (.int (Int32.ofNat (2 * i + 1))), .val (.int c)] [] zQ → Steps p.tables e below (s₁.setTop (entryFrame m #[(.ref t), (.int (Int32.ofNat i)), (.int c)] 3)) zQ := by
    intro tt kt
    refine W0 tt ?_
    refine st101 _ ?_
    refine XS.ifYes X101.here hx rfl (pc0 := 3) (pc' := 28) rfl (hb hby d_jdk_52_method_4_3) rfl ((if0 _ _).trans (feq (by decide)).2) (by decide) (by decide) ?_
    refine XS.iloadN X101.here hx rfl (hb hby d_jdk_52_method_4_28) rfl ?_
    refine XS.iconst X101.here hx rfl (hb hby d_jdk_52_method_4_29) ?_
    refine XS.ishl X101.here hx rfl (hb hby d_jdk_52_method_4_30) rfl ?_
    show SS p e below T101 m 31 #[.val (.ref t), .val (.int (Int32.ofNat i)), .val (.int c)] [(.int ((Int32.ofNat i) <<< ((1 : Int32) &&& 31)))] _
    rw [show ((Int32.ofNat i) <<< ((1 : Int32) &&& 31)) = (Int32.ofNat (2 * i)) from own_shl1 (by omega)]
    refine XS.istoreN X101.here hx rfl (hb hby d_jdk_52_method_4_31) rfl (l' := #[.val (.ref t), .val (.int (Int32.ofNat (2 * i))), .val (.int c)]) rfl ?_
    refine XS.aloadN X101.here hx rfl (hb hby d_jdk_52_method_4_32) rfl rfl ?_
    refine XS.iloadN X101.here hx rfl (hb hby d_jdk_52_method_4_33) rfl ?_
    show SS p e below T101 m 34 #[.val (.ref t), .val (.int (Int32.ofNat (2 * i))), .val (.int c)] [(.int (Int32.ofNat (2 * i))), (.ref t)] _
    refine XS.iinc X101.here hx rfl (hb hby d_jdk_52_method_4_34) rfl (l' := #[.val (.ref t), .val (.int ((Int32.ofNat (2 * i)) + (1 : Int32))), .val (.int c)]) rfl ?_
    show SS p e below T101 m 37 #[.val (.ref t), .val (.int ((Int32.ofNat (2 * i)) + (1 : Int32))), .val (.int c)] [(.int (Int32.ofNat (2 * i))), (.ref t)] _
    rw [show ((Int32.ofNat (2 * i)) + (1 : Int32)) = (Int32.ofNat (2 * i + 1)) from own_succ _]
    refine XS.iloadN X101.here hx rfl (hb hby d_jdk_52_method_4_37) rfl ?_
    show SS p e below T101 m 38 #[.val (.ref t), .val (.int (Int32.ofNat (2 * i + 1))), .val (.int c)] [(.int c), (.int (Int32.ofNat (2 * i))), (.ref t)] _
    refine st103 _ ?_
    refine XS.ishr X103.here hx rfl (hb hby d_jdk_52_method_4_41) rfl ?_
    refine XS.i2b X103.here hx rfl (hb hby d_jdk_52_method_4_42) rfl ?_
    show SS p e below T103 m 43 #[.val (.ref t), .val (.int (Int32.ofNat (2 * i + 1))), .val (.int c)] [(.int ((c >>> ((0 : Int32) &&& 31)).toInt8.toInt32)), (.int (Int32.ofNat (2 * i))), (.ref t)] _
    refine st105 _ ?_
    refine XS.aloadN X105.here hx rfl (hb hby d_jdk_52_method_4_44) rfl rfl ?_
    refine XS.iloadN X105.here hx rfl (hb hby d_jdk_52_method_4_45) rfl ?_
    refine XS.iloadN X105.here hx rfl (hb hby d_jdk_52_method_4_46) rfl ?_
    show SS p e below T105 m 47 #[.val (.ref t), .val (.int (Int32.ofNat (2 * i + 1))), .val (.int c)] [(.int c), (.int (Int32.ofNat (2 * i + 1))), (.ref t)] _
    refine st106 _ ?_
    refine XS.ishr X106.here hx rfl (hb hby d_jdk_52_method_4_50) rfl ?_
    refine XS.i2b X106.here hx rfl (hb hby d_jdk_52_method_4_51) rfl ?_
    show SS p e below T106 m 52 #[.val (.ref t), .val (.int (Int32.ofNat (2 * i + 1))), .val (.int c)] [(.int ((c >>> ((8 : Int32) &&& 31)).toInt8.toInt32)), (.int (Int32.ofNat (2 * i + 1))), (.ref t)] _
    refine st109 _ ?_
    exact kt
  obtain ⟨fs, hr, hrun, hended, hW, hsame⟩ := X109.leave (v := none) (fun _ => rfl)
  refine ⟨_, _, W110 _ (X109.returnOut hx Bd.returns (hb hby d_jdk_52_method_4_53) hr), hrun, hended, _, _, rfl, ?_, ⟨_, rfl⟩, hW, hsame.mono (by decide) (by decide)⟩
  show Q_putChar Z t c i N kb vs h0 n0 _ T109.heap _
  rw [e109]
  exact ⟨rfl, N109, (Keep.trans (Keep.trans (Keep.refl h0 [t]) K105 (allS (Or.inl (List.mem_of_getElem? (i := 0) rfl)) all0)) K109 (allS (Or.inl (List.mem_of_getElem? (i := 0) rfl)) all0)), J109⟩
set_option maxRecDepth 65536 in
set_option maxHeartbeats 40000000 in
theorem lp_toB {p : Program} {l : Launch} {e : Env} {R : Room} {s : State} {m : MethodId} {args : Array Value} {below : List Frame} {meth : Method} {cO : Code} {cells slots : Nat} {Z : State} {a0 : Array Value} (hx : p.tables.exec = Jvm.exec) (hZ : Z.Warmed39 s.vm) (hw : HW a0 Z) (hby : cO.code = jdk_52_method_14_code) (hml : cO.maxLocals = 5) (hown : s.vm.findClass "java/lang/StringUTF16" = some m.cls) (hRf : 1 ≤ R.frames) (hRl : 14 ≤ R.locals) (hRc : cells ≤ R.cells) (hRs : slots ≤ R.slots) (src : Addr) (t : Addr) (kc : ClassId) (kb : ClassId) (cs : List Int32) (n0 : Nat) (S_ad : Sta Z Z.heap "java/lang/StringUTF16" "$assertionsDisabled" "Z" (.int (1 : Int32))) (S_hi : Sta Z Z.heap "java/lang/StringUTF16" "HI_BYTE_SHIFT" "I" (.int (0 : Int32))) (S_lo : Sta Z Z.heap "java/lang/StringUTF16" "LO_BYTE_SHIFT" "I" (.int (8 : Int32))) (hne : src ≠ t) (hg : n0 ≤ t) (ok : OkS cs) :
    ∀ suf : List Int32, ∀ (pre : List Int32) (T0 : State) (L0 : List Loc) (h0 : Heap) (X0 : Stand p l e R s m args below meth cO T0 L0 cells slots) (e0 : T0.heap = h0) (N0 : Fr n0 L0) (Z0 : n0 ≤ h0.size) (O0 : Old Z n0 h0) (Vs : Arv Z h0 src kc .char (Int32.ofNat cs.length) (cs.map Value.int) (.int (0 : Int32))) (Vd : Arv Z h0 t kb .byte (Int32.ofNat (2 * cs.length)) (u16 pre) (.int (0 : Int32))) (hk : cs = pre ++ suf), ∃ (T' : State) (L' : List Loc) (h' : Heap), Stand p l e R s m args below meth cO T' L' cells slots ∧ T'.heap = h' ∧ Fr n0 L' ∧ Keep h0 h' [t] ∧ Arv Z h' t kb .byte (Int32.ofNat (2 * cs.length)) (u16 cs) (.int (0 : Int32)) ∧ ∀ zQ, SS p e below T' m 32 #[.val (.ref src), .val (.int (Int32.ofNat cs.length)), .val (.int (Int32.ofNat cs.length)), .val (.ref t), .val (.int (Int32.ofNat cs.length))] [] zQ → SS p e below T0 m 8 #[.val (.ref src), .val (.int (Int32.ofNat pre.length)), .val (.int (Int32.ofNat cs.length)), .val (.ref t), .val (.int (Int32.ofNat pre.length))] [] zQ := by
  intro suf
  induction suf with
  | nil =>
    intro pre T0 L0 h0 X0 e0 N0 Z0 O0 Vs Vd hk
    have W0 : ∀ zQ, SS p e below T0 m 8 #[.val (.ref src), .val (.int (Int32.ofNat pre.length)), .val (.int (Int32.ofNat cs.length)), .val (.ref t), .val (.int (Int32.ofNat pre.length))] [] zQ → Steps p.tables e below (T0.setTop (mkF m 8 #[.val (.ref src), .val (.int (Int32.ofNat pre.length)), .val (.int (Int32.ofNat cs.length)), .val (.ref t), .val (.int (Int32.ofNat pre.length))] [])) zQ := fun tt kt => kt
    have hn : cs.length < 1048576 := ok.2
    have hp : pre = cs := by simpa using hk.symm
    have Vd' : Arv Z h0 t kb .byte (Int32.ofNat (2 * cs.length)) (u16 cs) (.int (0 : Int32)) := by rw [← hp] at Vd ⊢; exact Vd
    have W101 : ∀ zQ, SS p e below T0 m 32 #[.val (.ref src), .val (.int (Int32.ofNat cs.length)), .val (.int (Int32.ofNat cs.length)), .val (.ref t), .val (.int (Int32.ofNat cs.length))] [] zQ → Steps p.tables e below (T0.setTop (mkF m 8 #[.val (.ref src), .val (.int (Int32.ofNat pre.length)), .val (.int (Int32.ofNat cs.length)), .val (.ref t), .val (.int (Int32.ofNat pre.length))] [])) zQ := by
      intro tt kt
      refine W0 tt ?_
      rw [show (Int32.ofNat pre.length) = (Int32.ofNat cs.length) from (by rw [hp])]
      refine XS.iload X0.here hx rfl (hb hby d_jdk_52_method_14_8) rfl ?_
      refine XS.iloadN X0.here hx rfl (hb hby d_jdk_52_method_14_10) rfl ?_
      refine XS.icmpYes X0.here hx rfl (pc0 := 11) (pc' := 32) rfl (hb hby d_jdk_52_method_14_11) rfl (flt Int32.lt_irrefl).2.1 (by decide) (by decide) ?_
      exact kt
    exact ⟨T0, _, h0, X0, e0, N0, (Keep.refl h0 [t]), Vd', fun tt kt => W101 _ kt⟩
  | cons cc r ih =>
    intro pre T0 L0 h0 X0 e0 N0 Z0 O0 Vs Vd hk
    have W0 : ∀ zQ, SS p e below T0 m 8 #[.val (.ref src), .val (.int (Int32.ofNat pre.length)), .val (.int (Int32.ofNat cs.length)), .val (.ref t), .val (.int (Int32.ofNat pre.length))] [] zQ → Steps p.tables e below (T0.setTop (mkF m 8 #[.val (.ref src), .val (.int (Int32.ofNat pre.length)), .val (.int (Int32.ofNat cs.length)), .val (.ref t), .val (.int (Int32.ofNat pre.length))] [])) zQ := fun tt kt => kt
    have hn : cs.length < 1048576 := ok.2
    have hlt : pre.length < cs.length := by rw [hk]; simp
    have hcc : cs.getD pre.length 0 = cc := by rw [hk]; exact app_at pre r cc 0
    obtain ⟨cl102, Ar102, q102, S102, M102, H102, F102g⟩ := id Vs
    have hin102 : ¬ ((Int32.ofNat pre.length) < 0 ∨ cl102.slots.size ≤ ((Int32.ofNat pre.length)).toNatClampNeg) := inb_of S102 ⟨own_nneg (by omega), own_lt hlt (by omega)⟩
    have hat102 : cl102.slots[((Int32.ofNat pre.length)).toNatClampNeg]? = some (.int cc) := Has.at H102 hin102 (by rw [own_cl (by omega), ch_at _ _ _ hlt, hcc])
    obtain ⟨_, _, ⟨T103, L103, k103, n103⟩, -, X103, ⟨Lc103, hQ103, l103, y103, z103⟩, st103⟩ := Jvm.LawKit.callS X0 hx (y := yn15) hown (mvT hZ (w214 hw)) (mvT hZ (w215 hw)) (mvT hZ (w23 hw)) (mvT hZ (w216 hw)) (by decide) (backOf (W := 0) (rm_putChar l Z a0 hw [] t cc pre.length cs.length kb (u16 pre) h0 n0 Z0 O0 S_ad S_hi S_lo Vd (u16_len pre) hlt (by omega) hg) hZ (w216 hw) (w23 hw) (Nat.le_trans (by decide) hRf) (Nat.le_trans (by decide) hRl)) (g := (mkF m 20 #[.val (.ref src), .val (.int (Int32.ofNat pre.length)), .val (.int (Int32.ofNat cs.length)), .val (.ref t), .val (.int (Int32.ofNat pre.length))] [(.int cc), (.int (Int32.ofNat pre.length)), (.ref t)])) rfl (by rw [hml]; rfl) (argsL := [(.ref t), (.int (Int32.ofNat pre.length)), (.int cc)]) (rest := []) (lenOf pd__28__5b_BII_29_V rfl) rfl (by show 2 * 0 + _ ≤ _; exact Nat.le_of_eq rfl) (hb hby d_jdk_52_method_14_20) (fun _ _ => ⟨rfl, e0, hRc, hRs⟩)
    dsimp only [Pt.U, Pt.locs, Pt.cells, Pt.slots] at X103 l103 y103 z103 st103 hQ103
    subst l103 y103 z103
    obtain ⟨rfl, Nq103, K103, P103_0⟩ := hQ103
    have N103 := Fr.app N0 Nq103
    have W104 : ∀ zQ, SS p e below T103 m 8 #[.val (.ref src), .val (.int (Int32.ofNat (pre ++ [cc]).length)), .val (.int (Int32.ofNat cs.length)), .val (.ref t), .val (.int (Int32.ofNat (pre ++ [cc]).length))] [] zQ → Steps p.tables e below (T0.setTop (mkF m 8 #[.val (.ref src), .val (.int (Int32.ofNat pre.length)), .val (.int (Int32.ofNat cs.length)), .val (.ref t), .val (.int (Int32.ofNat pre.length))] [])) zQ := by
      intro tt kt
      refine W0 tt ?_
      refine XS.iload X0.here hx rfl (hb hby d_jdk_52_method_14_8) rfl ?_
      refine XS.iloadN X0.here hx rfl (hb hby d_jdk_52_method_14_10) rfl ?_
      refine XS.icmpNo X0.here hx rfl (hb hby d_jdk_52_method_14_11) rfl (tlt (own_lt hlt (by omega))).2.1 ?_
      refine XS.aloadN X0.here hx rfl (hb hby d_jdk_52_method_14_14) rfl rfl ?_
      refine XS.iload X0.here hx rfl (hb hby d_jdk_52_method_14_15) rfl ?_
      refine XS.aloadN X0.here hx rfl (hb hby d_jdk_52_method_14_17) rfl rfl ?_
      show SS p e below T0 m 18 #[.val (.ref src), .val (.int (Int32.ofNat pre.length)), .val (.int (Int32.ofNat cs.length)), .val (.ref t), .val (.int (Int32.ofNat pre.length))] [(.ref src), (.int (Int32.ofNat pre.length)), (.ref t)] _
      refine XS.iloadN X0.here hx rfl (hb hby d_jdk_52_method_14_18) rfl ?_
      show SS p e below T0 m 19 #[.val (.ref src), .val (.int (Int32.ofNat pre.length)), .val (.int (Int32.ofNat cs.length)), .val (.ref t), .val (.int (Int32.ofNat pre.length))] [(.int (Int32.ofNat pre.length)), (.ref src), (.int (Int32.ofNat pre.length)), (.ref t)] _
      refine X0.caload hx (j := (Int32.ofNat pre.length)) (v := (.int cc)) (by first | exact Ar102.1 | (rw [e0]; exact Ar102.1)) (State.isArrayOf_alike hZ.alike Ar102.2.1) Ar102.2.2 hin102 hat102 (g := (mkF m 19 #[.val (.ref src), .val (.int (Int32.ofNat pre.length)), .val (.int (Int32.ofNat cs.length)), .val (.ref t), .val (.int (Int32.ofNat pre.length))] [(.int (Int32.ofNat pre.length)), (.ref src), (.int (Int32.ofNat pre.length)), (.ref t)])) rfl rfl (hb hby d_jdk_52_method_14_19) _ ?_
      show SS p e below T0 m 20 #[.val (.ref src), .val (.int (Int32.ofNat pre.length)), .val (.int (Int32.ofNat cs.length)), .val (.ref t), .val (.int (Int32.ofNat pre.length))] [(.int cc), (.int (Int32.ofNat pre.length)), (.ref t)] _
      refine st103 _ ?_
      show SS p e below T103 m 23 #[.val (.ref src), .val (.int (Int32.ofNat pre.length)), .val (.int (Int32.ofNat cs.length)), .val (.ref t), .val (.int (Int32.ofNat pre.length))] [] _
      refine XS.iinc X103.here hx rfl (hb hby d_jdk_52_method_14_23) rfl (l' := #[.val (.ref src), .val (.int ((Int32.ofNat pre.length) + (1 : Int32))), .val (.int (Int32.ofNat cs.length)), .val (.ref t), .val (.int (Int32.ofNat pre.length))]) rfl ?_
      show SS p e below T103 m 26 #[.val (.ref src), .val (.int ((Int32.ofNat pre.length) + (1 : Int32))), .val (.int (Int32.ofNat cs.length)), .val (.ref t), .val (.int (Int32.ofNat pre.length))] [] _
      refine XS.iinc X103.here hx rfl (hb hby d_jdk_52_method_14_26) rfl (l' := #[.val (.ref src), .val (.int ((Int32.ofNat pre.length) + (1 : Int32))), .val (.int (Int32.ofNat cs.length)), .val (.ref t), .val (.int ((Int32.ofNat pre.length) + (1 : Int32)))]) rfl ?_
      show SS p e below T103 m 29 #[.val (.ref src), .val (.int ((Int32.ofNat pre.length) + (1 : Int32))), .val (.int (Int32.ofNat cs.length)), .val (.ref t), .val (.int ((Int32.ofNat pre.length) + (1 : Int32)))] [] _
      rw [show ((Int32.ofNat pre.length) + (1 : Int32)) = (Int32.ofNat (pre ++ [cc]).length) from (by rw [own_succ]; simp)]
      refine XS.goto X103.here hx rfl (pc0 := 29) (pc' := 8) rfl (hb hby d_jdk_52_method_14_29) (by decide) (by decide) ?_
      exact kt
    have O106 : Old Z n0 T103.heap := (O0.keep K103 (allS hg all0))
    have F107 : Arv Z T103.heap src kc .char (Int32.ofNat cs.length) (cs.map Value.int) (.int (0 : Int32)) := (Vs.keep K103 (ninS hne nin0))
    obtain ⟨T105, L105, h105, X105, e105, N105, K105, P105_0, st105⟩ := ih (pre ++ [cc]) T103 _ T103.heap X103 rfl N103 (Nat.le_trans Z0 K103.1) O106 F107 (by rw [u16_app]; exact P103_0) (by rw [hk]; simp)
    exact ⟨T105, L105, h105, X105, e105, N105, (Keep.trans (Keep.trans (Keep.refl h0 [t]) K103 (allS (Or.inl (List.mem_of_getElem? (i := 0) rfl)) all0)) K105 (allS (Or.inl (List.mem_of_getElem? (i := 0) rfl)) all0)), P105_0, fun tt kt => W104 _ (st105 _ kt)⟩
def Q_toBytes (Z : State) (src : Addr) (kc : ClassId) (cs : List Int32) (h0 : Heap) (n0 : Nat) (vQ_ : Option Value) (hQ_ : Heap) (LQ_ : List Loc) : Prop := ∃ t : Addr, ∃ kb : ClassId, vQ_ = some (.ref t) ∧ Fr n0 LQ_ ∧ Keep h0 hQ_ [] ∧ h0.size ≤ t ∧ Arv Z hQ_ t kb .byte (Int32.ofNat (2 * cs.length)) (u16 cs) (.int (0 : Int32))
set_option maxRecDepth 65536 in
set_option maxHeartbeats 40000000 in
theorem rm_toBytes (l : Launch) (Z : State) (a0 : Array Value) (hw : HW a0 Z) (ws : List Jvm.Cond) (src : Addr) (kc : ClassId) (cs : List Int32) (h0 : Heap) (n0 : Nat) (Z0 : n0 ≤ h0.size) (O0 : Old Z n0 h0) (S_ad : Sta Z Z.heap "java/lang/StringUTF16" "$assertionsDisabled" "Z" (.int (1 : Int32))) (S_hi : Sta Z Z.heap "java/lang/StringUTF16" "HI_BYTE_SHIFT" "I" (.int (0 : Int32))) (S_lo : Sta Z Z.heap "java/lang/StringUTF16" "LO_BYTE_SHIFT" "I" (.int (8 : Int32))) (Vs : Arv Z h0 src kc .char (Int32.ofNat cs.length) (cs.map Value.int) (.int (0 : Int32))) (ok : OkS cs) (hcap : cs.length ≤ 4) :
    MetFree l yn16 (head1 (Jvm.Cond.code yn16 jdk_52_method_14_code 5 (some (.array .byte)) :: ws) ({ frames := 2, cells := 1, slots := 8, locals := 24 } : Room)) (fun aQ_ UQ => aQ_ = #[(.ref src), (.int (0 : Int32)), (.int (Int32.ofNat cs.length))] ∧ Z.Warmed39 UQ.vm ∧ UQ.heap = h0) (fun _ _ _ _ _ => True) (fun _ UQ oQ UQ' => ∃ vQ_ LQ_, oQ = .returned vQ_ ∧ Q_toBytes Z src kc cs h0 n0 vQ_ UQ'.heap LQ_ ∧ FrameEnd UQ oQ UQ' LQ_ ({ frames := 2, cells := 1, slots := 8, locals := 24 } : Room).cells ({ frames := 2, cells := 1, slots := 8, locals := 24 } : Room).slots) := by
  refine MetFree.of_bodySF (plainFor_of_name pn_java_lang_StringUTF16) hisR ?_
  intro p e s m args below meth cO s₁ Bd hml0 hP hK
  obtain ⟨rfl, hZ, hh⟩ := hP
  have hx := Bd.exec
  have hby := Bd.bytes
  have hml : cO.maxLocals = 5 := hml0
  have hown : s.vm.findClass "java/lang/StringUTF16" = some m.cls := findClass_of_methodNamed Bd.named
  have hnm := (name_of_methodNamed Bd.named Bd.method).1
  have X0 : Stand p l e ({ frames := 2, cells := 1, slots := 8, locals := 24 } : Room) s m #[(.ref src), (.int (0 : Int32)), (.int (Int32.ofNat cs.length))] below meth cO s₁ [] 0 0 := Stand.of_body Bd
  have e0 : s₁.heap = h0 := by rw [← hh, Bd.state]; rfl
  have N0 := Fr.nil n0
  have W0 : ∀ zQ, SS p e below s₁ m 0 #[.val (.ref src), .val (.int (0 : Int32)), .val (.int (Int32.ofNat cs.length)), .unset, .unset] [] zQ → Steps p.tables e below (s₁.setTop (entryFrame m #[(.ref src), (.int (0 : Int32)), (.int (Int32.ofNat cs.length))] 5)) zQ := fun tt kt => castTop (ef_toBytes m src (0 : Int32) (Int32.ofNat cs.length)) kt
  obtain ⟨_, _, ⟨T101, L101, k101, n101⟩, -, X101, ⟨Lc101, hQ101, l101, y101, z101⟩, st101⟩ := Jvm.LawKit.callS X0 hx (y := yn14) hown (mvT hZ (w207 hw)) (mvT hZ (w208 hw)) (mvT hZ (w23 hw)) (mvT hZ (w209 hw)) (by decide) (backOf (W := 0) (rm_nbf l Z a0 hw [] cs.length h0 n0 Z0 (by omega)) hZ (w209 hw) (w23 hw) (by decide) (by decide)) (g := (mkF m 1 #[.val (.ref src), .val (.int (0 : Int32)), .val (.int (Int32.ofNat cs.length)), .unset, .unset] [(.int (Int32.ofNat cs.length))])) rfl (by rw [hml]; rfl) (argsL := [(.int (Int32.ofNat cs.length))]) (rest := []) (lenOf pd__28_I_29__5b_B rfl) rfl (by show 2 * 0 + _ ≤ _; exact Nat.le_of_eq rfl) (hb hby d_jdk_52_method_14_1) (fun _ _ => ⟨rfl, e0, (Nat.le_of_ble_eq_true rfl), (Nat.le_of_ble_eq_true rfl)⟩)
  dsimp only [Pt.U, Pt.locs, Pt.cells, Pt.slots] at X101 l101 y101 z101 st101 hQ101
  subst l101 y101 z101
  obtain ⟨t_102, kb_103, rfl, Nq101, K101, P101_0, P101_1⟩ := hQ101
  have N101 := Fr.app N0 Nq101
  have O105 : Old Z n0 T101.heap := (O0.keep K101 all0)
  have F106 : Arv Z T101.heap src kc .char (Int32.ofNat cs.length) (cs.map Value.int) (.int (0 : Int32)) := (Vs.keep K101 nin0)
  obtain ⟨T104, L104, h104, X104, e104, Nl104, K104, P104_0, st104⟩ := lp_toB hx hZ hw hby hml hown (by decide) (by decide) (by decide) (by decide) src t_102 kc kb_103 cs n0 S_ad S_hi S_lo (Nat.ne_of_lt (Nat.lt_of_lt_of_le Vs.lt P101_0)) (Nat.le_trans Z0 P101_0) ok cs [] T101 _ T101.heap X101 rfl N101 (Nat.le_trans Z0 K101.1) O105 F106 P101_1 rfl
  have W107 : ∀ zQ, SS p e below T104 m 33 #[.val (.ref src), .val (.int (Int32.ofNat cs.length)), .val (.int (Int32.ofNat cs.length)), .val (.ref t_102), .val (.int (Int32.ofNat cs.length))] [(.ref t_102)] zQ → Steps p.tables e below (s₁.setTop (entryFrame m #[(.ref src), (.int (0 : Int32)), (.int (Int32.ofNat cs.length))] 5)) zQ := by
    intro tt kt
    refine W0 tt ?_
    refine XS.iloadN X0.here hx rfl (hb hby d_jdk_52_method_14_0) rfl ?_
    show SS p e below s₁ m 1 #[.val (.ref src), .val (.int (0 : Int32)), .val (.int (Int32.ofNat cs.length)), .unset, .unset] [(.int (Int32.ofNat cs.length))] _
    refine st101 _ ?_
    refine XS.astoreN X101.here hx rfl (hb hby d_jdk_52_method_14_4) rfl rfl (l' := #[.val (.ref src), .val (.int (0 : Int32)), .val (.int (Int32.ofNat cs.length)), .val (.ref t_102), .unset]) rfl ?_
    refine XS.iconst X101.here hx rfl (hb hby d_jdk_52_method_14_5) ?_
    refine XS.istore X101.here hx rfl (hb hby d_jdk_52_method_14_6) rfl (l' := #[.val (.ref src), .val (.int (0 : Int32)), .val (.int (Int32.ofNat cs.length)), .val (.ref t_102), .val (.int (0 : Int32))]) rfl ?_
    show SS p e below T101 m 8 #[.val (.ref src), .val (.int (0 : Int32)), .val (.int (Int32.ofNat cs.length)), .val (.ref t_102), .val (.int (0 : Int32))] [] _
    refine st104 _ ?_
    refine XS.aloadN X104.here hx rfl (hb hby d_jdk_52_method_14_32) rfl rfl ?_
    exact kt
  obtain ⟨fs, hr, hrun, hended, hW, hsame⟩ := X104.leave (v := some (.ref t_102)) (fun h => by rw [Bd.returns] at h; cases h)
  refine ⟨_, _, W107 _ (own_retR X104 hx Bd.returns rfl rfl (hb hby d_jdk_52_method_14_33) hr), hrun, hended, _, _, rfl, ?_, ⟨_, rfl⟩, hW, hsame.mono (by decide) (by decide)⟩
  show Q_toBytes Z src kc cs h0 n0 _ T104.heap _
  rw [e104]
  exact ⟨t_102, kb_103, rfl, Nl104, (Keep.trans (Keep.trans (Keep.refl h0 []) K101 all0) K104 (allS (Or.inr P101_0) all0)), P101_0, P104_0⟩
def Q_compress16 (Z : State) (src : Addr) (kc : ClassId) (cs : List Int32) (h0 : Heap) (n0 : Nat) (vQ_ : Option Value) (hQ_ : Heap) (LQ_ : List Loc) : Prop := ∃ t : Addr, ∃ kb : ClassId, vQ_ = some (.ref t) ∧ Fr n0 LQ_ ∧ Keep h0 hQ_ [] ∧ h0.size ≤ t ∧ Arv Z hQ_ t kb .byte (Int32.ofNat (blen cs)) (enc cs) (.int (0 : Int32))
set_option maxRecDepth 65536 in
set_option maxHeartbeats 40000000 in
theorem rm_compress16 (l : Launch) (Z : State) (a0 : Array Value) (hw : HW a0 Z) (ws : List Jvm.Cond) (src : Addr) (kc : ClassId) (cs : List Int32) (h0 : Heap) (n0 : Nat) (Z0 : n0 ≤ h0.size) (O0 : Old Z n0 h0) (S_ad : Sta Z Z.heap "java/lang/StringUTF16" "$assertionsDisabled" "Z" (.int (1 : Int32))) (S_hi : Sta Z Z.heap "java/lang/StringUTF16" "HI_BYTE_SHIFT" "I" (.int (0 : Int32))) (S_lo : Sta Z Z.heap "java/lang/StringUTF16" "LO_BYTE_SHIFT" "I" (.int (8 : Int32))) (Vs : Arv Z h0 src kc .char (Int32.ofNat cs.length) (cs.map Value.int) (.int (0 : Int32))) (ok : OkS cs) (hcap : cs.length ≤ 4) :
    MetFree l yn17 (head1 (Jvm.Cond.code yn17 jdk_52_method_16_code 6 (some (.array .byte)) :: ws) ({ frames := 3, cells := 2, slots := 12, locals := 40 } : Room)) (fun aQ_ UQ => aQ_ = #[(.ref src), (.int (0 : Int32)), (.int (Int32.ofNat cs.length))] ∧ Z.Warmed39 UQ.vm ∧ UQ.heap = h0) (fun _ _ _ _ _ => True) (fun _ UQ oQ UQ' => ∃ vQ_ LQ_, oQ = .returned vQ_ ∧ Q_compress16 Z src kc cs h0 n0 vQ_ UQ'.heap LQ_ ∧ FrameEnd UQ oQ UQ' LQ_ ({ frames := 3, cells := 2, slots := 12, locals := 40 } : Room).cells ({ frames := 3, cells := 2, slots := 12, locals := 40 } : Room).slots) := by
  refine MetFree.of_bodySF (plainFor_of_name pn_java_lang_StringUTF16) hisR ?_
  intro p e s m args below meth cO s₁ Bd hml0 hP hK
  obtain ⟨rfl, hZ, hh⟩ := hP
  have hx := Bd.exec
  have hby := Bd.bytes
  have hml : cO.maxLocals = 6 := hml0
  have hown : s.vm.findClass "java/lang/StringUTF16" = some m.cls := findClass_of_methodNamed Bd.named
  have hnm := (name_of_methodNamed Bd.named Bd.method).1
  have X0 : Stand p l e ({ frames := 3, cells := 2, slots := 12, locals := 40 } : Room) s m #[(.ref src), (.int (0 : Int32)), (.int (Int32.ofNat cs.length))] below meth cO s₁ [] 0 0 := Stand.of_body Bd
  have e0 : s₁.heap = h0 := by rw [← hh, Bd.state]; rfl
  have N0 := Fr.nil n0
  have W0 : ∀ zQ, SS p e below s₁ m 0 #[.val (.ref src), .val (.int (0 : Int32)), .val (.int (Int32.ofNat cs.length)), .unset, .unset, .unset] [] zQ → Steps p.tables e below (s₁.setTop (entryFrame m #[(.ref src), (.int (0 : Int32)), (.int (Int32.ofNat cs.length))] 6)) zQ := fun tt kt => castTop (ef_compress16 m src (0 : Int32) (Int32.ofNat cs.length)) kt
  have hn : cs.length < 1048576 := ok.2
  obtain ⟨T101, h101, k101, X101, e101, E101, A101, st101⟩ := newP X0 hx hZ (aty := .byte) (w25 hw) e0 (g := (mkF m 1 #[.val (.ref src), .val (.int (0 : Int32)), .val (.int (Int32.ofNat cs.length)), .unset, .unset, .unset] [(.int (Int32.ofNat cs.length))])) rfl (hb hby d_jdk_52_method_16_1) (n := (Int32.ofNat cs.length)) rfl (own_nneg (by omega)) (cap := 4) (by rw [own_cl (by omega)]; exact hcap) (by decide) (by decide) (by decide)
  obtain ⟨b101, g101⟩ : ∃ z, z = h0.size := ⟨_, rfl⟩
  rw [← g101] at A101 st101
  have K101 := (Keep.refl h0 []).ext E101
  have G101 : Arv Z h101 b101 k101 .byte (Int32.ofNat cs.length) [] (.int (0 : Int32)) := Arv.new A101 (own_nneg (by omega))
  have F102 : Arv Z h101 src kc .char (Int32.ofNat cs.length) (cs.map Value.int) (.int (0 : Int32)) := (Vs.keep K101 nin0)
  obtain ⟨_, _, ⟨T103, L103, k103, n103⟩, -, X103, ⟨Lc103, hQ103, l103, y103, z103⟩, st103⟩ := Jvm.LawKit.callS X101 hx (y := yn11) hown (mvT hZ (w26 hw)) (mvT hZ (w27 hw)) (mvT hZ (w23 hw)) (mvT hZ (w28 hw)) (by decide) (backOf (W := 0) (rm_compress21 l Z a0 hw [] src b101 kc k101 cs h101 n0 (Nat.le_trans Z0 K101.1) F102 G101 (Nat.ne_of_lt (Nat.lt_of_lt_of_le Vs.lt (Nat.le_of_eq g101.symm))) (Nat.le_trans Z0 (Nat.le_of_eq g101.symm)) ok) hZ (w28 hw) (w23 hw) (by decide) (by decide)) (g := (mkF m 9 #[.val (.ref src), .val (.int (0 : Int32)), .val (.int (Int32.ofNat cs.length)), .val (.ref b101), .unset, .unset] [(.int (Int32.ofNat cs.length)), (.int (0 : Int32)), (.ref b101), (.int (0 : Int32)), (.ref src)])) rfl (by rw [hml]; rfl) (argsL := [(.ref src), (.int (0 : Int32)), (.ref b101), (.int (0 : Int32)), (.int (Int32.ofNat cs.length))]) (rest := []) (lenOf pd__28__5b_CI_5b_BII_29_I rfl) rfl (by show 2 * 0 + _ ≤ _; exact Nat.le_of_eq rfl) (hb hby d_jdk_52_method_16_9) (fun _ _ => ⟨rfl, e101, (Nat.le_of_ble_eq_true rfl), (Nat.le_of_ble_eq_true rfl)⟩)
  dsimp only [Pt.U, Pt.locs, Pt.cells, Pt.slots] at X103 l103 y103 z103 st103 hQ103
  subst l103 y103 z103
  obtain ⟨rfl, Nq103, K103, P103_0⟩ := hQ103
  have N103 := Fr.app N0 Nq103
  have W104 : ∀ zQ, SS p e below T103 m 17 #[.val (.ref src), .val (.int (0 : Int32)), .val (.int (Int32.ofNat cs.length)), .val (.ref b101), .val (.int (Int32.ofNat (fl cs))), .unset] [(.int (Int32.ofNat cs.length)), (.int (Int32.ofNat (fl cs)))] zQ → Steps p.tables e below (s₁.setTop (entryFrame m #[(.ref src), (.int (0 : Int32)), (.int (Int32.ofNat cs.length))] 6)) zQ := by
    intro tt kt
    refine W0 tt ?_
    refine XS.iloadN X0.here hx rfl (hb hby d_jdk_52_method_16_0) rfl ?_
    show SS p e below s₁ m 1 #[.val (.ref src), .val (.int (0 : Int32)), .val (.int (Int32.ofNat cs.length)), .unset, .unset, .unset] [(.int (Int32.ofNat cs.length))] _
    refine st101 _ ?_
    refine XS.astoreN X101.here hx rfl (hb hby d_jdk_52_method_16_3) rfl rfl (l' := #[.val (.ref src), .val (.int (0 : Int32)), .val (.int (Int32.ofNat cs.length)), .val (.ref b101), .unset, .unset]) rfl ?_
    refine XS.aloadN X101.here hx rfl (hb hby d_jdk_52_method_16_4) rfl rfl ?_
    refine XS.iloadN X101.here hx rfl (hb hby d_jdk_52_method_16_5) rfl ?_
    refine XS.aloadN X101.here hx rfl (hb hby d_jdk_52_method_16_6) rfl rfl ?_
    refine XS.iconst X101.here hx rfl (hb hby d_jdk_52_method_16_7) ?_
    show SS p e below T101 m 8 #[.val (.ref src), .val (.int (0 : Int32)), .val (.int (Int32.ofNat cs.length)), .val (.ref b101), .unset, .unset] [(.int (0 : Int32)), (.ref b101), (.int (0 : Int32)), (.ref src)] _
    refine XS.iloadN X101.here hx rfl (hb hby d_jdk_52_method_16_8) rfl ?_
    show SS p e below T101 m 9 #[.val (.ref src), .val (.int (0 : Int32)), .val (.int (Int32.ofNat cs.length)), .val (.ref b101), .unset, .unset] [(.int (Int32.ofNat cs.length)), (.int (0 : Int32)), (.ref b101), (.int (0 : Int32)), (.ref src)] _
    refine st103 _ ?_
    refine XS.istore X103.here hx rfl (hb hby d_jdk_52_method_16_12) rfl (l' := #[.val (.ref src), .val (.int (0 : Int32)), .val (.int (Int32.ofNat cs.length)), .val (.ref b101), .val (.int (Int32.ofNat (fl cs))), .unset]) rfl ?_
    refine XS.iload X103.here hx rfl (hb hby d_jdk_52_method_16_14) rfl ?_
    refine XS.iloadN X103.here hx rfl (hb hby d_jdk_52_method_16_16) rfl ?_
    exact kt
  by_cases hc105 : (Int32.ofNat (fl cs)) = (Int32.ofNat cs.length)
  ·
    have hl : lat cs = true := fl_ne (by have := fl_le cs; have q := congrArg Int32.toInt hc105; rw [own_i (by omega), own_i (by omega)] at q; omega)
    have W106 : ∀ zQ, SS p e below T103 m 58 #[.val (.ref src), .val (.int (0 : Int32)), .val (.int (Int32.ofNat cs.length)), .val (.ref b101), .val (.int (Int32.ofNat (fl cs))), .unset] [(.ref b101)] zQ → Steps p.tables e below (s₁.setTop (entryFrame m #[(.ref src), (.int (0 : Int32)), (.int (Int32.ofNat cs.length))] 6)) zQ := by
      intro tt kt
      refine W104 tt ?_
      refine XS.icmpYes X103.here hx rfl (pc0 := 17) (pc' := 57) rfl (hb hby d_jdk_52_method_16_17) rfl (teq hc105).1 (by decide) (by decide) ?_
      refine XS.aloadN X103.here hx rfl (hb hby d_jdk_52_method_16_57) rfl rfl ?_
      exact kt
    have hR107 : Arv Z T103.heap b101 k101 .byte (Int32.ofNat (blen cs)) (enc cs) (.int (0 : Int32)) := by have q := enc_lat hl; rw [q.1, q.2.1]; rw [show cs.take (fl cs) = cs from by rw [fl_lat hl]; simp] at P103_0; exact P103_0
    obtain ⟨fs, hr, hrun, hended, hW, hsame⟩ := X103.leave (v := some (.ref b101)) (fun h => by rw [Bd.returns] at h; cases h)
    refine ⟨_, _, W106 _ (own_retR X103 hx Bd.returns rfl rfl (hb hby d_jdk_52_method_16_58) hr), hrun, hended, _, _, rfl, ?_, ⟨_, rfl⟩, hW, hsame.mono (by decide) (by decide)⟩
    show Q_compress16 Z src kc cs h0 n0 _ T103.heap _
    exact ⟨b101, k101, rfl, N103, (Keep.trans (Keep.trans (Keep.refl h0 []) K101 all0) K103 (allS (Or.inr (Nat.le_of_eq g101.symm)) all0)), (Nat.le_of_eq g101.symm), hR107⟩
  ·
    have hl : ¬ lat cs = true := fun q => hc105 (by rw [fl_lat q])
    have F108 : Arv Z T103.heap src kc .char (Int32.ofNat cs.length) (cs.map Value.int) (.int (0 : Int32)) := (F102.keep K103 (ninS (Nat.ne_of_lt (Nat.lt_of_lt_of_le Vs.lt (Nat.le_of_eq g101.symm))) nin0))
    have O109 : Old Z n0 T103.heap := ((O0.keep K101 all0).keep K103 (allS (Nat.le_trans Z0 (Nat.le_of_eq g101.symm)) all0))
    obtain ⟨_, _, ⟨T110, L110, k110, n110⟩, -, X110, ⟨Lc110, hQ110, l110, y110, z110⟩, st110⟩ := Jvm.LawKit.callS X103 hx (y := yn16) hown (mvT hZ (w204 hw)) (mvT hZ (w205 hw)) (mvT hZ (w23 hw)) (mvT hZ (w206 hw)) (by decide) (backOf (W := 0) (rm_toBytes l Z a0 hw [] src kc cs T103.heap n0 (Nat.le_trans Z0 (Nat.le_trans K101.1 K103.1)) O109 S_ad S_hi S_lo F108 ok hcap) hZ (w206 hw) (w23 hw) (by decide) (by decide)) (g := (mkF m 23 #[.val (.ref src), .val (.int (0 : Int32)), .val (.int (Int32.ofNat cs.length)), .val (.ref b101), .val (.int (Int32.ofNat (fl cs))), .unset] [(.int (Int32.ofNat cs.length)), (.int (0 : Int32)), (.ref src)])) rfl (by rw [hml]; rfl) (argsL := [(.ref src), (.int (0 : Int32)), (.int (Int32.ofNat cs.length))]) (rest := []) (lenOf pd__28__5b_CII_29__5b_B rfl) rfl (by show 2 * 0 + _ ≤ _; exact Nat.le_of_eq rfl) (hb hby d_jdk_52_method_16_23) (fun _ _ => ⟨rfl, rfl, (Nat.le_of_ble_eq_true rfl), (Nat.le_of_ble_eq_true rfl)⟩)
    dsimp only [Pt.U, Pt.locs, Pt.cells, Pt.slots] at X110 l110 y110 z110 st110 hQ110
    subst l110 y110 z110
    obtain ⟨t_111, kb_112, rfl, Nq110, K110, P110_0, P110_1⟩ := hQ110
    have N110 := Fr.app N103 Nq110
    have O113 : Old Z n0 T110.heap := (O109.keep K110 all0)
    obtain ⟨_, _, ⟨T114, L114, k114, n114⟩, -, X114, ⟨Lc114, hQ114, l114, y114, z114⟩, st114⟩ := Jvm.LawKit.callS X110 hx (y := yn5) hown (mvT hZ (w220 hw)) (mvT hZ (w221 hw)) (mvT hZ (w23 hw)) (mvT hZ (w222 hw)) (by decide) (backOf (W := 0) (rm_getChar l Z a0 hw [] t_111 (fl cs) kb_112 cs T110.heap n0 (Nat.le_trans Z0 (Nat.le_trans (Nat.le_trans K101.1 K103.1) K110.1)) O113 S_ad S_hi S_lo P110_1 (fl_nlat hl).1 ok) hZ (w222 hw) (w23 hw) (by decide) (by decide)) (g := (mkF m 32 #[.val (.ref src), .val (.int (0 : Int32)), .val (.int (Int32.ofNat cs.length)), .val (.ref b101), .val (.int (Int32.ofNat (fl cs))), .val (.ref t_111)] [(.int (Int32.ofNat (fl cs))), (.ref t_111)])) rfl (by rw [hml]; rfl) (argsL := [(.ref t_111), (.int (Int32.ofNat (fl cs)))]) (rest := []) (lenOf pd__28__5b_BI_29_C rfl) rfl (by show 2 * 0 + _ ≤ _; exact Nat.le_of_eq rfl) (hb hby d_jdk_52_method_16_32) (fun _ _ => ⟨rfl, rfl, (Nat.le_of_ble_eq_true rfl), (Nat.le_of_ble_eq_true rfl)⟩)
    dsimp only [Pt.U, Pt.locs, Pt.cells, Pt.slots] at X114 l114 y114 z114 st114 hQ114
    subst l114 y114 z114
    obtain ⟨rfl, Nq114, eq114⟩ := hQ114
    have N114 := Fr.app N110 Nq114
    have W115 : ∀ zQ, SS p e below T114 m 56 #[.val (.ref src), .val (.int (0 : Int32)), .val (.int (Int32.ofNat cs.length)), .val (.ref b101), .val (.int (Int32.ofNat (fl cs))), .val (.ref t_111)] [(.ref t_111)] zQ → Steps p.tables e below (s₁.setTop (entryFrame m #[(.ref src), (.int (0 : Int32)), (.int (Int32.ofNat cs.length))] 6)) zQ := by
      intro tt kt
      refine W104 tt ?_
      refine XS.icmpNo X103.here hx rfl (hb hby d_jdk_52_method_16_17) rfl (feq hc105).1 ?_
      refine XS.aloadN X103.here hx rfl (hb hby d_jdk_52_method_16_20) rfl rfl ?_
      refine XS.iloadN X103.here hx rfl (hb hby d_jdk_52_method_16_21) rfl ?_
      refine XS.iloadN X103.here hx rfl (hb hby d_jdk_52_method_16_22) rfl ?_
      show SS p e below T103 m 23 #[.val (.ref src), .val (.int (0 : Int32)), .val (.int (Int32.ofNat cs.length)), .val (.ref b101), .val (.int (Int32.ofNat (fl cs))), .unset] [(.int (Int32.ofNat cs.length)), (.int (0 : Int32)), (.ref src)] _
      refine st110 _ ?_
      refine XS.astore X110.here hx rfl (hb hby d_jdk_52_method_16_26) rfl rfl (l' := #[.val (.ref src), .val (.int (0 : Int32)), .val (.int (Int32.ofNat cs.length)), .val (.ref b101), .val (.int (Int32.ofNat (fl cs))), .val (.ref t_111)]) rfl ?_
      refine XS.aload X110.here hx rfl (hb hby d_jdk_52_method_16_28) rfl rfl ?_
      refine XS.iload X110.here hx rfl (hb hby d_jdk_52_method_16_30) rfl ?_
      show SS p e below T110 m 32 #[.val (.ref src), .val (.int (0 : Int32)), .val (.int (Int32.ofNat cs.length)), .val (.ref b101), .val (.int (Int32.ofNat (fl cs))), .val (.ref t_111)] [(.int (Int32.ofNat (fl cs))), (.ref t_111)] _
      refine st114 _ ?_
      refine XS.sipush X114.here hx rfl (hb hby d_jdk_52_method_16_35) ?_
      refine XS.icmpYes X114.here hx rfl (pc0 := 38) (pc' := 54) rfl (hb hby d_jdk_52_method_16_38) rfl (tlt (fl_nlat hl).2).2.2.1 (by decide) (by decide) ?_
      refine XS.aload X114.here hx rfl (hb hby d_jdk_52_method_16_54) rfl rfl ?_
      exact kt
    have hR116 : Arv Z T110.heap t_111 kb_112 .byte (Int32.ofNat (blen cs)) (enc cs) (.int (0 : Int32)) := by have q := enc_nlat hl; rw [q.1, q.2.1]; exact P110_1
    obtain ⟨fs, hr, hrun, hended, hW, hsame⟩ := X114.leave (v := some (.ref t_111)) (fun h => by rw [Bd.returns] at h; cases h)
    refine ⟨_, _, W115 _ (own_retR X114 hx Bd.returns rfl rfl (hb hby d_jdk_52_method_16_56) hr), hrun, hended, _, _, rfl, ?_, ⟨_, rfl⟩, hW, hsame.mono (by decide) (by decide)⟩
    show Q_compress16 Z src kc cs h0 n0 _ T114.heap _
    rw [eq114]
    exact ⟨t_111, kb_112, rfl, N114, (Keep.trans (Keep.trans (Keep.trans (Keep.refl h0 []) K101 all0) K103 (allS (Or.inr (Nat.le_of_eq g101.symm)) all0)) K110 all0), (Nat.le_trans (Nat.le_trans K101.1 K103.1) P110_0), hR116⟩
def Q_sinitV (Z : State) (a : Addr) (src : Addr) (kc : ClassId) (cs : List Int32) (cS : Int32) (h0 : Heap) (n0 : Nat) (vQ_ : Option Value) (hQ_ : Heap) (LQ_ : List Loc) : Prop := ∃ t : Addr, ∃ kb : ClassId, vQ_ = none ∧ Fr n0 LQ_ ∧ Keep h0 hQ_ [a] ∧ h0.size ≤ t ∧ Str Z hQ_ a t kb cs
set_option maxRecDepth 65536 in
set_option maxHeartbeats 40000000 in
theorem rm_sinitV (l : Launch) (Z : State) (a0 : Array Value) (hw : HW a0 Z) (ws : List Jvm.Cond) (a : Addr) (src : Addr) (kc : ClassId) (cs : List Int32) (cS : Int32) (h0 : Heap) (n0 : Nat) (Z0 : n0 ≤ h0.size) (O0 : Old Z n0 h0) (S_cs : Sta Z Z.heap "java/lang/String" "COMPACT_STRINGS" "Z" (.int cS)) (hcS : ¬ (cS = (0 : Int32))) (S_ad : Sta Z Z.heap "java/lang/StringUTF16" "$assertionsDisabled" "Z" (.int (1 : Int32))) (S_hi : Sta Z Z.heap "java/lang/StringUTF16" "HI_BYTE_SHIFT" "I" (.int (0 : Int32))) (S_lo : Sta Z Z.heap "java/lang/StringUTF16" "LO_BYTE_SHIFT" "I" (.int (8 : Int32))) (E1 : Exa Z h0 a "java/lang/String") (F1 : Fld Z h0 a "java/lang/String" "value" "[B" .null) (F2 : Fld Z h0 a "java/lang/String" "coder" "B" (.int (0 : Int32))) (hg : n0 ≤ a) (Vs : Arv Z h0 src kc .char (Int32.ofNat cs.length) (cs.map Value.int) (.int (0 : Int32))) (ok : OkS cs) (hcap : cs.length ≤ 4) (hpos : 0 < cs.length) (hne : a ≠ src) :
    MetFree l yn18 (head1 (Jvm.Cond.code yn18 jdk_42_method_149_code 6 none :: ws) ({ frames := 4, cells := 2, slots := 12, locals := 57 } : Room)) (fun aQ_ UQ => aQ_ = #[(.ref a), (.ref src), (.int (0 : Int32)), (.int (Int32.ofNat cs.length)), .null] ∧ Z.Warmed39 UQ.vm ∧ UQ.heap = h0) (fun _ _ _ _ _ => True) (fun _ UQ oQ UQ' => ∃ vQ_ LQ_, oQ = .returned vQ_ ∧ Q_sinitV Z a src kc cs cS h0 n0 vQ_ UQ'.heap LQ_ ∧ FrameEnd UQ oQ UQ' LQ_ ({ frames := 4, cells := 2, slots := 12, locals := 57 } : Room).cells ({ frames := 4, cells := 2, slots := 12, locals := 57 } : Room).slots) := by
  refine MetFree.of_bodySF (plainFor_of_name pn_java_lang_String) hisR ?_
  intro p e s m args below meth cO s₁ Bd hml0 hP hK
  obtain ⟨rfl, hZ, hh⟩ := hP
  have hx := Bd.exec
  have hby := Bd.bytes
  have hml : cO.maxLocals = 6 := hml0
  have hown : s.vm.findClass "java/lang/String" = some m.cls := findClass_of_methodNamed Bd.named
  have hnm := (name_of_methodNamed Bd.named Bd.method).1
  have X0 : Stand p l e ({ frames := 4, cells := 2, slots := 12, locals := 57 } : Room) s m #[(.ref a), (.ref src), (.int (0 : Int32)), (.int (Int32.ofNat cs.length)), .null] below meth cO s₁ [] 0 0 := Stand.of_body Bd
  have e0 : s₁.heap = h0 := by rw [← hh, Bd.state]; rfl
  have N0 := Fr.nil n0
  have W0 : ∀ zQ, SS p e below s₁ m 0 #[.val (.ref a), .val (.ref src), .val (.int (0 : Int32)), .val (.int (Int32.ofNat cs.length)), .val .null, .unset] [] zQ → Steps p.tables e below (s₁.setTop (entryFrame m #[(.ref a), (.ref src), (.int (0 : Int32)), (.int (Int32.ofNat cs.length)), .null] 6)) zQ := fun tt kt => castTop (ef_sinitV m a src (0 : Int32) (Int32.ofNat cs.length)) kt
  have hn : cs.length < 1048576 := ok.2
  obtain ⟨T101, X101, e101, st101⟩ := initO X0 hx hZ hown (w17 hw) (w18 hw) (w19 hw) e0 (g := (mkF m 1 #[.val (.ref a), .val (.ref src), .val (.int (0 : Int32)), .val (.int (Int32.ofNat cs.length)), .val .null, .unset] [(.ref a)])) rfl (by rw [hml]; rfl) rfl (hb hby d_jdk_42_method_149_1) (by decide) (W := 0) (by show 2 * 0 + _ ≤ _; exact Nat.le_of_eq rfl) (by decide)
  have F103 : Sta Z h0 "java/lang/String" "COMPACT_STRINGS" "Z" (.int cS) := S_cs.ext O0.2
  obtain ⟨T102, X102, e102, st102⟩ := getS2 X101 hx hZ hown (host := "") (Or.inl (w20 hw)) Via.refl e101 F103 (g := (mkF m 27 #[.val (.ref a), .val (.ref src), .val (.int (0 : Int32)), .val (.int (Int32.ofNat cs.length)), .val .null, .unset] [])) rfl (hb hby d_jdk_42_method_149_27)
  obtain ⟨_, _, ⟨T104, L104, k104, n104⟩, -, X104, ⟨Lc104, hQ104, l104, y104, z104⟩, st104⟩ := Jvm.LawKit.callS X102 hx (y := yn17) hown (mvT hZ (w21 hw)) (mvT hZ (w22 hw)) (mvT hZ (w23 hw)) (mvT hZ (w24 hw)) (by decide) (backOf (W := 0) (rm_compress16 l Z a0 hw [] src kc cs h0 n0 Z0 O0 S_ad S_hi S_lo Vs ok hcap) hZ (w24 hw) (w23 hw) (by decide) (by decide)) (g := (mkF m 36 #[.val (.ref a), .val (.ref src), .val (.int (0 : Int32)), .val (.int (Int32.ofNat cs.length)), .val .null, .unset] [(.int (Int32.ofNat cs.length)), (.int (0 : Int32)), (.ref src)])) rfl (by rw [hml]; rfl) (argsL := [(.ref src), (.int (0 : Int32)), (.int (Int32.ofNat cs.length))]) (rest := []) (lenOf pd__28__5b_CII_29__5b_B rfl) rfl (by show 2 * 0 + _ ≤ _; exact Nat.le_of_eq rfl) (hb hby d_jdk_42_method_149_36) (fun _ _ => ⟨rfl, e102, (Nat.le_of_ble_eq_true rfl), (Nat.le_of_ble_eq_true rfl)⟩)
  dsimp only [Pt.U, Pt.locs, Pt.cells, Pt.slots] at X104 l104 y104 z104 st104 hQ104
  subst l104 y104 z104
  obtain ⟨t_105, kb_106, rfl, Nq104, K104, P104_0, P104_1⟩ := hQ104
  have N104 := Fr.app N0 Nq104
  obtain ⟨_, _, ⟨T107, L107, k107, n107⟩, -, X107, ⟨Lc107, hQ107, l107, y107, z107⟩, st107⟩ := Jvm.LawKit.callS X104 hx (y := yn12) hown (mvT hZ (w29 hw)) (mvT hZ (w30 hw)) (mvT hZ (w23 hw)) (mvT hZ (w31 hw)) (by decide) (backOf (W := 1) (rm_coderOf l Z a0 hw [] t_105 kb_106 (enc cs) cs T104.heap n0 (Nat.le_trans Z0 K104.1) P104_1 ok) hZ (w31 hw) (w23 hw) (by decide) (by decide)) (g := (mkF m 45 #[.val (.ref a), .val (.ref src), .val (.int (0 : Int32)), .val (.int (Int32.ofNat cs.length)), .val .null, .val (.ref t_105)] [(.int (Int32.ofNat cs.length)), (.ref t_105), (.ref a)])) rfl (by rw [hml]; rfl) (argsL := [(.ref t_105), (.int (Int32.ofNat cs.length))]) (rest := [(.ref a)]) (lenOf pd__28__5b_BI_29_B rfl) rfl (by show 2 * 0 + _ ≤ _; exact Nat.le_of_eq rfl) (hb hby d_jdk_42_method_149_45) (fun _ _ => ⟨rfl, rfl, (Nat.le_of_ble_eq_true rfl), (Nat.le_of_ble_eq_true rfl)⟩)
  dsimp only [Pt.U, Pt.locs, Pt.cells, Pt.slots] at X107 l107 y107 z107 st107 hQ107
  subst l107 y107 z107
  obtain ⟨rfl, Nq107, eq107⟩ := hQ107
  have N107 := Fr.app N104 Nq107
  have F108 : Exa Z T104.heap a "java/lang/String" := (E1.keep K104)
  have F109 : Fld Z T104.heap a "java/lang/String" "coder" "B" (.int (0 : Int32)) := (F2.keep K104 nin0)
  obtain ⟨T110, h110, X110, e110, Wr110, st110⟩ := putFN X107 hx hZ hown (w32 hw) Via.refl eq107 F109 F108 (Or.inr ⟨(w33 hw), rfl, hnm⟩) (w8 hw) (ty := .byte) (v' := (.int (cdr cs))) (by decide) (show narrow .byte (.int (cdr cs)) = .int (cdr cs) from congrArg Value.int (own_narcdr cs)) (own_fitcdr cs) (g := (mkF m 48 #[.val (.ref a), .val (.ref src), .val (.int (0 : Int32)), .val (.int (Int32.ofNat cs.length)), .val .null, .val (.ref t_105)] [(.int (cdr cs)), (.ref a)])) rfl rfl (hb hby d_jdk_42_method_149_48)
  have K110 := Keep.of_wr Wr110
  have G110 := F109.same Wr110
  have N110 := Fr.snoc X110 N107 hg
  have F111 : Exa Z h110 a "java/lang/String" := (F108.keep K110)
  have F112 : Fld Z h110 a "java/lang/String" "value" "[B" .null := (Fld.other Wr110 (F1.keep K104 nin0) (Or.inr (slot_ne (Or.inr (w35 hw)) (Or.inr (w33 hw)) (by decide) (t := (.array .byte)) (t' := .byte) (by decide) (by decide))))
  obtain ⟨T113, h113, X113, e113, Wr113, st113⟩ := putF X110 hx hZ hown (host := "") (Or.inl (w34 hw)) Via.refl e110 F112 F111 (Or.inr ⟨(w35 hw), rfl, hnm⟩) (w8 hw) (ty := (.array .byte)) (by decide) rfl rfl (g := (mkF m 54 #[.val (.ref a), .val (.ref src), .val (.int (0 : Int32)), .val (.int (Int32.ofNat cs.length)), .val .null, .val (.ref t_105)] [(.ref t_105), (.ref a)])) rfl rfl (hb hby d_jdk_42_method_149_54)
  have K113 := Keep.of_wr Wr113
  have G113 := F112.same Wr113
  have N113 := Fr.snoc X113 N110 hg
  have W114 : ∀ zQ, SS p e below T113 m 57 #[.val (.ref a), .val (.ref src), .val (.int (0 : Int32)), .val (.int (Int32.ofNat cs.length)), .val .null, .val (.ref t_105)] [] zQ → Steps p.tables e below (s₁.setTop (entryFrame m #[(.ref a), (.ref src), (.int (0 : Int32)), (.int (Int32.ofNat cs.length)), .null] 6)) zQ := by
    intro tt kt
    refine W0 tt ?_
    refine XS.aloadN X0.here hx rfl (hb hby d_jdk_42_method_149_0) rfl rfl ?_
    show SS p e below s₁ m 1 #[.val (.ref a), .val (.ref src), .val (.int (0 : Int32)), .val (.int (Int32.ofNat cs.length)), .val .null, .unset] [(.ref a)] _
    refine st101 _ ?_
    refine XS.iloadN X101.here hx rfl (hb hby d_jdk_42_method_149_4) rfl ?_
    refine XS.ifYes X101.here hx rfl (pc0 := 5) (pc' := 27) rfl (hb hby d_jdk_42_method_149_5) rfl ((if0 _ _).trans (feq (fun q => by have := congrArg Int32.toInt q; rw [own_i (by omega)] at this; have z : (0 : Int32).toInt = 0 := rfl; omega)).2) (by decide) (by decide) ?_
    show SS p e below T101 m 27 #[.val (.ref a), .val (.ref src), .val (.int (0 : Int32)), .val (.int (Int32.ofNat cs.length)), .val .null, .unset] [] _
    refine st102 _ ?_
    refine XS.ifNo X102.here hx rfl (hb hby d_jdk_42_method_149_30) rfl ((if0 _ _).trans (feq hcS).1) ?_
    refine XS.aloadN X102.here hx rfl (hb hby d_jdk_42_method_149_33) rfl rfl ?_
    refine XS.iloadN X102.here hx rfl (hb hby d_jdk_42_method_149_34) rfl ?_
    refine XS.iloadN X102.here hx rfl (hb hby d_jdk_42_method_149_35) rfl ?_
    show SS p e below T102 m 36 #[.val (.ref a), .val (.ref src), .val (.int (0 : Int32)), .val (.int (Int32.ofNat cs.length)), .val .null, .unset] [(.int (Int32.ofNat cs.length)), (.int (0 : Int32)), (.ref src)] _
    refine st104 _ ?_
    refine XS.astore X104.here hx rfl (hb hby d_jdk_42_method_149_39) rfl rfl (l' := #[.val (.ref a), .val (.ref src), .val (.int (0 : Int32)), .val (.int (Int32.ofNat cs.length)), .val .null, .val (.ref t_105)]) rfl ?_
    refine XS.aloadN X104.here hx rfl (hb hby d_jdk_42_method_149_41) rfl rfl ?_
    refine XS.aload X104.here hx rfl (hb hby d_jdk_42_method_149_42) rfl rfl ?_
    refine XS.iloadN X104.here hx rfl (hb hby d_jdk_42_method_149_44) rfl ?_
    show SS p e below T104 m 45 #[.val (.ref a), .val (.ref src), .val (.int (0 : Int32)), .val (.int (Int32.ofNat cs.length)), .val .null, .val (.ref t_105)] [(.int (Int32.ofNat cs.length)), (.ref t_105), (.ref a)] _
    refine st107 _ ?_
    show SS p e below T107 m 48 #[.val (.ref a), .val (.ref src), .val (.int (0 : Int32)), .val (.int (Int32.ofNat cs.length)), .val .null, .val (.ref t_105)] [(.int (cdr cs)), (.ref a)] _
    refine st110 _ ?_
    refine XS.aloadN X110.here hx rfl (hb hby d_jdk_42_method_149_51) rfl rfl ?_
    refine XS.aload X110.here hx rfl (hb hby d_jdk_42_method_149_52) rfl rfl ?_
    show SS p e below T110 m 54 #[.val (.ref a), .val (.ref src), .val (.int (0 : Int32)), .val (.int (Int32.ofNat cs.length)), .val .null, .val (.ref t_105)] [(.ref t_105), (.ref a)] _
    refine st113 _ ?_
    exact kt
  have F115 : Exa Z h113 a "java/lang/String" := (F111.keep K113)
  have F116 : Fld Z h113 a "java/lang/String" "coder" "B" (.int (cdr cs)) := (Fld.other Wr113 G110 (Or.inr (slot_ne (Or.inr (w33 hw)) (Or.inr (w35 hw)) (by decide) (t := .byte) (t' := (.array .byte)) (by decide) (by decide))))
  have F117 : Arv Z h113 t_105 kb_106 .byte (Int32.ofNat (blen cs)) (enc cs) (.int (0 : Int32)) := ((P104_1.keep K110 (ninS (Ne.symm (Nat.ne_of_lt (Nat.lt_of_lt_of_le E1.lt P104_0))) nin0)).keep K113 (ninS (Ne.symm (Nat.ne_of_lt (Nat.lt_of_lt_of_le E1.lt P104_0))) nin0))
  obtain ⟨fs, hr, hrun, hended, hW, hsame⟩ := X113.leave (v := none) (fun _ => rfl)
  refine ⟨_, _, W114 _ (X113.returnOut hx Bd.returns (hb hby d_jdk_42_method_149_57) hr), hrun, hended, _, _, rfl, ?_, ⟨_, rfl⟩, hW, hsame.mono (by decide) (by decide)⟩
  show Q_sinitV Z a src kc cs cS h0 n0 _ T113.heap _
  rw [e113]
  exact ⟨t_105, kb_106, rfl, N113, (Keep.trans (Keep.trans (Keep.trans (Keep.refl h0 [a]) K104 all0) K110 (allS (Or.inl (List.mem_of_getElem? (i := 0) rfl)) all0)) K113 (allS (Or.inl (List.mem_of_getElem? (i := 0) rfl)) all0)), P104_0, ⟨F115, G113, F116, F117, ok⟩⟩
def Q_sinit (Z : State) (a : Addr) (src : Addr) (kc : ClassId) (cs : List Int32) (cS : Int32) (h0 : Heap) (n0 : Nat) (vQ_ : Option Value) (hQ_ : Heap) (LQ_ : List Loc) : Prop := ∃ t : Addr, ∃ kb : ClassId, vQ_ = none ∧ Fr n0 LQ_ ∧ Keep h0 hQ_ [a] ∧ h0.size ≤ t ∧ Str Z hQ_ a t kb cs
set_option maxRecDepth 65536 in
set_option maxHeartbeats 40000000 in
theorem rm_sinit (l : Launch) (Z : State) (a0 : Array Value) (hw : HW a0 Z) (ws : List Jvm.Cond) (a : Addr) (src : Addr) (kc : ClassId) (cs : List Int32) (cS : Int32) (h0 : Heap) (n0 : Nat) (Z0 : n0 ≤ h0.size) (O0 : Old Z n0 h0) (S_cs : Sta Z Z.heap "java/lang/String" "COMPACT_STRINGS" "Z" (.int cS)) (hcS : ¬ (cS = (0 : Int32))) (S_ad : Sta Z Z.heap "java/lang/StringUTF16" "$assertionsDisabled" "Z" (.int (1 : Int32))) (S_hi : Sta Z Z.heap "java/lang/StringUTF16" "HI_BYTE_SHIFT" "I" (.int (0 : Int32))) (S_lo : Sta Z Z.heap "java/lang/StringUTF16" "LO_BYTE_SHIFT" "I" (.int (8 : Int32))) (E1 : Exa Z h0 a "java/lang/String") (F1 : Fld Z h0 a "java/lang/String" "value" "[B" .null) (F2 : Fld Z h0 a "java/lang/String" "coder" "B" (.int (0 : Int32))) (hg : n0 ≤ a) (Vs : Arv Z h0 src kc .char (Int32.ofNat cs.length) (cs.map Value.int) (.int (0 : Int32))) (ok : OkS cs) (hcap : cs.length ≤ 4) (hpos : 0 < cs.length) (hne : a ≠ src) :
    MetFree l yn19 (head1 (Jvm.Cond.code yn19 jdk_42_method_3_code 2 none :: ws) ({ frames := 5, cells := 2, slots := 12, locals := 74 } : Room)) (fun aQ_ UQ => aQ_ = #[(.ref a), (.ref src)] ∧ Z.Warmed39 UQ.vm ∧ UQ.heap = h0) (fun _ _ _ _ _ => True) (fun _ UQ oQ UQ' => ∃ vQ_ LQ_, oQ = .returned vQ_ ∧ Q_sinit Z a src kc cs cS h0 n0 vQ_ UQ'.heap LQ_ ∧ FrameEnd UQ oQ UQ' LQ_ ({ frames := 5, cells := 2, slots := 12, locals := 74 } : Room).cells ({ frames := 5, cells := 2, slots := 12, locals := 74 } : Room).slots) := by
  refine MetFree.of_bodySF (plainFor_of_name pn_java_lang_String) hisR ?_
  intro p e s m args below meth cO s₁ Bd hml0 hP hK
  obtain ⟨rfl, hZ, hh⟩ := hP
  have hx := Bd.exec
  have hby := Bd.bytes
  have hml : cO.maxLocals = 2 := hml0
  have hown : s.vm.findClass "java/lang/String" = some m.cls := findClass_of_methodNamed Bd.named
  have hnm := (name_of_methodNamed Bd.named Bd.method).1
  have X0 : Stand p l e ({ frames := 5, cells := 2, slots := 12, locals := 74 } : Room) s m #[(.ref a), (.ref src)] below meth cO s₁ [] 0 0 := Stand.of_body Bd
  have e0 : s₁.heap = h0 := by rw [← hh, Bd.state]; rfl
  have N0 := Fr.nil n0
  have W0 : ∀ zQ, SS p e below s₁ m 0 #[.val (.ref a), .val (.ref src)] [] zQ → Steps p.tables e below (s₁.setTop (entryFrame m #[(.ref a), (.ref src)] 2)) zQ := fun tt kt => castTop (ef_sinit m a src) kt
  obtain ⟨cl101, Ar101, -, S101, M101, -, -⟩ := id Vs
  obtain ⟨_, _, ⟨T102, L102, k102, n102⟩, -, X102, ⟨Lc102, hQ102, l102, y102, z102⟩, st102⟩ := X0.specialBack hx (y := yn18) rfl hown (mvT hZ (w13 hw)) (mvT hZ (w14 hw)) (mvT hZ (w16 hw)) (by decide) (backOf (W := 0) (rm_sinitV l Z a0 hw [] a src kc cs cS h0 n0 Z0 O0 S_cs hcS S_ad S_hi S_lo E1 F1 F2 hg Vs ok hcap hpos hne) hZ (w16 hw) (w9 hw) (by decide) (by decide)) (g := (mkF m 6 #[.val (.ref a), .val (.ref src)] [.null, (.int (Int32.ofNat cs.length)), (.int (0 : Int32)), (.ref src), (.ref a)])) rfl (by rw [hml]; rfl) (Steps.refl _) (a := a) (argsL := [(.ref src), (.int (0 : Int32)), (.int (Int32.ofNat cs.length)), .null]) (rest := []) (lenOf pd__28__5b_CIILjava_2f_lang_2f_Void_3b__29_V rfl) rfl (by show 2 * 0 + _ ≤ _; exact Nat.le_of_eq rfl) (hb hby d_jdk_42_method_3_6) (fun _ _ => ⟨rfl, e0, (Nat.le_of_ble_eq_true rfl), (Nat.le_of_ble_eq_true rfl)⟩)
  dsimp only [Pt.U, Pt.locs, Pt.cells, Pt.slots] at X102 l102 y102 z102 st102 hQ102
  subst l102 y102 z102
  obtain ⟨t_103, kb_104, rfl, Nq102, K102, P102_0, P102_1⟩ := hQ102
  have N102 := Fr.app N0 Nq102
  have W105 : ∀ zQ, SS p e below T102 m 9 #[.val (.ref a), .val (.ref src)] [] zQ → Steps p.tables e below (s₁.setTop (entryFrame m #[(.ref a), (.ref src)] 2)) zQ := by
    intro tt kt
    refine W0 tt ?_
    refine XS.aloadN X0.here hx rfl (hb hby d_jdk_42_method_3_0) rfl rfl ?_
    refine XS.aloadN X0.here hx rfl (hb hby d_jdk_42_method_3_1) rfl rfl ?_
    refine XS.iconst X0.here hx rfl (hb hby d_jdk_42_method_3_2) ?_
    refine XS.aloadN X0.here hx rfl (hb hby d_jdk_42_method_3_3) rfl rfl ?_
    show SS p e below s₁ m 4 #[.val (.ref a), .val (.ref src)] [(.ref src), (.int (0 : Int32)), (.ref src), (.ref a)] _
    refine X0.arraylength hx (by first | exact Ar101.1 | (rw [e0]; exact Ar101.1)) (State.isArrayOf_alike hZ.alike Ar101.2.1) (g := (mkF m 4 #[.val (.ref a), .val (.ref src)] [(.ref src), (.int (0 : Int32)), (.ref src), (.ref a)])) rfl rfl (hb hby d_jdk_42_method_3_4) _ ?_
    rw [len_of S101 M101]
    refine XS.aconstNull X0.here hx rfl (hb hby d_jdk_42_method_3_5) ?_
    show SS p e below s₁ m 6 #[.val (.ref a), .val (.ref src)] [.null, (.int (Int32.ofNat cs.length)), (.int (0 : Int32)), (.ref src), (.ref a)] _
    refine st102.trans ?_
    exact kt
  obtain ⟨fs, hr, hrun, hended, hW, hsame⟩ := X102.leave (v := none) (fun _ => rfl)
  refine ⟨_, _, W105 _ (X102.returnOut hx Bd.returns (hb hby d_jdk_42_method_3_9) hr), hrun, hended, _, _, rfl, ?_, ⟨_, rfl⟩, hW, hsame.mono (by decide) (by decide)⟩
  show Q_sinit Z a src kc cs cS h0 n0 _ T102.heap _
  exact ⟨t_103, kb_104, rfl, N102, (Keep.trans (Keep.refl h0 [a]) K102 (allS (Or.inl (List.mem_of_getElem? (i := 0) rfl)) all0)), P102_0, P102_1⟩
def Q_sinitV0 (Z : State) (a : Addr) (src : Addr) (h0 : Heap) (n0 : Nat) (vQ_ : Option Value) (hQ_ : Heap) (LQ_ : List Loc) : Prop := ∃ t : Addr, ∃ kb : ClassId, vQ_ = none ∧ Fr n0 LQ_ ∧ Keep h0 hQ_ [a] ∧ Str Z hQ_ a t kb ([] : List Int32)
set_option maxRecDepth 65536 in
set_option maxHeartbeats 40000000 in
theorem rm_sinitV0 (l : Launch) (Z : State) (a0 : Array Value) (hw : HW a0 Z) (ws : List Jvm.Cond) (a : Addr) (src : Addr) (h0 : Heap) (n0 : Nat) (Z0 : n0 ≤ h0.size) (E1 : Exa Z h0 a "java/lang/String") (F1 : Fld Z h0 a "java/lang/String" "value" "[B" .null) (F2 : Fld Z h0 a "java/lang/String" "coder" "B" (.int (0 : Int32))) (hg : n0 ≤ a) :
    MetFree l yn18 (head1 (Jvm.Cond.code yn18 jdk_42_method_149_code 6 none :: ws) ({ frames := 1, cells := 4, slots := 8, locals := 12 } : Room)) (fun aQ_ UQ => aQ_ = #[(.ref a), (.ref src), (.int (0 : Int32)), (.int (0 : Int32)), .null] ∧ Z.Warmed39 UQ.vm ∧ UQ.heap = h0 ∧ CHv Z EL_1 UQ.vm h0) (fun _ _ _ _ _ => True) (fun _ UQ oQ UQ' => ∃ vQ_ LQ_, oQ = .returned vQ_ ∧ Q_sinitV0 Z a src h0 n0 vQ_ UQ'.heap LQ_ ∧ CHr Z EL_1 UQ.vm UQ.heap UQ'.vm UQ'.heap ∧ ReturnedEndW UQ oQ UQ' LQ_ ({ frames := 1, cells := 4, slots := 8, locals := 12 } : Room).cells ({ frames := 1, cells := 4, slots := 8, locals := 12 } : Room).slots) := by
  refine MetFree.of_bodySF (plainFor_of_name pn_java_lang_String) hisR ?_
  intro p e s m args below meth cO s₁ Bd hml0 hP hK
  obtain ⟨rfl, hZ, hh, hH⟩ := hP
  have hx := Bd.exec
  have hby := Bd.bytes
  have hml : cO.maxLocals = 6 := hml0
  have hown : s.vm.findClass "java/lang/String" = some m.cls := findClass_of_methodNamed Bd.named
  have hnm := (name_of_methodNamed Bd.named Bd.method).1
  have X0 : Stand p l e ({ frames := 1, cells := 4, slots := 8, locals := 12 } : Room) (s.setVm s.vm) m #[(.ref a), (.ref src), (.int (0 : Int32)), (.int (0 : Int32)), .null] below meth cO s₁ [] 0 0 := Stand.of_body Bd
  have e0 : s₁.heap = h0 := by rw [← hh, Bd.state]; rfl
  have N0 := Fr.nil n0
  have hZ0 : Z.Warmed39 (s.setVm s.vm).vm := hZ
  have hown0 : (s.setVm s.vm).vm.findClass "java/lang/String" = some m.cls := hown
  have hS0 : s.Since s.vm 0 := (State.WarmedH.refl s).since 0
  have hk0 : 0 ≤ h0.size := Nat.zero_le _
  have hEL : EW Z a0 EL_1 := own_EW hw
  have R0 : CHr Z EL_1 s.vm h0 s.vm h0 := CHr.refl hH
  have W0 : ∀ zQ, SS p e below s₁ m 0 #[.val (.ref a), .val (.ref src), .val (.int (0 : Int32)), .val (.int (0 : Int32)), .val .null, .unset] [] zQ → Steps p.tables e below (s₁.setTop (entryFrame m #[(.ref a), (.ref src), (.int (0 : Int32)), (.int (0 : Int32)), .null] 6)) zQ := fun tt kt => castTop (ef_sinitV0 m a src (0 : Int32) (0 : Int32)) kt
  obtain ⟨T101, X101, e101, st101⟩ := initO X0 hx hZ0 hown0 (w17 hw) (w18 hw) (w19 hw) e0 (g := (mkF m 1 #[.val (.ref a), .val (.ref src), .val (.int (0 : Int32)), .val (.int (0 : Int32)), .val .null, .unset] [(.ref a)])) rfl (by rw [hml]; rfl) rfl (hb hby d_jdk_42_method_149_1) (by decide) (W := 0) (by show 2 * 0 + _ ≤ _; exact Nat.le_of_eq rfl) (by decide)
  obtain ⟨b102, T102, h102, k102, c102, kb102, X102, e102, E102, hS102, hk102, hZ102, hown102, LE102, LC102, LV102, LA102, l1102, l2102, A102, -, sf102, st102⟩ := ldcCH X101 hx hZ0 hown0 (w223 hw) (own_wS hw) e101 hS0 hk0 hEL (by decide +kernel) R0.1 (vs := (l1 ([] : List Int32))) (z := (0 : Int32)) (by decide +kernel) (by decide) (by decide) (g := (mkF m 9 #[.val (.ref a), .val (.ref src), .val (.int (0 : Int32)), .val (.int (0 : Int32)), .val .null, .unset] [(.ref a)])) rfl (hb hby d_jdk_42_method_149_9) (n := 0) (by decide) (by decide) (by decide) (by decide)
  have K102 := (Keep.refl h0 []).ext E102
  have R103 : CHr Z EL_1 s.vm h0 T102.vm h102 := R0.trans A102
  have LS102 : Str Z h102 b102 c102 kb102 ([] : List Int32) := ⟨LE102, LV102, LC102, LA102, by decide, by decide⟩
  have F104 : Exa Z h102 a "java/lang/String" := (E1.keep K102)
  have F105 : Fld Z h102 a "java/lang/String" "value" "[B" .null := (F1.keep K102 nin0)
  have Sf106 : Safe Z EL_1 T102.vm h102 a := (own_safeS hZ102.alike F104 F105)
  obtain ⟨T107, X107, e107, st107⟩ := getF X102 hx hZ102 hown102 (host := "") (Or.inl (w34 hw)) Via.refl e102 LV102 (g := (mkF m 11 #[.val (.ref a), .val (.ref src), .val (.int (0 : Int32)), .val (.int (0 : Int32)), .val .null, .unset] [(.ref b102), (.ref a)])) rfl rfl (hb hby d_jdk_42_method_149_11)
  obtain ⟨T108, h108, X108, e108, Wr108, st108⟩ := putF X107 hx hZ102 hown102 (host := "") (Or.inl (w34 hw)) Via.refl e107 F105 F104 (Or.inr ⟨(w35 hw), rfl, hnm⟩) (w8 hw) (ty := (.array .byte)) (by decide) rfl rfl (g := (mkF m 14 #[.val (.ref a), .val (.ref src), .val (.int (0 : Int32)), .val (.int (0 : Int32)), .val .null, .unset] [(.ref c102), (.ref a)])) rfl rfl (hb hby d_jdk_42_method_149_14)
  have K108 := Keep.of_wr Wr108
  have G108 := F105.same Wr108
  have N108 := Fr.snoc X108 N0 hg
  have R109 : CHr Z EL_1 s.vm h0 T102.vm h108 := R103.trans (CHr.keep K108 (sfS Sf106 sf0) R103.1)
  obtain ⟨b110, T110, h110, k110, c110, kb110, X110, e110, E110, hS110, hk110, hZ110, hown110, LE110, LC110, LV110, LA110, l1110, l2110, A110, -, sf110, st110⟩ := ldcCH X108 hx hZ102 hown102 (w223 hw) (own_wS hw) e108 hS102 (Nat.le_trans hk102 K108.1) hEL (by decide +kernel) R109.1 (vs := (l1 ([] : List Int32))) (z := (0 : Int32)) (by decide +kernel) (by decide) (by decide) (g := (mkF m 18 #[.val (.ref a), .val (.ref src), .val (.int (0 : Int32)), .val (.int (0 : Int32)), .val .null, .unset] [(.ref a)])) rfl (hb hby d_jdk_42_method_149_18) (n := 0) (by decide) (by decide) (by decide) (by decide)
  have K110 := (Keep.refl h108 []).ext E110
  have R111 : CHr Z EL_1 s.vm h0 T110.vm h110 := R109.trans A110
  have LS110 : Str Z h110 b110 c110 kb110 ([] : List Int32) := ⟨LE110, LV110, LC110, LA110, by decide, by decide⟩
  have Sf112 : Safe Z EL_1 T110.vm h110 a := (CHr.safe A110 (Nat.lt_of_lt_of_le E1.lt (Nat.le_trans K102.1 K108.1)) (Safe.keep K108 (sfS Sf106 sf0) R103.1 Sf106))
  obtain ⟨T113, X113, e113, st113⟩ := getF X110 hx hZ110 hown110 (host := "") (Or.inl (w32 hw)) Via.refl e110 LC110 (g := (mkF m 20 #[.val (.ref a), .val (.ref src), .val (.int (0 : Int32)), .val (.int (0 : Int32)), .val .null, .unset] [(.ref b110), (.ref a)])) rfl rfl (hb hby d_jdk_42_method_149_20)
  have F114 : Exa Z h110 a "java/lang/String" := ((F104.keep K108).keep K110)
  have F115 : Fld Z h110 a "java/lang/String" "coder" "B" (.int (0 : Int32)) := ((Fld.other Wr108 (F2.keep K102 nin0) (Or.inr (slot_ne (Or.inr (w33 hw)) (Or.inr (w35 hw)) (by decide) (t := .byte) (t' := (.array .byte)) (by decide) (by decide)))).keep K110 nin0)
  obtain ⟨T116, h116, X116, e116, Wr116, st116⟩ := putFN X113 hx hZ110 hown110 (w32 hw) Via.refl e113 F115 F114 (Or.inr ⟨(w33 hw), rfl, hnm⟩) (w8 hw) (ty := .byte) (v' := (.int (0 : Int32))) (by decide) rfl rfl (g := (mkF m 23 #[.val (.ref a), .val (.ref src), .val (.int (0 : Int32)), .val (.int (0 : Int32)), .val .null, .unset] [(.int (0 : Int32)), (.ref a)])) rfl rfl (hb hby d_jdk_42_method_149_23)
  have K116 := Keep.of_wr Wr116
  have G116 := F115.same Wr116
  have N116 := Fr.snoc X116 N108 hg
  have R117 : CHr Z EL_1 s.vm h0 T110.vm h116 := R111.trans (CHr.keep K116 (sfS Sf112 sf0) R111.1)
  have W118 : ∀ zQ, SS p e below T116 m 26 #[.val (.ref a), .val (.ref src), .val (.int (0 : Int32)), .val (.int (0 : Int32)), .val .null, .unset] [] zQ → Steps p.tables e below (s₁.setTop (entryFrame m #[(.ref a), (.ref src), (.int (0 : Int32)), (.int (0 : Int32)), .null] 6)) zQ := by
    intro tt kt
    refine W0 tt ?_
    refine XS.aloadN X0.here hx rfl (hb hby d_jdk_42_method_149_0) rfl rfl ?_
    show SS p e below s₁ m 1 #[.val (.ref a), .val (.ref src), .val (.int (0 : Int32)), .val (.int (0 : Int32)), .val .null, .unset] [(.ref a)] _
    refine st101 _ ?_
    refine XS.iloadN X101.here hx rfl (hb hby d_jdk_42_method_149_4) rfl ?_
    refine XS.ifNo X101.here hx rfl (hb hby d_jdk_42_method_149_5) rfl ((if0 _ _).trans (teq (by decide)).2) ?_
    refine XS.aloadN X101.here hx rfl (hb hby d_jdk_42_method_149_8) rfl rfl ?_
    show SS p e below T101 m 9 #[.val (.ref a), .val (.ref src), .val (.int (0 : Int32)), .val (.int (0 : Int32)), .val .null, .unset] [(.ref a)] _
    refine st102 _ ?_
    show SS p e below T102 m 11 #[.val (.ref a), .val (.ref src), .val (.int (0 : Int32)), .val (.int (0 : Int32)), .val .null, .unset] [(.ref b102), (.ref a)] _
    refine st107 _ ?_
    show SS p e below T107 m 14 #[.val (.ref a), .val (.ref src), .val (.int (0 : Int32)), .val (.int (0 : Int32)), .val .null, .unset] [(.ref c102), (.ref a)] _
    refine st108 _ ?_
    refine XS.aloadN X108.here hx rfl (hb hby d_jdk_42_method_149_17) rfl rfl ?_
    show SS p e below T108 m 18 #[.val (.ref a), .val (.ref src), .val (.int (0 : Int32)), .val (.int (0 : Int32)), .val .null, .unset] [(.ref a)] _
    refine st110 _ ?_
    show SS p e below T110 m 20 #[.val (.ref a), .val (.ref src), .val (.int (0 : Int32)), .val (.int (0 : Int32)), .val .null, .unset] [(.ref b110), (.ref a)] _
    refine st113 _ ?_
    show SS p e below T113 m 23 #[.val (.ref a), .val (.ref src), .val (.int (0 : Int32)), .val (.int (0 : Int32)), .val .null, .unset] [(.int (0 : Int32)), (.ref a)] _
    refine st116 _ ?_
    exact kt
  have F119 : Exa Z h116 a "java/lang/String" := (F114.keep K116)
  have F120 : Fld Z h116 a "java/lang/String" "value" "[B" (.ref c102) := (Fld.other Wr116 (G108.keep K110 nin0) (Or.inr (slot_ne (Or.inr (w35 hw)) (Or.inr (w33 hw)) (by decide) (t := (.array .byte)) (t' := .byte) (by decide) (by decide))))
  have F121 : Arv Z h116 c102 kb102 .byte (0 : Int32) (l1 ([] : List Int32)) (.int (0 : Int32)) := (((LA102.keep K108 (ninS (Ne.symm (sf102 _ Sf106).2) nin0)).keep K110 nin0).keep K116 (ninS (Ne.symm (sf102 _ Sf106).2) nin0))
  obtain ⟨fs, hr, hrun, hended, hRW⟩ := Jvm.Stand.leaveW X116 hS110 (by rw [e116]; exact (Nat.le_trans hk110 K116.1)) (v := none) (fun _ => rfl) (BodyLoose.notSynchronized Bd)
  refine ⟨_, _, W118 _ (X116.returnOut hx Bd.returns (hb hby d_jdk_42_method_149_26) hr), hrun, hended, _, _, rfl, ?_, own_chr (T := T116) R117 (CHv.at X116 hZ110 hEL R117.1) hh.symm e116, own_rw hRW (by decide) (by decide)⟩
  show Q_sinitV0 Z a src h0 n0 _ T116.heap _
  rw [e116]
  exact ⟨c102, kb102, rfl, N116, (Keep.trans (Keep.trans (Keep.trans (Keep.trans (Keep.refl h0 [a]) K102 all0) K108 (allS (Or.inl (List.mem_of_getElem? (i := 0) rfl)) all0)) K110 all0) K116 (allS (Or.inl (List.mem_of_getElem? (i := 0) rfl)) all0)), ⟨F119, F120, G116, F121, by decide, by decide⟩⟩
def Q_sinit0 (Z : State) (a : Addr) (src : Addr) (kc : ClassId) (h0 : Heap) (n0 : Nat) (vQ_ : Option Value) (hQ_ : Heap) (LQ_ : List Loc) : Prop := ∃ t : Addr, ∃ kb : ClassId, vQ_ = none ∧ Fr n0 LQ_ ∧ Keep h0 hQ_ [a] ∧ Str Z hQ_ a t kb ([] : List Int32)
set_option maxRecDepth 65536 in
set_option maxHeartbeats 40000000 in
theorem rm_sinit0 (l : Launch) (Z : State) (a0 : Array Value) (hw : HW a0 Z) (ws : List Jvm.Cond) (a : Addr) (src : Addr) (kc : ClassId) (h0 : Heap) (n0 : Nat) (Z0 : n0 ≤ h0.size) (E1 : Exa Z h0 a "java/lang/String") (F1 : Fld Z h0 a "java/lang/String" "value" "[B" .null) (F2 : Fld Z h0 a "java/lang/String" "coder" "B" (.int (0 : Int32))) (hg : n0 ≤ a) (Vs : Arv Z h0 src kc .char (0 : Int32) [] (.int (0 : Int32))) :
    MetFree l yn19 (head1 (Jvm.Cond.code yn19 jdk_42_method_3_code 2 none :: ws) ({ frames := 2, cells := 4, slots := 8, locals := 29 } : Room)) (fun aQ_ UQ => aQ_ = #[(.ref a), (.ref src)] ∧ Z.Warmed39 UQ.vm ∧ UQ.heap = h0 ∧ CHv Z EL_1 UQ.vm h0) (fun _ _ _ _ _ => True) (fun _ UQ oQ UQ' => ∃ vQ_ LQ_, oQ = .returned vQ_ ∧ Q_sinit0 Z a src kc h0 n0 vQ_ UQ'.heap LQ_ ∧ CHr Z EL_1 UQ.vm UQ.heap UQ'.vm UQ'.heap ∧ ReturnedEndW UQ oQ UQ' LQ_ ({ frames := 2, cells := 4, slots := 8, locals := 29 } : Room).cells ({ frames := 2, cells := 4, slots := 8, locals := 29 } : Room).slots) := by
  refine MetFree.of_bodySF (plainFor_of_name pn_java_lang_String) hisR ?_
  intro p e s m args below meth cO s₁ Bd hml0 hP hK
  obtain ⟨rfl, hZ, hh, hH⟩ := hP
  have hx := Bd.exec
  have hby := Bd.bytes
  have hml : cO.maxLocals = 2 := hml0
  have hown : s.vm.findClass "java/lang/String" = some m.cls := findClass_of_methodNamed Bd.named
  have hnm := (name_of_methodNamed Bd.named Bd.method).1
  have X0 : Stand p l e ({ frames := 2, cells := 4, slots := 8, locals := 29 } : Room) (s.setVm s.vm) m #[(.ref a), (.ref src)] below meth cO s₁ [] 0 0 := Stand.of_body Bd
  have e0 : s₁.heap = h0 := by rw [← hh, Bd.state]; rfl
  have N0 := Fr.nil n0
  have hZ0 : Z.Warmed39 (s.setVm s.vm).vm := hZ
  have hown0 : (s.setVm s.vm).vm.findClass "java/lang/String" = some m.cls := hown
  have hS0 : s.Since s.vm 0 := (State.WarmedH.refl s).since 0
  have hk0 : 0 ≤ h0.size := Nat.zero_le _
  have hEL : EW Z a0 EL_1 := own_EW hw
  have R0 : CHr Z EL_1 s.vm h0 s.vm h0 := CHr.refl hH
  have W0 : ∀ zQ, SS p e below s₁ m 0 #[.val (.ref a), .val (.ref src)] [] zQ → Steps p.tables e below (s₁.setTop (entryFrame m #[(.ref a), (.ref src)] 2)) zQ := fun tt kt => castTop (ef_sinit0 m a src) kt
  obtain ⟨cl101, Ar101, -, S101, M101, -, -⟩ := id Vs
  obtain ⟨_, _, ⟨T102, L102, k102, n102⟩, -, X102', hS102', hgr102, ⟨Lc102, hQ102, l102, y102, z102, A102⟩, st102⟩ := X0.specialBackS hx (y := yn18) rfl hown0 (mvT hZ0 (w13 hw)) (mvT hZ0 (w14 hw)) (mvT hZ0 (w16 hw)) (by decide) (backOfSH (W := 0) (rm_sinitV0 l Z a0 hw [] a src h0 n0 Z0 E1 F1 F2 hg) hZ0 (w16 hw) (w9 hw) (by decide) (by decide) hEL R0.1) (g := (mkF m 6 #[.val (.ref a), .val (.ref src)] [.null, (.int (0 : Int32)), (.int (0 : Int32)), (.ref src), (.ref a)])) rfl (by rw [hml]; rfl) (Steps.refl _) (a := a) (argsL := [(.ref src), (.int (0 : Int32)), (.int (0 : Int32)), .null]) (rest := []) (lenOf pd__28__5b_CIILjava_2f_lang_2f_Void_3b__29_V rfl) rfl (by show 2 * 0 + _ ≤ _; exact Nat.le_of_eq rfl) (hb hby d_jdk_42_method_3_6) (fun _ _ => ⟨rfl, e0, (Nat.le_of_ble_eq_true rfl), (Nat.le_of_ble_eq_true rfl)⟩)
  dsimp only [Pt.U, Pt.locs, Pt.cells, Pt.slots] at X102' hS102' hgr102 l102 y102 z102 st102 hQ102 A102
  subst l102 y102 z102
  obtain ⟨X102, hS102, hZ102, hown102⟩ := rebS hS0 (by rw [e0]; exact hk0) X102' hS102' hgr102 hZ0 hown0
  obtain ⟨t_103, kb_104, rfl, Nq102, K102, P102_0⟩ := hQ102
  have N102 := Fr.app N0 Nq102
  have R105 : CHr Z EL_1 s.vm h0 T102.vm T102.heap := R0.trans A102
  have hk102 : T102.heap.size ≤ T102.heap.size := Nat.le_refl _
  have W106 : ∀ zQ, SS p e below T102 m 9 #[.val (.ref a), .val (.ref src)] [] zQ → Steps p.tables e below (s₁.setTop (entryFrame m #[(.ref a), (.ref src)] 2)) zQ := by
    intro tt kt
    refine W0 tt ?_
    refine XS.aloadN X0.here hx rfl (hb hby d_jdk_42_method_3_0) rfl rfl ?_
    refine XS.aloadN X0.here hx rfl (hb hby d_jdk_42_method_3_1) rfl rfl ?_
    refine XS.iconst X0.here hx rfl (hb hby d_jdk_42_method_3_2) ?_
    refine XS.aloadN X0.here hx rfl (hb hby d_jdk_42_method_3_3) rfl rfl ?_
    show SS p e below s₁ m 4 #[.val (.ref a), .val (.ref src)] [(.ref src), (.int (0 : Int32)), (.ref src), (.ref a)] _
    refine X0.arraylength hx (by first | exact Ar101.1 | (rw [e0]; exact Ar101.1)) (State.isArrayOf_alike hZ0.alike Ar101.2.1) (g := (mkF m 4 #[.val (.ref a), .val (.ref src)] [(.ref src), (.int (0 : Int32)), (.ref src), (.ref a)])) rfl rfl (hb hby d_jdk_42_method_3_4) _ ?_
    rw [len_of S101 M101]
    refine XS.aconstNull X0.here hx rfl (hb hby d_jdk_42_method_3_5) ?_
    show SS p e below s₁ m 6 #[.val (.ref a), .val (.ref src)] [.null, (.int (0 : Int32)), (.int (0 : Int32)), (.ref src), (.ref a)] _
    refine st102.trans ?_
    exact kt
  obtain ⟨fs, hr, hrun, hended, hRW⟩ := Jvm.Stand.leaveW X102 hS102 hk102 (v := none) (fun _ => rfl) (BodyLoose.notSynchronized Bd)
  refine ⟨_, _, W106 _ (X102.returnOut hx Bd.returns (hb hby d_jdk_42_method_3_9) hr), hrun, hended, _, _, rfl, ?_, own_chr (T := T102) R105 (CHv.at X102 hZ102 hEL R105.1) hh.symm rfl, own_rw hRW (by decide) (by decide)⟩
  show Q_sinit0 Z a src kc h0 n0 _ T102.heap _
  exact ⟨t_103, kb_104, rfl, N102, (Keep.trans (Keep.refl h0 [a]) K102 (allS (Or.inl (List.mem_of_getElem? (i := 0) rfl)) all0)), P102_0⟩
def Q_checkLength (Z : State) (j : Int32) (k : Int32) (h0 : Heap) (n0 : Nat) (vQ_ : Option Value) (hQ_ : Heap) (LQ_ : List Loc) : Prop := vQ_ = none ∧ Fr n0 LQ_ ∧ hQ_ = h0
set_option maxRecDepth 65536 in
set_option maxHeartbeats 40000000 in
theorem rm_checkLength (l : Launch) (Z : State) (a0 : Array Value) (hw : HW a0 Z) (ws : List Jvm.Cond) (j : Int32) (k : Int32) (h0 : Heap) (n0 : Nat) (Z0 : n0 ≤ h0.size) (hj : ¬ (k < j)) :
    MetFree l yn20 (head1 (Jvm.Cond.code yn20 jdk_65_method_131_code 2 none :: ws) ({ frames := 0, cells := 0, slots := 0, locals := 0 } : Room)) (fun aQ_ UQ => aQ_ = #[(.int j), (.int k)] ∧ Z.Warmed39 UQ.vm ∧ UQ.heap = h0) (fun _ _ _ _ _ => True) (fun _ UQ oQ UQ' => ∃ vQ_ LQ_, oQ = .returned vQ_ ∧ Q_checkLength Z j k h0 n0 vQ_ UQ'.heap LQ_ ∧ FrameEnd UQ oQ UQ' LQ_ ({ frames := 0, cells := 0, slots := 0, locals := 0 } : Room).cells ({ frames := 0, cells := 0, slots := 0, locals := 0 } : Room).slots) := by
  refine MetFree.of_bodySF (plainFor_of_name pn_java_util_Arrays) hisR ?_
  intro p e s m args below meth cO s₁ Bd hml0 hP hK
  obtain ⟨rfl, hZ, hh⟩ := hP
  have hx := Bd.exec
  have hby := Bd.bytes
  have hml : cO.maxLocals = 2 := hml0
  have hown : s.vm.findClass "java/util/Arrays" = some m.cls := findClass_of_methodNamed Bd.named
  have hnm := (name_of_methodNamed Bd.named Bd.method).1
  have X0 : Stand p l e ({ frames := 0, cells := 0, slots := 0, locals := 0 } : Room) s m #[(.int j), (.int k)] below meth cO s₁ [] 0 0 := Stand.of_body Bd
  have e0 : s₁.heap = h0 := by rw [← hh, Bd.state]; rfl
  have N0 := Fr.nil n0
  have W0 : ∀ zQ, SS p e below s₁ m 0 #[.val (.int j), .val (.int k)] [] zQ → Steps p.tables e below (s₁.setTop (entryFrame m #[(.int j), (.int k)] 2)) zQ := fun tt kt => castTop (ef_checkLength m j k) kt
  have W101 : ∀ zQ, SS p e below s₁ m 37 #[.val (.int j), .val (.int k)] [] zQ → Steps p.tables e below (s₁.setTop (entryFrame m #[(.int j), (.int k)] 2)) zQ := by
    intro tt kt
    refine W0 tt ?_
    refine XS.iloadN X0.here hx rfl (hb hby d_jdk_65_method_131_0) rfl ?_
    refine XS.iloadN X0.here hx rfl (hb hby d_jdk_65_method_131_1) rfl ?_
    refine XS.icmpYes X0.here hx rfl (pc0 := 2) (pc' := 37) rfl (hb hby d_jdk_65_method_131_2) rfl (flt hj).2.1 (by decide) (by decide) ?_
    exact kt
  obtain ⟨fs, hr, hrun, hended, hW, hsame⟩ := X0.leave (v := none) (fun _ => rfl)
  refine ⟨_, _, W101 _ (X0.returnOut hx Bd.returns (hb hby d_jdk_65_method_131_37) hr), hrun, hended, _, _, rfl, ?_, ⟨_, rfl⟩, hW, hsame.mono (by decide) (by decide)⟩
  show Q_checkLength Z j k h0 n0 _ s₁.heap _
  rw [e0]
  exact ⟨rfl, N0, rfl⟩
def Q_mini (Z : State) (j : Int32) (k : Int32) (h0 : Heap) (n0 : Nat) (vQ_ : Option Value) (hQ_ : Heap) (LQ_ : List Loc) : Prop := vQ_ = some (.int (if k < j then k else j)) ∧ Fr n0 LQ_ ∧ hQ_ = h0
set_option maxRecDepth 65536 in
set_option maxHeartbeats 40000000 in
theorem rm_mini (l : Launch) (Z : State) (a0 : Array Value) (hw : HW a0 Z) (ws : List Jvm.Cond) (j : Int32) (k : Int32) (h0 : Heap) (n0 : Nat) (Z0 : n0 ≤ h0.size)  :
    MetFree l yn21 (head1 (Jvm.Cond.code yn21 jdk_29_method_69_code 2 (some .int) :: ws) ({ frames := 0, cells := 0, slots := 0, locals := 0 } : Room)) (fun aQ_ UQ => aQ_ = #[(.int j), (.int k)] ∧ Z.Warmed39 UQ.vm ∧ UQ.heap = h0) (fun _ _ _ _ _ => True) (fun _ UQ oQ UQ' => ∃ vQ_ LQ_, oQ = .returned vQ_ ∧ Q_mini Z j k h0 n0 vQ_ UQ'.heap LQ_ ∧ FrameEnd UQ oQ UQ' LQ_ ({ frames := 0, cells := 0, slots := 0, locals := 0 } : Room).cells ({ frames := 0, cells := 0, slots := 0, locals := 0 } : Room).slots) := by
  refine MetFree.of_bodySF (Jvm.Free.JP.mathPlain rfl (by decide +kernel)) hisR ?_
  intro p e s m args below meth cO s₁ Bd hml0 hP hK
  obtain ⟨rfl, hZ, hh⟩ := hP
  have hx := Bd.exec
  have hby := Bd.bytes
  have hml : cO.maxLocals = 2 := hml0
  have hown : s.vm.findClass "java/lang/Math" = some m.cls := findClass_of_methodNamed Bd.named
  have hnm := (name_of_methodNamed Bd.named Bd.method).1
  have X0 : Stand p l e ({ frames := 0, cells := 0, slots := 0, locals := 0 } : Room) s m #[(.int j), (.int k)] below meth cO s₁ [] 0 0 := Stand.of_body Bd
  have e0 : s₁.heap = h0 := by rw [← hh, Bd.state]; rfl
  have N0 := Fr.nil n0
  have W0 : ∀ zQ, SS p e below s₁ m 0 #[.val (.int j), .val (.int k)] [] zQ → Steps p.tables e below (s₁.setTop (entryFrame m #[(.int j), (.int k)] 2)) zQ := fun tt kt => castTop (ef_mini m j k) kt
  have W101 : ∀ zQ, SS p e below s₁ m 2 #[.val (.int j), .val (.int k)] [(.int k), (.int j)] zQ → Steps p.tables e below (s₁.setTop (entryFrame m #[(.int j), (.int k)] 2)) zQ := by
    intro tt kt
    refine W0 tt ?_
    refine XS.iloadN X0.here hx rfl (hb hby d_jdk_29_method_69_0) rfl ?_
    refine XS.iloadN X0.here hx rfl (hb hby d_jdk_29_method_69_1) rfl ?_
    exact kt
  have W103 : ∀ zQ, SS p e below s₁ m 10 #[.val (.int j), .val (.int k)] [(.int (if k < j then k else j))] zQ → Steps p.tables e below (s₁.setTop (entryFrame m #[(.int j), (.int k)] 2)) zQ := by
    intro tt kt
    refine W101 tt ?_
    by_cases hj102 : k < j
    ·
      refine XS.icmpYes X0.here hx rfl (pc0 := 2) (pc' := 9) rfl (hb hby d_jdk_29_method_69_2) rfl (tlt hj102).2.2.1 (by decide) (by decide) ?_
      refine XS.iloadN X0.here hx rfl (hb hby d_jdk_29_method_69_9) rfl ?_
      exact castTop (by first | rfl | (simp only [if_pos hj102]; first | done | rfl)) kt
    ·
      refine XS.icmpNo X0.here hx rfl (hb hby d_jdk_29_method_69_2) rfl (flt hj102).2.2.1 ?_
      refine XS.iloadN X0.here hx rfl (hb hby d_jdk_29_method_69_5) rfl ?_
      refine XS.goto X0.here hx rfl (pc0 := 6) (pc' := 10) rfl (hb hby d_jdk_29_method_69_6) (by decide) (by decide) ?_
      exact castTop (by first | rfl | (simp only [if_neg hj102]; first | done | rfl)) kt
  obtain ⟨fs, hr, hrun, hended, hW, hsame⟩ := X0.leave (v := some (.int (if k < j then k else j))) (fun h => by rw [Bd.returns] at h; cases h)
  refine ⟨_, _, W103 _ (retI X0 hx Bd.returns (hb hby d_jdk_29_method_69_10) hr), hrun, hended, _, _, rfl, ?_, ⟨_, rfl⟩, hW, hsame.mono (by decide) (by decide)⟩
  show Q_mini Z j k h0 n0 _ s₁.heap _
  rw [e0]
  exact ⟨rfl, N0, rfl⟩
def Q_corb (Z : State) (t : Addr) (f : Nat) (gq : Nat) (N : Nat) (kb : ClassId) (vs : List Value) (h0 : Heap) (n0 : Nat) (vQ_ : Option Value) (hQ_ : Heap) (LQ_ : List Loc) : Prop := ∃ r : Addr, ∃ kr : ClassId, vQ_ = some (.ref r) ∧ Fr n0 LQ_ ∧ Keep h0 hQ_ [] ∧ h0.size ≤ r ∧ Arv Z hQ_ r kr .byte (Int32.ofNat (gq - f)) ((vs.drop f).take (gq - f)) (.int (0 : Int32))
set_option maxRecDepth 65536 in
set_option maxHeartbeats 40000000 in
theorem rm_corb (l : Launch) (Z : State) (a0 : Array Value) (hw : HW a0 Z) (ws : List Jvm.Cond) (t : Addr) (f : Nat) (gq : Nat) (N : Nat) (kb : ClassId) (vs : List Value) (h0 : Heap) (n0 : Nat) (Z0 : n0 ≤ h0.size) (A1 : Arv Z h0 t kb .byte (Int32.ofNat N) vs (.int (0 : Int32))) (hvs : vs.length = N) (hfg : f ≤ gq) (hgN : gq ≤ N) (hN : N < 2147483648) (hcap : gq - f ≤ 8) :
    MetFree l yn22 (head1 (Jvm.Cond.code yn22 jdk_65_method_133_code 5 (some (.array .byte)) :: ws) ({ frames := 1, cells := 1, slots := 8, locals := 64 } : Room)) (fun aQ_ UQ => aQ_ = #[(.ref t), (.int (Int32.ofNat f)), (.int (Int32.ofNat gq))] ∧ Z.Warmed39 UQ.vm ∧ UQ.heap = h0) (fun _ _ _ _ _ => True) (fun _ UQ oQ UQ' => ∃ vQ_ LQ_, oQ = .returned vQ_ ∧ Q_corb Z t f gq N kb vs h0 n0 vQ_ UQ'.heap LQ_ ∧ FrameEnd UQ oQ UQ' LQ_ ({ frames := 1, cells := 1, slots := 8, locals := 64 } : Room).cells ({ frames := 1, cells := 1, slots := 8, locals := 64 } : Room).slots) := by
  refine MetFree.of_bodySF (plainFor_of_name pn_java_util_Arrays) hisR ?_
  intro p e s m args below meth cO s₁ Bd hml0 hP hK
  obtain ⟨rfl, hZ, hh⟩ := hP
  have hx := Bd.exec
  have hby := Bd.bytes
  have hml : cO.maxLocals = 5 := hml0
  have hown : s.vm.findClass "java/util/Arrays" = some m.cls := findClass_of_methodNamed Bd.named
  have hnm := (name_of_methodNamed Bd.named Bd.method).1
  have X0 : Stand p l e ({ frames := 1, cells := 1, slots := 8, locals := 64 } : Room) s m #[(.ref t), (.int (Int32.ofNat f)), (.int (Int32.ofNat gq))] below meth cO s₁ [] 0 0 := Stand.of_body Bd
  have e0 : s₁.heap = h0 := by rw [← hh, Bd.state]; rfl
  have N0 := Fr.nil n0
  have W0 : ∀ zQ, SS p e below s₁ m 0 #[.val (.ref t), .val (.int (Int32.ofNat f)), .val (.int (Int32.ofNat gq)), .unset, .unset] [] zQ → Steps p.tables e below (s₁.setTop (entryFrame m #[(.ref t), (.int (Int32.ofNat f)), (.int (Int32.ofNat gq))] 5)) zQ := fun tt kt => castTop (ef_corb m t (Int32.ofNat f) (Int32.ofNat gq)) kt
  obtain ⟨_, _, ⟨T101, L101, k101, n101⟩, -, X101, ⟨Lc101, hQ101, l101, y101, z101⟩, st101⟩ := Jvm.LawKit.callS X0 hx (y := yn20) hown (mvT hZ (w199 hw)) (mvT hZ (w200 hw)) (mvT hZ (w180 hw)) (mvT hZ (w201 hw)) (by decide) (backOf (W := 0) (rm_checkLength l Z a0 hw [] (Int32.ofNat f) (Int32.ofNat gq) h0 n0 Z0 (own_nlt hfg (by omega))) hZ (w201 hw) (w180 hw) (by decide) (by decide)) (g := (mkF m 2 #[.val (.ref t), .val (.int (Int32.ofNat f)), .val (.int (Int32.ofNat gq)), .unset, .unset] [(.int (Int32.ofNat gq)), (.int (Int32.ofNat f))])) rfl (by rw [hml]; rfl) (argsL := [(.int (Int32.ofNat f)), (.int (Int32.ofNat gq))]) (rest := []) (lenOf pd__28_II_29_V rfl) rfl (by show 2 * 0 + _ ≤ _; exact Nat.le_of_eq rfl) (hb hby d_jdk_65_method_133_2) (fun _ _ => ⟨rfl, e0, (Nat.le_of_ble_eq_true rfl), (Nat.le_of_ble_eq_true rfl)⟩)
  dsimp only [Pt.U, Pt.locs, Pt.cells, Pt.slots] at X101 l101 y101 z101 st101 hQ101
  subst l101 y101 z101
  obtain ⟨rfl, Nq101, eq101⟩ := hQ101
  have N101 := Fr.app N0 Nq101
  obtain ⟨T102, h102, k102, X102, e102, E102, A102, st102⟩ := newP X101 hx hZ (aty := .byte) (w25 hw) eq101 (g := (mkF m 10 #[.val (.ref t), .val (.int (Int32.ofNat f)), .val (.int (Int32.ofNat gq)), .val (.int (Int32.ofNat (gq - f))), .unset] [(.int (Int32.ofNat (gq - f)))])) rfl (hb hby d_jdk_65_method_133_10) (n := (Int32.ofNat (gq - f))) rfl (own_nneg (by omega)) (cap := 8) (by rw [own_cl (by omega)]; exact hcap) (by decide) (by decide) (by decide)
  obtain ⟨b102, g102⟩ : ∃ z, z = h0.size := ⟨_, rfl⟩
  rw [← g102] at A102 st102
  have K102 := (Keep.refl h0 []).ext E102
  have G102 : Arv Z h102 b102 k102 .byte (Int32.ofNat (gq - f)) [] (.int (0 : Int32)) := Arv.new A102 (own_nneg (by omega))
  have J103 : Arv Z h102 b102 k102 .byte (Int32.ofNat (gq - f)) (List.replicate (gq - f) (.int (0 : Int32))) (.int (0 : Int32)) := Arv.pad G102 (fun i => by simpa using pad_rep [] (.int (0 : Int32)) (gq - f) i)
  have F104 : Arv Z h102 t kb .byte (Int32.ofNat N) vs (.int (0 : Int32)) := (A1.keep K102 nin0)
  obtain ⟨cl105, Ar105, -, S105, M105, -, -⟩ := id F104
  obtain ⟨_, _, ⟨T106, L106, k106, n106⟩, -, X106, ⟨Lc106, hQ106, l106, y106, z106⟩, st106⟩ := Jvm.LawKit.callS X102 hx (y := yn21) hown (mvT hZ (w202 hw)) (mvT hZ (w51 hw)) (mvT hZ (w52 hw)) (mvT hZ (w53 hw)) (by decide) (backOf (W := 4) (rm_mini l Z a0 hw [] (Int32.ofNat (N - f)) (Int32.ofNat (gq - f)) h102 n0 (Nat.le_trans Z0 K102.1) ) hZ (w53 hw) (w52 hw) (by decide) (by decide)) (g := (mkF m 24 #[.val (.ref t), .val (.int (Int32.ofNat f)), .val (.int (Int32.ofNat gq)), .val (.int (Int32.ofNat (gq - f))), .val (.ref b102)] [(.int (Int32.ofNat (gq - f))), (.int (Int32.ofNat (N - f))), (.int (0 : Int32)), (.ref b102), (.int (Int32.ofNat f)), (.ref t)])) rfl (by rw [hml]; rfl) (argsL := [(.int (Int32.ofNat (N - f))), (.int (Int32.ofNat (gq - f)))]) (rest := [(.int (0 : Int32)), (.ref b102), (.int (Int32.ofNat f)), (.ref t)]) (lenOf pd__28_II_29_I rfl) rfl (by show 2 * 0 + _ ≤ _; exact Nat.le_of_eq rfl) (hb hby d_jdk_65_method_133_24) (fun _ _ => ⟨rfl, e102, (Nat.le_of_ble_eq_true rfl), (Nat.le_of_ble_eq_true rfl)⟩)
  dsimp only [Pt.U, Pt.locs, Pt.cells, Pt.slots] at X106 l106 y106 z106 st106 hQ106
  subst l106 y106 z106
  obtain ⟨rfl, Nq106, eq106⟩ := hQ106
  have N106 := Fr.app N101 Nq106
  obtain ⟨T107, h107, Lp107, X107, e107, N107, K107, V107, st107⟩ := cpA X106 hx hZ hown (w203 hw) (w151 hw) (w149 hw) (w150 hw) eq106 F104 J103 (Or.inl ⟨rfl, rfl⟩) (own_nneg (by omega)) (by decide) (own_nneg (by omega)) (by rw [own_cl (by omega), own_cl (by omega), own_cl (by omega)]; omega) (by rw [own_cl (by omega)]; show 0 + (gq - f) ≤ gq - f; omega) (us := ((vs.drop f).take (gq - f))) (by rw [own_cl (by omega), own_cl (by omega)]; exact own_slice vs f (gq - f) _ (by omega)) (by rw [own_cl (by omega)]; simp) N106 (Nat.le_trans Z0 (Nat.le_of_eq g102.symm)) (g := (mkF m 27 #[.val (.ref t), .val (.int (Int32.ofNat f)), .val (.int (Int32.ofNat gq)), .val (.int (Int32.ofNat (gq - f))), .val (.ref b102)] [(.int (Int32.ofNat (gq - f))), (.int (0 : Int32)), (.ref b102), (.int (Int32.ofNat f)), (.ref t)])) rfl (by rw [hml]; rfl) rfl (hb hby d_jdk_65_method_133_27) (by decide) (W := 0) (by show 2 * 0 + _ ≤ _; exact Nat.le_of_eq rfl) (by decide)
  have J108 : Arv Z h107 b102 k102 .byte (Int32.ofNat (gq - f)) ((vs.drop f).take (gq - f)) (.int (0 : Int32)) := by have q := V107; rw [own_cl (by omega), show (0 : Int32).toNatClampNeg = 0 from rfl, own_fill ((vs.drop f).take (gq - f)) (gq - f) (by rw [List.length_take, List.length_drop]; omega)] at q; exact q
  have W109 : ∀ zQ, SS p e below T107 m 32 #[.val (.ref t), .val (.int (Int32.ofNat f)), .val (.int (Int32.ofNat gq)), .val (.int (Int32.ofNat (gq - f))), .val (.ref b102)] [(.ref b102)] zQ → Steps p.tables e below (s₁.setTop (entryFrame m #[(.ref t), (.int (Int32.ofNat f)), (.int (Int32.ofNat gq))] 5)) zQ := by
    intro tt kt
    refine W0 tt ?_
    refine XS.iloadN X0.here hx rfl (hb hby d_jdk_65_method_133_0) rfl ?_
    refine XS.iloadN X0.here hx rfl (hb hby d_jdk_65_method_133_1) rfl ?_
    show SS p e below s₁ m 2 #[.val (.ref t), .val (.int (Int32.ofNat f)), .val (.int (Int32.ofNat gq)), .unset, .unset] [(.int (Int32.ofNat gq)), (.int (Int32.ofNat f))] _
    refine st101 _ ?_
    refine XS.iloadN X101.here hx rfl (hb hby d_jdk_65_method_133_5) rfl ?_
    refine XS.iloadN X101.here hx rfl (hb hby d_jdk_65_method_133_6) rfl ?_
    refine XS.isub X101.here hx rfl (hb hby d_jdk_65_method_133_7) rfl ?_
    show SS p e below T101 m 8 #[.val (.ref t), .val (.int (Int32.ofNat f)), .val (.int (Int32.ofNat gq)), .unset, .unset] [(.int ((Int32.ofNat gq) - (Int32.ofNat f)))] _
    rw [show ((Int32.ofNat gq) - (Int32.ofNat f)) = (Int32.ofNat (gq - f)) from own_sub (by omega) (by omega)]
    refine XS.istoreN X101.here hx rfl (hb hby d_jdk_65_method_133_8) rfl (l' := #[.val (.ref t), .val (.int (Int32.ofNat f)), .val (.int (Int32.ofNat gq)), .val (.int (Int32.ofNat (gq - f))), .unset]) rfl ?_
    refine XS.iloadN X101.here hx rfl (hb hby d_jdk_65_method_133_9) rfl ?_
    show SS p e below T101 m 10 #[.val (.ref t), .val (.int (Int32.ofNat f)), .val (.int (Int32.ofNat gq)), .val (.int (Int32.ofNat (gq - f))), .unset] [(.int (Int32.ofNat (gq - f)))] _
    refine st102 _ ?_
    refine XS.astore X102.here hx rfl (hb hby d_jdk_65_method_133_12) rfl rfl (l' := #[.val (.ref t), .val (.int (Int32.ofNat f)), .val (.int (Int32.ofNat gq)), .val (.int (Int32.ofNat (gq - f))), .val (.ref b102)]) rfl ?_
    refine XS.aloadN X102.here hx rfl (hb hby d_jdk_65_method_133_14) rfl rfl ?_
    refine XS.iloadN X102.here hx rfl (hb hby d_jdk_65_method_133_15) rfl ?_
    refine XS.aload X102.here hx rfl (hb hby d_jdk_65_method_133_16) rfl rfl ?_
    refine XS.iconst X102.here hx rfl (hb hby d_jdk_65_method_133_18) ?_
    show SS p e below T102 m 19 #[.val (.ref t), .val (.int (Int32.ofNat f)), .val (.int (Int32.ofNat gq)), .val (.int (Int32.ofNat (gq - f))), .val (.ref b102)] [(.int (0 : Int32)), (.ref b102), (.int (Int32.ofNat f)), (.ref t)] _
    refine XS.aloadN X102.here hx rfl (hb hby d_jdk_65_method_133_19) rfl rfl ?_
    show SS p e below T102 m 20 #[.val (.ref t), .val (.int (Int32.ofNat f)), .val (.int (Int32.ofNat gq)), .val (.int (Int32.ofNat (gq - f))), .val (.ref b102)] [(.ref t), (.int (0 : Int32)), (.ref b102), (.int (Int32.ofNat f)), (.ref t)] _
    refine X102.arraylength hx (by first | exact Ar105.1 | (rw [e102]; exact Ar105.1)) (State.isArrayOf_alike hZ.alike Ar105.2.1) (g := (mkF m 20 #[.val (.ref t), .val (.int (Int32.ofNat f)), .val (.int (Int32.ofNat gq)), .val (.int (Int32.ofNat (gq - f))), .val (.ref b102)] [(.ref t), (.int (0 : Int32)), (.ref b102), (.int (Int32.ofNat f)), (.ref t)])) rfl rfl (hb hby d_jdk_65_method_133_20) _ ?_
    rw [len_of S105 M105]
    refine XS.iloadN X102.here hx rfl (hb hby d_jdk_65_method_133_21) rfl ?_
    refine XS.isub X102.here hx rfl (hb hby d_jdk_65_method_133_22) rfl ?_
    show SS p e below T102 m 23 #[.val (.ref t), .val (.int (Int32.ofNat f)), .val (.int (Int32.ofNat gq)), .val (.int (Int32.ofNat (gq - f))), .val (.ref b102)] [(.int ((Int32.ofNat N) - (Int32.ofNat f))), (.int (0 : Int32)), (.ref b102), (.int (Int32.ofNat f)), (.ref t)] _
    rw [show ((Int32.ofNat N) - (Int32.ofNat f)) = (Int32.ofNat (N - f)) from own_sub (by omega) (by omega)]
    refine XS.iloadN X102.here hx rfl (hb hby d_jdk_65_method_133_23) rfl ?_
    show SS p e below T102 m 24 #[.val (.ref t), .val (.int (Int32.ofNat f)), .val (.int (Int32.ofNat gq)), .val (.int (Int32.ofNat (gq - f))), .val (.ref b102)] [(.int (Int32.ofNat (gq - f))), (.int (Int32.ofNat (N - f))), (.int (0 : Int32)), (.ref b102), (.int (Int32.ofNat f)), (.ref t)] _
    refine st106 _ ?_
    show SS p e below T106 m 27 #[.val (.ref t), .val (.int (Int32.ofNat f)), .val (.int (Int32.ofNat gq)), .val (.int (Int32.ofNat (gq - f))), .val (.ref b102)] [(.int (if (Int32.ofNat (gq - f)) < (Int32.ofNat (N - f)) then (Int32.ofNat (gq - f)) else (Int32.ofNat (N - f)))), (.int (0 : Int32)), (.ref b102), (.int (Int32.ofNat f)), (.ref t)] _
    rw [show (if (Int32.ofNat (gq - f)) < (Int32.ofNat (N - f)) then (Int32.ofNat (gq - f)) else (Int32.ofNat (N - f))) = (Int32.ofNat (gq - f)) from own_min (by omega) (by omega)]
    show SS p e below T106 m 27 #[.val (.ref t), .val (.int (Int32.ofNat f)), .val (.int (Int32.ofNat gq)), .val (.int (Int32.ofNat (gq - f))), .val (.ref b102)] [(.int (Int32.ofNat (gq - f))), (.int (0 : Int32)), (.ref b102), (.int (Int32.ofNat f)), (.ref t)] _
    refine st107 _ ?_
    refine XS.aload X107.here hx rfl (hb hby d_jdk_65_method_133_30) rfl rfl ?_
    exact kt
  obtain ⟨fs, hr, hrun, hended, hW, hsame⟩ := X107.leave (v := some (.ref b102)) (fun h => by rw [Bd.returns] at h; cases h)
  refine ⟨_, _, W109 _ (own_retR X107 hx Bd.returns rfl rfl (hb hby d_jdk_65_method_133_32) hr), hrun, hended, _, _, rfl, ?_, ⟨_, rfl⟩, hW, hsame.mono (by decide) (by decide)⟩
  show Q_corb Z t f gq N kb vs h0 n0 _ T107.heap _
  rw [e107]
  exact ⟨b102, k102, rfl, N107, (Keep.trans (Keep.trans (Keep.refl h0 []) K102 all0) K107 (allS (Or.inr (Nat.le_of_eq g102.symm)) all0)), (Nat.le_of_eq g102.symm), J108⟩
def Q_cor (Z : State) (t : Addr) (f : Nat) (gq : Nat) (N : Nat) (kb : ClassId) (vs : List Value) (h0 : Heap) (n0 : Nat) (vQ_ : Option Value) (hQ_ : Heap) (LQ_ : List Loc) : Prop := ∃ r : Addr, ∃ kr : ClassId, vQ_ = some (.ref r) ∧ Fr n0 LQ_ ∧ Keep h0 hQ_ [] ∧ h0.size ≤ r ∧ Arv Z hQ_ r kr .byte (Int32.ofNat (gq - f)) ((vs.drop f).take (gq - f)) (.int (0 : Int32))
set_option maxRecDepth 65536 in
set_option maxHeartbeats 40000000 in
theorem rm_cor (l : Launch) (Z : State) (a0 : Array Value) (hw : HW a0 Z) (ws : List Jvm.Cond) (t : Addr) (f : Nat) (gq : Nat) (N : Nat) (kb : ClassId) (vs : List Value) (h0 : Heap) (n0 : Nat) (Z0 : n0 ≤ h0.size) (A1 : Arv Z h0 t kb .byte (Int32.ofNat N) vs (.int (0 : Int32))) (hvs : vs.length = N) (hfg : f ≤ gq) (hgN : gq ≤ N) (hN : N < 2147483648) (hcap : gq - f ≤ 8) (hw0 : f = 0 → gq ≠ N) :
    MetFree l yn23 (head1 (Jvm.Cond.code yn23 jdk_65_method_132_code 3 (some (.array .byte)) :: ws) ({ frames := 2, cells := 1, slots := 8, locals := 80 } : Room)) (fun aQ_ UQ => aQ_ = #[(.ref t), (.int (Int32.ofNat f)), (.int (Int32.ofNat gq))] ∧ Z.Warmed39 UQ.vm ∧ UQ.heap = h0) (fun _ _ _ _ _ => True) (fun _ UQ oQ UQ' => ∃ vQ_ LQ_, oQ = .returned vQ_ ∧ Q_cor Z t f gq N kb vs h0 n0 vQ_ UQ'.heap LQ_ ∧ FrameEnd UQ oQ UQ' LQ_ ({ frames := 2, cells := 1, slots := 8, locals := 80 } : Room).cells ({ frames := 2, cells := 1, slots := 8, locals := 80 } : Room).slots) := by
  refine MetFree.of_bodySF (plainFor_of_name pn_java_util_Arrays) hisR ?_
  intro p e s m args below meth cO s₁ Bd hml0 hP hK
  obtain ⟨rfl, hZ, hh⟩ := hP
  have hx := Bd.exec
  have hby := Bd.bytes
  have hml : cO.maxLocals = 3 := hml0
  have hown : s.vm.findClass "java/util/Arrays" = some m.cls := findClass_of_methodNamed Bd.named
  have hnm := (name_of_methodNamed Bd.named Bd.method).1
  have X0 : Stand p l e ({ frames := 2, cells := 1, slots := 8, locals := 80 } : Room) s m #[(.ref t), (.int (Int32.ofNat f)), (.int (Int32.ofNat gq))] below meth cO s₁ [] 0 0 := Stand.of_body Bd
  have e0 : s₁.heap = h0 := by rw [← hh, Bd.state]; rfl
  have N0 := Fr.nil n0
  have W0 : ∀ zQ, SS p e below s₁ m 0 #[.val (.ref t), .val (.int (Int32.ofNat f)), .val (.int (Int32.ofNat gq))] [] zQ → Steps p.tables e below (s₁.setTop (entryFrame m #[(.ref t), (.int (Int32.ofNat f)), (.int (Int32.ofNat gq))] 3)) zQ := fun tt kt => castTop (ef_cor m t (Int32.ofNat f) (Int32.ofNat gq)) kt
  have W101 : ∀ zQ, SS p e below s₁ m 1 #[.val (.ref t), .val (.int (Int32.ofNat f)), .val (.int (Int32.ofNat gq))] [(.int (Int32.ofNat f))] zQ → Steps p.tables e below (s₁.setTop (entryFrame m #[(.ref t), (.int (Int32.ofNat f)), (.int (Int32.ofNat gq))] 3)) zQ := by
    intro tt kt
    refine W0 tt ?_
    refine XS.iloadN X0.here hx rfl (hb hby d_jdk_65_method_132_0) rfl ?_
    exact kt
  by_cases hc102 : (Int32.ofNat f) = (0 : Int32)
  ·
    obtain ⟨cl103, Ar103, -, S103, M103, -, -⟩ := id A1
    obtain ⟨_, _, ⟨T104, L104, k104, n104⟩, -, X104, ⟨Lc104, hQ104, l104, y104, z104⟩, st104⟩ := Jvm.LawKit.callS X0 hx (y := yn22) hown (mvT hZ (w196 hw)) (mvT hZ (w197 hw)) (mvT hZ (w180 hw)) (mvT hZ (w198 hw)) (by decide) (backOf (W := 0) (rm_corb l Z a0 hw [] t f gq N kb vs h0 n0 Z0 A1 hvs hfg hgN hN hcap) hZ (w198 hw) (w180 hw) (by decide) (by decide)) (g := (mkF m 13 #[.val (.ref t), .val (.int (Int32.ofNat f)), .val (.int (Int32.ofNat gq))] [(.int (Int32.ofNat gq)), (.int (Int32.ofNat f)), (.ref t)])) rfl (by rw [hml]; rfl) (argsL := [(.ref t), (.int (Int32.ofNat f)), (.int (Int32.ofNat gq))]) (rest := []) (lenOf pd__28__5b_BII_29__5b_B rfl) rfl (by show 2 * 0 + _ ≤ _; exact Nat.le_of_eq rfl) (hb hby d_jdk_65_method_132_13) (fun _ _ => ⟨rfl, e0, (Nat.le_of_ble_eq_true rfl), (Nat.le_of_ble_eq_true rfl)⟩)
    dsimp only [Pt.U, Pt.locs, Pt.cells, Pt.slots] at X104 l104 y104 z104 st104 hQ104
    subst l104 y104 z104
    obtain ⟨r_105, kr_106, rfl, Nq104, K104, P104_0, P104_1⟩ := hQ104
    have N104 := Fr.app N0 Nq104
    have W107 : ∀ zQ, SS p e below T104 m 16 #[.val (.ref t), .val (.int (Int32.ofNat f)), .val (.int (Int32.ofNat gq))] [(.ref r_105)] zQ → Steps p.tables e below (s₁.setTop (entryFrame m #[(.ref t), (.int (Int32.ofNat f)), (.int (Int32.ofNat gq))] 3)) zQ := by
      intro tt kt
      refine W101 tt ?_
      refine XS.ifNo X0.here hx rfl (hb hby d_jdk_65_method_132_1) rfl ((if0 _ _).trans (teq hc102).2) ?_
      refine XS.iloadN X0.here hx rfl (hb hby d_jdk_65_method_132_4) rfl ?_
      refine XS.aloadN X0.here hx rfl (hb hby d_jdk_65_method_132_5) rfl rfl ?_
      show SS p e below s₁ m 6 #[.val (.ref t), .val (.int (Int32.ofNat f)), .val (.int (Int32.ofNat gq))] [(.ref t), (.int (Int32.ofNat gq))] _
      refine X0.arraylength hx (by first | exact Ar103.1 | (rw [e0]; exact Ar103.1)) (State.isArrayOf_alike hZ.alike Ar103.2.1) (g := (mkF m 6 #[.val (.ref t), .val (.int (Int32.ofNat f)), .val (.int (Int32.ofNat gq))] [(.ref t), (.int (Int32.ofNat gq))])) rfl rfl (hb hby d_jdk_65_method_132_6) _ ?_
      rw [len_of S103 M103]
      refine XS.icmpNo X0.here hx rfl (hb hby d_jdk_65_method_132_7) rfl (feq (own_neq (hw0 (own_zero (by omega) hc102)) (by omega) (by omega))).1 ?_
      refine XS.aloadN X0.here hx rfl (hb hby d_jdk_65_method_132_10) rfl rfl ?_
      refine XS.iloadN X0.here hx rfl (hb hby d_jdk_65_method_132_11) rfl ?_
      refine XS.iloadN X0.here hx rfl (hb hby d_jdk_65_method_132_12) rfl ?_
      show SS p e below s₁ m 13 #[.val (.ref t), .val (.int (Int32.ofNat f)), .val (.int (Int32.ofNat gq))] [(.int (Int32.ofNat gq)), (.int (Int32.ofNat f)), (.ref t)] _
      refine st104 _ ?_
      exact kt
    obtain ⟨fs, hr, hrun, hended, hW, hsame⟩ := X104.leave (v := some (.ref r_105)) (fun h => by rw [Bd.returns] at h; cases h)
    refine ⟨_, _, W107 _ (own_retR X104 hx Bd.returns rfl rfl (hb hby d_jdk_65_method_132_16) hr), hrun, hended, _, _, rfl, ?_, ⟨_, rfl⟩, hW, hsame.mono (by decide) (by decide)⟩
    show Q_cor Z t f gq N kb vs h0 n0 _ T104.heap _
    exact ⟨r_105, kr_106, rfl, N104, (Keep.trans (Keep.refl h0 []) K104 all0), P104_0, P104_1⟩
  ·
    obtain ⟨_, _, ⟨T108, L108, k108, n108⟩, -, X108, ⟨Lc108, hQ108, l108, y108, z108⟩, st108⟩ := Jvm.LawKit.callS X0 hx (y := yn22) hown (mvT hZ (w196 hw)) (mvT hZ (w197 hw)) (mvT hZ (w180 hw)) (mvT hZ (w198 hw)) (by decide) (backOf (W := 0) (rm_corb l Z a0 hw [] t f gq N kb vs h0 n0 Z0 A1 hvs hfg hgN hN hcap) hZ (w198 hw) (w180 hw) (by decide) (by decide)) (g := (mkF m 13 #[.val (.ref t), .val (.int (Int32.ofNat f)), .val (.int (Int32.ofNat gq))] [(.int (Int32.ofNat gq)), (.int (Int32.ofNat f)), (.ref t)])) rfl (by rw [hml]; rfl) (argsL := [(.ref t), (.int (Int32.ofNat f)), (.int (Int32.ofNat gq))]) (rest := []) (lenOf pd__28__5b_BII_29__5b_B rfl) rfl (by show 2 * 0 + _ ≤ _; exact Nat.le_of_eq rfl) (hb hby d_jdk_65_method_132_13) (fun _ _ => ⟨rfl, e0, (Nat.le_of_ble_eq_true rfl), (Nat.le_of_ble_eq_true rfl)⟩)
    dsimp only [Pt.U, Pt.locs, Pt.cells, Pt.slots] at X108 l108 y108 z108 st108 hQ108
    subst l108 y108 z108
    obtain ⟨r_109, kr_110, rfl, Nq108, K108, P108_0, P108_1⟩ := hQ108
    have N108 := Fr.app N0 Nq108
    have W111 : ∀ zQ, SS p e below T108 m 16 #[.val (.ref t), .val (.int (Int32.ofNat f)), .val (.int (Int32.ofNat gq))] [(.ref r_109)] zQ → Steps p.tables e below (s₁.setTop (entryFrame m #[(.ref t), (.int (Int32.ofNat f)), (.int (Int32.ofNat gq))] 3)) zQ := by
      intro tt kt
      refine W101 tt ?_
      refine XS.ifYes X0.here hx rfl (pc0 := 1) (pc' := 10) rfl (hb hby d_jdk_65_method_132_1) rfl ((if0 _ _).trans (feq hc102).2) (by decide) (by decide) ?_
      refine XS.aloadN X0.here hx rfl (hb hby d_jdk_65_method_132_10) rfl rfl ?_
      refine XS.iloadN X0.here hx rfl (hb hby d_jdk_65_method_132_11) rfl ?_
      refine XS.iloadN X0.here hx rfl (hb hby d_jdk_65_method_132_12) rfl ?_
      show SS p e below s₁ m 13 #[.val (.ref t), .val (.int (Int32.ofNat f)), .val (.int (Int32.ofNat gq))] [(.int (Int32.ofNat gq)), (.int (Int32.ofNat f)), (.ref t)] _
      refine st108 _ ?_
      exact kt
    obtain ⟨fs, hr, hrun, hended, hW, hsame⟩ := X108.leave (v := some (.ref r_109)) (fun h => by rw [Bd.returns] at h; cases h)
    refine ⟨_, _, W111 _ (own_retR X108 hx Bd.returns rfl rfl (hb hby d_jdk_65_method_132_16) hr), hrun, hended, _, _, rfl, ?_, ⟨_, rfl⟩, hW, hsame.mono (by decide) (by decide)⟩
    show Q_cor Z t f gq N kb vs h0 n0 _ T108.heap _
    exact ⟨r_109, kr_110, rfl, N108, (Keep.trans (Keep.refl h0 []) K108 all0), P108_0, P108_1⟩
theorem own_shr0 (x : Int32) : x >>> ((0 : Int32) &&& 31) = x := by rw [show ((0 : Int32) &&& 31) = 0 from by decide]; simp
theorem own_shl0 (x : Int32) : x <<< ((0 : Int32) &&& 31) = x := by rw [show ((0 : Int32) &&& 31) = 0 from by decide]; simp
theorem own_nsub {M N : Nat} (h : M ≤ N) (hN : N < 1048576) : ¬ ((0 : Int32) < Int32.ofNat M - Int32.ofNat N) := by
  have s := c_isub (Int32.ofNat M) (Int32.ofNat N); have r := rng32 (Int32.ofNat M - Int32.ofNat N); have z : (0 : Int32).toInt = 0 := rfl
  rw [own_i (by omega), own_i (by omega)] at s; rw [Int32.lt_iff_toInt_lt]; omega
theorem own_cl0 : (0 : Int32).toNatClampNeg = 0 := rfl
theorem own_whole (vs : List Value) (n : Nat) (d : Value) (h : vs.length = n) : vs = (List.range n).map fun i => vs.getD ((0 : Int32).toNatClampNeg + i) d := by
  have q := own_slice vs 0 n d (by omega)
  rw [List.drop_zero, List.take_of_length_le (by omega)] at q; rw [own_cl0]; exact q
theorem own_app2 (cs ds : List Int32) : ((l1 cs ++ List.replicate ds.length (Value.int (0 : Int32))).take cs.length ++ l1 ds ++ (l1 cs ++ List.replicate ds.length (Value.int (0 : Int32))).drop (cs.length + ds.length)) = l1 (cs ++ ds) := by
  have e : (l1 cs).length = cs.length := l1_len cs
  rw [List.take_append_of_le_length (by omega), List.take_of_length_le (by omega), List.drop_eq_nil_of_le (by rw [List.length_append, List.length_replicate]; omega)]; simp [l1]
theorem own_cor0 (cs : List Int32) (k : Nat) : ((l1 cs ++ List.replicate k (Value.int (0 : Int32))).drop 0).take (cs.length - 0) = l1 cs := by
  have e : (l1 cs).length = cs.length := l1_len cs
  rw [List.drop_zero, Nat.sub_zero, List.take_append_of_le_length (by omega), List.take_of_length_le (by omega)]
theorem own_mkA {Z : State} {h : Heap} {a t : Addr} {kb : ClassId} {cs : List Int32} (hl : lat cs = true) (ok : OkS cs) (E : Exa Z h a "java/lang/String") (V : Fld Z h a "java/lang/String" "value" "[B" (.ref t)) (C : Fld Z h a "java/lang/String" "coder" "B" (.int (0 : Int32))) (A : Arv Z h t kb .byte (Int32.ofNat cs.length) (l1 cs) (.int (0 : Int32))) : Str Z h a t kb cs := by
  obtain ⟨e1, e2, e3⟩ := enc_lat hl
  exact ⟨E, V, by rw [e3]; exact C, by rw [e1, e2]; exact A, ok⟩
def Q_abinit (Z : State) (a : Addr) (N : Nat) (cS : Int32) (h0 : Heap) (n0 : Nat) (vQ_ : Option Value) (hQ_ : Heap) (LQ_ : List Loc) : Prop := ∃ t : Addr, ∃ kb : ClassId, vQ_ = none ∧ Fr n0 LQ_ ∧ Keep h0 hQ_ [a] ∧ h0.size ≤ t ∧ Fld Z hQ_ a "java/lang/AbstractStringBuilder" "value" "[B" (.ref t) ∧ Fld Z hQ_ a "java/lang/AbstractStringBuilder" "coder" "B" (.int (0 : Int32)) ∧ Fld Z hQ_ a "java/lang/AbstractStringBuilder" "count" "I" (.int (0 : Int32)) ∧ Arv Z hQ_ t kb .byte (Int32.ofNat N) [] (.int (0 : Int32)) ∧ Exa Z hQ_ t "[B"
set_option maxRecDepth 65536 in
set_option maxHeartbeats 40000000 in
theorem rm_abinit (l : Launch) (Z : State) (a0 : Array Value) (hw : HW a0 Z) (ws : List Jvm.Cond) (a : Addr) (N : Nat) (cS : Int32) (h0 : Heap) (n0 : Nat) (Z0 : n0 ≤ h0.size) (O0 : Old Z n0 h0) (S_cs : Sta Z Z.heap "java/lang/String" "COMPACT_STRINGS" "Z" (.int cS)) (hcS : ¬ (cS = (0 : Int32))) (E1 : Exa Z h0 a "java/lang/StringBuilder") (F1 : Fld Z h0 a "java/lang/AbstractStringBuilder" "value" "[B" .null) (F2 : Fld Z h0 a "java/lang/AbstractStringBuilder" "coder" "B" (.int (0 : Int32))) (F3 : Fld Z h0 a "java/lang/AbstractStringBuilder" "count" "I" (.int (0 : Int32))) (g1 : n0 ≤ a) (hN : N ≤ 7) :
    MetFree l yn24 (head1 (Jvm.Cond.code yn24 jdk_68_method_2_code 2 none :: ws) ({ frames := 1, cells := 1, slots := 7, locals := 12 } : Room)) (fun aQ_ UQ => aQ_ = #[(.ref a), (.int (Int32.ofNat N))] ∧ Z.Warmed39 UQ.vm ∧ UQ.heap = h0) (fun _ _ _ _ _ => True) (fun _ UQ oQ UQ' => ∃ vQ_ LQ_, oQ = .returned vQ_ ∧ Q_abinit Z a N cS h0 n0 vQ_ UQ'.heap LQ_ ∧ FrameEnd UQ oQ UQ' LQ_ ({ frames := 1, cells := 1, slots := 7, locals := 12 } : Room).cells ({ frames := 1, cells := 1, slots := 7, locals := 12 } : Room).slots) := by
  refine MetFree.of_bodySF (plainFor_of_name pn_java_lang_AbstractStringBuilder) hisR ?_
  intro p e s m args below meth cO s₁ Bd hml0 hP hK
  obtain ⟨rfl, hZ, hh⟩ := hP
  have hx := Bd.exec
  have hby := Bd.bytes
  have hml : cO.maxLocals = 2 := hml0
  have hown : s.vm.findClass "java/lang/AbstractStringBuilder" = some m.cls := findClass_of_methodNamed Bd.named
  have hnm := (name_of_methodNamed Bd.named Bd.method).1
  have X0 : Stand p l e ({ frames := 1, cells := 1, slots := 7, locals := 12 } : Room) s m #[(.ref a), (.int (Int32.ofNat N))] below meth cO s₁ [] 0 0 := Stand.of_body Bd
  have e0 : s₁.heap = h0 := by rw [← hh, Bd.state]; rfl
  have N0 := Fr.nil n0
  have W0 : ∀ zQ, SS p e below s₁ m 0 #[.val (.ref a), .val (.int (Int32.ofNat N))] [] zQ → Steps p.tables e below (s₁.setTop (entryFrame m #[(.ref a), (.int (Int32.ofNat N))] 2)) zQ := fun tt kt => castTop (ef_abinit m a (Int32.ofNat N)) kt
  obtain ⟨T101, X101, e101, st101⟩ := initO X0 hx hZ hown (w66 hw) (w18 hw) (w19 hw) e0 (g := (mkF m 1 #[.val (.ref a), .val (.int (Int32.ofNat N))] [(.ref a)])) rfl (by rw [hml]; rfl) rfl (hb hby d_jdk_68_method_2_1) (by decide) (W := 0) (by show 2 * 0 + _ ≤ _; exact Nat.le_of_eq rfl) (by decide)
  have F103 : Sta Z h0 "java/lang/String" "COMPACT_STRINGS" "Z" (.int cS) := S_cs.ext O0.2
  obtain ⟨T102, X102, e102, st102⟩ := getS2 X101 hx hZ hown (host := "") (Or.inl (w67 hw)) Via.refl e101 F103 (g := (mkF m 4 #[.val (.ref a), .val (.int (Int32.ofNat N))] [])) rfl (hb hby d_jdk_68_method_2_4)
  obtain ⟨T104, h104, k104, X104, e104, E104, A104, C104, st104⟩ := own_newPE X102 hx hZ (aty := .byte) (w25 hw) e102 (g := (mkF m 12 #[.val (.ref a), .val (.int (Int32.ofNat N))] [(.int (Int32.ofNat N)), (.ref a)])) rfl (hb hby d_jdk_68_method_2_12) (n := (Int32.ofNat N)) rfl (own_nneg (by omega)) (cap := 7) (by rw [own_cl (by omega)]; exact hN) (by decide) (by decide) (by decide) (ad := "[B") rfl
  obtain ⟨b104, g104⟩ : ∃ z, z = h0.size := ⟨_, rfl⟩
  rw [← g104] at A104 st104 C104
  have K104 := (Keep.refl h0 []).ext E104
  have G104 : Arv Z h104 b104 k104 .byte (Int32.ofNat N) [] (.int (0 : Int32)) := Arv.new A104 (own_nneg (by omega))
  have F105 : Exa Z h104 a "java/lang/StringBuilder" := (E1.keep K104)
  have F106 : Fld Z h104 a "java/lang/AbstractStringBuilder" "value" "[B" .null := (F1.keep K104 nin0)
  obtain ⟨T107, h107, X107, e107, Wr107, st107⟩ := putF X104 hx hZ hown (host := "") (Or.inl (w68 hw)) Via.refl e104 F106 F105 (Or.inl (w69 hw)) (w55 hw) (ty := (.array .byte)) (by decide) rfl rfl (g := (mkF m 14 #[.val (.ref a), .val (.int (Int32.ofNat N))] [(.ref b104), (.ref a)])) rfl rfl (hb hby d_jdk_68_method_2_14)
  have K107 := Keep.of_wr Wr107
  have G107 := F106.same Wr107
  have N107 := Fr.snoc X107 N0 g1
  have F108 : Exa Z h107 a "java/lang/StringBuilder" := (F105.keep K107)
  have F109 : Fld Z h107 a "java/lang/AbstractStringBuilder" "coder" "B" (.int (0 : Int32)) := (Fld.other Wr107 (F2.keep K104 nin0) (Or.inr (slot_ne (Or.inl (w71 hw)) (Or.inl (w69 hw)) (by decide) (t := .byte) (t' := (.array .byte)) (by decide) (by decide))))
  obtain ⟨T110, h110, X110, e110, Wr110, st110⟩ := putFN X107 hx hZ hown (w70 hw) Via.refl e107 F109 F108 (Or.inl (w71 hw)) (w55 hw) (ty := .byte) (v' := (.int (0 : Int32))) (by decide) rfl rfl (g := (mkF m 19 #[.val (.ref a), .val (.int (Int32.ofNat N))] [(.int (0 : Int32)), (.ref a)])) rfl rfl (hb hby d_jdk_68_method_2_19)
  have K110 := Keep.of_wr Wr110
  have G110 := F109.same Wr110
  have N110 := Fr.snoc X110 N107 g1
  have W111 : ∀ zQ, SS p e below T110 m 38 #[.val (.ref a), .val (.int (Int32.ofNat N))] [] zQ → Steps p.tables e below (s₁.setTop (entryFrame m #[(.ref a), (.int (Int32.ofNat N))] 2)) zQ := by
    intro tt kt
    refine W0 tt ?_
    refine XS.aloadN X0.here hx rfl (hb hby d_jdk_68_method_2_0) rfl rfl ?_
    show SS p e below s₁ m 1 #[.val (.ref a), .val (.int (Int32.ofNat N))] [(.ref a)] _
    refine st101 _ ?_
    show SS p e below T101 m 4 #[.val (.ref a), .val (.int (Int32.ofNat N))] [] _
    refine st102 _ ?_
    refine XS.ifNo X102.here hx rfl (hb hby d_jdk_68_method_2_7) rfl ((if0 _ _).trans (feq hcS).1) ?_
    refine XS.aloadN X102.here hx rfl (hb hby d_jdk_68_method_2_10) rfl rfl ?_
    refine XS.iloadN X102.here hx rfl (hb hby d_jdk_68_method_2_11) rfl ?_
    show SS p e below T102 m 12 #[.val (.ref a), .val (.int (Int32.ofNat N))] [(.int (Int32.ofNat N)), (.ref a)] _
    refine st104 _ ?_
    show SS p e below T104 m 14 #[.val (.ref a), .val (.int (Int32.ofNat N))] [(.ref b104), (.ref a)] _
    refine st107 _ ?_
    refine XS.aloadN X107.here hx rfl (hb hby d_jdk_68_method_2_17) rfl rfl ?_
    refine XS.iconst X107.here hx rfl (hb hby d_jdk_68_method_2_18) ?_
    show SS p e below T107 m 19 #[.val (.ref a), .val (.int (Int32.ofNat N))] [(.int (0 : Int32)), (.ref a)] _
    refine st110 _ ?_
    refine XS.goto X110.here hx rfl (pc0 := 22) (pc' := 38) rfl (hb hby d_jdk_68_method_2_22) (by decide) (by decide) ?_
    exact kt
  have F112 : Fld Z h110 a "java/lang/AbstractStringBuilder" "value" "[B" (.ref b104) := (Fld.other Wr110 G107 (Or.inr (slot_ne (Or.inl (w69 hw)) (Or.inl (w71 hw)) (by decide) (t := (.array .byte)) (t' := .byte) (by decide) (by decide))))
  have F113 : Fld Z h110 a "java/lang/AbstractStringBuilder" "count" "I" (.int (0 : Int32)) := (Fld.other Wr110 (Fld.other Wr107 (F3.keep K104 nin0) (Or.inr (slot_ne (Or.inl (w105 hw)) (Or.inl (w69 hw)) (by decide) (t := .int) (t' := (.array .byte)) (by decide) (by decide)))) (Or.inr (slot_ne (Or.inl (w105 hw)) (Or.inl (w71 hw)) (by decide) (t := .int) (t' := .byte) (by decide) (by decide))))
  have F114 : Arv Z h110 b104 k104 .byte (Int32.ofNat N) [] (.int (0 : Int32)) := ((G104.keep K107 (ninS (Ne.symm (Nat.ne_of_lt (Nat.lt_of_lt_of_le E1.lt (Nat.le_of_eq g104.symm)))) nin0)).keep K110 (ninS (Ne.symm (Nat.ne_of_lt (Nat.lt_of_lt_of_le E1.lt (Nat.le_of_eq g104.symm)))) nin0))
  have F115 : Exa Z h110 b104 "[B" := ((C104.keep K107).keep K110)
  obtain ⟨fs, hr, hrun, hended, hW, hsame⟩ := X110.leave (v := none) (fun _ => rfl)
  refine ⟨_, _, W111 _ (X110.returnOut hx Bd.returns (hb hby d_jdk_68_method_2_38) hr), hrun, hended, _, _, rfl, ?_, ⟨_, rfl⟩, hW, hsame.mono (by decide) (by decide)⟩
  show Q_abinit Z a N cS h0 n0 _ T110.heap _
  rw [e110]
  exact ⟨b104, k104, rfl, N110, (Keep.trans (Keep.trans (Keep.trans (Keep.refl h0 [a]) K104 all0) K107 (allS (Or.inl (List.mem_of_getElem? (i := 0) rfl)) all0)) K110 (allS (Or.inl (List.mem_of_getElem? (i := 0) rfl)) all0)), (Nat.le_of_eq g104.symm), F112, G110, F113, F114, F115⟩
def Q_sbinit (Z : State) (a : Addr) (N : Nat) (cS : Int32) (h0 : Heap) (n0 : Nat) (vQ_ : Option Value) (hQ_ : Heap) (LQ_ : List Loc) : Prop := ∃ t : Addr, ∃ kb : ClassId, vQ_ = none ∧ Fr n0 LQ_ ∧ Keep h0 hQ_ [a] ∧ h0.size ≤ t ∧ Fld Z hQ_ a "java/lang/AbstractStringBuilder" "value" "[B" (.ref t) ∧ Fld Z hQ_ a "java/lang/AbstractStringBuilder" "coder" "B" (.int (0 : Int32)) ∧ Fld Z hQ_ a "java/lang/AbstractStringBuilder" "count" "I" (.int (0 : Int32)) ∧ Arv Z hQ_ t kb .byte (Int32.ofNat N) [] (.int (0 : Int32)) ∧ Exa Z hQ_ t "[B"
set_option maxRecDepth 65536 in
set_option maxHeartbeats 40000000 in
theorem rm_sbinit (l : Launch) (Z : State) (a0 : Array Value) (hw : HW a0 Z) (ws : List Jvm.Cond) (a : Addr) (N : Nat) (cS : Int32) (h0 : Heap) (n0 : Nat) (Z0 : n0 ≤ h0.size) (O0 : Old Z n0 h0) (S_cs : Sta Z Z.heap "java/lang/String" "COMPACT_STRINGS" "Z" (.int cS)) (hcS : ¬ (cS = (0 : Int32))) (E1 : Exa Z h0 a "java/lang/StringBuilder") (F1 : Fld Z h0 a "java/lang/AbstractStringBuilder" "value" "[B" .null) (F2 : Fld Z h0 a "java/lang/AbstractStringBuilder" "coder" "B" (.int (0 : Int32))) (F3 : Fld Z h0 a "java/lang/AbstractStringBuilder" "count" "I" (.int (0 : Int32))) (g1 : n0 ≤ a) (hN : N ≤ 7) :
    MetFree l yn25 (head1 (Jvm.Cond.code yn25 jdk_67_method_2_code 2 none :: ws) ({ frames := 2, cells := 1, slots := 7, locals := 25 } : Room)) (fun aQ_ UQ => aQ_ = #[(.ref a), (.int (Int32.ofNat N))] ∧ Z.Warmed39 UQ.vm ∧ UQ.heap = h0) (fun _ _ _ _ _ => True) (fun _ UQ oQ UQ' => ∃ vQ_ LQ_, oQ = .returned vQ_ ∧ Q_sbinit Z a N cS h0 n0 vQ_ UQ'.heap LQ_ ∧ FrameEnd UQ oQ UQ' LQ_ ({ frames := 2, cells := 1, slots := 7, locals := 25 } : Room).cells ({ frames := 2, cells := 1, slots := 7, locals := 25 } : Room).slots) := by
  refine MetFree.of_bodySF (plainFor_of_name pn_java_lang_StringBuilder) hisR ?_
  intro p e s m args below meth cO s₁ Bd hml0 hP hK
  obtain ⟨rfl, hZ, hh⟩ := hP
  have hx := Bd.exec
  have hby := Bd.bytes
  have hml : cO.maxLocals = 2 := hml0
  have hown : s.vm.findClass "java/lang/StringBuilder" = some m.cls := findClass_of_methodNamed Bd.named
  have hnm := (name_of_methodNamed Bd.named Bd.method).1
  have X0 : Stand p l e ({ frames := 2, cells := 1, slots := 7, locals := 25 } : Room) s m #[(.ref a), (.int (Int32.ofNat N))] below meth cO s₁ [] 0 0 := Stand.of_body Bd
  have e0 : s₁.heap = h0 := by rw [← hh, Bd.state]; rfl
  have N0 := Fr.nil n0
  have W0 : ∀ zQ, SS p e below s₁ m 0 #[.val (.ref a), .val (.int (Int32.ofNat N))] [] zQ → Steps p.tables e below (s₁.setTop (entryFrame m #[(.ref a), (.int (Int32.ofNat N))] 2)) zQ := fun tt kt => castTop (ef_sbinit m a (Int32.ofNat N)) kt
  obtain ⟨_, _, ⟨T101, L101, k101, n101⟩, -, X101, ⟨Lc101, hQ101, l101, y101, z101⟩, st101⟩ := X0.specialBack hx (y := yn24) rfl hown (mvT hZ (w60 hw)) (mvT hZ (w61 hw)) (mvT hZ (w65 hw)) (by decide) (backOf (W := 0) (rm_abinit l Z a0 hw [] a N cS h0 n0 Z0 O0 S_cs hcS E1 F1 F2 F3 g1 hN) hZ (w65 hw) (w64 hw) (by decide) (by decide)) (g := (mkF m 2 #[.val (.ref a), .val (.int (Int32.ofNat N))] [(.int (Int32.ofNat N)), (.ref a)])) rfl (by rw [hml]; rfl) (Steps.refl _) (a := a) (argsL := [(.int (Int32.ofNat N))]) (rest := []) (lenOf pd__28_I_29_V rfl) rfl (by show 2 * 0 + _ ≤ _; exact Nat.le_of_eq rfl) (hb hby d_jdk_67_method_2_2) (fun _ _ => ⟨rfl, e0, (Nat.le_of_ble_eq_true rfl), (Nat.le_of_ble_eq_true rfl)⟩)
  dsimp only [Pt.U, Pt.locs, Pt.cells, Pt.slots] at X101 l101 y101 z101 st101 hQ101
  subst l101 y101 z101
  obtain ⟨t_102, kb_103, rfl, Nq101, K101, P101_0, P101_1, P101_2, P101_3, P101_4, P101_5⟩ := hQ101
  have N101 := Fr.app N0 Nq101
  have W104 : ∀ zQ, SS p e below T101 m 5 #[.val (.ref a), .val (.int (Int32.ofNat N))] [] zQ → Steps p.tables e below (s₁.setTop (entryFrame m #[(.ref a), (.int (Int32.ofNat N))] 2)) zQ := by
    intro tt kt
    refine W0 tt ?_
    refine XS.aloadN X0.here hx rfl (hb hby d_jdk_67_method_2_0) rfl rfl ?_
    refine XS.iloadN X0.here hx rfl (hb hby d_jdk_67_method_2_1) rfl ?_
    show SS p e below s₁ m 2 #[.val (.ref a), .val (.int (Int32.ofNat N))] [(.int (Int32.ofNat N)), (.ref a)] _
    refine st101.trans ?_
    exact kt
  obtain ⟨fs, hr, hrun, hended, hW, hsame⟩ := X101.leave (v := none) (fun _ => rfl)
  refine ⟨_, _, W104 _ (X101.returnOut hx Bd.returns (hb hby d_jdk_67_method_2_5) hr), hrun, hended, _, _, rfl, ?_, ⟨_, rfl⟩, hW, hsame.mono (by decide) (by decide)⟩
  show Q_sbinit Z a N cS h0 n0 _ T101.heap _
  exact ⟨t_102, kb_103, rfl, N101, (Keep.trans (Keep.refl h0 [a]) K101 (allS (Or.inl (List.mem_of_getElem? (i := 0) rfl)) all0)), P101_0, P101_1, P101_2, P101_3, P101_4, P101_5⟩
def Q_ensure (Z : State) (a : Addr) (M : Nat) (t : Addr) (kb : ClassId) (N : Nat) (vs : List Value) (h0 : Heap) (n0 : Nat) (vQ_ : Option Value) (hQ_ : Heap) (LQ_ : List Loc) : Prop := vQ_ = none ∧ Fr n0 LQ_ ∧ hQ_ = h0
set_option maxRecDepth 65536 in
set_option maxHeartbeats 40000000 in
theorem rm_ensure (l : Launch) (Z : State) (a0 : Array Value) (hw : HW a0 Z) (ws : List Jvm.Cond) (a : Addr) (M : Nat) (t : Addr) (kb : ClassId) (N : Nat) (vs : List Value) (h0 : Heap) (n0 : Nat) (Z0 : n0 ≤ h0.size) (F1 : Fld Z h0 a "java/lang/AbstractStringBuilder" "value" "[B" (.ref t)) (F2 : Fld Z h0 a "java/lang/AbstractStringBuilder" "coder" "B" (.int (0 : Int32))) (V1 : Arv Z h0 t kb .byte (Int32.ofNat N) vs (.int (0 : Int32))) (hM : M ≤ N) (hN : N < 1048576) :
    MetFree l yn26 (head1 (Jvm.Cond.code yn26 jdk_68_method_9_code 3 none :: ws) ({ frames := 0, cells := 0, slots := 0, locals := 0 } : Room)) (fun aQ_ UQ => aQ_ = #[(.ref a), (.int (Int32.ofNat M))] ∧ Z.Warmed39 UQ.vm ∧ UQ.heap = h0) (fun _ _ _ _ _ => True) (fun _ UQ oQ UQ' => ∃ vQ_ LQ_, oQ = .returned vQ_ ∧ Q_ensure Z a M t kb N vs h0 n0 vQ_ UQ'.heap LQ_ ∧ FrameEnd UQ oQ UQ' LQ_ ({ frames := 0, cells := 0, slots := 0, locals := 0 } : Room).cells ({ frames := 0, cells := 0, slots := 0, locals := 0 } : Room).slots) := by
  refine MetFree.of_bodySF (plainFor_of_name pn_java_lang_AbstractStringBuilder) hisR ?_
  intro p e s m args below meth cO s₁ Bd hml0 hP hK
  obtain ⟨rfl, hZ, hh⟩ := hP
  have hx := Bd.exec
  have hby := Bd.bytes
  have hml : cO.maxLocals = 3 := hml0
  have hown : s.vm.findClass "java/lang/AbstractStringBuilder" = some m.cls := findClass_of_methodNamed Bd.named
  have hnm := (name_of_methodNamed Bd.named Bd.method).1
  have X0 : Stand p l e ({ frames := 0, cells := 0, slots := 0, locals := 0 } : Room) s m #[(.ref a), (.int (Int32.ofNat M))] below meth cO s₁ [] 0 0 := Stand.of_body Bd
  have e0 : s₁.heap = h0 := by rw [← hh, Bd.state]; rfl
  have N0 := Fr.nil n0
  have W0 : ∀ zQ, SS p e below s₁ m 0 #[.val (.ref a), .val (.int (Int32.ofNat M)), .unset] [] zQ → Steps p.tables e below (s₁.setTop (entryFrame m #[(.ref a), (.int (Int32.ofNat M))] 3)) zQ := fun tt kt => castTop (ef_ensure m a (Int32.ofNat M)) kt
  obtain ⟨T101, X101, e101, st101⟩ := getF X0 hx hZ hown (host := "") (Or.inl (w68 hw)) Via.refl e0 F1 (g := (mkF m 1 #[.val (.ref a), .val (.int (Int32.ofNat M)), .unset] [(.ref a)])) rfl rfl (hb hby d_jdk_68_method_9_1)
  obtain ⟨cl102, Ar102, -, S102, M102, -, -⟩ := id V1
  obtain ⟨T103, X103, e103, st103⟩ := getF X101 hx hZ hown (host := "") (Or.inl (w70 hw)) Via.refl e101 F2 (g := (mkF m 6 #[.val (.ref a), .val (.int (Int32.ofNat M)), .unset] [(.ref a), (.int (Int32.ofNat N))])) rfl rfl (hb hby d_jdk_68_method_9_6)
  have W104 : ∀ zQ, SS p e below T103 m 38 #[.val (.ref a), .val (.int (Int32.ofNat M)), .val (.int (Int32.ofNat N))] [] zQ → Steps p.tables e below (s₁.setTop (entryFrame m #[(.ref a), (.int (Int32.ofNat M))] 3)) zQ := by
    intro tt kt
    refine W0 tt ?_
    refine XS.aloadN X0.here hx rfl (hb hby d_jdk_68_method_9_0) rfl rfl ?_
    show SS p e below s₁ m 1 #[.val (.ref a), .val (.int (Int32.ofNat M)), .unset] [(.ref a)] _
    refine st101 _ ?_
    show SS p e below T101 m 4 #[.val (.ref a), .val (.int (Int32.ofNat M)), .unset] [(.ref t)] _
    refine X101.arraylength hx (by first | exact Ar102.1 | (rw [e101]; exact Ar102.1)) (State.isArrayOf_alike hZ.alike Ar102.2.1) (g := (mkF m 4 #[.val (.ref a), .val (.int (Int32.ofNat M)), .unset] [(.ref t)])) rfl rfl (hb hby d_jdk_68_method_9_4) _ ?_
    rw [len_of S102 M102]
    refine XS.aloadN X101.here hx rfl (hb hby d_jdk_68_method_9_5) rfl rfl ?_
    show SS p e below T101 m 6 #[.val (.ref a), .val (.int (Int32.ofNat M)), .unset] [(.ref a), (.int (Int32.ofNat N))] _
    refine st103 _ ?_
    refine XS.ishr X103.here hx rfl (hb hby d_jdk_68_method_9_9) rfl ?_
    show SS p e below T103 m 10 #[.val (.ref a), .val (.int (Int32.ofNat M)), .unset] [(.int ((Int32.ofNat N) >>> ((0 : Int32) &&& 31)))] _
    rw [show ((Int32.ofNat N) >>> ((0 : Int32) &&& 31)) = (Int32.ofNat N) from own_shr0 _]
    refine XS.istoreN X103.here hx rfl (hb hby d_jdk_68_method_9_10) rfl (l' := #[.val (.ref a), .val (.int (Int32.ofNat M)), .val (.int (Int32.ofNat N))]) rfl ?_
    refine XS.iloadN X103.here hx rfl (hb hby d_jdk_68_method_9_11) rfl ?_
    refine XS.iloadN X103.here hx rfl (hb hby d_jdk_68_method_9_12) rfl ?_
    refine XS.isub X103.here hx rfl (hb hby d_jdk_68_method_9_13) rfl ?_
    refine XS.ifYes X103.here hx rfl (pc0 := 14) (pc' := 38) rfl (hb hby d_jdk_68_method_9_14) rfl ((if0 _ _).trans (flt (own_nsub hM hN)).2.2.2) (by decide) (by decide) ?_
    exact kt
  obtain ⟨fs, hr, hrun, hended, hW, hsame⟩ := X103.leave (v := none) (fun _ => rfl)
  refine ⟨_, _, W104 _ (X103.returnOut hx Bd.returns (hb hby d_jdk_68_method_9_38) hr), hrun, hended, _, _, rfl, ?_, ⟨_, rfl⟩, hW, hsame.mono (by decide) (by decide)⟩
  show Q_ensure Z a M t kb N vs h0 n0 _ T103.heap _
  rw [e103]
  exact ⟨rfl, N0, rfl⟩
def Q_abLatin (Z : State) (a : Addr) (cS : Int32) (h0 : Heap) (n0 : Nat) (vQ_ : Option Value) (hQ_ : Heap) (LQ_ : List Loc) : Prop := vQ_ = some (.int (1 : Int32)) ∧ Fr n0 LQ_ ∧ hQ_ = h0
set_option maxRecDepth 65536 in
set_option maxHeartbeats 40000000 in
theorem rm_abLatin (l : Launch) (Z : State) (a0 : Array Value) (hw : HW a0 Z) (ws : List Jvm.Cond) (a : Addr) (cS : Int32) (h0 : Heap) (n0 : Nat) (Z0 : n0 ≤ h0.size) (O0 : Old Z n0 h0) (S_cs : Sta Z Z.heap "java/lang/String" "COMPACT_STRINGS" "Z" (.int cS)) (hcS : ¬ (cS = (0 : Int32))) (F2 : Fld Z h0 a "java/lang/AbstractStringBuilder" "coder" "B" (.int (0 : Int32))) :
    MetFree l yn27 (head1 (Jvm.Cond.code yn27 jdk_68_method_68_code 1 (some .boolean) :: ws) ({ frames := 0, cells := 0, slots := 0, locals := 0 } : Room)) (fun aQ_ UQ => aQ_ = #[(.ref a)] ∧ Z.Warmed39 UQ.vm ∧ UQ.heap = h0) (fun _ _ _ _ _ => True) (fun _ UQ oQ UQ' => ∃ vQ_ LQ_, oQ = .returned vQ_ ∧ Q_abLatin Z a cS h0 n0 vQ_ UQ'.heap LQ_ ∧ FrameEnd UQ oQ UQ' LQ_ ({ frames := 0, cells := 0, slots := 0, locals := 0 } : Room).cells ({ frames := 0, cells := 0, slots := 0, locals := 0 } : Room).slots) := by
  refine MetFree.of_bodySF (plainFor_of_name pn_java_lang_AbstractStringBuilder) hisR ?_
  intro p e s m args below meth cO s₁ Bd hml0 hP hK
  obtain ⟨rfl, hZ, hh⟩ := hP
  have hx := Bd.exec
  have hby := Bd.bytes
  have hml : cO.maxLocals = 1 := hml0
  have hown : s.vm.findClass "java/lang/AbstractStringBuilder" = some m.cls := findClass_of_methodNamed Bd.named
  have hnm := (name_of_methodNamed Bd.named Bd.method).1
  have X0 : Stand p l e ({ frames := 0, cells := 0, slots := 0, locals := 0 } : Room) s m #[(.ref a)] below meth cO s₁ [] 0 0 := Stand.of_body Bd
  have e0 : s₁.heap = h0 := by rw [← hh, Bd.state]; rfl
  have N0 := Fr.nil n0
  have W0 : ∀ zQ, SS p e below s₁ m 0 #[.val (.ref a)] [] zQ → Steps p.tables e below (s₁.setTop (entryFrame m #[(.ref a)] 1)) zQ := fun tt kt => castTop (ef_abLatin m a) kt
  have F102 : Sta Z h0 "java/lang/String" "COMPACT_STRINGS" "Z" (.int cS) := S_cs.ext O0.2
  obtain ⟨T101, X101, e101, st101⟩ := getS2 X0 hx hZ hown (host := "") (Or.inl (w67 hw)) Via.refl e0 F102 (g := (mkF m 0 #[.val (.ref a)] [])) rfl (hb hby d_jdk_68_method_68_0)
  obtain ⟨T103, X103, e103, st103⟩ := getF X101 hx hZ hown (host := "") (Or.inl (w70 hw)) Via.refl e101 F2 (g := (mkF m 7 #[.val (.ref a)] [(.ref a)])) rfl rfl (hb hby d_jdk_68_method_68_7)
  have W104 : ∀ zQ, SS p e below T103 m 18 #[.val (.ref a)] [(.int (1 : Int32))] zQ → Steps p.tables e below (s₁.setTop (entryFrame m #[(.ref a)] 1)) zQ := by
    intro tt kt
    refine W0 tt ?_
    refine st101 _ ?_
    refine XS.ifNo X101.here hx rfl (hb hby d_jdk_68_method_68_3) rfl ((if0 _ _).trans (feq hcS).1) ?_
    refine XS.aloadN X101.here hx rfl (hb hby d_jdk_68_method_68_6) rfl rfl ?_
    show SS p e below T101 m 7 #[.val (.ref a)] [(.ref a)] _
    refine st103 _ ?_
    refine XS.ifNo X103.here hx rfl (hb hby d_jdk_68_method_68_10) rfl ((if0 _ _).trans (teq (by decide)).2) ?_
    refine XS.iconst X103.here hx rfl (hb hby d_jdk_68_method_68_13) ?_
    refine XS.goto X103.here hx rfl (pc0 := 14) (pc' := 18) rfl (hb hby d_jdk_68_method_68_14) (by decide) (by decide) ?_
    exact kt
  obtain ⟨fs, hr, hrun, hended, hW, hsame⟩ := X103.leave (v := some (.int (nar .boolean (1 : Int32)))) (fun h => by rw [Bd.returns] at h; cases h)
  refine ⟨_, _, W104 _ (retN X103 hx (t := .boolean) Bd.returns (by simp) (hb hby d_jdk_68_method_68_18) hr), hrun, hended, _, _, rfl, ?_, ⟨_, rfl⟩, hW, hsame.mono (by decide) (by decide)⟩
  show Q_abLatin Z a cS h0 n0 _ T103.heap _
  rw [e103]
  exact ⟨rfl, N0, rfl⟩
def Q_canEncode (Z : State) (c : Int32) (h0 : Heap) (n0 : Nat) (vQ_ : Option Value) (hQ_ : Heap) (LQ_ : List Loc) : Prop := vQ_ = some (.int (1 : Int32)) ∧ Fr n0 LQ_ ∧ hQ_ = h0
set_option maxRecDepth 65536 in
set_option maxHeartbeats 40000000 in
theorem rm_canEncode (l : Launch) (Z : State) (a0 : Array Value) (hw : HW a0 Z) (ws : List Jvm.Cond) (c : Int32) (h0 : Heap) (n0 : Nat) (Z0 : n0 ≤ h0.size) (hc1 : ¬ ((255 : Int32) < c)) :
    MetFree l yn28 (head1 (Jvm.Cond.code yn28 jdk_43_method_3_code 1 (some .boolean) :: ws) ({ frames := 0, cells := 0, slots := 0, locals := 0 } : Room)) (fun aQ_ UQ => aQ_ = #[(.int c)] ∧ Z.Warmed39 UQ.vm ∧ UQ.heap = h0) (fun _ _ _ _ _ => True) (fun _ UQ oQ UQ' => ∃ vQ_ LQ_, oQ = .returned vQ_ ∧ Q_canEncode Z c h0 n0 vQ_ UQ'.heap LQ_ ∧ FrameEnd UQ oQ UQ' LQ_ ({ frames := 0, cells := 0, slots := 0, locals := 0 } : Room).cells ({ frames := 0, cells := 0, slots := 0, locals := 0 } : Room).slots) := by
  refine MetFree.of_bodySF (plainFor_of_name pn_java_lang_StringLatin1) hisR ?_
  intro p e s m args below meth cO s₁ Bd hml0 hP hK
  obtain ⟨rfl, hZ, hh⟩ := hP
  have hx := Bd.exec
  have hby := Bd.bytes
  have hml : cO.maxLocals = 1 := hml0
  have hown : s.vm.findClass "java/lang/StringLatin1" = some m.cls := findClass_of_methodNamed Bd.named
  have hnm := (name_of_methodNamed Bd.named Bd.method).1
  have X0 : Stand p l e ({ frames := 0, cells := 0, slots := 0, locals := 0 } : Room) s m #[(.int c)] below meth cO s₁ [] 0 0 := Stand.of_body Bd
  have e0 : s₁.heap = h0 := by rw [← hh, Bd.state]; rfl
  have N0 := Fr.nil n0
  have W0 : ∀ zQ, SS p e below s₁ m 0 #[.val (.int c)] [] zQ → Steps p.tables e below (s₁.setTop (entryFrame m #[(.int c)] 1)) zQ := fun tt kt => castTop (ef_canEncode m c) kt
  have W101 : ∀ zQ, SS p e below s₁ m 12 #[.val (.int c)] [(.int (1 : Int32))] zQ → Steps p.tables e below (s₁.setTop (entryFrame m #[(.int c)] 1)) zQ := by
    intro tt kt
    refine W0 tt ?_
    refine XS.iloadN X0.here hx rfl (hb hby d_jdk_43_method_3_0) rfl ?_
    refine XS.sipush X0.here hx rfl (hb hby d_jdk_43_method_3_1) ?_
    refine XS.icmpNo X0.here hx rfl (hb hby d_jdk_43_method_3_4) rfl (flt hc1).2.2.1 ?_
    refine XS.iconst X0.here hx rfl (hb hby d_jdk_43_method_3_7) ?_
    refine XS.goto X0.here hx rfl (pc0 := 8) (pc' := 12) rfl (hb hby d_jdk_43_method_3_8) (by decide) (by decide) ?_
    exact kt
  obtain ⟨fs, hr, hrun, hended, hW, hsame⟩ := X0.leave (v := some (.int (nar .boolean (1 : Int32)))) (fun h => by rw [Bd.returns] at h; cases h)
  refine ⟨_, _, W101 _ (retN X0 hx (t := .boolean) Bd.returns (by simp) (hb hby d_jdk_43_method_3_12) hr), hrun, hended, _, _, rfl, ?_, ⟨_, rfl⟩, hW, hsame.mono (by decide) (by decide)⟩
  show Q_canEncode Z c h0 n0 _ s₁.heap _
  rw [e0]
  exact ⟨rfl, N0, rfl⟩
def Q_abAppC (Z : State) (a : Addr) (c : Int32) (t : Addr) (kb : ClassId) (N : Nat) (cs : List Int32) (cS : Int32) (h0 : Heap) (n0 : Nat) (vQ_ : Option Value) (hQ_ : Heap) (LQ_ : List Loc) : Prop := vQ_ = some (.ref a) ∧ Fr n0 LQ_ ∧ Keep h0 hQ_ [a, t] ∧ Fld Z hQ_ a "java/lang/AbstractStringBuilder" "value" "[B" (.ref t) ∧ Fld Z hQ_ a "java/lang/AbstractStringBuilder" "coder" "B" (.int (0 : Int32)) ∧ Fld Z hQ_ a "java/lang/AbstractStringBuilder" "count" "I" (.int (Int32.ofNat (cs ++ [c]).length)) ∧ Arv Z hQ_ t kb .byte (Int32.ofNat N) (l1 (cs ++ [c])) (.int (0 : Int32))
set_option maxRecDepth 65536 in
set_option maxHeartbeats 40000000 in
theorem rm_abAppC (l : Launch) (Z : State) (a0 : Array Value) (hw : HW a0 Z) (ws : List Jvm.Cond) (a : Addr) (c : Int32) (t : Addr) (kb : ClassId) (N : Nat) (cs : List Int32) (cS : Int32) (h0 : Heap) (n0 : Nat) (Z0 : n0 ≤ h0.size) (O0 : Old Z n0 h0) (S_cs : Sta Z Z.heap "java/lang/String" "COMPACT_STRINGS" "Z" (.int cS)) (hcS : ¬ (cS = (0 : Int32))) (E1 : Exa Z h0 a "java/lang/StringBuilder") (F1 : Fld Z h0 a "java/lang/AbstractStringBuilder" "value" "[B" (.ref t)) (F2 : Fld Z h0 a "java/lang/AbstractStringBuilder" "coder" "B" (.int (0 : Int32))) (F3 : Fld Z h0 a "java/lang/AbstractStringBuilder" "count" "I" (.int (Int32.ofNat cs.length))) (V1 : Arv Z h0 t kb .byte (Int32.ofNat N) (l1 cs) (.int (0 : Int32))) (hc1 : ¬ ((255 : Int32) < c)) (hlt : cs.length < N) (hN : N < 1048576) (g1 : n0 ≤ a) (g2 : n0 ≤ t) (hat : a ≠ t) :
    MetFree l yn29 (head1 (Jvm.Cond.code yn29 jdk_68_method_31_code 2 (some (.object "java/lang/AbstractStringBuilder")) :: ws) ({ frames := 1, cells := 0, slots := 0, locals := 14 } : Room)) (fun aQ_ UQ => aQ_ = #[(.ref a), (.int c)] ∧ Z.Warmed39 UQ.vm ∧ UQ.heap = h0) (fun _ _ _ _ _ => True) (fun _ UQ oQ UQ' => ∃ vQ_ LQ_, oQ = .returned vQ_ ∧ Q_abAppC Z a c t kb N cs cS h0 n0 vQ_ UQ'.heap LQ_ ∧ FrameEnd UQ oQ UQ' LQ_ ({ frames := 1, cells := 0, slots := 0, locals := 14 } : Room).cells ({ frames := 1, cells := 0, slots := 0, locals := 14 } : Room).slots) := by
  refine MetFree.of_bodySF (plainFor_of_name pn_java_lang_AbstractStringBuilder) hisR ?_
  intro p e s m args below meth cO s₁ Bd hml0 hP hK
  obtain ⟨rfl, hZ, hh⟩ := hP
  have hx := Bd.exec
  have hby := Bd.bytes
  have hml : cO.maxLocals = 2 := hml0
  have hown : s.vm.findClass "java/lang/AbstractStringBuilder" = some m.cls := findClass_of_methodNamed Bd.named
  have hnm := (name_of_methodNamed Bd.named Bd.method).1
  have X0 : Stand p l e ({ frames := 1, cells := 0, slots := 0, locals := 14 } : Room) s m #[(.ref a), (.int c)] below meth cO s₁ [] 0 0 := Stand.of_body Bd
  have e0 : s₁.heap = h0 := by rw [← hh, Bd.state]; rfl
  have N0 := Fr.nil n0
  have W0 : ∀ zQ, SS p e below s₁ m 0 #[.val (.ref a), .val (.int c)] [] zQ → Steps p.tables e below (s₁.setTop (entryFrame m #[(.ref a), (.int c)] 2)) zQ := fun tt kt => castTop (ef_abAppC m a c) kt
  obtain ⟨T101, X101, e101, st101⟩ := getF X0 hx hZ hown (host := "") (Or.inl (w104 hw)) Via.refl e0 F3 (g := (mkF m 2 #[.val (.ref a), .val (.int c)] [(.ref a), (.ref a)])) rfl rfl (hb hby d_jdk_68_method_31_2)
  obtain ⟨cq102, q102, q102'⟩ := E1.cell
  obtain ⟨_, _, ⟨T102, L102, k102, n102⟩, -, X102, ⟨Lc102, hQ102, l102, y102, z102⟩, st102⟩ := X101.privateBack hx (y := yn26) hown (mvT hZ (w106 hw)) (mvT hZ (w107 hw)) (mvT hZ (own_psel (y := yn26) (w109 hw) (w108 hw) (w107 hw) (by decide))) (Cond.privateMethod_at (mvP hZ (w108 hw) (args := #[]))) (mvT hZ (w110 hw)) (by decide) (backOf (W := 0) (rm_ensure l Z a0 hw [] a (cs.length + 1) t kb N (l1 cs) h0 n0 Z0 F1 F2 V1 hlt hN) hZ (w110 hw) (w64 hw) (by decide) (by decide)) (g := (mkF m 7 #[.val (.ref a), .val (.int c)] [(.int (Int32.ofNat (cs.length + 1))), (.ref a)])) rfl (by rw [hml]; rfl) (Steps.refl _) (a := a) (by rw [e101]; exact q102) q102' (argsL := [(.int (Int32.ofNat (cs.length + 1)))]) (rest := []) (lenOf pd__28_I_29_V rfl) rfl (by show 2 * 0 + _ ≤ _; exact Nat.le_of_eq rfl) (hb hby d_jdk_68_method_31_7) (fun _ _ => ⟨rfl, e101, (Nat.le_of_ble_eq_true rfl), (Nat.le_of_ble_eq_true rfl)⟩)
  dsimp only [Pt.U, Pt.locs, Pt.cells, Pt.slots] at X102 l102 y102 z102 st102 hQ102
  subst l102 y102 z102
  obtain ⟨rfl, Nq102, eq102⟩ := hQ102
  have N102 := Fr.app N0 Nq102
  obtain ⟨cq103, kq103, q103a, q103b, q103c⟩ := isOf hZ eq102 E1
  obtain ⟨_, _, ⟨T103, L103, k103, n103⟩, -, X103, ⟨Lc103, hQ103, l103, y103, z103⟩, st103⟩ := X102.virtualBack hx (y := yn27) (z := yn27) hown (mvT hZ (w111 hw)) (mvT hZ (w112 hw)) (notFace_of_selects (args := #[]) (mvT hZ (w114 hw))) (mvT hZ (w114 hw)) (mvT hZ (w113 hw)) (by decide) (backOf (W := 0) (rm_abLatin l Z a0 hw [] a cS h0 n0 Z0 O0 S_cs hcS F2) hZ (w115 hw) (w64 hw) (by decide) (by decide)) q103a q103c (g := (mkF m 11 #[.val (.ref a), .val (.int c)] [(.ref a)])) rfl (by rw [hml]; rfl) (Steps.refl _) (argsL := []) (rest := []) (lenOf pd__28__29_Z rfl) rfl (by show 2 * 0 + _ ≤ _; exact Nat.le_of_eq rfl) (hb hby d_jdk_68_method_31_11) (fun _ _ => ⟨rfl, eq102, (Nat.le_of_ble_eq_true rfl), (Nat.le_of_ble_eq_true rfl)⟩)
  dsimp only [Pt.U, Pt.locs, Pt.cells, Pt.slots] at X103 l103 y103 z103 st103 hQ103
  subst l103 y103 z103
  obtain ⟨rfl, Nq103, eq103⟩ := hQ103
  have N103 := Fr.app N102 Nq103
  obtain ⟨_, _, ⟨T104, L104, k104, n104⟩, -, X104, ⟨Lc104, hQ104, l104, y104, z104⟩, st104⟩ := Jvm.LawKit.callS X103 hx (y := yn28) hown (mvT hZ (w116 hw)) (mvT hZ (w117 hw)) (mvT hZ (w84 hw)) (mvT hZ (w118 hw)) (by decide) (backOf (W := 0) (rm_canEncode l Z a0 hw [] c h0 n0 Z0 hc1) hZ (w118 hw) (w84 hw) (by decide) (by decide)) (g := (mkF m 18 #[.val (.ref a), .val (.int c)] [(.int c)])) rfl (by rw [hml]; rfl) (argsL := [(.int c)]) (rest := []) (lenOf pd__28_C_29_Z rfl) rfl (by show 2 * 0 + _ ≤ _; exact Nat.le_of_eq rfl) (hb hby d_jdk_68_method_31_18) (fun _ _ => ⟨rfl, eq103, (Nat.le_of_ble_eq_true rfl), (Nat.le_of_ble_eq_true rfl)⟩)
  dsimp only [Pt.U, Pt.locs, Pt.cells, Pt.slots] at X104 l104 y104 z104 st104 hQ104
  subst l104 y104 z104
  obtain ⟨rfl, Nq104, eq104⟩ := hQ104
  have N104 := Fr.app N103 Nq104
  obtain ⟨T105, X105, e105, st105⟩ := getF X104 hx hZ hown (host := "") (Or.inl (w68 hw)) Via.refl eq104 F1 (g := (mkF m 25 #[.val (.ref a), .val (.int c)] [(.ref a)])) rfl rfl (hb hby d_jdk_68_method_31_25)
  obtain ⟨T106, X106, e106, st106⟩ := getF X105 hx hZ hown (host := "") (Or.inl (w104 hw)) Via.refl e105 F3 (g := (mkF m 30 #[.val (.ref a), .val (.int c)] [(.ref a), (.ref a), (.ref t)])) rfl rfl (hb hby d_jdk_68_method_31_30)
  obtain ⟨T107, h107, X107, e107, Wr107, st107⟩ := putF X106 hx hZ hown (host := "") (Or.inl (w104 hw)) Via.refl e106 F3 E1 (Or.inl (w105 hw)) (w55 hw) (ty := .int) (by decide) rfl rfl (g := (mkF m 36 #[.val (.ref a), .val (.int c)] [(.int (Int32.ofNat (cs ++ [c]).length)), (.ref a), (.int (Int32.ofNat cs.length)), (.ref t)])) rfl rfl (hb hby d_jdk_68_method_31_36)
  have K107 := Keep.of_wr Wr107
  have G107 := F3.same Wr107
  have N107 := Fr.snoc X107 N104 g1
  have F108 : Arv Z h107 t kb .byte (Int32.ofNat N) (l1 cs) (.int (0 : Int32)) := (V1.keep K107 (ninS (Ne.symm hat) nin0))
  obtain ⟨cl109, Ar109, q109, S109, M109, H109, F109g⟩ := id F108
  have hin109 : ¬ ((Int32.ofNat cs.length) < 0 ∨ cl109.slots.size ≤ ((Int32.ofNat cs.length)).toNatClampNeg) := inb_of S109 ⟨own_nneg (by omega), own_lt (by omega) (by omega)⟩
  obtain ⟨T109, h109, X109, e109, Wr109, st109⟩ := stB X107 hx hZ e107 Ar109 (j := (Int32.ofNat cs.length)) hin109 (g := (mkF m 41 #[.val (.ref a), .val (.int c)] [(.int (c.toInt8.toInt32)), (.int (Int32.ofNat cs.length)), (.ref t)])) rfl rfl (hb hby d_jdk_68_method_31_41)
  have G109 : Arv Z h109 t kb .byte (Int32.ofNat N) ((l1 cs) ++ [(.int (nar .byte (c.toInt8.toInt32)))]) (.int (0 : Int32)) := Arv.push Ar109 q109 S109 M109 H109 F109g (fits_nar_byte _) Wr109 (by rw [own_cl (by omega), l1_len])
  have K109 := Keep.of_wr Wr109
  have N109 := Fr.snoc X109 N107 g2
  have J109 : Arv Z h109 t kb .byte (Int32.ofNat N) (l1 (cs ++ [c])) (.int (0 : Int32)) := by rw [← l1_snoc, ← own_narb]; exact G109
  have W110 : ∀ zQ, SS p e below T109 m 76 #[.val (.ref a), .val (.int c)] [(.ref a)] zQ → Steps p.tables e below (s₁.setTop (entryFrame m #[(.ref a), (.int c)] 2)) zQ := by
    intro tt kt
    refine W0 tt ?_
    refine XS.aloadN X0.here hx rfl (hb hby d_jdk_68_method_31_0) rfl rfl ?_
    refine XS.aloadN X0.here hx rfl (hb hby d_jdk_68_method_31_1) rfl rfl ?_
    show SS p e below s₁ m 2 #[.val (.ref a), .val (.int c)] [(.ref a), (.ref a)] _
    refine st101 _ ?_
    refine XS.iconst X101.here hx rfl (hb hby d_jdk_68_method_31_5) ?_
    refine XS.iadd X101.here hx rfl (hb hby d_jdk_68_method_31_6) rfl ?_
    show SS p e below T101 m 7 #[.val (.ref a), .val (.int c)] [(.int ((Int32.ofNat cs.length) + (1 : Int32))), (.ref a)] _
    rw [show ((Int32.ofNat cs.length) + (1 : Int32)) = (Int32.ofNat (cs.length + 1)) from own_succ _]
    show SS p e below T101 m 7 #[.val (.ref a), .val (.int c)] [(.int (Int32.ofNat (cs.length + 1))), (.ref a)] _
    refine st102.trans ?_
    refine XS.aloadN X102.here hx rfl (hb hby d_jdk_68_method_31_10) rfl rfl ?_
    show SS p e below T102 m 11 #[.val (.ref a), .val (.int c)] [(.ref a)] _
    refine st103.trans ?_
    refine XS.ifNo X103.here hx rfl (hb hby d_jdk_68_method_31_14) rfl ((if0 _ _).trans (feq (by decide)).1) ?_
    refine XS.iloadN X103.here hx rfl (hb hby d_jdk_68_method_31_17) rfl ?_
    show SS p e below T103 m 18 #[.val (.ref a), .val (.int c)] [(.int c)] _
    refine st104 _ ?_
    refine XS.ifNo X104.here hx rfl (hb hby d_jdk_68_method_31_21) rfl ((if0 _ _).trans (feq (by decide)).1) ?_
    refine XS.aloadN X104.here hx rfl (hb hby d_jdk_68_method_31_24) rfl rfl ?_
    show SS p e below T104 m 25 #[.val (.ref a), .val (.int c)] [(.ref a)] _
    refine st105 _ ?_
    refine XS.aloadN X105.here hx rfl (hb hby d_jdk_68_method_31_28) rfl rfl ?_
    refine XS.dup X105.here hx rfl (hb hby d_jdk_68_method_31_29) rfl rfl ?_
    show SS p e below T105 m 30 #[.val (.ref a), .val (.int c)] [(.ref a), (.ref a), (.ref t)] _
    refine st106 _ ?_
    refine XS.dupX1 X106.here hx rfl (hb hby d_jdk_68_method_31_33) rfl rfl rfl ?_
    refine XS.iconst X106.here hx rfl (hb hby d_jdk_68_method_31_34) ?_
    refine XS.iadd X106.here hx rfl (hb hby d_jdk_68_method_31_35) rfl ?_
    show SS p e below T106 m 36 #[.val (.ref a), .val (.int c)] [(.int ((Int32.ofNat cs.length) + (1 : Int32))), (.ref a), (.int (Int32.ofNat cs.length)), (.ref t)] _
    rw [show ((Int32.ofNat cs.length) + (1 : Int32)) = (Int32.ofNat (cs ++ [c]).length) from (by rw [own_succ]; simp)]
    show SS p e below T106 m 36 #[.val (.ref a), .val (.int c)] [(.int (Int32.ofNat (cs ++ [c]).length)), (.ref a), (.int (Int32.ofNat cs.length)), (.ref t)] _
    refine st107 _ ?_
    refine XS.iloadN X107.here hx rfl (hb hby d_jdk_68_method_31_39) rfl ?_
    refine XS.i2b X107.here hx rfl (hb hby d_jdk_68_method_31_40) rfl ?_
    show SS p e below T107 m 41 #[.val (.ref a), .val (.int c)] [(.int (c.toInt8.toInt32)), (.int (Int32.ofNat cs.length)), (.ref t)] _
    refine st109 _ ?_
    refine XS.goto X109.here hx rfl (pc0 := 42) (pc' := 75) rfl (hb hby d_jdk_68_method_31_42) (by decide) (by decide) ?_
    refine XS.aloadN X109.here hx rfl (hb hby d_jdk_68_method_31_75) rfl rfl ?_
    exact kt
  have F111 : Fld Z h109 a "java/lang/AbstractStringBuilder" "value" "[B" (.ref t) := ((Fld.other Wr107 F1 (Or.inr (slot_ne (Or.inl (w69 hw)) (Or.inl (w105 hw)) (by decide) (t := (.array .byte)) (t' := .int) (by decide) (by decide)))).keep K109 (ninS hat nin0))
  have F112 : Fld Z h109 a "java/lang/AbstractStringBuilder" "coder" "B" (.int (0 : Int32)) := ((Fld.other Wr107 F2 (Or.inr (slot_ne (Or.inl (w71 hw)) (Or.inl (w105 hw)) (by decide) (t := .byte) (t' := .int) (by decide) (by decide)))).keep K109 (ninS hat nin0))
  have F113 : Fld Z h109 a "java/lang/AbstractStringBuilder" "count" "I" (.int (Int32.ofNat (cs ++ [c]).length)) := (G107.keep K109 (ninS hat nin0))
  obtain ⟨fs, hr, hrun, hended, hW, hsame⟩ := X109.leave (v := some (.ref a)) (fun h => by rw [Bd.returns] at h; cases h)
  refine ⟨_, _, W110 _ (own_retR X109 hx Bd.returns rfl rfl (hb hby d_jdk_68_method_31_76) hr), hrun, hended, _, _, rfl, ?_, ⟨_, rfl⟩, hW, hsame.mono (by decide) (by decide)⟩
  show Q_abAppC Z a c t kb N cs cS h0 n0 _ T109.heap _
  rw [e109]
  exact ⟨rfl, N109, (Keep.trans (Keep.trans (Keep.refl h0 [a, t]) K107 (allS (Or.inl (List.mem_of_getElem? (i := 0) rfl)) all0)) K109 (allS (Or.inl (List.mem_of_getElem? (i := 1) rfl)) all0)), F111, F112, F113, J109⟩
def Q_sbAppC (Z : State) (a : Addr) (c : Int32) (t : Addr) (kb : ClassId) (N : Nat) (cs : List Int32) (cS : Int32) (h0 : Heap) (n0 : Nat) (vQ_ : Option Value) (hQ_ : Heap) (LQ_ : List Loc) : Prop := vQ_ = some (.ref a) ∧ Fr n0 LQ_ ∧ Keep h0 hQ_ [a, t] ∧ Fld Z hQ_ a "java/lang/AbstractStringBuilder" "value" "[B" (.ref t) ∧ Fld Z hQ_ a "java/lang/AbstractStringBuilder" "coder" "B" (.int (0 : Int32)) ∧ Fld Z hQ_ a "java/lang/AbstractStringBuilder" "count" "I" (.int (Int32.ofNat (cs ++ [c]).length)) ∧ Arv Z hQ_ t kb .byte (Int32.ofNat N) (l1 (cs ++ [c])) (.int (0 : Int32))
set_option maxRecDepth 65536 in
set_option maxHeartbeats 40000000 in
theorem rm_sbAppC (l : Launch) (Z : State) (a0 : Array Value) (hw : HW a0 Z) (ws : List Jvm.Cond) (a : Addr) (c : Int32) (t : Addr) (kb : ClassId) (N : Nat) (cs : List Int32) (cS : Int32) (h0 : Heap) (n0 : Nat) (Z0 : n0 ≤ h0.size) (O0 : Old Z n0 h0) (S_cs : Sta Z Z.heap "java/lang/String" "COMPACT_STRINGS" "Z" (.int cS)) (hcS : ¬ (cS = (0 : Int32))) (E1 : Exa Z h0 a "java/lang/StringBuilder") (F1 : Fld Z h0 a "java/lang/AbstractStringBuilder" "value" "[B" (.ref t)) (F2 : Fld Z h0 a "java/lang/AbstractStringBuilder" "coder" "B" (.int (0 : Int32))) (F3 : Fld Z h0 a "java/lang/AbstractStringBuilder" "count" "I" (.int (Int32.ofNat cs.length))) (V1 : Arv Z h0 t kb .byte (Int32.ofNat N) (l1 cs) (.int (0 : Int32))) (hc1 : ¬ ((255 : Int32) < c)) (hlt : cs.length < N) (hN : N < 1048576) (g1 : n0 ≤ a) (g2 : n0 ≤ t) (hat : a ≠ t) :
    MetFree l yn30 (head1 (Jvm.Cond.code yn30 jdk_67_method_14_code 2 (some (.object "java/lang/StringBuilder")) :: ws) ({ frames := 2, cells := 0, slots := 0, locals := 27 } : Room)) (fun aQ_ UQ => aQ_ = #[(.ref a), (.int c)] ∧ Z.Warmed39 UQ.vm ∧ UQ.heap = h0) (fun _ _ _ _ _ => True) (fun _ UQ oQ UQ' => ∃ vQ_ LQ_, oQ = .returned vQ_ ∧ Q_sbAppC Z a c t kb N cs cS h0 n0 vQ_ UQ'.heap LQ_ ∧ FrameEnd UQ oQ UQ' LQ_ ({ frames := 2, cells := 0, slots := 0, locals := 27 } : Room).cells ({ frames := 2, cells := 0, slots := 0, locals := 27 } : Room).slots) := by
  refine MetFree.of_bodySF (plainFor_of_name pn_java_lang_StringBuilder) hisR ?_
  intro p e s m args below meth cO s₁ Bd hml0 hP hK
  obtain ⟨rfl, hZ, hh⟩ := hP
  have hx := Bd.exec
  have hby := Bd.bytes
  have hml : cO.maxLocals = 2 := hml0
  have hown : s.vm.findClass "java/lang/StringBuilder" = some m.cls := findClass_of_methodNamed Bd.named
  have hnm := (name_of_methodNamed Bd.named Bd.method).1
  have X0 : Stand p l e ({ frames := 2, cells := 0, slots := 0, locals := 27 } : Room) s m #[(.ref a), (.int c)] below meth cO s₁ [] 0 0 := Stand.of_body Bd
  have e0 : s₁.heap = h0 := by rw [← hh, Bd.state]; rfl
  have N0 := Fr.nil n0
  have W0 : ∀ zQ, SS p e below s₁ m 0 #[.val (.ref a), .val (.int c)] [] zQ → Steps p.tables e below (s₁.setTop (entryFrame m #[(.ref a), (.int c)] 2)) zQ := fun tt kt => castTop (ef_sbAppC m a c) kt
  obtain ⟨_, _, ⟨T101, L101, k101, n101⟩, -, X101, ⟨Lc101, hQ101, l101, y101, z101⟩, st101⟩ := superBack X0 hx hZ (y := yn29) hown (w99 hw) (own_same (y := yn29) (by decide) (w100 hw) (own_nf (y := yn29) (y' := yn27) rfl (w114 hw) (w112 hw))) (w100 hw) (w101 hw) (by decide) (backOf (W := 0) (rm_abAppC l Z a0 hw [] a c t kb N cs cS h0 n0 Z0 O0 S_cs hcS E1 F1 F2 F3 V1 hc1 hlt hN g1 g2 hat) hZ (w103 hw) (w64 hw) (by decide) (by decide)) e0 (Ins.self E1) (g := (mkF m 2 #[.val (.ref a), .val (.int c)] [(.int c), (.ref a)])) rfl (by rw [hml]; rfl) (w103 hw) (argsL := [(.int c)]) (rest := []) (lenOf pd__28_C_29_Ljava_2f_lang_2f_AbstractStringBuilder_3b_ rfl) rfl (by show 2 * 0 + _ ≤ _; exact Nat.le_of_eq rfl) (hb hby d_jdk_67_method_14_2) (fun _ _ => ⟨rfl, e0, (Nat.le_of_ble_eq_true rfl), (Nat.le_of_ble_eq_true rfl)⟩)
  dsimp only [Pt.U, Pt.locs, Pt.cells, Pt.slots] at X101 l101 y101 z101 st101 hQ101
  subst l101 y101 z101
  obtain ⟨rfl, Nq101, K101, P101_0, P101_1, P101_2, P101_3⟩ := hQ101
  have N101 := Fr.app N0 Nq101
  have W102 : ∀ zQ, SS p e below T101 m 7 #[.val (.ref a), .val (.int c)] [(.ref a)] zQ → Steps p.tables e below (s₁.setTop (entryFrame m #[(.ref a), (.int c)] 2)) zQ := by
    intro tt kt
    refine W0 tt ?_
    refine XS.aloadN X0.here hx rfl (hb hby d_jdk_67_method_14_0) rfl rfl ?_
    refine XS.iloadN X0.here hx rfl (hb hby d_jdk_67_method_14_1) rfl ?_
    show SS p e below s₁ m 2 #[.val (.ref a), .val (.int c)] [(.int c), (.ref a)] _
    refine st101.trans ?_
    refine XS.pop X101.here hx rfl (hb hby d_jdk_67_method_14_5) rfl rfl ?_
    refine XS.aloadN X101.here hx rfl (hb hby d_jdk_67_method_14_6) rfl rfl ?_
    exact kt
  obtain ⟨fs, hr, hrun, hended, hW, hsame⟩ := X101.leave (v := some (.ref a)) (fun h => by rw [Bd.returns] at h; cases h)
  refine ⟨_, _, W102 _ (own_retR X101 hx Bd.returns rfl rfl (hb hby d_jdk_67_method_14_7) hr), hrun, hended, _, _, rfl, ?_, ⟨_, rfl⟩, hW, hsame.mono (by decide) (by decide)⟩
  show Q_sbAppC Z a c t kb N cs cS h0 n0 _ T101.heap _
  exact ⟨rfl, N101, (Keep.trans (Keep.refl h0 [a, t]) K101 (allS (Or.inl (List.mem_of_getElem? (i := 0) rfl)) (allS (Or.inl (List.mem_of_getElem? (i := 1) rfl)) all0))), P101_0, P101_1, P101_2, P101_3⟩
def Q_sgetBytes (Z : State) (o : Addr) (t : Addr) (u : Addr) (ku : ClassId) (ds : List Int32) (kb : ClassId) (N : Nat) (cs : List Int32) (cS : Int32) (h0 : Heap) (n0 : Nat) (vQ_ : Option Value) (hQ_ : Heap) (LQ_ : List Loc) : Prop := vQ_ = none ∧ Fr n0 LQ_ ∧ Keep h0 hQ_ [t] ∧ Arv Z hQ_ t kb .byte (Int32.ofNat N) (l1 (cs ++ ds)) (.int (0 : Int32))
set_option maxRecDepth 65536 in
set_option maxHeartbeats 40000000 in
theorem rm_sgetBytes (l : Launch) (Z : State) (a0 : Array Value) (hw : HW a0 Z) (ws : List Jvm.Cond) (o : Addr) (t : Addr) (u : Addr) (ku : ClassId) (ds : List Int32) (kb : ClassId) (N : Nat) (cs : List Int32) (cS : Int32) (h0 : Heap) (n0 : Nat) (Z0 : n0 ≤ h0.size) (O0 : Old Z n0 h0) (S_cs : Sta Z Z.heap "java/lang/String" "COMPACT_STRINGS" "Z" (.int cS)) (hcS : ¬ (cS = (0 : Int32))) (hS : Str Z h0 o u ku ds) (hl : lat ds = true) (V1 : Arv Z h0 t kb .byte (Int32.ofNat N) (l1 cs) (.int (0 : Int32))) (hsum : cs.length + ds.length ≤ N) (hN : N < 1048576) (g2 : n0 ≤ t) (hot : o ≠ t) (hut : u ≠ t) :
    MetFree l yn31 (head1 (Jvm.Cond.code yn31 jdk_42_method_147_code 4 none :: ws) ({ frames := 1, cells := 0, slots := 0, locals := 64 } : Room)) (fun aQ_ UQ => aQ_ = #[(.ref o), (.ref t), (.int (Int32.ofNat cs.length)), (.int (0 : Int32))] ∧ Z.Warmed39 UQ.vm ∧ UQ.heap = h0) (fun _ _ _ _ _ => True) (fun _ UQ oQ UQ' => ∃ vQ_ LQ_, oQ = .returned vQ_ ∧ Q_sgetBytes Z o t u ku ds kb N cs cS h0 n0 vQ_ UQ'.heap LQ_ ∧ FrameEnd UQ oQ UQ' LQ_ ({ frames := 1, cells := 0, slots := 0, locals := 64 } : Room).cells ({ frames := 1, cells := 0, slots := 0, locals := 64 } : Room).slots) := by
  refine MetFree.of_bodySF (plainFor_of_name pn_java_lang_String) hisR ?_
  intro p e s m args below meth cO s₁ Bd hml0 hP hK
  obtain ⟨rfl, hZ, hh⟩ := hP
  have hx := Bd.exec
  have hby := Bd.bytes
  have hml : cO.maxLocals = 4 := hml0
  have hown : s.vm.findClass "java/lang/String" = some m.cls := findClass_of_methodNamed Bd.named
  have hnm := (name_of_methodNamed Bd.named Bd.method).1
  have X0 : Stand p l e ({ frames := 1, cells := 0, slots := 0, locals := 64 } : Room) s m #[(.ref o), (.ref t), (.int (Int32.ofNat cs.length)), (.int (0 : Int32))] below meth cO s₁ [] 0 0 := Stand.of_body Bd
  have e0 : s₁.heap = h0 := by rw [← hh, Bd.state]; rfl
  have N0 := Fr.nil n0
  have W0 : ∀ zQ, SS p e below s₁ m 0 #[.val (.ref o), .val (.ref t), .val (.int (Int32.ofNat cs.length)), .val (.int (0 : Int32))] [] zQ → Steps p.tables e below (s₁.setTop (entryFrame m #[(.ref o), (.ref t), (.int (Int32.ofNat cs.length)), (.int (0 : Int32))] 4)) zQ := fun tt kt => castTop (ef_sgetBytes m o t (Int32.ofNat cs.length) (0 : Int32)) kt
  obtain ⟨dhE, dhV, dhC, dhA, okd⟩ := (id hS)
  have hA101 : Arv Z h0 u ku .byte (Int32.ofNat ds.length) (l1 ds) (.int (0 : Int32)) := by have q := enc_lat hl; rw [← q.1, ← q.2.1]; exact dhA
  have hcd : cdr ds = (0 : Int32) := (enc_lat hl).2.2
  have hdl : ds.length < 1048576 := okd.2
  obtain ⟨cq102, kq102, q102a, q102b, q102c⟩ := isOf hZ e0 dhE
  obtain ⟨_, _, ⟨T102, L102, k102, n102⟩, -, X102, ⟨Lc102, hQ102, l102, y102, z102⟩, st102⟩ := X0.virtualBack hx (y := yn9) (z := yn9) hown (mvT hZ (w45 hw)) (mvT hZ (w46 hw)) (notFace_of_selects (args := #[]) (mvT hZ (w48 hw))) (mvT hZ (w48 hw)) (mvT hZ (w47 hw)) (by decide) (backOf (W := 0) (rm_coder l Z a0 hw [] o (cdr ds) cS h0 n0 Z0 O0 S_cs hcS dhC (own_narcdr ds)) hZ (w49 hw) (w9 hw) (by decide) (by decide)) q102a q102c (g := (mkF m 1 #[.val (.ref o), .val (.ref t), .val (.int (Int32.ofNat cs.length)), .val (.int (0 : Int32))] [(.ref o)])) rfl (by rw [hml]; rfl) (Steps.refl _) (argsL := []) (rest := []) (lenOf pd__28__29_B rfl) rfl (by show 2 * 0 + _ ≤ _; exact Nat.le_of_eq rfl) (hb hby d_jdk_42_method_147_1) (fun _ _ => ⟨rfl, e0, (Nat.le_of_ble_eq_true rfl), (Nat.le_of_ble_eq_true rfl)⟩)
  dsimp only [Pt.U, Pt.locs, Pt.cells, Pt.slots] at X102 l102 y102 z102 st102 hQ102
  subst l102 y102 z102
  obtain ⟨rfl, Nq102, eq102⟩ := hQ102
  have N102 := Fr.app N0 Nq102
  obtain ⟨T103, X103, e103, st103⟩ := getF X102 hx hZ hown (host := "") (Or.inl (w34 hw)) Via.refl eq102 dhV (g := (mkF m 9 #[.val (.ref o), .val (.ref t), .val (.int (Int32.ofNat cs.length)), .val (.int (0 : Int32))] [(.ref o)])) rfl rfl (hb hby d_jdk_42_method_147_9)
  obtain ⟨T104, X104, e104, st104⟩ := getF X103 hx hZ hown (host := "") (Or.inl (w34 hw)) Via.refl e103 dhV (g := (mkF m 18 #[.val (.ref o), .val (.ref t), .val (.int (Int32.ofNat cs.length)), .val (.int (0 : Int32))] [(.ref o), (.int (Int32.ofNat cs.length)), (.ref t), (.int (0 : Int32)), (.ref u)])) rfl rfl (hb hby d_jdk_42_method_147_18)
  obtain ⟨cl105, Ar105, -, S105, M105, -, -⟩ := id hA101
  have J106 : Arv Z h0 t kb .byte (Int32.ofNat N) (l1 cs ++ List.replicate ds.length (Value.int (0 : Int32))) (.int (0 : Int32)) := Arv.pad V1 (pad_rep _ _ _)
  obtain ⟨T107, h107, Lp107, X107, e107, N107, K107, V107, st107⟩ := cpA X104 hx hZ hown (w148 hw) (w151 hw) (w149 hw) (w150 hw) e104 hA101 J106 (Or.inl ⟨rfl, rfl⟩) (by decide) (own_nneg (by omega)) (own_nneg (by omega)) (by rw [own_cl0, Nat.zero_add]; first | done | exact Nat.le_refl _) (by rw [own_cl (by omega), own_cl (by omega), own_cl (by omega)]; omega) (us := (l1 ds)) (by rw [own_cl (by omega)]; exact own_whole _ _ _ (l1_len ds)) (by rw [own_cl (by omega), own_cl (by omega), List.length_append, List.length_replicate, l1_len]; first | done | exact Nat.le_refl _) N102 g2 (g := (mkF m 22 #[.val (.ref o), .val (.ref t), .val (.int (Int32.ofNat cs.length)), .val (.int (0 : Int32))] [(.int (Int32.ofNat ds.length)), (.int (Int32.ofNat cs.length)), (.ref t), (.int (0 : Int32)), (.ref u)])) rfl (by rw [hml]; rfl) rfl (hb hby d_jdk_42_method_147_22) (by decide) (W := 0) (by show 2 * 0 + _ ≤ _; exact Nat.le_of_eq rfl) (by decide)
  have J108 : Arv Z h107 t kb .byte (Int32.ofNat N) (l1 (cs ++ ds)) (.int (0 : Int32)) := by have q := V107; rw [own_cl (by omega), own_cl (by omega), own_app2] at q; exact q
  have W109 : ∀ zQ, SS p e below T107 m 43 #[.val (.ref o), .val (.ref t), .val (.int (Int32.ofNat cs.length)), .val (.int (0 : Int32))] [] zQ → Steps p.tables e below (s₁.setTop (entryFrame m #[(.ref o), (.ref t), (.int (Int32.ofNat cs.length)), (.int (0 : Int32))] 4)) zQ := by
    intro tt kt
    refine W0 tt ?_
    refine XS.aloadN X0.here hx rfl (hb hby d_jdk_42_method_147_0) rfl rfl ?_
    show SS p e below s₁ m 1 #[.val (.ref o), .val (.ref t), .val (.int (Int32.ofNat cs.length)), .val (.int (0 : Int32))] [(.ref o)] _
    refine st102.trans ?_
    refine XS.iloadN X102.here hx rfl (hb hby d_jdk_42_method_147_4) rfl ?_
    refine XS.icmpNo X102.here hx rfl (hb hby d_jdk_42_method_147_5) rfl (teq hcd).2 ?_
    refine XS.aloadN X102.here hx rfl (hb hby d_jdk_42_method_147_8) rfl rfl ?_
    show SS p e below T102 m 9 #[.val (.ref o), .val (.ref t), .val (.int (Int32.ofNat cs.length)), .val (.int (0 : Int32))] [(.ref o)] _
    refine st103 _ ?_
    refine XS.iconst X103.here hx rfl (hb hby d_jdk_42_method_147_12) ?_
    refine XS.aloadN X103.here hx rfl (hb hby d_jdk_42_method_147_13) rfl rfl ?_
    refine XS.iloadN X103.here hx rfl (hb hby d_jdk_42_method_147_14) rfl ?_
    refine XS.iloadN X103.here hx rfl (hb hby d_jdk_42_method_147_15) rfl ?_
    refine XS.ishl X103.here hx rfl (hb hby d_jdk_42_method_147_16) rfl ?_
    show SS p e below T103 m 17 #[.val (.ref o), .val (.ref t), .val (.int (Int32.ofNat cs.length)), .val (.int (0 : Int32))] [(.int ((Int32.ofNat cs.length) <<< ((0 : Int32) &&& 31))), (.ref t), (.int (0 : Int32)), (.ref u)] _
    rw [show ((Int32.ofNat cs.length) <<< ((0 : Int32) &&& 31)) = (Int32.ofNat cs.length) from own_shl0 _]
    refine XS.aloadN X103.here hx rfl (hb hby d_jdk_42_method_147_17) rfl rfl ?_
    show SS p e below T103 m 18 #[.val (.ref o), .val (.ref t), .val (.int (Int32.ofNat cs.length)), .val (.int (0 : Int32))] [(.ref o), (.int (Int32.ofNat cs.length)), (.ref t), (.int (0 : Int32)), (.ref u)] _
    refine st104 _ ?_
    show SS p e below T104 m 21 #[.val (.ref o), .val (.ref t), .val (.int (Int32.ofNat cs.length)), .val (.int (0 : Int32))] [(.ref u), (.int (Int32.ofNat cs.length)), (.ref t), (.int (0 : Int32)), (.ref u)] _
    refine X104.arraylength hx (by first | exact Ar105.1 | (rw [e104]; exact Ar105.1)) (State.isArrayOf_alike hZ.alike Ar105.2.1) (g := (mkF m 21 #[.val (.ref o), .val (.ref t), .val (.int (Int32.ofNat cs.length)), .val (.int (0 : Int32))] [(.ref u), (.int (Int32.ofNat cs.length)), (.ref t), (.int (0 : Int32)), (.ref u)])) rfl rfl (hb hby d_jdk_42_method_147_21) _ ?_
    rw [len_of S105 M105]
    show SS p e below T104 m 22 #[.val (.ref o), .val (.ref t), .val (.int (Int32.ofNat cs.length)), .val (.int (0 : Int32))] [(.int (Int32.ofNat ds.length)), (.int (Int32.ofNat cs.length)), (.ref t), (.int (0 : Int32)), (.ref u)] _
    refine st107 _ ?_
    refine XS.goto X107.here hx rfl (pc0 := 25) (pc' := 43) rfl (hb hby d_jdk_42_method_147_25) (by decide) (by decide) ?_
    exact kt
  obtain ⟨fs, hr, hrun, hended, hW, hsame⟩ := X107.leave (v := none) (fun _ => rfl)
  refine ⟨_, _, W109 _ (X107.returnOut hx Bd.returns (hb hby d_jdk_42_method_147_43) hr), hrun, hended, _, _, rfl, ?_, ⟨_, rfl⟩, hW, hsame.mono (by decide) (by decide)⟩
  show Q_sgetBytes Z o t u ku ds kb N cs cS h0 n0 _ T107.heap _
  rw [e107]
  exact ⟨rfl, N107, (Keep.trans (Keep.refl h0 [t]) K107 (allS (Or.inl (List.mem_of_getElem? (i := 0) rfl)) all0)), J108⟩
def Q_inflate (Z : State) (a : Addr) (o : Addr) (u : Addr) (ku : ClassId) (ds : List Int32) (cS : Int32) (h0 : Heap) (n0 : Nat) (vQ_ : Option Value) (hQ_ : Heap) (LQ_ : List Loc) : Prop := vQ_ = none ∧ Fr n0 LQ_ ∧ hQ_ = h0
set_option maxRecDepth 65536 in
set_option maxHeartbeats 40000000 in
theorem rm_inflate (l : Launch) (Z : State) (a0 : Array Value) (hw : HW a0 Z) (ws : List Jvm.Cond) (a : Addr) (o : Addr) (u : Addr) (ku : ClassId) (ds : List Int32) (cS : Int32) (h0 : Heap) (n0 : Nat) (Z0 : n0 ≤ h0.size) (O0 : Old Z n0 h0) (S_cs : Sta Z Z.heap "java/lang/String" "COMPACT_STRINGS" "Z" (.int cS)) (hcS : ¬ (cS = (0 : Int32))) (F2 : Fld Z h0 a "java/lang/AbstractStringBuilder" "coder" "B" (.int (0 : Int32))) (hS : Str Z h0 o u ku ds) (hl : lat ds = true) :
    MetFree l yn32 (head1 (Jvm.Cond.code yn32 jdk_68_method_71_code 2 none :: ws) ({ frames := 1, cells := 0, slots := 0, locals := 13 } : Room)) (fun aQ_ UQ => aQ_ = #[(.ref a), (.ref o)] ∧ Z.Warmed39 UQ.vm ∧ UQ.heap = h0) (fun _ _ _ _ _ => True) (fun _ UQ oQ UQ' => ∃ vQ_ LQ_, oQ = .returned vQ_ ∧ Q_inflate Z a o u ku ds cS h0 n0 vQ_ UQ'.heap LQ_ ∧ FrameEnd UQ oQ UQ' LQ_ ({ frames := 1, cells := 0, slots := 0, locals := 13 } : Room).cells ({ frames := 1, cells := 0, slots := 0, locals := 13 } : Room).slots) := by
  refine MetFree.of_bodySF (plainFor_of_name pn_java_lang_AbstractStringBuilder) hisR ?_
  intro p e s m args below meth cO s₁ Bd hml0 hP hK
  obtain ⟨rfl, hZ, hh⟩ := hP
  have hx := Bd.exec
  have hby := Bd.bytes
  have hml : cO.maxLocals = 2 := hml0
  have hown : s.vm.findClass "java/lang/AbstractStringBuilder" = some m.cls := findClass_of_methodNamed Bd.named
  have hnm := (name_of_methodNamed Bd.named Bd.method).1
  have X0 : Stand p l e ({ frames := 1, cells := 0, slots := 0, locals := 13 } : Room) s m #[(.ref a), (.ref o)] below meth cO s₁ [] 0 0 := Stand.of_body Bd
  have e0 : s₁.heap = h0 := by rw [← hh, Bd.state]; rfl
  have N0 := Fr.nil n0
  have W0 : ∀ zQ, SS p e below s₁ m 0 #[.val (.ref a), .val (.ref o)] [] zQ → Steps p.tables e below (s₁.setTop (entryFrame m #[(.ref a), (.ref o)] 2)) zQ := fun tt kt => castTop (ef_inflate m a o) kt
  obtain ⟨dhE, dhV, dhC, dhA, okd⟩ := (id hS)
  have hA101 : Arv Z h0 u ku .byte (Int32.ofNat ds.length) (l1 ds) (.int (0 : Int32)) := by have q := enc_lat hl; rw [← q.1, ← q.2.1]; exact dhA
  have hcd : cdr ds = (0 : Int32) := (enc_lat hl).2.2
  have hdl : ds.length < 1048576 := okd.2
  have F103 : Sta Z h0 "java/lang/String" "COMPACT_STRINGS" "Z" (.int cS) := S_cs.ext O0.2
  obtain ⟨T102, X102, e102, st102⟩ := getS2 X0 hx hZ hown (host := "") (Or.inl (w67 hw)) Via.refl e0 F103 (g := (mkF m 0 #[.val (.ref a), .val (.ref o)] [])) rfl (hb hby d_jdk_68_method_71_0)
  obtain ⟨T104, X104, e104, st104⟩ := getF X102 hx hZ hown (host := "") (Or.inl (w70 hw)) Via.refl e102 F2 (g := (mkF m 7 #[.val (.ref a), .val (.ref o)] [(.ref a)])) rfl rfl (hb hby d_jdk_68_method_71_7)
  obtain ⟨cq105, kq105, q105a, q105b, q105c⟩ := isOf hZ e104 dhE
  obtain ⟨_, _, ⟨T105, L105, k105, n105⟩, -, X105, ⟨Lc105, hQ105, l105, y105, z105⟩, st105⟩ := X104.virtualBack hx (y := yn9) (z := yn9) hown (mvT hZ (w142 hw)) (mvT hZ (w46 hw)) (notFace_of_selects (args := #[]) (mvT hZ (w48 hw))) (mvT hZ (w48 hw)) (mvT hZ (w47 hw)) (by decide) (backOf (W := 1) (rm_coder l Z a0 hw [] o (cdr ds) cS h0 n0 Z0 O0 S_cs hcS dhC (own_narcdr ds)) hZ (w49 hw) (w9 hw) (by decide) (by decide)) q105a q105c (g := (mkF m 11 #[.val (.ref a), .val (.ref o)] [(.ref o), (.int (0 : Int32))])) rfl (by rw [hml]; rfl) (Steps.refl _) (argsL := []) (rest := [(.int (0 : Int32))]) (lenOf pd__28__29_B rfl) rfl (by show 2 * 0 + _ ≤ _; exact Nat.le_of_eq rfl) (hb hby d_jdk_68_method_71_11) (fun _ _ => ⟨rfl, e104, (Nat.le_of_ble_eq_true rfl), (Nat.le_of_ble_eq_true rfl)⟩)
  dsimp only [Pt.U, Pt.locs, Pt.cells, Pt.slots] at X105 l105 y105 z105 st105 hQ105
  subst l105 y105 z105
  obtain ⟨rfl, Nq105, eq105⟩ := hQ105
  have N105 := Fr.app N0 Nq105
  have W106 : ∀ zQ, SS p e below T105 m 21 #[.val (.ref a), .val (.ref o)] [] zQ → Steps p.tables e below (s₁.setTop (entryFrame m #[(.ref a), (.ref o)] 2)) zQ := by
    intro tt kt
    refine W0 tt ?_
    refine st102 _ ?_
    refine XS.ifNo X102.here hx rfl (hb hby d_jdk_68_method_71_3) rfl ((if0 _ _).trans (feq hcS).1) ?_
    refine XS.aloadN X102.here hx rfl (hb hby d_jdk_68_method_71_6) rfl rfl ?_
    show SS p e below T102 m 7 #[.val (.ref a), .val (.ref o)] [(.ref a)] _
    refine st104 _ ?_
    refine XS.aloadN X104.here hx rfl (hb hby d_jdk_68_method_71_10) rfl rfl ?_
    show SS p e below T104 m 11 #[.val (.ref a), .val (.ref o)] [(.ref o), (.int (0 : Int32))] _
    refine st105.trans ?_
    refine XS.icmpYes X105.here hx rfl (pc0 := 14) (pc' := 21) rfl (hb hby d_jdk_68_method_71_14) rfl (teq hcd.symm).1 (by decide) (by decide) ?_
    exact kt
  obtain ⟨fs, hr, hrun, hended, hW, hsame⟩ := X105.leave (v := none) (fun _ => rfl)
  refine ⟨_, _, W106 _ (X105.returnOut hx Bd.returns (hb hby d_jdk_68_method_71_21) hr), hrun, hended, _, _, rfl, ?_, ⟨_, rfl⟩, hW, hsame.mono (by decide) (by decide)⟩
  show Q_inflate Z a o u ku ds cS h0 n0 _ T105.heap _
  rw [eq105]
  exact ⟨rfl, N105, rfl⟩
def Q_putAt (Z : State) (a : Addr) (o : Addr) (u : Addr) (ku : ClassId) (ds : List Int32) (t : Addr) (kb : ClassId) (N : Nat) (cs : List Int32) (cS : Int32) (h0 : Heap) (n0 : Nat) (vQ_ : Option Value) (hQ_ : Heap) (LQ_ : List Loc) : Prop := vQ_ = none ∧ Fr n0 LQ_ ∧ Keep h0 hQ_ [t] ∧ Arv Z hQ_ t kb .byte (Int32.ofNat N) (l1 (cs ++ ds)) (.int (0 : Int32))
set_option maxRecDepth 65536 in
set_option maxHeartbeats 40000000 in
theorem rm_putAt (l : Launch) (Z : State) (a0 : Array Value) (hw : HW a0 Z) (ws : List Jvm.Cond) (a : Addr) (o : Addr) (u : Addr) (ku : ClassId) (ds : List Int32) (t : Addr) (kb : ClassId) (N : Nat) (cs : List Int32) (cS : Int32) (h0 : Heap) (n0 : Nat) (Z0 : n0 ≤ h0.size) (O0 : Old Z n0 h0) (S_cs : Sta Z Z.heap "java/lang/String" "COMPACT_STRINGS" "Z" (.int cS)) (hcS : ¬ (cS = (0 : Int32))) (E1 : Exa Z h0 a "java/lang/StringBuilder") (F1 : Fld Z h0 a "java/lang/AbstractStringBuilder" "value" "[B" (.ref t)) (F2 : Fld Z h0 a "java/lang/AbstractStringBuilder" "coder" "B" (.int (0 : Int32))) (hS : Str Z h0 o u ku ds) (hl : lat ds = true) (V1 : Arv Z h0 t kb .byte (Int32.ofNat N) (l1 cs) (.int (0 : Int32))) (hsum : cs.length + ds.length ≤ N) (hN : N < 1048576) (g2 : n0 ≤ t) (hot : o ≠ t) (hut : u ≠ t) :
    MetFree l yn33 (head1 (Jvm.Cond.code yn33 jdk_68_method_73_code 3 none :: ws) ({ frames := 2, cells := 0, slots := 0, locals := 79 } : Room)) (fun aQ_ UQ => aQ_ = #[(.ref a), (.int (Int32.ofNat cs.length)), (.ref o)] ∧ Z.Warmed39 UQ.vm ∧ UQ.heap = h0) (fun _ _ _ _ _ => True) (fun _ UQ oQ UQ' => ∃ vQ_ LQ_, oQ = .returned vQ_ ∧ Q_putAt Z a o u ku ds t kb N cs cS h0 n0 vQ_ UQ'.heap LQ_ ∧ FrameEnd UQ oQ UQ' LQ_ ({ frames := 2, cells := 0, slots := 0, locals := 79 } : Room).cells ({ frames := 2, cells := 0, slots := 0, locals := 79 } : Room).slots) := by
  refine MetFree.of_bodySF (plainFor_of_name pn_java_lang_AbstractStringBuilder) hisR ?_
  intro p e s m args below meth cO s₁ Bd hml0 hP hK
  obtain ⟨rfl, hZ, hh⟩ := hP
  have hx := Bd.exec
  have hby := Bd.bytes
  have hml : cO.maxLocals = 3 := hml0
  have hown : s.vm.findClass "java/lang/AbstractStringBuilder" = some m.cls := findClass_of_methodNamed Bd.named
  have hnm := (name_of_methodNamed Bd.named Bd.method).1
  have X0 : Stand p l e ({ frames := 2, cells := 0, slots := 0, locals := 79 } : Room) s m #[(.ref a), (.int (Int32.ofNat cs.length)), (.ref o)] below meth cO s₁ [] 0 0 := Stand.of_body Bd
  have e0 : s₁.heap = h0 := by rw [← hh, Bd.state]; rfl
  have N0 := Fr.nil n0
  have W0 : ∀ zQ, SS p e below s₁ m 0 #[.val (.ref a), .val (.int (Int32.ofNat cs.length)), .val (.ref o)] [] zQ → Steps p.tables e below (s₁.setTop (entryFrame m #[(.ref a), (.int (Int32.ofNat cs.length)), (.ref o)] 3)) zQ := fun tt kt => castTop (ef_putAt m a (Int32.ofNat cs.length) o) kt
  obtain ⟨cq101, q101, q101'⟩ := E1.cell
  obtain ⟨_, _, ⟨T101, L101, k101, n101⟩, -, X101, ⟨Lc101, hQ101, l101, y101, z101⟩, st101⟩ := X0.privateBack hx (y := yn32) hown (mvT hZ (w137 hw)) (mvT hZ (w138 hw)) (mvT hZ (own_psel (y := yn32) (w140 hw) (w139 hw) (w138 hw) (by decide))) (Cond.privateMethod_at (mvP hZ (w139 hw) (args := #[]))) (mvT hZ (w141 hw)) (by decide) (backOf (W := 0) (rm_inflate l Z a0 hw [] a o u ku ds cS h0 n0 Z0 O0 S_cs hcS F2 hS hl) hZ (w141 hw) (w64 hw) (by decide) (by decide)) (g := (mkF m 2 #[.val (.ref a), .val (.int (Int32.ofNat cs.length)), .val (.ref o)] [(.ref o), (.ref a)])) rfl (by rw [hml]; rfl) (Steps.refl _) (a := a) (by rw [e0]; exact q101) q101' (argsL := [(.ref o)]) (rest := []) (lenOf pd__28_Ljava_2f_lang_2f_String_3b__29_V rfl) rfl (by show 2 * 0 + _ ≤ _; exact Nat.le_of_eq rfl) (hb hby d_jdk_68_method_73_2) (fun _ _ => ⟨rfl, e0, (Nat.le_of_ble_eq_true rfl), (Nat.le_of_ble_eq_true rfl)⟩)
  dsimp only [Pt.U, Pt.locs, Pt.cells, Pt.slots] at X101 l101 y101 z101 st101 hQ101
  subst l101 y101 z101
  obtain ⟨rfl, Nq101, eq101⟩ := hQ101
  have N101 := Fr.app N0 Nq101
  obtain ⟨T102, X102, e102, st102⟩ := getF X101 hx hZ hown (host := "") (Or.inl (w68 hw)) Via.refl eq101 F1 (g := (mkF m 7 #[.val (.ref a), .val (.int (Int32.ofNat cs.length)), .val (.ref o)] [(.ref a), (.ref o)])) rfl rfl (hb hby d_jdk_68_method_73_7)
  obtain ⟨T103, X103, e103, st103⟩ := getF X102 hx hZ hown (host := "") (Or.inl (w70 hw)) Via.refl e102 F2 (g := (mkF m 12 #[.val (.ref a), .val (.int (Int32.ofNat cs.length)), .val (.ref o)] [(.ref a), (.int (Int32.ofNat cs.length)), (.ref t), (.ref o)])) rfl rfl (hb hby d_jdk_68_method_73_12)
  obtain ⟨cq104, kq104, q104a, q104b, q104c⟩ := isOf hZ e103 hS.1
  obtain ⟨_, _, ⟨T104, L104, k104, n104⟩, -, X104, ⟨Lc104, hQ104, l104, y104, z104⟩, st104⟩ := X103.virtualBack hx (y := yn31) (z := yn31) hown (mvT hZ (w143 hw)) (mvT hZ (w144 hw)) (notFace_of_selects (args := #[]) (mvT hZ (w146 hw))) (mvT hZ (w146 hw)) (mvT hZ (w145 hw)) (by decide) (backOf (W := 0) (rm_sgetBytes l Z a0 hw [] o t u ku ds kb N cs cS h0 n0 Z0 O0 S_cs hcS hS hl V1 hsum hN g2 hot hut) hZ (w147 hw) (w9 hw) (by decide) (by decide)) q104a q104c (g := (mkF m 15 #[.val (.ref a), .val (.int (Int32.ofNat cs.length)), .val (.ref o)] [(.int (0 : Int32)), (.int (Int32.ofNat cs.length)), (.ref t), (.ref o)])) rfl (by rw [hml]; rfl) (Steps.refl _) (argsL := [(.ref t), (.int (Int32.ofNat cs.length)), (.int (0 : Int32))]) (rest := []) (lenOf pd__28__5b_BIB_29_V rfl) rfl (by show 2 * 0 + _ ≤ _; exact Nat.le_of_eq rfl) (hb hby d_jdk_68_method_73_15) (fun _ _ => ⟨rfl, e103, (Nat.le_of_ble_eq_true rfl), (Nat.le_of_ble_eq_true rfl)⟩)
  dsimp only [Pt.U, Pt.locs, Pt.cells, Pt.slots] at X104 l104 y104 z104 st104 hQ104
  subst l104 y104 z104
  obtain ⟨rfl, Nq104, K104, P104_0⟩ := hQ104
  have N104 := Fr.app N101 Nq104
  have W105 : ∀ zQ, SS p e below T104 m 18 #[.val (.ref a), .val (.int (Int32.ofNat cs.length)), .val (.ref o)] [] zQ → Steps p.tables e below (s₁.setTop (entryFrame m #[(.ref a), (.int (Int32.ofNat cs.length)), (.ref o)] 3)) zQ := by
    intro tt kt
    refine W0 tt ?_
    refine XS.aloadN X0.here hx rfl (hb hby d_jdk_68_method_73_0) rfl rfl ?_
    refine XS.aloadN X0.here hx rfl (hb hby d_jdk_68_method_73_1) rfl rfl ?_
    show SS p e below s₁ m 2 #[.val (.ref a), .val (.int (Int32.ofNat cs.length)), .val (.ref o)] [(.ref o), (.ref a)] _
    refine st101.trans ?_
    refine XS.aloadN X101.here hx rfl (hb hby d_jdk_68_method_73_5) rfl rfl ?_
    refine XS.aloadN X101.here hx rfl (hb hby d_jdk_68_method_73_6) rfl rfl ?_
    show SS p e below T101 m 7 #[.val (.ref a), .val (.int (Int32.ofNat cs.length)), .val (.ref o)] [(.ref a), (.ref o)] _
    refine st102 _ ?_
    refine XS.iloadN X102.here hx rfl (hb hby d_jdk_68_method_73_10) rfl ?_
    refine XS.aloadN X102.here hx rfl (hb hby d_jdk_68_method_73_11) rfl rfl ?_
    show SS p e below T102 m 12 #[.val (.ref a), .val (.int (Int32.ofNat cs.length)), .val (.ref o)] [(.ref a), (.int (Int32.ofNat cs.length)), (.ref t), (.ref o)] _
    refine st103 _ ?_
    show SS p e below T103 m 15 #[.val (.ref a), .val (.int (Int32.ofNat cs.length)), .val (.ref o)] [(.int (0 : Int32)), (.int (Int32.ofNat cs.length)), (.ref t), (.ref o)] _
    refine st104.trans ?_
    exact kt
  obtain ⟨fs, hr, hrun, hended, hW, hsame⟩ := X104.leave (v := none) (fun _ => rfl)
  refine ⟨_, _, W105 _ (X104.returnOut hx Bd.returns (hb hby d_jdk_68_method_73_18) hr), hrun, hended, _, _, rfl, ?_, ⟨_, rfl⟩, hW, hsame.mono (by decide) (by decide)⟩
  show Q_putAt Z a o u ku ds t kb N cs cS h0 n0 _ T104.heap _
  exact ⟨rfl, N104, (Keep.trans (Keep.refl h0 [t]) K104 (allS (Or.inl (List.mem_of_getElem? (i := 0) rfl)) all0)), P104_0⟩
def Q_abAppS (Z : State) (a : Addr) (o : Addr) (u : Addr) (ku : ClassId) (ds : List Int32) (t : Addr) (kb : ClassId) (N : Nat) (cs : List Int32) (cS : Int32) (h0 : Heap) (n0 : Nat) (vQ_ : Option Value) (hQ_ : Heap) (LQ_ : List Loc) : Prop := vQ_ = some (.ref a) ∧ Fr n0 LQ_ ∧ Keep h0 hQ_ [a, t] ∧ Fld Z hQ_ a "java/lang/AbstractStringBuilder" "value" "[B" (.ref t) ∧ Fld Z hQ_ a "java/lang/AbstractStringBuilder" "coder" "B" (.int (0 : Int32)) ∧ Fld Z hQ_ a "java/lang/AbstractStringBuilder" "count" "I" (.int (Int32.ofNat (cs ++ ds).length)) ∧ Arv Z hQ_ t kb .byte (Int32.ofNat N) (l1 (cs ++ ds)) (.int (0 : Int32))
set_option maxRecDepth 65536 in
set_option maxHeartbeats 40000000 in
theorem rm_abAppS (l : Launch) (Z : State) (a0 : Array Value) (hw : HW a0 Z) (ws : List Jvm.Cond) (a : Addr) (o : Addr) (u : Addr) (ku : ClassId) (ds : List Int32) (t : Addr) (kb : ClassId) (N : Nat) (cs : List Int32) (cS : Int32) (h0 : Heap) (n0 : Nat) (Z0 : n0 ≤ h0.size) (O0 : Old Z n0 h0) (S_cs : Sta Z Z.heap "java/lang/String" "COMPACT_STRINGS" "Z" (.int cS)) (hcS : ¬ (cS = (0 : Int32))) (E1 : Exa Z h0 a "java/lang/StringBuilder") (F1 : Fld Z h0 a "java/lang/AbstractStringBuilder" "value" "[B" (.ref t)) (F2 : Fld Z h0 a "java/lang/AbstractStringBuilder" "coder" "B" (.int (0 : Int32))) (F3 : Fld Z h0 a "java/lang/AbstractStringBuilder" "count" "I" (.int (Int32.ofNat cs.length))) (hS : Str Z h0 o u ku ds) (hl : lat ds = true) (V1 : Arv Z h0 t kb .byte (Int32.ofNat N) (l1 cs) (.int (0 : Int32))) (hsum : cs.length + ds.length ≤ N) (hN : N < 1048576) (g1 : n0 ≤ a) (g2 : n0 ≤ t) (hat : a ≠ t) (hot : o ≠ t) (hut : u ≠ t) (hoa : o ≠ a) (hua : u ≠ a) :
    MetFree l yn34 (head1 (Jvm.Cond.code yn34 jdk_68_method_22_code 3 (some (.object "java/lang/AbstractStringBuilder")) :: ws) ({ frames := 3, cells := 0, slots := 0, locals := 93 } : Room)) (fun aQ_ UQ => aQ_ = #[(.ref a), (.ref o)] ∧ Z.Warmed39 UQ.vm ∧ UQ.heap = h0) (fun _ _ _ _ _ => True) (fun _ UQ oQ UQ' => ∃ vQ_ LQ_, oQ = .returned vQ_ ∧ Q_abAppS Z a o u ku ds t kb N cs cS h0 n0 vQ_ UQ'.heap LQ_ ∧ FrameEnd UQ oQ UQ' LQ_ ({ frames := 3, cells := 0, slots := 0, locals := 93 } : Room).cells ({ frames := 3, cells := 0, slots := 0, locals := 93 } : Room).slots) := by
  refine MetFree.of_bodySF (plainFor_of_name pn_java_lang_AbstractStringBuilder) hisR ?_
  intro p e s m args below meth cO s₁ Bd hml0 hP hK
  obtain ⟨rfl, hZ, hh⟩ := hP
  have hx := Bd.exec
  have hby := Bd.bytes
  have hml : cO.maxLocals = 3 := hml0
  have hown : s.vm.findClass "java/lang/AbstractStringBuilder" = some m.cls := findClass_of_methodNamed Bd.named
  have hnm := (name_of_methodNamed Bd.named Bd.method).1
  have X0 : Stand p l e ({ frames := 3, cells := 0, slots := 0, locals := 93 } : Room) s m #[(.ref a), (.ref o)] below meth cO s₁ [] 0 0 := Stand.of_body Bd
  have e0 : s₁.heap = h0 := by rw [← hh, Bd.state]; rfl
  have N0 := Fr.nil n0
  have W0 : ∀ zQ, SS p e below s₁ m 0 #[.val (.ref a), .val (.ref o), .unset] [] zQ → Steps p.tables e below (s₁.setTop (entryFrame m #[(.ref a), (.ref o)] 3)) zQ := fun tt kt => castTop (ef_abAppS m a o) kt
  obtain ⟨cq101, kq101, q101a, q101b, q101c⟩ := isOf hZ e0 hS.1
  obtain ⟨_, _, ⟨T101, L101, k101, n101⟩, -, X101, ⟨Lc101, hQ101, l101, y101, z101⟩, st101⟩ := X0.virtualBack hx (y := yn10) (z := yn10) hown (mvT hZ (w131 hw)) (mvT hZ (w41 hw)) (notFace_of_selects (args := #[]) (mvT hZ (w43 hw))) (mvT hZ (w43 hw)) (mvT hZ (w42 hw)) (by decide) (backOf (W := 0) (rm_length l Z a0 hw [] o u ku ds cS h0 n0 Z0 O0 S_cs hcS hS) hZ (w44 hw) (w9 hw) (by decide) (by decide)) q101a q101c (g := (mkF m 10 #[.val (.ref a), .val (.ref o), .unset] [(.ref o)])) rfl (by rw [hml]; rfl) (Steps.refl _) (argsL := []) (rest := []) (lenOf pd__28__29_I rfl) rfl (by show 2 * 0 + _ ≤ _; exact Nat.le_of_eq rfl) (hb hby d_jdk_68_method_22_10) (fun _ _ => ⟨rfl, e0, (Nat.le_of_ble_eq_true rfl), (Nat.le_of_ble_eq_true rfl)⟩)
  dsimp only [Pt.U, Pt.locs, Pt.cells, Pt.slots] at X101 l101 y101 z101 st101 hQ101
  subst l101 y101 z101
  obtain ⟨rfl, Nq101, eq101⟩ := hQ101
  have N101 := Fr.app N0 Nq101
  obtain ⟨T102, X102, e102, st102⟩ := getF X101 hx hZ hown (host := "") (Or.inl (w104 hw)) Via.refl eq101 F3 (g := (mkF m 16 #[.val (.ref a), .val (.ref o), .val (.int (Int32.ofNat ds.length))] [(.ref a), (.ref a)])) rfl rfl (hb hby d_jdk_68_method_22_16)
  obtain ⟨cq103, q103, q103'⟩ := E1.cell
  obtain ⟨_, _, ⟨T103, L103, k103, n103⟩, -, X103, ⟨Lc103, hQ103, l103, y103, z103⟩, st103⟩ := X102.privateBack hx (y := yn26) hown (mvT hZ (w106 hw)) (mvT hZ (w107 hw)) (mvT hZ (own_psel (y := yn26) (w109 hw) (w108 hw) (w107 hw) (by decide))) (Cond.privateMethod_at (mvP hZ (w108 hw) (args := #[]))) (mvT hZ (w110 hw)) (by decide) (backOf (W := 0) (rm_ensure l Z a0 hw [] a (cs.length + ds.length) t kb N (l1 cs) h0 n0 Z0 F1 F2 V1 hsum hN) hZ (w110 hw) (w64 hw) (by decide) (by decide)) (g := (mkF m 21 #[.val (.ref a), .val (.ref o), .val (.int (Int32.ofNat ds.length))] [(.int (Int32.ofNat (cs.length + ds.length))), (.ref a)])) rfl (by rw [hml]; rfl) (Steps.refl _) (a := a) (by rw [e102]; exact q103) q103' (argsL := [(.int (Int32.ofNat (cs.length + ds.length)))]) (rest := []) (lenOf pd__28_I_29_V rfl) rfl (by show 2 * 0 + _ ≤ _; exact Nat.le_of_eq rfl) (hb hby d_jdk_68_method_22_21) (fun _ _ => ⟨rfl, e102, (Nat.le_of_ble_eq_true rfl), (Nat.le_of_ble_eq_true rfl)⟩)
  dsimp only [Pt.U, Pt.locs, Pt.cells, Pt.slots] at X103 l103 y103 z103 st103 hQ103
  subst l103 y103 z103
  obtain ⟨rfl, Nq103, eq103⟩ := hQ103
  have N103 := Fr.app N101 Nq103
  obtain ⟨T104, X104, e104, st104⟩ := getF X103 hx hZ hown (host := "") (Or.inl (w104 hw)) Via.refl eq103 F3 (g := (mkF m 26 #[.val (.ref a), .val (.ref o), .val (.int (Int32.ofNat ds.length))] [(.ref a), (.ref a)])) rfl rfl (hb hby d_jdk_68_method_22_26)
  obtain ⟨cq105, q105, q105'⟩ := E1.cell
  obtain ⟨_, _, ⟨T105, L105, k105, n105⟩, -, X105, ⟨Lc105, hQ105, l105, y105, z105⟩, st105⟩ := X104.privateBack hx (y := yn33) hown (mvT hZ (w132 hw)) (mvT hZ (w133 hw)) (mvT hZ (own_psel (y := yn33) (w135 hw) (w134 hw) (w133 hw) (by decide))) (Cond.privateMethod_at (mvP hZ (w134 hw) (args := #[]))) (mvT hZ (w136 hw)) (by decide) (backOf (W := 0) (rm_putAt l Z a0 hw [] a o u ku ds t kb N cs cS h0 n0 Z0 O0 S_cs hcS E1 F1 F2 hS hl V1 hsum hN g2 hot hut) hZ (w136 hw) (w64 hw) (by decide) (by decide)) (g := (mkF m 30 #[.val (.ref a), .val (.ref o), .val (.int (Int32.ofNat ds.length))] [(.ref o), (.int (Int32.ofNat cs.length)), (.ref a)])) rfl (by rw [hml]; rfl) (Steps.refl _) (a := a) (by rw [e104]; exact q105) q105' (argsL := [(.int (Int32.ofNat cs.length)), (.ref o)]) (rest := []) (lenOf pd__28_ILjava_2f_lang_2f_String_3b__29_V rfl) rfl (by show 2 * 0 + _ ≤ _; exact Nat.le_of_eq rfl) (hb hby d_jdk_68_method_22_30) (fun _ _ => ⟨rfl, e104, (Nat.le_of_ble_eq_true rfl), (Nat.le_of_ble_eq_true rfl)⟩)
  dsimp only [Pt.U, Pt.locs, Pt.cells, Pt.slots] at X105 l105 y105 z105 st105 hQ105
  subst l105 y105 z105
  obtain ⟨rfl, Nq105, K105, P105_0⟩ := hQ105
  have N105 := Fr.app N103 Nq105
  have F106 : Fld Z T105.heap a "java/lang/AbstractStringBuilder" "count" "I" (.int (Int32.ofNat cs.length)) := (F3.keep K105 (ninS hat nin0))
  obtain ⟨T107, X107, e107, st107⟩ := getF X105 hx hZ hown (host := "") (Or.inl (w104 hw)) Via.refl rfl F106 (g := (mkF m 35 #[.val (.ref a), .val (.ref o), .val (.int (Int32.ofNat ds.length))] [(.ref a), (.ref a)])) rfl rfl (hb hby d_jdk_68_method_22_35)
  have F108 : Exa Z T105.heap a "java/lang/StringBuilder" := (E1.keep K105)
  obtain ⟨T109, h109, X109, e109, Wr109, st109⟩ := putF X107 hx hZ hown (host := "") (Or.inl (w104 hw)) Via.refl e107 F106 F108 (Or.inl (w105 hw)) (w55 hw) (ty := .int) (by decide) rfl rfl (g := (mkF m 40 #[.val (.ref a), .val (.ref o), .val (.int (Int32.ofNat ds.length))] [(.int (Int32.ofNat (cs ++ ds).length)), (.ref a)])) rfl rfl (hb hby d_jdk_68_method_22_40)
  have K109 := Keep.of_wr Wr109
  have G109 := F106.same Wr109
  have N109 := Fr.snoc X109 N105 g1
  have W110 : ∀ zQ, SS p e below T109 m 44 #[.val (.ref a), .val (.ref o), .val (.int (Int32.ofNat ds.length))] [(.ref a)] zQ → Steps p.tables e below (s₁.setTop (entryFrame m #[(.ref a), (.ref o)] 3)) zQ := by
    intro tt kt
    refine W0 tt ?_
    refine XS.aloadN X0.here hx rfl (hb hby d_jdk_68_method_22_0) rfl rfl ?_
    refine XS.ifnonnullYes X0.here hx rfl (pc0 := 1) (pc' := 9) rfl (hb hby d_jdk_68_method_22_1) rfl (by decide) (by decide) ?_
    refine XS.aloadN X0.here hx rfl (hb hby d_jdk_68_method_22_9) rfl rfl ?_
    show SS p e below s₁ m 10 #[.val (.ref a), .val (.ref o), .unset] [(.ref o)] _
    refine st101.trans ?_
    refine XS.istoreN X101.here hx rfl (hb hby d_jdk_68_method_22_13) rfl (l' := #[.val (.ref a), .val (.ref o), .val (.int (Int32.ofNat ds.length))]) rfl ?_
    refine XS.aloadN X101.here hx rfl (hb hby d_jdk_68_method_22_14) rfl rfl ?_
    refine XS.aloadN X101.here hx rfl (hb hby d_jdk_68_method_22_15) rfl rfl ?_
    show SS p e below T101 m 16 #[.val (.ref a), .val (.ref o), .val (.int (Int32.ofNat ds.length))] [(.ref a), (.ref a)] _
    refine st102 _ ?_
    refine XS.iloadN X102.here hx rfl (hb hby d_jdk_68_method_22_19) rfl ?_
    refine XS.iadd X102.here hx rfl (hb hby d_jdk_68_method_22_20) rfl ?_
    show SS p e below T102 m 21 #[.val (.ref a), .val (.ref o), .val (.int (Int32.ofNat ds.length))] [(.int ((Int32.ofNat cs.length) + (Int32.ofNat ds.length))), (.ref a)] _
    rw [show ((Int32.ofNat cs.length) + (Int32.ofNat ds.length)) = (Int32.ofNat (cs.length + ds.length)) from (Int32.ofNat_add _ _).symm]
    show SS p e below T102 m 21 #[.val (.ref a), .val (.ref o), .val (.int (Int32.ofNat ds.length))] [(.int (Int32.ofNat (cs.length + ds.length))), (.ref a)] _
    refine st103.trans ?_
    refine XS.aloadN X103.here hx rfl (hb hby d_jdk_68_method_22_24) rfl rfl ?_
    refine XS.aloadN X103.here hx rfl (hb hby d_jdk_68_method_22_25) rfl rfl ?_
    show SS p e below T103 m 26 #[.val (.ref a), .val (.ref o), .val (.int (Int32.ofNat ds.length))] [(.ref a), (.ref a)] _
    refine st104 _ ?_
    refine XS.aloadN X104.here hx rfl (hb hby d_jdk_68_method_22_29) rfl rfl ?_
    show SS p e below T104 m 30 #[.val (.ref a), .val (.ref o), .val (.int (Int32.ofNat ds.length))] [(.ref o), (.int (Int32.ofNat cs.length)), (.ref a)] _
    refine st105.trans ?_
    refine XS.aloadN X105.here hx rfl (hb hby d_jdk_68_method_22_33) rfl rfl ?_
    refine XS.dup X105.here hx rfl (hb hby d_jdk_68_method_22_34) rfl rfl ?_
    show SS p e below T105 m 35 #[.val (.ref a), .val (.ref o), .val (.int (Int32.ofNat ds.length))] [(.ref a), (.ref a)] _
    refine st107 _ ?_
    refine XS.iloadN X107.here hx rfl (hb hby d_jdk_68_method_22_38) rfl ?_
    refine XS.iadd X107.here hx rfl (hb hby d_jdk_68_method_22_39) rfl ?_
    show SS p e below T107 m 40 #[.val (.ref a), .val (.ref o), .val (.int (Int32.ofNat ds.length))] [(.int ((Int32.ofNat cs.length) + (Int32.ofNat ds.length))), (.ref a)] _
    rw [show ((Int32.ofNat cs.length) + (Int32.ofNat ds.length)) = (Int32.ofNat (cs ++ ds).length) from (by rw [← Int32.ofNat_add, List.length_append])]
    show SS p e below T107 m 40 #[.val (.ref a), .val (.ref o), .val (.int (Int32.ofNat ds.length))] [(.int (Int32.ofNat (cs ++ ds).length)), (.ref a)] _
    refine st109 _ ?_
    refine XS.aloadN X109.here hx rfl (hb hby d_jdk_68_method_22_43) rfl rfl ?_
    exact kt
  have F111 : Fld Z h109 a "java/lang/AbstractStringBuilder" "value" "[B" (.ref t) := (Fld.other Wr109 (F1.keep K105 (ninS hat nin0)) (Or.inr (slot_ne (Or.inl (w69 hw)) (Or.inl (w105 hw)) (by decide) (t := (.array .byte)) (t' := .int) (by decide) (by decide))))
  have F112 : Fld Z h109 a "java/lang/AbstractStringBuilder" "coder" "B" (.int (0 : Int32)) := (Fld.other Wr109 (F2.keep K105 (ninS hat nin0)) (Or.inr (slot_ne (Or.inl (w71 hw)) (Or.inl (w105 hw)) (by decide) (t := .byte) (t' := .int) (by decide) (by decide))))
  have F113 : Arv Z h109 t kb .byte (Int32.ofNat N) (l1 (cs ++ ds)) (.int (0 : Int32)) := (P105_0.keep K109 (ninS (Ne.symm hat) nin0))
  obtain ⟨fs, hr, hrun, hended, hW, hsame⟩ := X109.leave (v := some (.ref a)) (fun h => by rw [Bd.returns] at h; cases h)
  refine ⟨_, _, W110 _ (own_retR X109 hx Bd.returns rfl rfl (hb hby d_jdk_68_method_22_44) hr), hrun, hended, _, _, rfl, ?_, ⟨_, rfl⟩, hW, hsame.mono (by decide) (by decide)⟩
  show Q_abAppS Z a o u ku ds t kb N cs cS h0 n0 _ T109.heap _
  rw [e109]
  exact ⟨rfl, N109, (Keep.trans (Keep.trans (Keep.refl h0 [a, t]) K105 (allS (Or.inl (List.mem_of_getElem? (i := 1) rfl)) all0)) K109 (allS (Or.inl (List.mem_of_getElem? (i := 0) rfl)) all0)), F111, F112, G109, F113⟩
def Q_sbAppS (Z : State) (a : Addr) (o : Addr) (u : Addr) (ku : ClassId) (ds : List Int32) (t : Addr) (kb : ClassId) (N : Nat) (cs : List Int32) (cS : Int32) (h0 : Heap) (n0 : Nat) (vQ_ : Option Value) (hQ_ : Heap) (LQ_ : List Loc) : Prop := vQ_ = some (.ref a) ∧ Fr n0 LQ_ ∧ Keep h0 hQ_ [a, t] ∧ Fld Z hQ_ a "java/lang/AbstractStringBuilder" "value" "[B" (.ref t) ∧ Fld Z hQ_ a "java/lang/AbstractStringBuilder" "coder" "B" (.int (0 : Int32)) ∧ Fld Z hQ_ a "java/lang/AbstractStringBuilder" "count" "I" (.int (Int32.ofNat (cs ++ ds).length)) ∧ Arv Z hQ_ t kb .byte (Int32.ofNat N) (l1 (cs ++ ds)) (.int (0 : Int32))
set_option maxRecDepth 65536 in
set_option maxHeartbeats 40000000 in
theorem rm_sbAppS (l : Launch) (Z : State) (a0 : Array Value) (hw : HW a0 Z) (ws : List Jvm.Cond) (a : Addr) (o : Addr) (u : Addr) (ku : ClassId) (ds : List Int32) (t : Addr) (kb : ClassId) (N : Nat) (cs : List Int32) (cS : Int32) (h0 : Heap) (n0 : Nat) (Z0 : n0 ≤ h0.size) (O0 : Old Z n0 h0) (S_cs : Sta Z Z.heap "java/lang/String" "COMPACT_STRINGS" "Z" (.int cS)) (hcS : ¬ (cS = (0 : Int32))) (E1 : Exa Z h0 a "java/lang/StringBuilder") (F1 : Fld Z h0 a "java/lang/AbstractStringBuilder" "value" "[B" (.ref t)) (F2 : Fld Z h0 a "java/lang/AbstractStringBuilder" "coder" "B" (.int (0 : Int32))) (F3 : Fld Z h0 a "java/lang/AbstractStringBuilder" "count" "I" (.int (Int32.ofNat cs.length))) (hS : Str Z h0 o u ku ds) (hl : lat ds = true) (V1 : Arv Z h0 t kb .byte (Int32.ofNat N) (l1 cs) (.int (0 : Int32))) (hsum : cs.length + ds.length ≤ N) (hN : N < 1048576) (g1 : n0 ≤ a) (g2 : n0 ≤ t) (hat : a ≠ t) (hot : o ≠ t) (hut : u ≠ t) (hoa : o ≠ a) (hua : u ≠ a) :
    MetFree l yn35 (head1 (Jvm.Cond.code yn35 jdk_67_method_7_code 2 (some (.object "java/lang/StringBuilder")) :: ws) ({ frames := 4, cells := 0, slots := 0, locals := 107 } : Room)) (fun aQ_ UQ => aQ_ = #[(.ref a), (.ref o)] ∧ Z.Warmed39 UQ.vm ∧ UQ.heap = h0) (fun _ _ _ _ _ => True) (fun _ UQ oQ UQ' => ∃ vQ_ LQ_, oQ = .returned vQ_ ∧ Q_sbAppS Z a o u ku ds t kb N cs cS h0 n0 vQ_ UQ'.heap LQ_ ∧ FrameEnd UQ oQ UQ' LQ_ ({ frames := 4, cells := 0, slots := 0, locals := 107 } : Room).cells ({ frames := 4, cells := 0, slots := 0, locals := 107 } : Room).slots) := by
  refine MetFree.of_bodySF (plainFor_of_name pn_java_lang_StringBuilder) hisR ?_
  intro p e s m args below meth cO s₁ Bd hml0 hP hK
  obtain ⟨rfl, hZ, hh⟩ := hP
  have hx := Bd.exec
  have hby := Bd.bytes
  have hml : cO.maxLocals = 2 := hml0
  have hown : s.vm.findClass "java/lang/StringBuilder" = some m.cls := findClass_of_methodNamed Bd.named
  have hnm := (name_of_methodNamed Bd.named Bd.method).1
  have X0 : Stand p l e ({ frames := 4, cells := 0, slots := 0, locals := 107 } : Room) s m #[(.ref a), (.ref o)] below meth cO s₁ [] 0 0 := Stand.of_body Bd
  have e0 : s₁.heap = h0 := by rw [← hh, Bd.state]; rfl
  have N0 := Fr.nil n0
  have W0 : ∀ zQ, SS p e below s₁ m 0 #[.val (.ref a), .val (.ref o)] [] zQ → Steps p.tables e below (s₁.setTop (entryFrame m #[(.ref a), (.ref o)] 2)) zQ := fun tt kt => castTop (ef_sbAppS m a o) kt
  obtain ⟨_, _, ⟨T101, L101, k101, n101⟩, -, X101, ⟨Lc101, hQ101, l101, y101, z101⟩, st101⟩ := superBack X0 hx hZ (y := yn34) hown (w127 hw) (own_same (y := yn34) (by decide) (w128 hw) (own_nf (y := yn34) (y' := yn27) rfl (w114 hw) (w112 hw))) (w128 hw) (w101 hw) (by decide) (backOf (W := 0) (rm_abAppS l Z a0 hw [] a o u ku ds t kb N cs cS h0 n0 Z0 O0 S_cs hcS E1 F1 F2 F3 hS hl V1 hsum hN g1 g2 hat hot hut hoa hua) hZ (w130 hw) (w64 hw) (by decide) (by decide)) e0 (Ins.self E1) (g := (mkF m 2 #[.val (.ref a), .val (.ref o)] [(.ref o), (.ref a)])) rfl (by rw [hml]; rfl) (w130 hw) (argsL := [(.ref o)]) (rest := []) (lenOf pd__28_Ljava_2f_lang_2f_String_3b__29_Ljava_2f_lang_2f_AbstractStringBuilder_3b_ rfl) rfl (by show 2 * 0 + _ ≤ _; exact Nat.le_of_eq rfl) (hb hby d_jdk_67_method_7_2) (fun _ _ => ⟨rfl, e0, (Nat.le_of_ble_eq_true rfl), (Nat.le_of_ble_eq_true rfl)⟩)
  dsimp only [Pt.U, Pt.locs, Pt.cells, Pt.slots] at X101 l101 y101 z101 st101 hQ101
  subst l101 y101 z101
  obtain ⟨rfl, Nq101, K101, P101_0, P101_1, P101_2, P101_3⟩ := hQ101
  have N101 := Fr.app N0 Nq101
  have W102 : ∀ zQ, SS p e below T101 m 7 #[.val (.ref a), .val (.ref o)] [(.ref a)] zQ → Steps p.tables e below (s₁.setTop (entryFrame m #[(.ref a), (.ref o)] 2)) zQ := by
    intro tt kt
    refine W0 tt ?_
    refine XS.aloadN X0.here hx rfl (hb hby d_jdk_67_method_7_0) rfl rfl ?_
    refine XS.aloadN X0.here hx rfl (hb hby d_jdk_67_method_7_1) rfl rfl ?_
    show SS p e below s₁ m 2 #[.val (.ref a), .val (.ref o)] [(.ref o), (.ref a)] _
    refine st101.trans ?_
    refine XS.pop X101.here hx rfl (hb hby d_jdk_67_method_7_5) rfl rfl ?_
    refine XS.aloadN X101.here hx rfl (hb hby d_jdk_67_method_7_6) rfl rfl ?_
    exact kt
  obtain ⟨fs, hr, hrun, hended, hW, hsame⟩ := X101.leave (v := some (.ref a)) (fun h => by rw [Bd.returns] at h; cases h)
  refine ⟨_, _, W102 _ (own_retR X101 hx Bd.returns rfl rfl (hb hby d_jdk_67_method_7_7) hr), hrun, hended, _, _, rfl, ?_, ⟨_, rfl⟩, hW, hsame.mono (by decide) (by decide)⟩
  show Q_sbAppS Z a o u ku ds t kb N cs cS h0 n0 _ T101.heap _
  exact ⟨rfl, N101, (Keep.trans (Keep.refl h0 [a, t]) K101 (allS (Or.inl (List.mem_of_getElem? (i := 0) rfl)) (allS (Or.inl (List.mem_of_getElem? (i := 1) rfl)) all0))), P101_0, P101_1, P101_2, P101_3⟩
def Q_abValue (Z : State) (a : Addr) (t : Addr) (h0 : Heap) (n0 : Nat) (vQ_ : Option Value) (hQ_ : Heap) (LQ_ : List Loc) : Prop := vQ_ = some (.ref t) ∧ Fr n0 LQ_ ∧ hQ_ = h0
set_option maxRecDepth 65536 in
set_option maxHeartbeats 40000000 in
theorem rm_abValue (l : Launch) (Z : State) (a0 : Array Value) (hw : HW a0 Z) (ws : List Jvm.Cond) (a : Addr) (t : Addr) (h0 : Heap) (n0 : Nat) (Z0 : n0 ≤ h0.size) (F1 : Fld Z h0 a "java/lang/AbstractStringBuilder" "value" "[B" (.ref t)) :
    MetFree l yn36 (head1 (Jvm.Cond.code yn36 jdk_68_method_64_code 1 (some (.array .byte)) :: ws) ({ frames := 0, cells := 0, slots := 0, locals := 0 } : Room)) (fun aQ_ UQ => aQ_ = #[(.ref a)] ∧ Z.Warmed39 UQ.vm ∧ UQ.heap = h0) (fun _ _ _ _ _ => True) (fun _ UQ oQ UQ' => ∃ vQ_ LQ_, oQ = .returned vQ_ ∧ Q_abValue Z a t h0 n0 vQ_ UQ'.heap LQ_ ∧ FrameEnd UQ oQ UQ' LQ_ ({ frames := 0, cells := 0, slots := 0, locals := 0 } : Room).cells ({ frames := 0, cells := 0, slots := 0, locals := 0 } : Room).slots) := by
  refine MetFree.of_bodySF (plainFor_of_name pn_java_lang_AbstractStringBuilder) hisR ?_
  intro p e s m args below meth cO s₁ Bd hml0 hP hK
  obtain ⟨rfl, hZ, hh⟩ := hP
  have hx := Bd.exec
  have hby := Bd.bytes
  have hml : cO.maxLocals = 1 := hml0
  have hown : s.vm.findClass "java/lang/AbstractStringBuilder" = some m.cls := findClass_of_methodNamed Bd.named
  have hnm := (name_of_methodNamed Bd.named Bd.method).1
  have X0 : Stand p l e ({ frames := 0, cells := 0, slots := 0, locals := 0 } : Room) s m #[(.ref a)] below meth cO s₁ [] 0 0 := Stand.of_body Bd
  have e0 : s₁.heap = h0 := by rw [← hh, Bd.state]; rfl
  have N0 := Fr.nil n0
  have W0 : ∀ zQ, SS p e below s₁ m 0 #[.val (.ref a)] [] zQ → Steps p.tables e below (s₁.setTop (entryFrame m #[(.ref a)] 1)) zQ := fun tt kt => castTop (ef_abValue m a) kt
  obtain ⟨T101, X101, e101, st101⟩ := getF X0 hx hZ hown (host := "") (Or.inl (w68 hw)) Via.refl e0 F1 (g := (mkF m 1 #[.val (.ref a)] [(.ref a)])) rfl rfl (hb hby d_jdk_68_method_64_1)
  have W102 : ∀ zQ, SS p e below T101 m 4 #[.val (.ref a)] [(.ref t)] zQ → Steps p.tables e below (s₁.setTop (entryFrame m #[(.ref a)] 1)) zQ := by
    intro tt kt
    refine W0 tt ?_
    refine XS.aloadN X0.here hx rfl (hb hby d_jdk_68_method_64_0) rfl rfl ?_
    show SS p e below s₁ m 1 #[.val (.ref a)] [(.ref a)] _
    refine st101 _ ?_
    exact kt
  obtain ⟨fs, hr, hrun, hended, hW, hsame⟩ := X101.leave (v := some (.ref t)) (fun h => by rw [Bd.returns] at h; cases h)
  refine ⟨_, _, W102 _ (own_retR X101 hx Bd.returns rfl rfl (hb hby d_jdk_68_method_64_4) hr), hrun, hended, _, _, rfl, ?_, ⟨_, rfl⟩, hW, hsame.mono (by decide) (by decide)⟩
  show Q_abValue Z a t h0 n0 _ T101.heap _
  rw [e101]
  exact ⟨rfl, N0, rfl⟩
def Q_abLength (Z : State) (a : Addr) (w : Int32) (h0 : Heap) (n0 : Nat) (vQ_ : Option Value) (hQ_ : Heap) (LQ_ : List Loc) : Prop := vQ_ = some (.int w) ∧ Fr n0 LQ_ ∧ hQ_ = h0
set_option maxRecDepth 65536 in
set_option maxHeartbeats 40000000 in
theorem rm_abLength (l : Launch) (Z : State) (a0 : Array Value) (hw : HW a0 Z) (ws : List Jvm.Cond) (a : Addr) (w : Int32) (h0 : Heap) (n0 : Nat) (Z0 : n0 ≤ h0.size) (F3 : Fld Z h0 a "java/lang/AbstractStringBuilder" "count" "I" (.int w)) :
    MetFree l yn37 (head1 (Jvm.Cond.code yn37 jdk_68_method_6_code 1 (some .int) :: ws) ({ frames := 0, cells := 0, slots := 0, locals := 0 } : Room)) (fun aQ_ UQ => aQ_ = #[(.ref a)] ∧ Z.Warmed39 UQ.vm ∧ UQ.heap = h0) (fun _ _ _ _ _ => True) (fun _ UQ oQ UQ' => ∃ vQ_ LQ_, oQ = .returned vQ_ ∧ Q_abLength Z a w h0 n0 vQ_ UQ'.heap LQ_ ∧ FrameEnd UQ oQ UQ' LQ_ ({ frames := 0, cells := 0, slots := 0, locals := 0 } : Room).cells ({ frames := 0, cells := 0, slots := 0, locals := 0 } : Room).slots) := by
  refine MetFree.of_bodySF (plainFor_of_name pn_java_lang_AbstractStringBuilder) hisR ?_
  intro p e s m args below meth cO s₁ Bd hml0 hP hK
  obtain ⟨rfl, hZ, hh⟩ := hP
  have hx := Bd.exec
  have hby := Bd.bytes
  have hml : cO.maxLocals = 1 := hml0
  have hown : s.vm.findClass "java/lang/AbstractStringBuilder" = some m.cls := findClass_of_methodNamed Bd.named
  have hnm := (name_of_methodNamed Bd.named Bd.method).1
  have X0 : Stand p l e ({ frames := 0, cells := 0, slots := 0, locals := 0 } : Room) s m #[(.ref a)] below meth cO s₁ [] 0 0 := Stand.of_body Bd
  have e0 : s₁.heap = h0 := by rw [← hh, Bd.state]; rfl
  have N0 := Fr.nil n0
  have W0 : ∀ zQ, SS p e below s₁ m 0 #[.val (.ref a)] [] zQ → Steps p.tables e below (s₁.setTop (entryFrame m #[(.ref a)] 1)) zQ := fun tt kt => castTop (ef_abLength m a) kt
  obtain ⟨T101, X101, e101, st101⟩ := getF X0 hx hZ hown (host := "") (Or.inl (w104 hw)) Via.refl e0 F3 (g := (mkF m 1 #[.val (.ref a)] [(.ref a)])) rfl rfl (hb hby d_jdk_68_method_6_1)
  have W102 : ∀ zQ, SS p e below T101 m 4 #[.val (.ref a)] [(.int w)] zQ → Steps p.tables e below (s₁.setTop (entryFrame m #[(.ref a)] 1)) zQ := by
    intro tt kt
    refine W0 tt ?_
    refine XS.aloadN X0.here hx rfl (hb hby d_jdk_68_method_6_0) rfl rfl ?_
    show SS p e below s₁ m 1 #[.val (.ref a)] [(.ref a)] _
    refine st101 _ ?_
    exact kt
  obtain ⟨fs, hr, hrun, hended, hW, hsame⟩ := X101.leave (v := some (.int w)) (fun h => by rw [Bd.returns] at h; cases h)
  refine ⟨_, _, W102 _ (retI X101 hx Bd.returns (hb hby d_jdk_68_method_6_4) hr), hrun, hended, _, _, rfl, ?_, ⟨_, rfl⟩, hW, hsame.mono (by decide) (by decide)⟩
  show Q_abLength Z a w h0 n0 _ T101.heap _
  rw [e101]
  exact ⟨rfl, N0, rfl⟩
def Q_sbLength (Z : State) (a : Addr) (w : Int32) (h0 : Heap) (n0 : Nat) (vQ_ : Option Value) (hQ_ : Heap) (LQ_ : List Loc) : Prop := vQ_ = some (.int w) ∧ Fr n0 LQ_ ∧ hQ_ = h0
set_option maxRecDepth 65536 in
set_option maxHeartbeats 40000000 in
theorem rm_sbLength (l : Launch) (Z : State) (a0 : Array Value) (hw : HW a0 Z) (ws : List Jvm.Cond) (a : Addr) (w : Int32) (h0 : Heap) (n0 : Nat) (Z0 : n0 ≤ h0.size) (E1 : Exa Z h0 a "java/lang/StringBuilder") (F3 : Fld Z h0 a "java/lang/AbstractStringBuilder" "count" "I" (.int w)) :
    MetFree l yn38 (head1 (Jvm.Cond.code yn38 jdk_67_method_93_code 1 (some .int) :: ws) ({ frames := 1, cells := 0, slots := 0, locals := 12 } : Room)) (fun aQ_ UQ => aQ_ = #[(.ref a)] ∧ Z.Warmed39 UQ.vm ∧ UQ.heap = h0) (fun _ _ _ _ _ => True) (fun _ UQ oQ UQ' => ∃ vQ_ LQ_, oQ = .returned vQ_ ∧ Q_sbLength Z a w h0 n0 vQ_ UQ'.heap LQ_ ∧ FrameEnd UQ oQ UQ' LQ_ ({ frames := 1, cells := 0, slots := 0, locals := 12 } : Room).cells ({ frames := 1, cells := 0, slots := 0, locals := 12 } : Room).slots) := by
  refine MetFree.of_bodySF (plainFor_of_name pn_java_lang_StringBuilder) hisR ?_
  intro p e s m args below meth cO s₁ Bd hml0 hP hK
  obtain ⟨rfl, hZ, hh⟩ := hP
  have hx := Bd.exec
  have hby := Bd.bytes
  have hml : cO.maxLocals = 1 := hml0
  have hown : s.vm.findClass "java/lang/StringBuilder" = some m.cls := findClass_of_methodNamed Bd.named
  have hnm := (name_of_methodNamed Bd.named Bd.method).1
  have X0 : Stand p l e ({ frames := 1, cells := 0, slots := 0, locals := 12 } : Room) s m #[(.ref a)] below meth cO s₁ [] 0 0 := Stand.of_body Bd
  have e0 : s₁.heap = h0 := by rw [← hh, Bd.state]; rfl
  have N0 := Fr.nil n0
  have W0 : ∀ zQ, SS p e below s₁ m 0 #[.val (.ref a)] [] zQ → Steps p.tables e below (s₁.setTop (entryFrame m #[(.ref a)] 1)) zQ := fun tt kt => castTop (ef_sbLength m a) kt
  obtain ⟨_, _, ⟨T101, L101, k101, n101⟩, -, X101, ⟨Lc101, hQ101, l101, y101, z101⟩, st101⟩ := superBack X0 hx hZ (y := yn37) hown (w175 hw) (own_same (y := yn37) (by decide) (w171 hw) (own_nf (y := yn37) (y' := yn27) rfl (w114 hw) (w112 hw))) (w171 hw) (w101 hw) (by decide) (backOf (W := 0) (rm_abLength l Z a0 hw [] a w h0 n0 Z0 F3) hZ (w176 hw) (w64 hw) (by decide) (by decide)) e0 (Ins.self E1) (g := (mkF m 1 #[.val (.ref a)] [(.ref a)])) rfl (by rw [hml]; rfl) (w176 hw) (argsL := []) (rest := []) (lenOf pd__28__29_I rfl) rfl (by show 2 * 0 + _ ≤ _; exact Nat.le_of_eq rfl) (hb hby d_jdk_67_method_93_1) (fun _ _ => ⟨rfl, e0, (Nat.le_of_ble_eq_true rfl), (Nat.le_of_ble_eq_true rfl)⟩)
  dsimp only [Pt.U, Pt.locs, Pt.cells, Pt.slots] at X101 l101 y101 z101 st101 hQ101
  subst l101 y101 z101
  obtain ⟨rfl, Nq101, eq101⟩ := hQ101
  have N101 := Fr.app N0 Nq101
  have W102 : ∀ zQ, SS p e below T101 m 4 #[.val (.ref a)] [(.int w)] zQ → Steps p.tables e below (s₁.setTop (entryFrame m #[(.ref a)] 1)) zQ := by
    intro tt kt
    refine W0 tt ?_
    refine XS.aloadN X0.here hx rfl (hb hby d_jdk_67_method_93_0) rfl rfl ?_
    show SS p e below s₁ m 1 #[.val (.ref a)] [(.ref a)] _
    refine st101.trans ?_
    exact kt
  obtain ⟨fs, hr, hrun, hended, hW, hsame⟩ := X101.leave (v := some (.int w)) (fun h => by rw [Bd.returns] at h; cases h)
  refine ⟨_, _, W102 _ (retI X101 hx Bd.returns (hb hby d_jdk_67_method_93_4) hr), hrun, hended, _, _, rfl, ?_, ⟨_, rfl⟩, hW, hsame.mono (by decide) (by decide)⟩
  show Q_sbLength Z a w h0 n0 _ T101.heap _
  rw [eq101]
  exact ⟨rfl, N101, rfl⟩
def Q_corAll (Z : State) (t : Addr) (N : Nat) (kb : ClassId) (vs : List Value) (h0 : Heap) (n0 : Nat) (vQ_ : Option Value) (hQ_ : Heap) (LQ_ : List Loc) : Prop := ∃ r : Addr, ∃ kr : ClassId, vQ_ = some (.ref r) ∧ Fr n0 LQ_ ∧ Keep h0 hQ_ [] ∧ h0.size ≤ r ∧ Arv Z hQ_ r kr .byte (Int32.ofNat N) vs (.int (0 : Int32))
set_option maxRecDepth 65536 in
set_option maxHeartbeats 40000000 in
theorem rm_corAll (l : Launch) (Z : State) (a0 : Array Value) (hw : HW a0 Z) (ws : List Jvm.Cond) (t : Addr) (N : Nat) (kb : ClassId) (vs : List Value) (h0 : Heap) (n0 : Nat) (Z0 : n0 ≤ h0.size) (A1 : Arv Z h0 t kb .byte (Int32.ofNat N) vs (.int (0 : Int32))) (E1 : Exa Z h0 t "[B") (hN : N ≤ 7) :
    MetFree l yn23 (head1 (Jvm.Cond.code yn23 jdk_65_method_132_code 3 (some (.array .byte)) :: ws) ({ frames := 1, cells := 1, slots := 7, locals := 14 } : Room)) (fun aQ_ UQ => aQ_ = #[(.ref t), (.int (0 : Int32)), (.int (Int32.ofNat N))] ∧ Z.Warmed39 UQ.vm ∧ UQ.heap = h0) (fun _ _ _ _ _ => True) (fun _ UQ oQ UQ' => ∃ vQ_ LQ_, oQ = .returned vQ_ ∧ Q_corAll Z t N kb vs h0 n0 vQ_ UQ'.heap LQ_ ∧ FrameEnd UQ oQ UQ' LQ_ ({ frames := 1, cells := 1, slots := 7, locals := 14 } : Room).cells ({ frames := 1, cells := 1, slots := 7, locals := 14 } : Room).slots) := by
  refine MetFree.of_bodySF (plainFor_of_name pn_java_util_Arrays) hisR ?_
  intro p e s m args below meth cO s₁ Bd hml0 hP hK
  obtain ⟨rfl, hZ, hh⟩ := hP
  have hx := Bd.exec
  have hby := Bd.bytes
  have hml : cO.maxLocals = 3 := hml0
  have hown : s.vm.findClass "java/util/Arrays" = some m.cls := findClass_of_methodNamed Bd.named
  have hnm := (name_of_methodNamed Bd.named Bd.method).1
  have X0 : Stand p l e ({ frames := 1, cells := 1, slots := 7, locals := 14 } : Room) s m #[(.ref t), (.int (0 : Int32)), (.int (Int32.ofNat N))] below meth cO s₁ [] 0 0 := Stand.of_body Bd
  have e0 : s₁.heap = h0 := by rw [← hh, Bd.state]; rfl
  have N0 := Fr.nil n0
  have W0 : ∀ zQ, SS p e below s₁ m 0 #[.val (.ref t), .val (.int (0 : Int32)), .val (.int (Int32.ofNat N))] [] zQ → Steps p.tables e below (s₁.setTop (entryFrame m #[(.ref t), (.int (0 : Int32)), (.int (Int32.ofNat N))] 3)) zQ := fun tt kt => castTop (ef_corAll m t (0 : Int32) (Int32.ofNat N)) kt
  obtain ⟨cl101, Ar101, -, S101, M101, -, -⟩ := id A1
  obtain ⟨T102, h102, X102, e102, E102, A102, C102, st102⟩ := cloneH X0 hx hZ hown (w182 hw) (w183 hw) (w187 hw) (w185 hw) (w186 hw) (w188 hw) e0 (Arv.arh A1) E1 (g := (mkF m 18 #[.val (.ref t), .val (.int (0 : Int32)), .val (.int (Int32.ofNat N))] [(.ref t)])) rfl (by rw [hml]; rfl) rfl (hb hby d_jdk_65_method_132_18) (by decide) (W := 0) (cap := 7) (by show 2 * 0 + _ ≤ _; exact Nat.le_of_eq rfl) (by decide) (by rw [own_cl (by omega)]; exact hN) (by decide) (by decide)
  obtain ⟨b102, g102⟩ : ∃ z, z = h0.size := ⟨_, rfl⟩
  rw [← g102] at A102 C102 st102
  have K102 := (Keep.refl h0 []).ext E102
  have G102 : Arv Z h102 b102 kb .byte (Int32.ofNat N) vs (.int (0 : Int32)) := A102
  obtain ⟨T103, X103, e103, st103⟩ := castY X102 hx hZ hown (w189 hw) e102 (Ins.self C102) (g := (mkF m 21 #[.val (.ref t), .val (.int (0 : Int32)), .val (.int (Int32.ofNat N))] [(.ref b102)])) rfl rfl (hb hby d_jdk_65_method_132_21)
  have W104 : ∀ zQ, SS p e below T103 m 24 #[.val (.ref t), .val (.int (0 : Int32)), .val (.int (Int32.ofNat N))] [(.ref b102)] zQ → Steps p.tables e below (s₁.setTop (entryFrame m #[(.ref t), (.int (0 : Int32)), (.int (Int32.ofNat N))] 3)) zQ := by
    intro tt kt
    refine W0 tt ?_
    refine XS.iloadN X0.here hx rfl (hb hby d_jdk_65_method_132_0) rfl ?_
    refine XS.ifNo X0.here hx rfl (hb hby d_jdk_65_method_132_1) rfl ((if0 _ _).trans (teq (by decide)).2) ?_
    refine XS.iloadN X0.here hx rfl (hb hby d_jdk_65_method_132_4) rfl ?_
    refine XS.aloadN X0.here hx rfl (hb hby d_jdk_65_method_132_5) rfl rfl ?_
    show SS p e below s₁ m 6 #[.val (.ref t), .val (.int (0 : Int32)), .val (.int (Int32.ofNat N))] [(.ref t), (.int (Int32.ofNat N))] _
    refine X0.arraylength hx (by first | exact Ar101.1 | (rw [e0]; exact Ar101.1)) (State.isArrayOf_alike hZ.alike Ar101.2.1) (g := (mkF m 6 #[.val (.ref t), .val (.int (0 : Int32)), .val (.int (Int32.ofNat N))] [(.ref t), (.int (Int32.ofNat N))])) rfl rfl (hb hby d_jdk_65_method_132_6) _ ?_
    rw [len_of S101 M101]
    refine XS.icmpYes X0.here hx rfl (pc0 := 7) (pc' := 17) rfl (hb hby d_jdk_65_method_132_7) rfl (teq rfl).1 (by decide) (by decide) ?_
    refine XS.aloadN X0.here hx rfl (hb hby d_jdk_65_method_132_17) rfl rfl ?_
    show SS p e below s₁ m 18 #[.val (.ref t), .val (.int (0 : Int32)), .val (.int (Int32.ofNat N))] [(.ref t)] _
    refine st102 _ ?_
    show SS p e below T102 m 21 #[.val (.ref t), .val (.int (0 : Int32)), .val (.int (Int32.ofNat N))] [(.ref b102)] _
    refine st103 _ ?_
    exact kt
  obtain ⟨fs, hr, hrun, hended, hW, hsame⟩ := X103.leave (v := some (.ref b102)) (fun h => by rw [Bd.returns] at h; cases h)
  refine ⟨_, _, W104 _ (own_retR X103 hx Bd.returns rfl rfl (hb hby d_jdk_65_method_132_24) hr), hrun, hended, _, _, rfl, ?_, ⟨_, rfl⟩, hW, hsame.mono (by decide) (by decide)⟩
  show Q_corAll Z t N kb vs h0 n0 _ T103.heap _
  rw [e103]
  exact ⟨b102, kb, rfl, N0, (Keep.trans (Keep.refl h0 []) K102 all0), (Nat.le_of_eq g102.symm), G102⟩
def Q_sinitAB (Z : State) (a : Addr) (o : Addr) (t : Addr) (kb : ClassId) (N : Nat) (cs : List Int32) (cS : Int32) (h0 : Heap) (n0 : Nat) (vQ_ : Option Value) (hQ_ : Heap) (LQ_ : List Loc) : Prop := ∃ t2 : Addr, ∃ kb2 : ClassId, vQ_ = none ∧ Fr n0 LQ_ ∧ Keep h0 hQ_ [a] ∧ h0.size ≤ t2 ∧ Str Z hQ_ a t2 kb2 cs
set_option maxRecDepth 65536 in
set_option maxHeartbeats 40000000 in
theorem rm_sinitAB (l : Launch) (Z : State) (a0 : Array Value) (hw : HW a0 Z) (ws : List Jvm.Cond) (a : Addr) (o : Addr) (t : Addr) (kb : ClassId) (N : Nat) (cs : List Int32) (cS : Int32) (h0 : Heap) (n0 : Nat) (Z0 : n0 ≤ h0.size) (O0 : Old Z n0 h0) (S_cs : Sta Z Z.heap "java/lang/String" "COMPACT_STRINGS" "Z" (.int cS)) (hcS : ¬ (cS = (0 : Int32))) (Z1 : Exa Z h0 a "java/lang/String") (Z2 : Fld Z h0 a "java/lang/String" "value" "[B" .null) (Z3 : Fld Z h0 a "java/lang/String" "coder" "B" (.int (0 : Int32))) (g1 : n0 ≤ a) (E1 : Exa Z h0 o "java/lang/StringBuilder") (F1 : Fld Z h0 o "java/lang/AbstractStringBuilder" "value" "[B" (.ref t)) (F2 : Fld Z h0 o "java/lang/AbstractStringBuilder" "coder" "B" (.int (0 : Int32))) (F3 : Fld Z h0 o "java/lang/AbstractStringBuilder" "count" "I" (.int (Int32.ofNat cs.length))) (V1 : Arv Z h0 t kb .byte (Int32.ofNat N) (l1 cs) (.int (0 : Int32))) (E2 : Exa Z h0 t "[B") (hle : cs.length ≤ N) (hN : N ≤ 7) (hl : lat cs = true) (ok : OkS cs) (hao : a ≠ o) (hat : a ≠ t) :
    MetFree l yn39 (head1 (Jvm.Cond.code yn39 jdk_42_method_150_code 5 none :: ws) ({ frames := 3, cells := 1, slots := 8, locals := 95 } : Room)) (fun aQ_ UQ => aQ_ = #[(.ref a), (.ref o), .null] ∧ Z.Warmed39 UQ.vm ∧ UQ.heap = h0) (fun _ _ _ _ _ => True) (fun _ UQ oQ UQ' => ∃ vQ_ LQ_, oQ = .returned vQ_ ∧ Q_sinitAB Z a o t kb N cs cS h0 n0 vQ_ UQ'.heap LQ_ ∧ FrameEnd UQ oQ UQ' LQ_ ({ frames := 3, cells := 1, slots := 8, locals := 95 } : Room).cells ({ frames := 3, cells := 1, slots := 8, locals := 95 } : Room).slots) := by
  refine MetFree.of_bodySF (plainFor_of_name pn_java_lang_String) hisR ?_
  intro p e s m args below meth cO s₁ Bd hml0 hP hK
  obtain ⟨rfl, hZ, hh⟩ := hP
  have hx := Bd.exec
  have hby := Bd.bytes
  have hml : cO.maxLocals = 5 := hml0
  have hown : s.vm.findClass "java/lang/String" = some m.cls := findClass_of_methodNamed Bd.named
  have hnm := (name_of_methodNamed Bd.named Bd.method).1
  have X0 : Stand p l e ({ frames := 3, cells := 1, slots := 8, locals := 95 } : Room) s m #[(.ref a), (.ref o), .null] below meth cO s₁ [] 0 0 := Stand.of_body Bd
  have e0 : s₁.heap = h0 := by rw [← hh, Bd.state]; rfl
  have N0 := Fr.nil n0
  have W0 : ∀ zQ, SS p e below s₁ m 0 #[.val (.ref a), .val (.ref o), .val .null, .unset, .unset] [] zQ → Steps p.tables e below (s₁.setTop (entryFrame m #[(.ref a), (.ref o), .null] 5)) zQ := fun tt kt => castTop (ef_sinitAB m a o) kt
  obtain ⟨T101, X101, e101, st101⟩ := initO X0 hx hZ hown (w17 hw) (w18 hw) (w19 hw) e0 (g := (mkF m 1 #[.val (.ref a), .val (.ref o), .val .null, .unset, .unset] [(.ref a)])) rfl (by rw [hml]; rfl) rfl (hb hby d_jdk_42_method_150_1) (by decide) (W := 0) (by show 2 * 0 + _ ≤ _; exact Nat.le_of_eq rfl) (by decide)
  obtain ⟨cq102, kq102, q102a, q102b, q102c⟩ := isOf hZ e101 E1
  obtain ⟨_, _, ⟨T102, L102, k102, n102⟩, -, X102, ⟨Lc102, hQ102, l102, y102, z102⟩, st102⟩ := X101.virtualBack hx (y := yn36) (z := yn36) hown (mvT hZ (w164 hw)) (mvT hZ (w165 hw)) (notFace_of_selects (args := #[]) (mvT hZ (w167 hw))) (mvT hZ (w167 hw)) (mvT hZ (w166 hw)) (by decide) (backOf (W := 0) (rm_abValue l Z a0 hw [] o t h0 n0 Z0 F1) hZ (w168 hw) (w64 hw) (by decide) (by decide)) q102a q102c (g := (mkF m 5 #[.val (.ref a), .val (.ref o), .val .null, .unset, .unset] [(.ref o)])) rfl (by rw [hml]; rfl) (Steps.refl _) (argsL := []) (rest := []) (lenOf pd__28__29__5b_B rfl) rfl (by show 2 * 0 + _ ≤ _; exact Nat.le_of_eq rfl) (hb hby d_jdk_42_method_150_5) (fun _ _ => ⟨rfl, e101, (Nat.le_of_ble_eq_true rfl), (Nat.le_of_ble_eq_true rfl)⟩)
  dsimp only [Pt.U, Pt.locs, Pt.cells, Pt.slots] at X102 l102 y102 z102 st102 hQ102
  subst l102 y102 z102
  obtain ⟨rfl, Nq102, eq102⟩ := hQ102
  have N102 := Fr.app N0 Nq102
  obtain ⟨cq103, kq103, q103a, q103b, q103c⟩ := isOf hZ eq102 E1
  obtain ⟨_, _, ⟨T103, L103, k103, n103⟩, -, X103, ⟨Lc103, hQ103, l103, y103, z103⟩, st103⟩ := X102.virtualBack hx (y := yn37) (z := yn38) hown (mvT hZ (w169 hw)) (mvT hZ (w170 hw)) (own_nf (args := #[]) (y := yn37) (y' := yn27) rfl (mvT hZ (w114 hw)) (mvT hZ (w112 hw))) (mvT hZ (w172 hw)) (mvT hZ (w173 hw)) (by decide) (backOf (W := 0) (rm_sbLength l Z a0 hw [] o (Int32.ofNat cs.length) h0 n0 Z0 E1 F3) hZ (w174 hw) (w56 hw) (by decide) (by decide)) q103a q103c (g := (mkF m 10 #[.val (.ref a), .val (.ref o), .val .null, .val (.ref t), .unset] [(.ref o)])) rfl (by rw [hml]; rfl) (Steps.refl _) (argsL := []) (rest := []) (lenOf pd__28__29_I rfl) rfl (by show 2 * 0 + _ ≤ _; exact Nat.le_of_eq rfl) (hb hby d_jdk_42_method_150_10) (fun _ _ => ⟨rfl, eq102, (Nat.le_of_ble_eq_true rfl), (Nat.le_of_ble_eq_true rfl)⟩)
  dsimp only [Pt.U, Pt.locs, Pt.cells, Pt.slots] at X103 l103 y103 z103 st103 hQ103
  subst l103 y103 z103
  obtain ⟨rfl, Nq103, eq103⟩ := hQ103
  have N103 := Fr.app N102 Nq103
  obtain ⟨cq104, kq104, q104a, q104b, q104c⟩ := isOf hZ eq103 E1
  obtain ⟨_, _, ⟨T104, L104, k104, n104⟩, -, X104, ⟨Lc104, hQ104, l104, y104, z104⟩, st104⟩ := X103.virtualBack hx (y := yn27) (z := yn27) hown (mvT hZ (w177 hw)) (mvT hZ (w112 hw)) (notFace_of_selects (args := #[]) (mvT hZ (w114 hw))) (mvT hZ (w114 hw)) (mvT hZ (w113 hw)) (by decide) (backOf (W := 0) (rm_abLatin l Z a0 hw [] o cS h0 n0 Z0 O0 S_cs hcS F2) hZ (w115 hw) (w64 hw) (by decide) (by decide)) q104a q104c (g := (mkF m 16 #[.val (.ref a), .val (.ref o), .val .null, .val (.ref t), .val (.int (Int32.ofNat cs.length))] [(.ref o)])) rfl (by rw [hml]; rfl) (Steps.refl _) (argsL := []) (rest := []) (lenOf pd__28__29_Z rfl) rfl (by show 2 * 0 + _ ≤ _; exact Nat.le_of_eq rfl) (hb hby d_jdk_42_method_150_16) (fun _ _ => ⟨rfl, eq103, (Nat.le_of_ble_eq_true rfl), (Nat.le_of_ble_eq_true rfl)⟩)
  dsimp only [Pt.U, Pt.locs, Pt.cells, Pt.slots] at X104 l104 y104 z104 st104 hQ104
  subst l104 y104 z104
  obtain ⟨rfl, Nq104, eq104⟩ := hQ104
  have N104 := Fr.app N103 Nq104
  obtain ⟨T105, h105, X105, e105, Wr105, st105⟩ := putFN X104 hx hZ hown (w32 hw) Via.refl eq104 Z3 Z1 (Or.inr ⟨(w33 hw), rfl, hnm⟩) (w8 hw) (ty := .byte) (v' := (.int (0 : Int32))) (by decide) rfl rfl (g := (mkF m 24 #[.val (.ref a), .val (.ref o), .val .null, .val (.ref t), .val (.int (Int32.ofNat cs.length))] [(.int (0 : Int32)), (.ref a)])) rfl rfl (hb hby d_jdk_42_method_150_24)
  have K105 := Keep.of_wr Wr105
  have G105 := Z3.same Wr105
  have N105 := Fr.snoc X105 N104 g1
  have W106 : ∀ zQ, SS p e below T105 m 27 #[.val (.ref a), .val (.ref o), .val .null, .val (.ref t), .val (.int (Int32.ofNat cs.length))] [] zQ → Steps p.tables e below (s₁.setTop (entryFrame m #[(.ref a), (.ref o), .null] 5)) zQ := by
    intro tt kt
    refine W0 tt ?_
    refine XS.aloadN X0.here hx rfl (hb hby d_jdk_42_method_150_0) rfl rfl ?_
    show SS p e below s₁ m 1 #[.val (.ref a), .val (.ref o), .val .null, .unset, .unset] [(.ref a)] _
    refine st101 _ ?_
    refine XS.aloadN X101.here hx rfl (hb hby d_jdk_42_method_150_4) rfl rfl ?_
    show SS p e below T101 m 5 #[.val (.ref a), .val (.ref o), .val .null, .unset, .unset] [(.ref o)] _
    refine st102.trans ?_
    refine XS.astoreN X102.here hx rfl (hb hby d_jdk_42_method_150_8) rfl rfl (l' := #[.val (.ref a), .val (.ref o), .val .null, .val (.ref t), .unset]) rfl ?_
    refine XS.aloadN X102.here hx rfl (hb hby d_jdk_42_method_150_9) rfl rfl ?_
    show SS p e below T102 m 10 #[.val (.ref a), .val (.ref o), .val .null, .val (.ref t), .unset] [(.ref o)] _
    refine st103.trans ?_
    refine XS.istore X103.here hx rfl (hb hby d_jdk_42_method_150_13) rfl (l' := #[.val (.ref a), .val (.ref o), .val .null, .val (.ref t), .val (.int (Int32.ofNat cs.length))]) rfl ?_
    refine XS.aloadN X103.here hx rfl (hb hby d_jdk_42_method_150_15) rfl rfl ?_
    show SS p e below T103 m 16 #[.val (.ref a), .val (.ref o), .val .null, .val (.ref t), .val (.int (Int32.ofNat cs.length))] [(.ref o)] _
    refine st104.trans ?_
    refine XS.ifNo X104.here hx rfl (hb hby d_jdk_42_method_150_19) rfl ((if0 _ _).trans (feq (by decide)).1) ?_
    refine XS.aloadN X104.here hx rfl (hb hby d_jdk_42_method_150_22) rfl rfl ?_
    refine XS.iconst X104.here hx rfl (hb hby d_jdk_42_method_150_23) ?_
    show SS p e below T104 m 24 #[.val (.ref a), .val (.ref o), .val .null, .val (.ref t), .val (.int (Int32.ofNat cs.length))] [(.int (0 : Int32)), (.ref a)] _
    refine st105 _ ?_
    exact kt
  by_cases hc107 : cs.length = N
  ·
    have F109 : Arv Z h105 t kb .byte (Int32.ofNat N) (l1 cs) (.int (0 : Int32)) := (V1.keep K105 (ninS (Ne.symm hat) nin0))
    have J108 : Arv Z h105 t kb .byte (Int32.ofNat cs.length) (l1 cs) (.int (0 : Int32)) := by rw [hc107]; exact F109
    have F110 : Exa Z h105 t "[B" := (E2.keep K105)
    obtain ⟨_, _, ⟨T111, L111, k111, n111⟩, -, X111, ⟨Lc111, hQ111, l111, y111, z111⟩, st111⟩ := Jvm.LawKit.callS X105 hx (y := yn23) hown (mvT hZ (w178 hw)) (mvT hZ (w179 hw)) (mvT hZ (w180 hw)) (mvT hZ (w181 hw)) (by decide) (backOf (W := 1) (rm_corAll l Z a0 hw [] t cs.length kb (l1 cs) h105 n0 (Nat.le_trans Z0 K105.1) J108 F110 (by omega)) hZ (w181 hw) (w180 hw) (by decide) (by decide)) (g := (mkF m 32 #[.val (.ref a), .val (.ref o), .val .null, .val (.ref t), .val (.int (Int32.ofNat cs.length))] [(.int (Int32.ofNat cs.length)), (.int (0 : Int32)), (.ref t), (.ref a)])) rfl (by rw [hml]; rfl) (argsL := [(.ref t), (.int (0 : Int32)), (.int (Int32.ofNat cs.length))]) (rest := [(.ref a)]) (lenOf pd__28__5b_BII_29__5b_B rfl) rfl (by show 2 * 0 + _ ≤ _; exact Nat.le_of_eq rfl) (hb hby d_jdk_42_method_150_32) (fun _ _ => ⟨rfl, e105, (Nat.le_of_ble_eq_true rfl), (Nat.le_of_ble_eq_true rfl)⟩)
    dsimp only [Pt.U, Pt.locs, Pt.cells, Pt.slots] at X111 l111 y111 z111 st111 hQ111
    subst l111 y111 z111
    obtain ⟨r_112, kr_113, rfl, Nq111, K111, P111_0, P111_1⟩ := hQ111
    have N111 := Fr.app N105 Nq111
    have F114 : Exa Z T111.heap a "java/lang/String" := ((Z1.keep K105).keep K111)
    have F115 : Fld Z T111.heap a "java/lang/String" "value" "[B" .null := ((Fld.other Wr105 Z2 (Or.inr (slot_ne (Or.inr (w35 hw)) (Or.inr (w33 hw)) (by decide) (t := (.array .byte)) (t' := .byte) (by decide) (by decide)))).keep K111 nin0)
    obtain ⟨T116, h116, X116, e116, Wr116, st116⟩ := putF X111 hx hZ hown (host := "") (Or.inl (w34 hw)) Via.refl rfl F115 F114 (Or.inr ⟨(w35 hw), rfl, hnm⟩) (w8 hw) (ty := (.array .byte)) (by decide) rfl rfl (g := (mkF m 35 #[.val (.ref a), .val (.ref o), .val .null, .val (.ref t), .val (.int (Int32.ofNat cs.length))] [(.ref r_112), (.ref a)])) rfl rfl (hb hby d_jdk_42_method_150_35)
    have K116 := Keep.of_wr Wr116
    have G116 := F115.same Wr116
    have N116 := Fr.snoc X116 N111 g1
    have W117 : ∀ zQ, SS p e below T116 m 97 #[.val (.ref a), .val (.ref o), .val .null, .val (.ref t), .val (.int (Int32.ofNat cs.length))] [] zQ → Steps p.tables e below (s₁.setTop (entryFrame m #[(.ref a), (.ref o), .null] 5)) zQ := by
      intro tt kt
      refine W106 tt ?_
      refine XS.aloadN X105.here hx rfl (hb hby d_jdk_42_method_150_27) rfl rfl ?_
      refine XS.aloadN X105.here hx rfl (hb hby d_jdk_42_method_150_28) rfl rfl ?_
      refine XS.iconst X105.here hx rfl (hb hby d_jdk_42_method_150_29) ?_
      refine XS.iload X105.here hx rfl (hb hby d_jdk_42_method_150_30) rfl ?_
      show SS p e below T105 m 32 #[.val (.ref a), .val (.ref o), .val .null, .val (.ref t), .val (.int (Int32.ofNat cs.length))] [(.int (Int32.ofNat cs.length)), (.int (0 : Int32)), (.ref t), (.ref a)] _
      refine st111 _ ?_
      show SS p e below T111 m 35 #[.val (.ref a), .val (.ref o), .val .null, .val (.ref t), .val (.int (Int32.ofNat cs.length))] [(.ref r_112), (.ref a)] _
      refine st116 _ ?_
      refine XS.goto X116.here hx rfl (pc0 := 38) (pc' := 97) rfl (hb hby d_jdk_42_method_150_38) (by decide) (by decide) ?_
      exact kt
    have F118 : Exa Z h116 a "java/lang/String" := (F114.keep K116)
    have F119 : Fld Z h116 a "java/lang/String" "coder" "B" (.int (0 : Int32)) := (Fld.other Wr116 (G105.keep K111 nin0) (Or.inr (slot_ne (Or.inr (w33 hw)) (Or.inr (w35 hw)) (by decide) (t := .byte) (t' := (.array .byte)) (by decide) (by decide))))
    have F120 : Arv Z h116 r_112 kr_113 .byte (Int32.ofNat cs.length) (l1 cs) (.int (0 : Int32)) := (P111_1.keep K116 (ninS (Ne.symm (Nat.ne_of_lt (Nat.lt_of_lt_of_le (Nat.lt_of_lt_of_le Z1.lt K105.1) P111_0))) nin0))
    obtain ⟨fs, hr, hrun, hended, hW, hsame⟩ := X116.leave (v := none) (fun _ => rfl)
    refine ⟨_, _, W117 _ (X116.returnOut hx Bd.returns (hb hby d_jdk_42_method_150_97) hr), hrun, hended, _, _, rfl, ?_, ⟨_, rfl⟩, hW, hsame.mono (by decide) (by decide)⟩
    show Q_sinitAB Z a o t kb N cs cS h0 n0 _ T116.heap _
    rw [e116]
    exact ⟨r_112, kr_113, rfl, N116, (Keep.trans (Keep.trans (Keep.trans (Keep.refl h0 [a]) K105 (allS (Or.inl (List.mem_of_getElem? (i := 0) rfl)) all0)) K111 all0) K116 (allS (Or.inl (List.mem_of_getElem? (i := 0) rfl)) all0)), (Nat.le_trans K105.1 P111_0), (own_mkA hl ok F118 G116 F119 F120)⟩
  ·
    have F122 : Arv Z h105 t kb .byte (Int32.ofNat N) (l1 cs) (.int (0 : Int32)) := (V1.keep K105 (ninS (Ne.symm hat) nin0))
    have J121 : Arv Z h105 t kb .byte (Int32.ofNat N) (l1 cs ++ List.replicate (N - cs.length) (Value.int (0 : Int32))) (.int (0 : Int32)) := Arv.pad F122 (pad_rep _ _ _)
    obtain ⟨_, _, ⟨T123, L123, k123, n123⟩, -, X123, ⟨Lc123, hQ123, l123, y123, z123⟩, st123⟩ := Jvm.LawKit.callS X105 hx (y := yn23) hown (mvT hZ (w178 hw)) (mvT hZ (w179 hw)) (mvT hZ (w180 hw)) (mvT hZ (w181 hw)) (by decide) (backOf (W := 1) (rm_cor l Z a0 hw [] t 0 cs.length N kb (l1 cs ++ List.replicate (N - cs.length) (Value.int (0 : Int32))) h105 n0 (Nat.le_trans Z0 K105.1) J121 (by rw [List.length_append, List.length_replicate, l1_len]; omega) (Nat.zero_le _) hle (by omega) (by omega) (fun _ => hc107)) hZ (w181 hw) (w180 hw) (by decide) (by decide)) (g := (mkF m 32 #[.val (.ref a), .val (.ref o), .val .null, .val (.ref t), .val (.int (Int32.ofNat cs.length))] [(.int (Int32.ofNat cs.length)), (.int (0 : Int32)), (.ref t), (.ref a)])) rfl (by rw [hml]; rfl) (argsL := [(.ref t), (.int (0 : Int32)), (.int (Int32.ofNat cs.length))]) (rest := [(.ref a)]) (lenOf pd__28__5b_BII_29__5b_B rfl) rfl (by show 2 * 0 + _ ≤ _; exact Nat.le_of_eq rfl) (hb hby d_jdk_42_method_150_32) (fun _ _ => ⟨rfl, e105, (Nat.le_of_ble_eq_true rfl), (Nat.le_of_ble_eq_true rfl)⟩)
    dsimp only [Pt.U, Pt.locs, Pt.cells, Pt.slots] at X123 l123 y123 z123 st123 hQ123
    subst l123 y123 z123
    obtain ⟨r_124, kr_125, rfl, Nq123, K123, P123_0, P123_1⟩ := hQ123
    have N123 := Fr.app N105 Nq123
    have J126 : Arv Z T123.heap r_124 kr_125 .byte (Int32.ofNat cs.length) (l1 cs) (.int (0 : Int32)) := by have q := P123_1; rw [own_cor0, Nat.sub_zero] at q; exact q
    have F127 : Exa Z T123.heap a "java/lang/String" := ((Z1.keep K105).keep K123)
    have F128 : Fld Z T123.heap a "java/lang/String" "value" "[B" .null := ((Fld.other Wr105 Z2 (Or.inr (slot_ne (Or.inr (w35 hw)) (Or.inr (w33 hw)) (by decide) (t := (.array .byte)) (t' := .byte) (by decide) (by decide)))).keep K123 nin0)
    obtain ⟨T129, h129, X129, e129, Wr129, st129⟩ := putF X123 hx hZ hown (host := "") (Or.inl (w34 hw)) Via.refl rfl F128 F127 (Or.inr ⟨(w35 hw), rfl, hnm⟩) (w8 hw) (ty := (.array .byte)) (by decide) rfl rfl (g := (mkF m 35 #[.val (.ref a), .val (.ref o), .val .null, .val (.ref t), .val (.int (Int32.ofNat cs.length))] [(.ref r_124), (.ref a)])) rfl rfl (hb hby d_jdk_42_method_150_35)
    have K129 := Keep.of_wr Wr129
    have G129 := F128.same Wr129
    have N129 := Fr.snoc X129 N123 g1
    have W130 : ∀ zQ, SS p e below T129 m 97 #[.val (.ref a), .val (.ref o), .val .null, .val (.ref t), .val (.int (Int32.ofNat cs.length))] [] zQ → Steps p.tables e below (s₁.setTop (entryFrame m #[(.ref a), (.ref o), .null] 5)) zQ := by
      intro tt kt
      refine W106 tt ?_
      refine XS.aloadN X105.here hx rfl (hb hby d_jdk_42_method_150_27) rfl rfl ?_
      refine XS.aloadN X105.here hx rfl (hb hby d_jdk_42_method_150_28) rfl rfl ?_
      refine XS.iconst X105.here hx rfl (hb hby d_jdk_42_method_150_29) ?_
      refine XS.iload X105.here hx rfl (hb hby d_jdk_42_method_150_30) rfl ?_
      show SS p e below T105 m 32 #[.val (.ref a), .val (.ref o), .val .null, .val (.ref t), .val (.int (Int32.ofNat cs.length))] [(.int (Int32.ofNat cs.length)), (.int (0 : Int32)), (.ref t), (.ref a)] _
      refine st123 _ ?_
      show SS p e below T123 m 35 #[.val (.ref a), .val (.ref o), .val .null, .val (.ref t), .val (.int (Int32.ofNat cs.length))] [(.ref r_124), (.ref a)] _
      refine st129 _ ?_
      refine XS.goto X129.here hx rfl (pc0 := 38) (pc' := 97) rfl (hb hby d_jdk_42_method_150_38) (by decide) (by decide) ?_
      exact kt
    have F131 : Exa Z h129 a "java/lang/String" := (F127.keep K129)
    have F132 : Fld Z h129 a "java/lang/String" "coder" "B" (.int (0 : Int32)) := (Fld.other Wr129 (G105.keep K123 nin0) (Or.inr (slot_ne (Or.inr (w33 hw)) (Or.inr (w35 hw)) (by decide) (t := .byte) (t' := (.array .byte)) (by decide) (by decide))))
    have F133 : Arv Z h129 r_124 kr_125 .byte (Int32.ofNat cs.length) (l1 cs) (.int (0 : Int32)) := (J126.keep K129 (ninS (Ne.symm (Nat.ne_of_lt (Nat.lt_of_lt_of_le (Nat.lt_of_lt_of_le Z1.lt K105.1) P123_0))) nin0))
    obtain ⟨fs, hr, hrun, hended, hW, hsame⟩ := X129.leave (v := none) (fun _ => rfl)
    refine ⟨_, _, W130 _ (X129.returnOut hx Bd.returns (hb hby d_jdk_42_method_150_97) hr), hrun, hended, _, _, rfl, ?_, ⟨_, rfl⟩, hW, hsame.mono (by decide) (by decide)⟩
    show Q_sinitAB Z a o t kb N cs cS h0 n0 _ T129.heap _
    rw [e129]
    exact ⟨r_124, kr_125, rfl, N129, (Keep.trans (Keep.trans (Keep.trans (Keep.refl h0 [a]) K105 (allS (Or.inl (List.mem_of_getElem? (i := 0) rfl)) all0)) K123 all0) K129 (allS (Or.inl (List.mem_of_getElem? (i := 0) rfl)) all0)), (Nat.le_trans K105.1 P123_0), (own_mkA hl ok F131 G129 F132 F133)⟩
def Q_sinitSB (Z : State) (a : Addr) (o : Addr) (t : Addr) (kb : ClassId) (N : Nat) (cs : List Int32) (cS : Int32) (h0 : Heap) (n0 : Nat) (vQ_ : Option Value) (hQ_ : Heap) (LQ_ : List Loc) : Prop := ∃ t2 : Addr, ∃ kb2 : ClassId, vQ_ = none ∧ Fr n0 LQ_ ∧ Keep h0 hQ_ [a] ∧ h0.size ≤ t2 ∧ Str Z hQ_ a t2 kb2 cs
set_option maxRecDepth 65536 in
set_option maxHeartbeats 40000000 in
theorem rm_sinitSB (l : Launch) (Z : State) (a0 : Array Value) (hw : HW a0 Z) (ws : List Jvm.Cond) (a : Addr) (o : Addr) (t : Addr) (kb : ClassId) (N : Nat) (cs : List Int32) (cS : Int32) (h0 : Heap) (n0 : Nat) (Z0 : n0 ≤ h0.size) (O0 : Old Z n0 h0) (S_cs : Sta Z Z.heap "java/lang/String" "COMPACT_STRINGS" "Z" (.int cS)) (hcS : ¬ (cS = (0 : Int32))) (Z1 : Exa Z h0 a "java/lang/String") (Z2 : Fld Z h0 a "java/lang/String" "value" "[B" .null) (Z3 : Fld Z h0 a "java/lang/String" "coder" "B" (.int (0 : Int32))) (g1 : n0 ≤ a) (E1 : Exa Z h0 o "java/lang/StringBuilder") (F1 : Fld Z h0 o "java/lang/AbstractStringBuilder" "value" "[B" (.ref t)) (F2 : Fld Z h0 o "java/lang/AbstractStringBuilder" "coder" "B" (.int (0 : Int32))) (F3 : Fld Z h0 o "java/lang/AbstractStringBuilder" "count" "I" (.int (Int32.ofNat cs.length))) (V1 : Arv Z h0 t kb .byte (Int32.ofNat N) (l1 cs) (.int (0 : Int32))) (E2 : Exa Z h0 t "[B") (hle : cs.length ≤ N) (hN : N ≤ 7) (hl : lat cs = true) (ok : OkS cs) (hao : a ≠ o) (hat : a ≠ t) :
    MetFree l yn40 (head1 (Jvm.Cond.code yn40 jdk_42_method_53_code 2 none :: ws) ({ frames := 4, cells := 1, slots := 8, locals := 111 } : Room)) (fun aQ_ UQ => aQ_ = #[(.ref a), (.ref o)] ∧ Z.Warmed39 UQ.vm ∧ UQ.heap = h0) (fun _ _ _ _ _ => True) (fun _ UQ oQ UQ' => ∃ vQ_ LQ_, oQ = .returned vQ_ ∧ Q_sinitSB Z a o t kb N cs cS h0 n0 vQ_ UQ'.heap LQ_ ∧ FrameEnd UQ oQ UQ' LQ_ ({ frames := 4, cells := 1, slots := 8, locals := 111 } : Room).cells ({ frames := 4, cells := 1, slots := 8, locals := 111 } : Room).slots) := by
  refine MetFree.of_bodySF (plainFor_of_name pn_java_lang_String) hisR ?_
  intro p e s m args below meth cO s₁ Bd hml0 hP hK
  obtain ⟨rfl, hZ, hh⟩ := hP
  have hx := Bd.exec
  have hby := Bd.bytes
  have hml : cO.maxLocals = 2 := hml0
  have hown : s.vm.findClass "java/lang/String" = some m.cls := findClass_of_methodNamed Bd.named
  have hnm := (name_of_methodNamed Bd.named Bd.method).1
  have X0 : Stand p l e ({ frames := 4, cells := 1, slots := 8, locals := 111 } : Room) s m #[(.ref a), (.ref o)] below meth cO s₁ [] 0 0 := Stand.of_body Bd
  have e0 : s₁.heap = h0 := by rw [← hh, Bd.state]; rfl
  have N0 := Fr.nil n0
  have W0 : ∀ zQ, SS p e below s₁ m 0 #[.val (.ref a), .val (.ref o)] [] zQ → Steps p.tables e below (s₁.setTop (entryFrame m #[(.ref a), (.ref o)] 2)) zQ := fun tt kt => castTop (ef_sinitSB m a o) kt
  obtain ⟨_, _, ⟨T101, L101, k101, n101⟩, -, X101, ⟨Lc101, hQ101, l101, y101, z101⟩, st101⟩ := X0.specialBack hx (y := yn39) rfl hown (mvT hZ (w161 hw)) (mvT hZ (w162 hw)) (mvT hZ (w163 hw)) (by decide) (backOf (W := 0) (rm_sinitAB l Z a0 hw [] a o t kb N cs cS h0 n0 Z0 O0 S_cs hcS Z1 Z2 Z3 g1 E1 F1 F2 F3 V1 E2 hle hN hl ok hao hat) hZ (w163 hw) (w9 hw) (by decide) (by decide)) (g := (mkF m 3 #[.val (.ref a), .val (.ref o)] [.null, (.ref o), (.ref a)])) rfl (by rw [hml]; rfl) (Steps.refl _) (a := a) (argsL := [(.ref o), .null]) (rest := []) (lenOf pd__28_Ljava_2f_lang_2f_AbstractStringBuilder_3b_Ljava_2f_lang_2f_Void_3b__29_V rfl) rfl (by show 2 * 0 + _ ≤ _; exact Nat.le_of_eq rfl) (hb hby d_jdk_42_method_53_3) (fun _ _ => ⟨rfl, e0, (Nat.le_of_ble_eq_true rfl), (Nat.le_of_ble_eq_true rfl)⟩)
  dsimp only [Pt.U, Pt.locs, Pt.cells, Pt.slots] at X101 l101 y101 z101 st101 hQ101
  subst l101 y101 z101
  obtain ⟨t2_102, kb2_103, rfl, Nq101, K101, P101_0, P101_1⟩ := hQ101
  have N101 := Fr.app N0 Nq101
  have W104 : ∀ zQ, SS p e below T101 m 6 #[.val (.ref a), .val (.ref o)] [] zQ → Steps p.tables e below (s₁.setTop (entryFrame m #[(.ref a), (.ref o)] 2)) zQ := by
    intro tt kt
    refine W0 tt ?_
    refine XS.aloadN X0.here hx rfl (hb hby d_jdk_42_method_53_0) rfl rfl ?_
    refine XS.aloadN X0.here hx rfl (hb hby d_jdk_42_method_53_1) rfl rfl ?_
    refine XS.aconstNull X0.here hx rfl (hb hby d_jdk_42_method_53_2) ?_
    show SS p e below s₁ m 3 #[.val (.ref a), .val (.ref o)] [.null, (.ref o), (.ref a)] _
    refine st101.trans ?_
    exact kt
  obtain ⟨fs, hr, hrun, hended, hW, hsame⟩ := X101.leave (v := none) (fun _ => rfl)
  refine ⟨_, _, W104 _ (X101.returnOut hx Bd.returns (hb hby d_jdk_42_method_53_6) hr), hrun, hended, _, _, rfl, ?_, ⟨_, rfl⟩, hW, hsame.mono (by decide) (by decide)⟩
  show Q_sinitSB Z a o t kb N cs cS h0 n0 _ T101.heap _
  exact ⟨t2_102, kb2_103, rfl, N101, (Keep.trans (Keep.refl h0 [a]) K101 (allS (Or.inl (List.mem_of_getElem? (i := 0) rfl)) all0)), P101_0, P101_1⟩
def Q_sbToString (Z : State) (o : Addr) (t : Addr) (kb : ClassId) (N : Nat) (cs : List Int32) (cS : Int32) (h0 : Heap) (n0 : Nat) (vQ_ : Option Value) (hQ_ : Heap) (LQ_ : List Loc) : Prop := ∃ r : Addr, ∃ t2 : Addr, ∃ kb2 : ClassId, vQ_ = some (.ref r) ∧ Fr n0 LQ_ ∧ Keep h0 hQ_ [] ∧ h0.size ≤ r ∧ h0.size ≤ t2 ∧ Str Z hQ_ r t2 kb2 cs
set_option maxRecDepth 65536 in
set_option maxHeartbeats 40000000 in
theorem rm_sbToString (l : Launch) (Z : State) (a0 : Array Value) (hw : HW a0 Z) (ws : List Jvm.Cond) (o : Addr) (t : Addr) (kb : ClassId) (N : Nat) (cs : List Int32) (cS : Int32) (h0 : Heap) (n0 : Nat) (Z0 : n0 ≤ h0.size) (O0 : Old Z n0 h0) (S_cs : Sta Z Z.heap "java/lang/String" "COMPACT_STRINGS" "Z" (.int cS)) (hcS : ¬ (cS = (0 : Int32))) (E1 : Exa Z h0 o "java/lang/StringBuilder") (F1 : Fld Z h0 o "java/lang/AbstractStringBuilder" "value" "[B" (.ref t)) (F2 : Fld Z h0 o "java/lang/AbstractStringBuilder" "coder" "B" (.int (0 : Int32))) (F3 : Fld Z h0 o "java/lang/AbstractStringBuilder" "count" "I" (.int (Int32.ofNat cs.length))) (V1 : Arv Z h0 t kb .byte (Int32.ofNat N) (l1 cs) (.int (0 : Int32))) (E2 : Exa Z h0 t "[B") (hle : cs.length ≤ N) (hN : N ≤ 7) (hl : lat cs = true) (ok : OkS cs) :
    MetFree l yn41 (head1 (Jvm.Cond.code yn41 jdk_67_method_42_code 1 (some (.object "java/lang/String")) :: ws) ({ frames := 5, cells := 2, slots := 12, locals := 125 } : Room)) (fun aQ_ UQ => aQ_ = #[(.ref o)] ∧ Z.Warmed39 UQ.vm ∧ UQ.heap = h0) (fun _ _ _ _ _ => True) (fun _ UQ oQ UQ' => ∃ vQ_ LQ_, oQ = .returned vQ_ ∧ Q_sbToString Z o t kb N cs cS h0 n0 vQ_ UQ'.heap LQ_ ∧ FrameEnd UQ oQ UQ' LQ_ ({ frames := 5, cells := 2, slots := 12, locals := 125 } : Room).cells ({ frames := 5, cells := 2, slots := 12, locals := 125 } : Room).slots) := by
  refine MetFree.of_bodySF (plainFor_of_name pn_java_lang_StringBuilder) hisR ?_
  intro p e s m args below meth cO s₁ Bd hml0 hP hK
  obtain ⟨rfl, hZ, hh⟩ := hP
  have hx := Bd.exec
  have hby := Bd.bytes
  have hml : cO.maxLocals = 1 := hml0
  have hown : s.vm.findClass "java/lang/StringBuilder" = some m.cls := findClass_of_methodNamed Bd.named
  have hnm := (name_of_methodNamed Bd.named Bd.method).1
  have X0 : Stand p l e ({ frames := 5, cells := 2, slots := 12, locals := 125 } : Room) s m #[(.ref o)] below meth cO s₁ [] 0 0 := Stand.of_body Bd
  have e0 : s₁.heap = h0 := by rw [← hh, Bd.state]; rfl
  have N0 := Fr.nil n0
  have W0 : ∀ zQ, SS p e below s₁ m 0 #[.val (.ref o)] [] zQ → Steps p.tables e below (s₁.setTop (entryFrame m #[(.ref o)] 1)) zQ := fun tt kt => castTop (ef_sbToString m o) kt
  obtain ⟨T101, h101, X101, e101, E101, A101, D101, U101, st101⟩ := newO X0 hx hZ hown (w157 hw) (w8 hw) (w9 hw) e0 (g := (mkF m 0 #[.val (.ref o)] [])) rfl (hb hby d_jdk_67_method_42_0) (by decide) (by decide)
  obtain ⟨b101, g101⟩ : ∃ z, z = h0.size := ⟨_, rfl⟩
  rw [← g101] at A101 D101 U101 st101
  have K101 := (Keep.refl h0 []).ext E101
  have G101_coder : Fld Z h101 b101 "java/lang/String" "coder" "B" (.int (0 : Int32)) := D101 (Or.inr (w33 hw)) (ty := .byte) (by decide)
  have G101_value : Fld Z h101 b101 "java/lang/String" "value" "[B" .null := D101 (Or.inr (w35 hw)) (ty := (.array .byte)) (by decide)
  have F102 : Exa Z h101 o "java/lang/StringBuilder" := (E1.keep K101)
  have F103 : Fld Z h101 o "java/lang/AbstractStringBuilder" "value" "[B" (.ref t) := (F1.keep K101 nin0)
  have F104 : Fld Z h101 o "java/lang/AbstractStringBuilder" "coder" "B" (.int (0 : Int32)) := (F2.keep K101 nin0)
  have F105 : Fld Z h101 o "java/lang/AbstractStringBuilder" "count" "I" (.int (Int32.ofNat cs.length)) := (F3.keep K101 nin0)
  have F106 : Arv Z h101 t kb .byte (Int32.ofNat N) (l1 cs) (.int (0 : Int32)) := (V1.keep K101 nin0)
  have F107 : Exa Z h101 t "[B" := (E2.keep K101)
  have O108 : Old Z n0 h101 := (O0.keep K101 all0)
  obtain ⟨_, _, ⟨T109, L109, k109, n109⟩, -, X109, ⟨Lc109, hQ109, l109, y109, z109⟩, st109⟩ := X101.specialBack hx (y := yn40) rfl hown (mvT hZ (w158 hw)) (mvT hZ (w159 hw)) (mvT hZ (w160 hw)) (by decide) (backOf (W := 1) (rm_sinitSB l Z a0 hw [] b101 o t kb N cs cS h101 n0 (Nat.le_trans Z0 K101.1) O108 S_cs hcS A101 G101_value G101_coder (Nat.le_trans Z0 (Nat.le_of_eq g101.symm)) F102 F103 F104 F105 F106 F107 hle hN hl ok (Ne.symm (Nat.ne_of_lt (Nat.lt_of_lt_of_le E1.lt (Nat.le_of_eq g101.symm)))) (Ne.symm (Nat.ne_of_lt (Nat.lt_of_lt_of_le V1.lt (Nat.le_of_eq g101.symm))))) hZ (w160 hw) (w9 hw) (by decide) (by decide)) (g := (mkF m 5 #[.val (.ref o)] [(.ref o), (.ref b101), (.ref b101)])) rfl (by rw [hml]; rfl) (Steps.refl _) (a := b101) (argsL := [(.ref o)]) (rest := [(.ref b101)]) (lenOf pd__28_Ljava_2f_lang_2f_StringBuilder_3b__29_V rfl) rfl (by show 2 * 0 + _ ≤ _; exact Nat.le_of_eq rfl) (hb hby d_jdk_67_method_42_5) (fun _ _ => ⟨rfl, e101, (Nat.le_of_ble_eq_true rfl), (Nat.le_of_ble_eq_true rfl)⟩)
  dsimp only [Pt.U, Pt.locs, Pt.cells, Pt.slots] at X109 l109 y109 z109 st109 hQ109
  subst l109 y109 z109
  obtain ⟨t2_110, kb2_111, rfl, Nq109, K109, P109_0, P109_1⟩ := hQ109
  have N109 := Fr.app N0 Nq109
  have W112 : ∀ zQ, SS p e below T109 m 8 #[.val (.ref o)] [(.ref b101)] zQ → Steps p.tables e below (s₁.setTop (entryFrame m #[(.ref o)] 1)) zQ := by
    intro tt kt
    refine W0 tt ?_
    refine st101 _ ?_
    refine XS.dup X101.here hx rfl (hb hby d_jdk_67_method_42_3) rfl rfl ?_
    refine XS.aloadN X101.here hx rfl (hb hby d_jdk_67_method_42_4) rfl rfl ?_
    show SS p e below T101 m 5 #[.val (.ref o)] [(.ref o), (.ref b101), (.ref b101)] _
    refine st109.trans ?_
    exact kt
  obtain ⟨fs, hr, hrun, hended, hW, hsame⟩ := X109.leave (v := some (.ref b101)) (fun h => by rw [Bd.returns] at h; cases h)
  refine ⟨_, _, W112 _ (own_retR X109 hx Bd.returns rfl rfl (hb hby d_jdk_67_method_42_8) hr), hrun, hended, _, _, rfl, ?_, ⟨_, rfl⟩, hW, hsame.mono (by decide) (by decide)⟩
  show Q_sbToString Z o t kb N cs cS h0 n0 _ T109.heap _
  exact ⟨b101, t2_110, kb2_111, rfl, N109, (Keep.trans (Keep.trans (Keep.refl h0 []) K101 all0) K109 (allS (Or.inr (Nat.le_of_eq g101.symm)) all0)), (Nat.le_of_eq g101.symm), (Nat.le_trans K101.1 P109_0), P109_1⟩
def Q_safe (Z : State) (c : Int32) (h0 : Heap) (n0 : Nat) (vQ_ : Option Value) (hQ_ : Heap) (LQ_ : List Loc) : Prop := vQ_ = some (.int (pr c)) ∧ Fr n0 LQ_ ∧ hQ_ = h0
set_option maxRecDepth 65536 in
set_option maxHeartbeats 40000000 in
theorem rm_safe (l : Launch) (Z : State) (a0 : Array Value) (hw : HW a0 Z) (ws : List Jvm.Cond) (c : Int32) (h0 : Heap) (n0 : Nat) (Z0 : n0 ≤ h0.size) (hc0 : ¬ (c < (0 : Int32))) (hc1 : ¬ ((65535 : Int32) < c)) :
    MetFree l yn42 (head1 (Jvm.Cond.code yn42 method_2_code 1 (some .char) :: ws) ({ frames := 0, cells := 0, slots := 0, locals := 0 } : Room)) (fun aQ_ UQ => aQ_ = #[(.int c)] ∧ Z.Warmed39 UQ.vm ∧ UQ.heap = h0) (fun _ _ _ _ _ => True) (fun _ UQ oQ UQ' => ∃ vQ_ LQ_, oQ = .returned vQ_ ∧ Q_safe Z c h0 n0 vQ_ UQ'.heap LQ_ ∧ FrameEnd UQ oQ UQ' LQ_ ({ frames := 0, cells := 0, slots := 0, locals := 0 } : Room).cells ({ frames := 0, cells := 0, slots := 0, locals := 0 } : Room).slots) := by
  refine MetFree.of_bodySF (plainFor_of_name pn_com_example_patents_via_api_patentsviaapi_errors_UntrustedTextPrintablePinLaw) hisR ?_
  intro p e s m args below meth cO s₁ Bd hml0 hP hK
  obtain ⟨rfl, hZ, hh⟩ := hP
  have hx := Bd.exec
  have hby := Bd.bytes
  have hml : cO.maxLocals = 1 := hml0
  have hown : s.vm.findClass "com/example/patents_via_api/patentsviaapi/errors/UntrustedTextPrintablePinLaw" = some m.cls := findClass_of_methodNamed Bd.named
  have hnm := (name_of_methodNamed Bd.named Bd.method).1
  have X0 : Stand p l e ({ frames := 0, cells := 0, slots := 0, locals := 0 } : Room) s m #[(.int c)] below meth cO s₁ [] 0 0 := Stand.of_body Bd
  have e0 : s₁.heap = h0 := by rw [← hh, Bd.state]; rfl
  have N0 := Fr.nil n0
  have W0 : ∀ zQ, SS p e below s₁ m 0 #[.val (.int c)] [] zQ → Steps p.tables e below (s₁.setTop (entryFrame m #[(.int c)] 1)) zQ := fun tt kt => castTop (ef_safe m c) kt
  have W101 : ∀ zQ, SS p e below s₁ m 3 #[.val (.int c)] [(.int (32 : Int32)), (.int c)] zQ → Steps p.tables e below (s₁.setTop (entryFrame m #[(.int c)] 1)) zQ := by
    intro tt kt
    refine W0 tt ?_
    refine XS.iloadN X0.here hx rfl (hb hby d_method_2_0) rfl ?_
    refine XS.bipush X0.here hx rfl (hb hby d_method_2_1) ?_
    exact kt
  by_cases hc102 : c < (32 : Int32)
  ·
    have W103 : ∀ zQ, SS p e below s₁ m 8 #[.val (.int c)] [(.int (63 : Int32))] zQ → Steps p.tables e below (s₁.setTop (entryFrame m #[(.int c)] 1)) zQ := by
      intro tt kt
      refine W101 tt ?_
      refine XS.icmpNo X0.here hx rfl (hb hby d_method_2_3) rfl (tlt hc102).2.1 ?_
      refine XS.bipush X0.here hx rfl (hb hby d_method_2_6) ?_
      exact kt
    obtain ⟨fs, hr, hrun, hended, hW, hsame⟩ := X0.leave (v := some (.int (nar .char (63 : Int32)))) (fun h => by rw [Bd.returns] at h; cases h)
    refine ⟨_, _, W103 _ (retN X0 hx (t := .char) Bd.returns (by simp) (hb hby d_method_2_8) hr), hrun, hended, _, _, rfl, ?_, ⟨_, rfl⟩, hW, hsame.mono (by decide) (by decide)⟩
    show Q_safe Z c h0 n0 _ s₁.heap _
    rw [e0]
    exact ⟨(congrArg (fun q => some (Value.int q)) (by simp only [pr, if_pos hc102]; first | done | decide)), N0, rfl⟩
  ·
    have W104 : ∀ zQ, SS p e below s₁ m 12 #[.val (.int c)] [(.int (126 : Int32)), (.int c)] zQ → Steps p.tables e below (s₁.setTop (entryFrame m #[(.int c)] 1)) zQ := by
      intro tt kt
      refine W101 tt ?_
      refine XS.icmpYes X0.here hx rfl (pc0 := 3) (pc' := 9) rfl (hb hby d_method_2_3) rfl (flt hc102).2.1 (by decide) (by decide) ?_
      refine XS.iloadN X0.here hx rfl (hb hby d_method_2_9) rfl ?_
      refine XS.bipush X0.here hx rfl (hb hby d_method_2_10) ?_
      exact kt
    by_cases hc105 : (126 : Int32) < c
    ·
      have W106 : ∀ zQ, SS p e below s₁ m 17 #[.val (.int c)] [(.int (63 : Int32))] zQ → Steps p.tables e below (s₁.setTop (entryFrame m #[(.int c)] 1)) zQ := by
        intro tt kt
        refine W104 tt ?_
        refine XS.icmpNo X0.here hx rfl (hb hby d_method_2_12) rfl (tlt hc105).2.2.2 ?_
        refine XS.bipush X0.here hx rfl (hb hby d_method_2_15) ?_
        exact kt
      obtain ⟨fs, hr, hrun, hended, hW, hsame⟩ := X0.leave (v := some (.int (nar .char (63 : Int32)))) (fun h => by rw [Bd.returns] at h; cases h)
      refine ⟨_, _, W106 _ (retN X0 hx (t := .char) Bd.returns (by simp) (hb hby d_method_2_17) hr), hrun, hended, _, _, rfl, ?_, ⟨_, rfl⟩, hW, hsame.mono (by decide) (by decide)⟩
      show Q_safe Z c h0 n0 _ s₁.heap _
      rw [e0]
      exact ⟨(congrArg (fun q => some (Value.int q)) (by simp only [pr, if_neg hc102, if_pos hc105]; first | done | decide)), N0, rfl⟩
    ·
      have W107 : ∀ zQ, SS p e below s₁ m 19 #[.val (.int c)] [(.int c)] zQ → Steps p.tables e below (s₁.setTop (entryFrame m #[(.int c)] 1)) zQ := by
        intro tt kt
        refine W104 tt ?_
        refine XS.icmpYes X0.here hx rfl (pc0 := 12) (pc' := 18) rfl (hb hby d_method_2_12) rfl (flt hc105).2.2.2 (by decide) (by decide) ?_
        refine XS.iloadN X0.here hx rfl (hb hby d_method_2_18) rfl ?_
        exact kt
      obtain ⟨fs, hr, hrun, hended, hW, hsame⟩ := X0.leave (v := some (.int (nar .char c))) (fun h => by rw [Bd.returns] at h; cases h)
      refine ⟨_, _, W107 _ (retN X0 hx (t := .char) Bd.returns (by simp) (hb hby d_method_2_19) hr), hrun, hended, _, _, rfl, ?_, ⟨_, rfl⟩, hW, hsame.mono (by decide) (by decide)⟩
      show Q_safe Z c h0 n0 _ s₁.heap _
      rw [e0]
      exact ⟨(congrArg (fun q => some (Value.int q)) (by simp only [pr, if_neg hc102, if_neg hc105]; exact own_narc hc0 hc1)), N0, rfl⟩
def Q_okay (Z : State) (a : Addr) (ea : Addr) (i : Nat) (kk : Nat) (n : Nat) (kc : ClassId) (es : List Int32) (t : Addr) (kb : ClassId) (rs : List Int32) (cS : Int32) (fm : Value) (h0 : Heap) (n0 : Nat) (vQ_ : Option Value) (hQ_ : Heap) (LQ_ : List Loc) : Prop := vQ_ = some (.int (1 : Int32)) ∧ Fr n0 LQ_ ∧ hQ_ = h0
set_option maxRecDepth 65536 in
set_option maxHeartbeats 40000000 in
theorem rm_okay (l : Launch) (Z : State) (a0 : Array Value) (hw : HW a0 Z) (ws : List Jvm.Cond) (a : Addr) (ea : Addr) (i : Nat) (kk : Nat) (n : Nat) (kc : ClassId) (es : List Int32) (t : Addr) (kb : ClassId) (rs : List Int32) (cS : Int32) (fm : Value) (h0 : Heap) (n0 : Nat) (Z0 : n0 ≤ h0.size) (O0 : Old Z n0 h0) (S_cs : Sta Z Z.heap "java/lang/String" "COMPACT_STRINGS" "Z" (.int cS)) (hcS : ¬ (cS = (0 : Int32))) (S_fm : Sta Z Z.heap "jdk/internal/util/Preconditions" "SIOOBE_FORMATTER" "Ljava/util/function/BiFunction;" fm) (hfm : fm.isRef = true) (S_ad : Sta Z Z.heap "java/lang/StringUTF16" "$assertionsDisabled" "Z" (.int (1 : Int32))) (S_hi : Sta Z Z.heap "java/lang/StringUTF16" "HI_BYTE_SHIFT" "I" (.int (0 : Int32))) (S_lo : Sta Z Z.heap "java/lang/StringUTF16" "LO_BYTE_SHIFT" "I" (.int (8 : Int32))) (hS : Str Z h0 a t kb rs) (V1 : Arv Z h0 ea kc .char (Int32.ofNat es.length) (es.map fun q => Value.int q) (.int (0 : Int32))) (hn : n = rs.length) (hp : i < n → rs.getD i 0 = if i < kk then es.getD i 0 else 46) (hkk : kk ≤ es.length) (hi : i < 16) (hes : es.length < 16) :
    MetFree l yn43 (head1 (Jvm.Cond.code yn43 method_3_code 6 (some .boolean) :: ws) ({ frames := 5, cells := 0, slots := 0, locals := 66 } : Room)) (fun aQ_ UQ => aQ_ = #[(.ref a), (.int (Int32.ofNat i)), (.int (Int32.ofNat kk)), (.int (Int32.ofNat n)), (.ref ea)] ∧ Z.Warmed39 UQ.vm ∧ UQ.heap = h0) (fun _ _ _ _ _ => True) (fun _ UQ oQ UQ' => ∃ vQ_ LQ_, oQ = .returned vQ_ ∧ Q_okay Z a ea i kk n kc es t kb rs cS fm h0 n0 vQ_ UQ'.heap LQ_ ∧ FrameEnd UQ oQ UQ' LQ_ ({ frames := 5, cells := 0, slots := 0, locals := 66 } : Room).cells ({ frames := 5, cells := 0, slots := 0, locals := 66 } : Room).slots) := by
  refine MetFree.of_bodySF (plainFor_of_name pn_com_example_patents_via_api_patentsviaapi_errors_UntrustedTextPrintablePinLaw) hisR ?_
  intro p e s m args below meth cO s₁ Bd hml0 hP hK
  obtain ⟨rfl, hZ, hh⟩ := hP
  have hx := Bd.exec
  have hby := Bd.bytes
  have hml : cO.maxLocals = 6 := hml0
  have hown : s.vm.findClass "com/example/patents_via_api/patentsviaapi/errors/UntrustedTextPrintablePinLaw" = some m.cls := findClass_of_methodNamed Bd.named
  have hnm := (name_of_methodNamed Bd.named Bd.method).1
  have X0 : Stand p l e ({ frames := 5, cells := 0, slots := 0, locals := 66 } : Room) s m #[(.ref a), (.int (Int32.ofNat i)), (.int (Int32.ofNat kk)), (.int (Int32.ofNat n)), (.ref ea)] below meth cO s₁ [] 0 0 := Stand.of_body Bd
  have e0 : s₁.heap = h0 := by rw [← hh, Bd.state]; rfl
  have N0 := Fr.nil n0
  have W0 : ∀ zQ, SS p e below s₁ m 0 #[.val (.ref a), .val (.int (Int32.ofNat i)), .val (.int (Int32.ofNat kk)), .val (.int (Int32.ofNat n)), .val (.ref ea), .unset] [] zQ → Steps p.tables e below (s₁.setTop (entryFrame m #[(.ref a), (.int (Int32.ofNat i)), (.int (Int32.ofNat kk)), (.int (Int32.ofNat n)), (.ref ea)] 6)) zQ := fun tt kt => castTop (ef_okay m a (Int32.ofNat i) (Int32.ofNat kk) (Int32.ofNat n) ea) kt
  have hnn : n < 1048576 := by rw [hn]; exact hS.2.2.2.2.2
  have W101 : ∀ zQ, SS p e below s₁ m 2 #[.val (.ref a), .val (.int (Int32.ofNat i)), .val (.int (Int32.ofNat kk)), .val (.int (Int32.ofNat n)), .val (.ref ea), .unset] [(.int (Int32.ofNat n)), (.int (Int32.ofNat i))] zQ → Steps p.tables e below (s₁.setTop (entryFrame m #[(.ref a), (.int (Int32.ofNat i)), (.int (Int32.ofNat kk)), (.int (Int32.ofNat n)), (.ref ea)] 6)) zQ := by
    intro tt kt
    refine W0 tt ?_
    refine XS.iloadN X0.here hx rfl (hb hby d_method_3_0) rfl ?_
    refine XS.iloadN X0.here hx rfl (hb hby d_method_3_1) rfl ?_
    exact kt
  by_cases hc102 : (Int32.ofNat i) < (Int32.ofNat n)
  ·
    have hlt : i < n := own_ltof (by omega) (by omega) hc102
    have hpp := hp hlt
    have W103 : ∀ zQ, SS p e below s₁ m 9 #[.val (.ref a), .val (.int (Int32.ofNat i)), .val (.int (Int32.ofNat kk)), .val (.int (Int32.ofNat n)), .val (.ref ea), .unset] [(.int (Int32.ofNat kk)), (.int (Int32.ofNat i))] zQ → Steps p.tables e below (s₁.setTop (entryFrame m #[(.ref a), (.int (Int32.ofNat i)), (.int (Int32.ofNat kk)), (.int (Int32.ofNat n)), (.ref ea)] 6)) zQ := by
      intro tt kt
      refine W101 tt ?_
      refine XS.icmpYes X0.here hx rfl (pc0 := 2) (pc' := 7) rfl (hb hby d_method_3_2) rfl (tlt hc102).1 (by decide) (by decide) ?_
      refine XS.iloadN X0.here hx rfl (hb hby d_method_3_7) rfl ?_
      refine XS.iloadN X0.here hx rfl (hb hby d_method_3_8) rfl ?_
      exact kt
    by_cases hc104 : (Int32.ofNat i) < (Int32.ofNat kk)
    ·
      have hik : i < kk := own_ltof (by omega) (by omega) hc104
      rw [if_pos hik] at hpp
      obtain ⟨cl105, Ar105, q105, S105, M105, H105, F105g⟩ := id V1
      have hin105 : ¬ ((Int32.ofNat i) < 0 ∨ cl105.slots.size ≤ ((Int32.ofNat i)).toNatClampNeg) := inb_of S105 ⟨own_nneg (by omega), own_lt (by omega) (by omega)⟩
      have hat105 : cl105.slots[((Int32.ofNat i)).toNatClampNeg]? = some (.int (es.getD i 0)) := Has.at H105 hin105 (by rw [own_cl (by omega)]; exact own_mapat es i _ (by omega))
      obtain ⟨cq106, kq106, q106a, q106b, q106c⟩ := isOf hZ e0 hS.1
      obtain ⟨_, _, ⟨T106, L106, k106, n106⟩, -, X106, ⟨Lc106, hQ106, l106, y106, z106⟩, st106⟩ := X0.virtualBack hx (y := yn8) (z := yn8) hown (mvT hZ (w195 hw)) (mvT hZ (w73 hw)) (notFace_of_selects (args := #[]) (mvT hZ (w75 hw))) (mvT hZ (w75 hw)) (mvT hZ (w74 hw)) (by decide) (backOf (W := 0) (rm_charAt l Z a0 hw [] a i t kb rs cS fm h0 n0 Z0 O0 S_cs hcS S_fm hfm S_ad S_hi S_lo hS (by omega)) hZ (w76 hw) (w9 hw) (by decide) (by decide)) q106a q106c (g := (mkF m 25 #[.val (.ref a), .val (.int (Int32.ofNat i)), .val (.int (Int32.ofNat kk)), .val (.int (Int32.ofNat n)), .val (.ref ea), .val (.int (es.getD i 0))] [(.int (Int32.ofNat i)), (.ref a)])) rfl (by rw [hml]; rfl) (Steps.refl _) (argsL := [(.int (Int32.ofNat i))]) (rest := []) (lenOf pd__28_I_29_C rfl) rfl (by show 2 * 0 + _ ≤ _; exact Nat.le_of_eq rfl) (hb hby d_method_3_25) (fun _ _ => ⟨rfl, e0, (Nat.le_of_ble_eq_true rfl), (Nat.le_of_ble_eq_true rfl)⟩)
      dsimp only [Pt.U, Pt.locs, Pt.cells, Pt.slots] at X106 l106 y106 z106 st106 hQ106
      subst l106 y106 z106
      obtain ⟨rfl, Nq106, eq106⟩ := hQ106
      have N106 := Fr.app N0 Nq106
      have W107 : ∀ zQ, SS p e below T106 m 38 #[.val (.ref a), .val (.int (Int32.ofNat i)), .val (.int (Int32.ofNat kk)), .val (.int (Int32.ofNat n)), .val (.ref ea), .val (.int (es.getD i 0))] [(.int (1 : Int32))] zQ → Steps p.tables e below (s₁.setTop (entryFrame m #[(.ref a), (.int (Int32.ofNat i)), (.int (Int32.ofNat kk)), (.int (Int32.ofNat n)), (.ref ea)] 6)) zQ := by
        intro tt kt
        refine W103 tt ?_
        refine XS.icmpNo X0.here hx rfl (hb hby d_method_3_9) rfl (tlt hc104).2.1 ?_
        refine XS.aload X0.here hx rfl (hb hby d_method_3_12) rfl rfl ?_
        refine XS.iloadN X0.here hx rfl (hb hby d_method_3_14) rfl ?_
        show SS p e below s₁ m 15 #[.val (.ref a), .val (.int (Int32.ofNat i)), .val (.int (Int32.ofNat kk)), .val (.int (Int32.ofNat n)), .val (.ref ea), .unset] [(.int (Int32.ofNat i)), (.ref ea)] _
        refine X0.caload hx (j := (Int32.ofNat i)) (v := (.int (es.getD i 0))) (by first | exact Ar105.1 | (rw [e0]; exact Ar105.1)) (State.isArrayOf_alike hZ.alike Ar105.2.1) Ar105.2.2 hin105 hat105 (g := (mkF m 15 #[.val (.ref a), .val (.int (Int32.ofNat i)), .val (.int (Int32.ofNat kk)), .val (.int (Int32.ofNat n)), .val (.ref ea), .unset] [(.int (Int32.ofNat i)), (.ref ea)])) rfl rfl (hb hby d_method_3_15) _ ?_
        refine XS.goto X0.here hx rfl (pc0 := 16) (pc' := 21) rfl (hb hby d_method_3_16) (by decide) (by decide) ?_
        refine XS.istore X0.here hx rfl (hb hby d_method_3_21) rfl (l' := #[.val (.ref a), .val (.int (Int32.ofNat i)), .val (.int (Int32.ofNat kk)), .val (.int (Int32.ofNat n)), .val (.ref ea), .val (.int (es.getD i 0))]) rfl ?_
        refine XS.aloadN X0.here hx rfl (hb hby d_method_3_23) rfl rfl ?_
        refine XS.iloadN X0.here hx rfl (hb hby d_method_3_24) rfl ?_
        show SS p e below s₁ m 25 #[.val (.ref a), .val (.int (Int32.ofNat i)), .val (.int (Int32.ofNat kk)), .val (.int (Int32.ofNat n)), .val (.ref ea), .val (.int (es.getD i 0))] [(.int (Int32.ofNat i)), (.ref a)] _
        refine st106.trans ?_
        refine XS.iload X106.here hx rfl (hb hby d_method_3_28) rfl ?_
        refine XS.icmpNo X106.here hx rfl (hb hby d_method_3_30) rfl (teq hpp).2 ?_
        refine XS.iconst X106.here hx rfl (hb hby d_method_3_33) ?_
        refine XS.goto X106.here hx rfl (pc0 := 34) (pc' := 38) rfl (hb hby d_method_3_34) (by decide) (by decide) ?_
        exact kt
      obtain ⟨fs, hr, hrun, hended, hW, hsame⟩ := X106.leave (v := some (.int (nar .boolean (1 : Int32)))) (fun h => by rw [Bd.returns] at h; cases h)
      refine ⟨_, _, W107 _ (retN X106 hx (t := .boolean) Bd.returns (by simp) (hb hby d_method_3_38) hr), hrun, hended, _, _, rfl, ?_, ⟨_, rfl⟩, hW, hsame.mono (by decide) (by decide)⟩
      show Q_okay Z a ea i kk n kc es t kb rs cS fm h0 n0 _ T106.heap _
      rw [eq106]
      exact ⟨rfl, N106, rfl⟩
    ·
      have hik : ¬ i < kk := fun q => hc104 (own_lt q (by omega))
      rw [if_neg hik] at hpp
      obtain ⟨cq108, kq108, q108a, q108b, q108c⟩ := isOf hZ e0 hS.1
      obtain ⟨_, _, ⟨T108, L108, k108, n108⟩, -, X108, ⟨Lc108, hQ108, l108, y108, z108⟩, st108⟩ := X0.virtualBack hx (y := yn8) (z := yn8) hown (mvT hZ (w195 hw)) (mvT hZ (w73 hw)) (notFace_of_selects (args := #[]) (mvT hZ (w75 hw))) (mvT hZ (w75 hw)) (mvT hZ (w74 hw)) (by decide) (backOf (W := 0) (rm_charAt l Z a0 hw [] a i t kb rs cS fm h0 n0 Z0 O0 S_cs hcS S_fm hfm S_ad S_hi S_lo hS (by omega)) hZ (w76 hw) (w9 hw) (by decide) (by decide)) q108a q108c (g := (mkF m 25 #[.val (.ref a), .val (.int (Int32.ofNat i)), .val (.int (Int32.ofNat kk)), .val (.int (Int32.ofNat n)), .val (.ref ea), .val (.int (46 : Int32))] [(.int (Int32.ofNat i)), (.ref a)])) rfl (by rw [hml]; rfl) (Steps.refl _) (argsL := [(.int (Int32.ofNat i))]) (rest := []) (lenOf pd__28_I_29_C rfl) rfl (by show 2 * 0 + _ ≤ _; exact Nat.le_of_eq rfl) (hb hby d_method_3_25) (fun _ _ => ⟨rfl, e0, (Nat.le_of_ble_eq_true rfl), (Nat.le_of_ble_eq_true rfl)⟩)
      dsimp only [Pt.U, Pt.locs, Pt.cells, Pt.slots] at X108 l108 y108 z108 st108 hQ108
      subst l108 y108 z108
      obtain ⟨rfl, Nq108, eq108⟩ := hQ108
      have N108 := Fr.app N0 Nq108
      have W109 : ∀ zQ, SS p e below T108 m 38 #[.val (.ref a), .val (.int (Int32.ofNat i)), .val (.int (Int32.ofNat kk)), .val (.int (Int32.ofNat n)), .val (.ref ea), .val (.int (46 : Int32))] [(.int (1 : Int32))] zQ → Steps p.tables e below (s₁.setTop (entryFrame m #[(.ref a), (.int (Int32.ofNat i)), (.int (Int32.ofNat kk)), (.int (Int32.ofNat n)), (.ref ea)] 6)) zQ := by
        intro tt kt
        refine W103 tt ?_
        refine XS.icmpYes X0.here hx rfl (pc0 := 9) (pc' := 19) rfl (hb hby d_method_3_9) rfl (flt hc104).2.1 (by decide) (by decide) ?_
        refine XS.bipush X0.here hx rfl (hb hby d_method_3_19) ?_
        refine XS.istore X0.here hx rfl (hb hby d_method_3_21) rfl (l' := #[.val (.ref a), .val (.int (Int32.ofNat i)), .val (.int (Int32.ofNat kk)), .val (.int (Int32.ofNat n)), .val (.ref ea), .val (.int (46 : Int32))]) rfl ?_
        refine XS.aloadN X0.here hx rfl (hb hby d_method_3_23) rfl rfl ?_
        refine XS.iloadN X0.here hx rfl (hb hby d_method_3_24) rfl ?_
        show SS p e below s₁ m 25 #[.val (.ref a), .val (.int (Int32.ofNat i)), .val (.int (Int32.ofNat kk)), .val (.int (Int32.ofNat n)), .val (.ref ea), .val (.int (46 : Int32))] [(.int (Int32.ofNat i)), (.ref a)] _
        refine st108.trans ?_
        refine XS.iload X108.here hx rfl (hb hby d_method_3_28) rfl ?_
        refine XS.icmpNo X108.here hx rfl (hb hby d_method_3_30) rfl (teq hpp).2 ?_
        refine XS.iconst X108.here hx rfl (hb hby d_method_3_33) ?_
        refine XS.goto X108.here hx rfl (pc0 := 34) (pc' := 38) rfl (hb hby d_method_3_34) (by decide) (by decide) ?_
        exact kt
      obtain ⟨fs, hr, hrun, hended, hW, hsame⟩ := X108.leave (v := some (.int (nar .boolean (1 : Int32)))) (fun h => by rw [Bd.returns] at h; cases h)
      refine ⟨_, _, W109 _ (retN X108 hx (t := .boolean) Bd.returns (by simp) (hb hby d_method_3_38) hr), hrun, hended, _, _, rfl, ?_, ⟨_, rfl⟩, hW, hsame.mono (by decide) (by decide)⟩
      show Q_okay Z a ea i kk n kc es t kb rs cS fm h0 n0 _ T108.heap _
      rw [eq108]
      exact ⟨rfl, N108, rfl⟩
  ·
    have W110 : ∀ zQ, SS p e below s₁ m 6 #[.val (.ref a), .val (.int (Int32.ofNat i)), .val (.int (Int32.ofNat kk)), .val (.int (Int32.ofNat n)), .val (.ref ea), .unset] [(.int (1 : Int32))] zQ → Steps p.tables e below (s₁.setTop (entryFrame m #[(.ref a), (.int (Int32.ofNat i)), (.int (Int32.ofNat kk)), (.int (Int32.ofNat n)), (.ref ea)] 6)) zQ := by
      intro tt kt
      refine W101 tt ?_
      refine XS.icmpNo X0.here hx rfl (hb hby d_method_3_2) rfl (flt hc102).1 ?_
      refine XS.iconst X0.here hx rfl (hb hby d_method_3_5) ?_
      exact kt
    obtain ⟨fs, hr, hrun, hended, hW, hsame⟩ := X0.leave (v := some (.int (nar .boolean (1 : Int32)))) (fun h => by rw [Bd.returns] at h; cases h)
    refine ⟨_, _, W110 _ (retN X0 hx (t := .boolean) Bd.returns (by simp) (hb hby d_method_3_6) hr), hrun, hended, _, _, rfl, ?_, ⟨_, rfl⟩, hW, hsame.mono (by decide) (by decide)⟩
    show Q_okay Z a ea i kk n kc es t kb rs cS fm h0 n0 _ s₁.heap _
    rw [e0]
    exact ⟨rfl, N0, rfl⟩
set_option maxRecDepth 65536 in
set_option maxHeartbeats 40000000 in
theorem lp_prl {p : Program} {l : Launch} {e : Env} {R : Room} {s : State} {m : MethodId} {args : Array Value} {below : List Frame} {meth : Method} {cO : Code} {cells slots : Nat} {Z : State} {a0 : Array Value} (hx : p.tables.exec = Jvm.exec) (hZ : Z.Warmed39 s.vm) (hw : HW a0 Z) (hby : cO.code = prog_12_method_2_code) (hml : cO.maxLocals = 6) (hown : s.vm.findClass "com/example/patents_via_api/patentsviaapi/errors/UntrustedText" = some m.cls) (hRf : 5 ≤ R.frames) (hRl : 66 ≤ R.locals) (hRc : cells ≤ R.cells) (hRs : slots ≤ R.slots) (a : Addr) (t : Addr) (kb : ClassId) (cs : List Int32) (o : Addr) (u : Addr) (ku : ClassId) (N : Nat) (kk : Nat) (mx : Int32) (cS : Int32) (fm : Value) (n0 : Nat) (S_cs : Sta Z Z.heap "java/lang/String" "COMPACT_STRINGS" "Z" (.int cS)) (hcS : ¬ (cS = (0 : Int32))) (S_fm : Sta Z Z.heap "jdk/internal/util/Preconditions" "SIOOBE_FORMATTER" "Ljava/util/function/BiFunction;" fm) (hfm : fm.isRef = true) (S_ad : Sta Z Z.heap "java/lang/StringUTF16" "$assertionsDisabled" "Z" (.int (1 : Int32))) (S_hi : Sta Z Z.heap "java/lang/StringUTF16" "HI_BYTE_SHIFT" "I" (.int (0 : Int32))) (S_lo : Sta Z Z.heap "java/lang/StringUTF16" "LO_BYTE_SHIFT" "I" (.int (8 : Int32))) (hkk : kk ≤ cs.length) (hc4 : cs.length ≤ 4) (hN : N = kk + 3) (g1 : n0 ≤ o) (g2 : n0 ≤ u) (ou : o ≠ u) (ao : a ≠ o) (tO : t ≠ o) (au : a ≠ u) (tu : t ≠ u) :
    ∀ suf : List Int32, ∀ (pre : List Int32) (s5 : Slot) (T0 : State) (L0 : List Loc) (h0 : Heap) (X0 : Stand p l e R s m args below meth cO T0 L0 cells slots) (e0 : T0.heap = h0) (N0 : Fr n0 L0) (Z0 : n0 ≤ h0.size) (O0 : Old Z n0 h0) (hS : Str Z h0 a t kb cs) (E1 : Exa Z h0 o "java/lang/StringBuilder") (F1 : Fld Z h0 o "java/lang/AbstractStringBuilder" "value" "[B" (.ref u)) (F2 : Fld Z h0 o "java/lang/AbstractStringBuilder" "coder" "B" (.int (0 : Int32))) (F3 : Fld Z h0 o "java/lang/AbstractStringBuilder" "count" "I" (.int (Int32.ofNat (pre.map pr).length))) (V1 : Arv Z h0 u ku .byte (Int32.ofNat N) (l1 (pre.map pr)) (.int (0 : Int32))) (h5 : One s5) (hk : cs.take kk = pre ++ suf), ∃ (T' : State) (L' : List Loc) (h' : Heap), Stand p l e R s m args below meth cO T' L' cells slots ∧ T'.heap = h' ∧ ∃ s6 : Slot, Fr n0 L' ∧ Keep h0 h' [o, u] ∧ Fld Z h' o "java/lang/AbstractStringBuilder" "value" "[B" (.ref u) ∧ Fld Z h' o "java/lang/AbstractStringBuilder" "coder" "B" (.int (0 : Int32)) ∧ Fld Z h' o "java/lang/AbstractStringBuilder" "count" "I" (.int (Int32.ofNat ((cs.take kk).map pr).length)) ∧ Arv Z h' u ku .byte (Int32.ofNat N) (l1 ((cs.take kk).map pr)) (.int (0 : Int32)) ∧ ∀ zQ, SS p e below T' m 69 #[.val (.ref a), .val (.int mx), .val (.int (Int32.ofNat kk)), .val (.ref o), .val (.int (Int32.ofNat kk)), s6] [] zQ → SS p e below T0 m 23 #[.val (.ref a), .val (.int mx), .val (.int (Int32.ofNat kk)), .val (.ref o), .val (.int (Int32.ofNat pre.length)), s5] [] zQ := by
  intro suf
  induction suf with
  | nil =>
    intro pre s5 T0 L0 h0 X0 e0 N0 Z0 O0 hS E1 F1 F2 F3 V1 h5 hk
    have W0 : ∀ zQ, SS p e below T0 m 23 #[.val (.ref a), .val (.int mx), .val (.int (Int32.ofNat kk)), .val (.ref o), .val (.int (Int32.ofNat pre.length)), s5] [] zQ → Steps p.tables e below (T0.setTop (mkF m 23 #[.val (.ref a), .val (.int mx), .val (.int (Int32.ofNat kk)), .val (.ref o), .val (.int (Int32.ofNat pre.length)), s5] [])) zQ := fun tt kt => kt
    have hn9 : cs.length < 1048576 := hS.2.2.2.2.2
    have hp : pre = cs.take kk := by simpa using hk.symm
    have hpl : pre.length = kk := by rw [hp]; simp; omega
    have F3' : Fld Z h0 o "java/lang/AbstractStringBuilder" "count" "I" (.int (Int32.ofNat ((cs.take kk).map pr).length)) := by rw [← hp]; exact F3
    have V1' : Arv Z h0 u ku .byte (Int32.ofNat N) (l1 ((cs.take kk).map pr)) (.int (0 : Int32)) := by rw [← hp]; exact V1
    have W101 : ∀ zQ, SS p e below T0 m 69 #[.val (.ref a), .val (.int mx), .val (.int (Int32.ofNat kk)), .val (.ref o), .val (.int (Int32.ofNat kk)), s5] [] zQ → Steps p.tables e below (T0.setTop (mkF m 23 #[.val (.ref a), .val (.int mx), .val (.int (Int32.ofNat kk)), .val (.ref o), .val (.int (Int32.ofNat pre.length)), s5] [])) zQ := by
      intro tt kt
      refine W0 tt ?_
      rw [show (Int32.ofNat pre.length) = (Int32.ofNat kk) from (by rw [hpl])]
      refine XS.iload X0.here hx rfl (hb hby d_prog_12_method_2_23) rfl ?_
      refine XS.iloadN X0.here hx rfl (hb hby d_prog_12_method_2_25) rfl ?_
      refine XS.icmpYes X0.here hx rfl (pc0 := 26) (pc' := 69) rfl (hb hby d_prog_12_method_2_26) rfl (flt Int32.lt_irrefl).2.1 (by decide) (by decide) ?_
      exact kt
    exact ⟨T0, _, h0, X0, e0, s5, N0, (Keep.refl h0 [o, u]), F1, F2, F3', V1', fun tt kt => W101 _ kt⟩
  | cons cc r ih =>
    intro pre s5 T0 L0 h0 X0 e0 N0 Z0 O0 hS E1 F1 F2 F3 V1 h5 hk
    have W0 : ∀ zQ, SS p e below T0 m 23 #[.val (.ref a), .val (.int mx), .val (.int (Int32.ofNat kk)), .val (.ref o), .val (.int (Int32.ofNat pre.length)), s5] [] zQ → Steps p.tables e below (T0.setTop (mkF m 23 #[.val (.ref a), .val (.int mx), .val (.int (Int32.ofNat kk)), .val (.ref o), .val (.int (Int32.ofNat pre.length)), s5] [])) zQ := fun tt kt => kt
    have hn9 : cs.length < 1048576 := hS.2.2.2.2.2
    obtain ⟨hlt, hlk, hcc⟩ := tk_at hk
    obtain ⟨cq102, kq102, q102a, q102b, q102c⟩ := isOf hZ e0 hS.1
    obtain ⟨_, _, ⟨T102, L102, k102, n102⟩, -, X102, ⟨Lc102, hQ102, l102, y102, z102⟩, st102⟩ := X0.virtualBack hx (y := yn8) (z := yn8) hown (mvT hZ (w72 hw)) (mvT hZ (w73 hw)) (notFace_of_selects (args := #[]) (mvT hZ (w75 hw))) (mvT hZ (w75 hw)) (mvT hZ (w74 hw)) (by decide) (backOf (W := 0) (rm_charAt l Z a0 hw [] a pre.length t kb cs cS fm h0 n0 Z0 O0 S_cs hcS S_fm hfm S_ad S_hi S_lo hS hlt) hZ (w76 hw) (w9 hw) (Nat.le_trans (by decide) hRf) (Nat.le_trans (by decide) hRl)) q102a q102c (g := (mkF m 32 #[.val (.ref a), .val (.int mx), .val (.int (Int32.ofNat kk)), .val (.ref o), .val (.int (Int32.ofNat pre.length)), s5] [(.int (Int32.ofNat pre.length)), (.ref a)])) rfl (by rw [hml]; rfl) (Steps.refl _) (argsL := [(.int (Int32.ofNat pre.length))]) (rest := []) (lenOf pd__28_I_29_C rfl) rfl (by show 2 * 0 + _ ≤ _; exact Nat.le_of_eq rfl) (hb hby d_prog_12_method_2_32) (fun _ _ => ⟨rfl, e0, hRc, hRs⟩)
    dsimp only [Pt.U, Pt.locs, Pt.cells, Pt.slots] at X102 l102 y102 z102 st102 hQ102
    subst l102 y102 z102
    obtain ⟨rfl, Nq102, eq102⟩ := hQ102
    have N102 := Fr.app N0 Nq102
    have W103 : ∀ zQ, SS p e below T102 m 42 #[.val (.ref a), .val (.int mx), .val (.int (Int32.ofNat kk)), .val (.ref o), .val (.int (Int32.ofNat pre.length)), .val (.int cc)] [(.int (32 : Int32)), (.int cc), (.ref o)] zQ → Steps p.tables e below (T0.setTop (mkF m 23 #[.val (.ref a), .val (.int mx), .val (.int (Int32.ofNat kk)), .val (.ref o), .val (.int (Int32.ofNat pre.length)), s5] [])) zQ := by
      intro tt kt
      refine W0 tt ?_
      refine XS.iload X0.here hx rfl (hb hby d_prog_12_method_2_23) rfl ?_
      refine XS.iloadN X0.here hx rfl (hb hby d_prog_12_method_2_25) rfl ?_
      refine XS.icmpNo X0.here hx rfl (hb hby d_prog_12_method_2_26) rfl (tlt (own_lt hlk (by omega))).2.1 ?_
      refine XS.aloadN X0.here hx rfl (hb hby d_prog_12_method_2_29) rfl rfl ?_
      refine XS.iload X0.here hx rfl (hb hby d_prog_12_method_2_30) rfl ?_
      show SS p e below T0 m 32 #[.val (.ref a), .val (.int mx), .val (.int (Int32.ofNat kk)), .val (.ref o), .val (.int (Int32.ofNat pre.length)), s5] [(.int (Int32.ofNat pre.length)), (.ref a)] _
      refine st102.trans ?_
      show SS p e below T102 m 35 #[.val (.ref a), .val (.int mx), .val (.int (Int32.ofNat kk)), .val (.ref o), .val (.int (Int32.ofNat pre.length)), s5] [(.int (cs.getD pre.length 0))] _
      rw [show (cs.getD pre.length 0) = cc from hcc]
      refine XS.istore X102.here hx rfl (hb hby d_prog_12_method_2_35) rfl (l' := #[.val (.ref a), .val (.int mx), .val (.int (Int32.ofNat kk)), .val (.ref o), .val (.int (Int32.ofNat pre.length)), .val (.int cc)]) (XS.store1 (o := s5) rfl h5 rfl) ?_
      refine XS.aloadN X102.here hx rfl (hb hby d_prog_12_method_2_37) rfl rfl ?_
      refine XS.iload X102.here hx rfl (hb hby d_prog_12_method_2_38) rfl ?_
      refine XS.bipush X102.here hx rfl (hb hby d_prog_12_method_2_40) ?_
      exact kt
    have W106 : ∀ zQ, SS p e below T102 m 59 #[.val (.ref a), .val (.int mx), .val (.int (Int32.ofNat kk)), .val (.ref o), .val (.int (Int32.ofNat pre.length)), .val (.int cc)] [(.int (if cc < (32 : Int32) then (63 : Int32) else (if (126 : Int32) < cc then (63 : Int32) else cc))), (.ref o)] zQ → Steps p.tables e below (T0.setTop (mkF m 23 #[.val (.ref a), .val (.int mx), .val (.int (Int32.ofNat kk)), .val (.ref o), .val (.int (Int32.ofNat pre.length)), s5] [])) zQ := by
      intro tt kt
      refine W103 tt ?_
      by_cases hj104 : cc < (32 : Int32)
      ·
        refine XS.icmpYes X102.here hx rfl (pc0 := 42) (pc' := 57) rfl (hb hby d_prog_12_method_2_42) rfl (tlt hj104).1 (by decide) (by decide) ?_
        refine XS.bipush X102.here hx rfl (hb hby d_prog_12_method_2_57) ?_
        exact castTop (by first | rfl | (simp only [if_pos hj104]; first | done | rfl)) kt
      ·
        refine XS.icmpNo X102.here hx rfl (hb hby d_prog_12_method_2_42) rfl (flt hj104).1 ?_
        refine XS.iload X102.here hx rfl (hb hby d_prog_12_method_2_45) rfl ?_
        refine XS.bipush X102.here hx rfl (hb hby d_prog_12_method_2_47) ?_
        by_cases hj105 : (126 : Int32) < cc
        ·
          refine XS.icmpYes X102.here hx rfl (pc0 := 49) (pc' := 57) rfl (hb hby d_prog_12_method_2_49) rfl (tlt hj105).2.2.1 (by decide) (by decide) ?_
          refine XS.bipush X102.here hx rfl (hb hby d_prog_12_method_2_57) ?_
          exact castTop (by first | rfl | (simp only [if_neg hj104, if_pos hj105]; first | done | rfl)) kt
        ·
          refine XS.icmpNo X102.here hx rfl (hb hby d_prog_12_method_2_49) rfl (flt hj105).2.2.1 ?_
          refine XS.iload X102.here hx rfl (hb hby d_prog_12_method_2_52) rfl ?_
          refine XS.goto X102.here hx rfl (pc0 := 54) (pc' := 59) rfl (hb hby d_prog_12_method_2_54) (by decide) (by decide) ?_
          exact castTop (by first | rfl | (simp only [if_neg hj104, if_neg hj105]; first | done | rfl)) kt
    obtain ⟨cq107, kq107, q107a, q107b, q107c⟩ := isOf hZ eq102 E1
    obtain ⟨_, _, ⟨T107, L107, k107, n107⟩, -, X107, ⟨Lc107, hQ107, l107, y107, z107⟩, st107⟩ := X102.virtualBack hx (y := yn30) (z := yn30) hown (mvT hZ (w94 hw)) (mvT hZ (w95 hw)) (notFace_of_selects (args := #[]) (mvT hZ (w97 hw))) (mvT hZ (w97 hw)) (mvT hZ (w96 hw)) (by decide) (backOf (W := 0) (rm_sbAppC l Z a0 hw [] o (pr cc) u ku N (pre.map pr) cS h0 n0 Z0 O0 S_cs hcS E1 F1 F2 F3 V1 (pr_le cc) (by rw [List.length_map]; omega) (by omega) g1 g2 ou) hZ (w98 hw) (w56 hw) (Nat.le_trans (by decide) hRf) (Nat.le_trans (by decide) hRl)) q107a q107c (g := (mkF m 59 #[.val (.ref a), .val (.int mx), .val (.int (Int32.ofNat kk)), .val (.ref o), .val (.int (Int32.ofNat pre.length)), .val (.int cc)] [(.int (pr cc)), (.ref o)])) rfl (by rw [hml]; rfl) (Steps.refl _) (argsL := [(.int (pr cc))]) (rest := []) (lenOf pd__28_C_29_Ljava_2f_lang_2f_StringBuilder_3b_ rfl) rfl (by show 2 * 0 + _ ≤ _; exact Nat.le_of_eq rfl) (hb hby d_prog_12_method_2_59) (fun _ _ => ⟨rfl, eq102, hRc, hRs⟩)
    dsimp only [Pt.U, Pt.locs, Pt.cells, Pt.slots] at X107 l107 y107 z107 st107 hQ107
    subst l107 y107 z107
    obtain ⟨rfl, Nq107, K107, P107_0, P107_1, P107_2, P107_3⟩ := hQ107
    have N107 := Fr.app N102 Nq107
    have W108 : ∀ zQ, SS p e below T107 m 23 #[.val (.ref a), .val (.int mx), .val (.int (Int32.ofNat kk)), .val (.ref o), .val (.int (Int32.ofNat (pre ++ [cc]).length)), .val (.int cc)] [] zQ → Steps p.tables e below (T0.setTop (mkF m 23 #[.val (.ref a), .val (.int mx), .val (.int (Int32.ofNat kk)), .val (.ref o), .val (.int (Int32.ofNat pre.length)), s5] [])) zQ := by
      intro tt kt
      refine W106 tt ?_
      rw [show (if cc < (32 : Int32) then (63 : Int32) else (if (126 : Int32) < cc then (63 : Int32) else cc)) = (pr cc) from rfl]
      show SS p e below T102 m 59 #[.val (.ref a), .val (.int mx), .val (.int (Int32.ofNat kk)), .val (.ref o), .val (.int (Int32.ofNat pre.length)), .val (.int cc)] [(.int (pr cc)), (.ref o)] _
      refine st107.trans ?_
      refine XS.pop X107.here hx rfl (hb hby d_prog_12_method_2_62) rfl rfl ?_
      show SS p e below T107 m 63 #[.val (.ref a), .val (.int mx), .val (.int (Int32.ofNat kk)), .val (.ref o), .val (.int (Int32.ofNat pre.length)), .val (.int cc)] [] _
      refine XS.iinc X107.here hx rfl (hb hby d_prog_12_method_2_63) rfl (l' := #[.val (.ref a), .val (.int mx), .val (.int (Int32.ofNat kk)), .val (.ref o), .val (.int ((Int32.ofNat pre.length) + (1 : Int32))), .val (.int cc)]) rfl ?_
      show SS p e below T107 m 66 #[.val (.ref a), .val (.int mx), .val (.int (Int32.ofNat kk)), .val (.ref o), .val (.int ((Int32.ofNat pre.length) + (1 : Int32))), .val (.int cc)] [] _
      rw [show ((Int32.ofNat pre.length) + (1 : Int32)) = (Int32.ofNat (pre ++ [cc]).length) from (by rw [own_succ]; simp)]
      refine XS.goto X107.here hx rfl (pc0 := 66) (pc' := 23) rfl (hb hby d_prog_12_method_2_66) (by decide) (by decide) ?_
      exact kt
    have O110 : Old Z n0 T107.heap := (O0.keep K107 (allS g1 (allS g2 all0)))
    have F111 : Str Z T107.heap a t kb cs := (hS.keep K107 (ninS ao (ninS au nin0)) (ninS tO (ninS tu nin0)))
    have F112 : Exa Z T107.heap o "java/lang/StringBuilder" := (E1.keep K107)
    obtain ⟨T109, L109, h109, X109, e109, s6_113, N109, K109, P109_0, P109_1, P109_2, P109_3, st109⟩ := ih (pre ++ [cc]) (.val (.int cc)) T107 _ T107.heap X107 rfl N107 (Nat.le_trans Z0 K107.1) O110 F111 F112 P107_0 P107_1 (by rw [List.map_append]; exact P107_2) (by rw [List.map_append]; exact P107_3) (One.val rfl) (by rw [hk]; simp)
    exact ⟨T109, L109, h109, X109, e109, s6_113, N109, (Keep.trans (Keep.trans (Keep.refl h0 [o, u]) K107 (allS (Or.inl (List.mem_of_getElem? (i := 0) rfl)) (allS (Or.inl (List.mem_of_getElem? (i := 1) rfl)) all0))) K109 (allS (Or.inl (List.mem_of_getElem? (i := 0) rfl)) (allS (Or.inl (List.mem_of_getElem? (i := 1) rfl)) all0))), P109_0, P109_1, P109_2, P109_3, fun tt kt => W108 _ (st109 _ kt)⟩
def Q_printable (Z : State) (a : Addr) (mx : Int32) (kk : Nat) (t : Addr) (kb : ClassId) (cs : List Int32) (cS : Int32) (fm : Value) (h0 : Heap) (n0 : Nat) (vQ_ : Option Value) (hQ_ : Heap) (LQ_ : List Loc) : Prop := ∃ r : Addr, ∃ t2 : Addr, ∃ kb2 : ClassId, vQ_ = some (.ref r) ∧ Fr n0 LQ_ ∧ Keep h0 hQ_ [] ∧ h0.size ≤ r ∧ h0.size ≤ t2 ∧ Str Z hQ_ r t2 kb2 (pres cs kk)
set_option maxRecDepth 65536 in
set_option maxHeartbeats 40000000 in
theorem rm_printable (l : Launch) (Z : State) (a0 : Array Value) (hw : HW a0 Z) (ws : List Jvm.Cond) (a : Addr) (mx : Int32) (kk : Nat) (t : Addr) (kb : ClassId) (cs : List Int32) (cS : Int32) (fm : Value) (h0 : Heap) (n0 : Nat) (Z0 : n0 ≤ h0.size) (O0 : Old Z n0 h0) (S_cs : Sta Z Z.heap "java/lang/String" "COMPACT_STRINGS" "Z" (.int cS)) (hcS : ¬ (cS = (0 : Int32))) (S_fm : Sta Z Z.heap "jdk/internal/util/Preconditions" "SIOOBE_FORMATTER" "Ljava/util/function/BiFunction;" fm) (hfm : fm.isRef = true) (S_ad : Sta Z Z.heap "java/lang/StringUTF16" "$assertionsDisabled" "Z" (.int (1 : Int32))) (S_hi : Sta Z Z.heap "java/lang/StringUTF16" "HI_BYTE_SHIFT" "I" (.int (0 : Int32))) (S_lo : Sta Z Z.heap "java/lang/StringUTF16" "LO_BYTE_SHIFT" "I" (.int (8 : Int32))) (hS : Str Z h0 a t kb cs) (hkk : kk ≤ cs.length) (hc4 : cs.length ≤ 4) (hmin : (if mx < (Int32.ofNat cs.length) then mx else (Int32.ofNat cs.length)) = (Int32.ofNat kk)) :
    MetFree l yn44 (head1 (Jvm.Cond.code yn44 prog_12_method_2_code 6 (some (.object "java/lang/String")) :: ws) ({ frames := 6, cells := 6, slots := 39, locals := 137 } : Room)) (fun aQ_ UQ => aQ_ = #[(.ref a), (.int mx)] ∧ Z.Warmed39 UQ.vm ∧ UQ.heap = h0 ∧ CHv Z EL_1 UQ.vm h0) (fun _ _ _ _ _ => True) (fun _ UQ oQ UQ' => ∃ vQ_ LQ_, oQ = .returned vQ_ ∧ Q_printable Z a mx kk t kb cs cS fm h0 n0 vQ_ UQ'.heap LQ_ ∧ CHr Z EL_1 UQ.vm UQ.heap UQ'.vm UQ'.heap ∧ ReturnedEndW UQ oQ UQ' LQ_ ({ frames := 6, cells := 6, slots := 39, locals := 137 } : Room).cells ({ frames := 6, cells := 6, slots := 39, locals := 137 } : Room).slots) := by
  refine MetFree.of_bodySF (plainFor_of_name pn_com_example_patents_via_api_patentsviaapi_errors_UntrustedText) hisR ?_
  intro p e s m args below meth cO s₁ Bd hml0 hP hK
  obtain ⟨rfl, hZ, hh, hH⟩ := hP
  have hx := Bd.exec
  have hby := Bd.bytes
  have hml : cO.maxLocals = 6 := hml0
  have hown : s.vm.findClass "com/example/patents_via_api/patentsviaapi/errors/UntrustedText" = some m.cls := findClass_of_methodNamed Bd.named
  have hnm := (name_of_methodNamed Bd.named Bd.method).1
  have X0 : Stand p l e ({ frames := 6, cells := 6, slots := 39, locals := 137 } : Room) (s.setVm s.vm) m #[(.ref a), (.int mx)] below meth cO s₁ [] 0 0 := Stand.of_body Bd
  have e0 : s₁.heap = h0 := by rw [← hh, Bd.state]; rfl
  have N0 := Fr.nil n0
  have hZ0 : Z.Warmed39 (s.setVm s.vm).vm := hZ
  have hown0 : (s.setVm s.vm).vm.findClass "com/example/patents_via_api/patentsviaapi/errors/UntrustedText" = some m.cls := hown
  have hS0 : s.Since s.vm 0 := (State.WarmedH.refl s).since 0
  have hk0 : 0 ≤ h0.size := Nat.zero_le _
  have hEL : EW Z a0 EL_1 := own_EW hw
  have R0 : CHr Z EL_1 s.vm h0 s.vm h0 := CHr.refl hH
  have W0 : ∀ zQ, SS p e below s₁ m 0 #[.val (.ref a), .val (.int mx), .unset, .unset, .unset, .unset] [] zQ → Steps p.tables e below (s₁.setTop (entryFrame m #[(.ref a), (.int mx)] 6)) zQ := fun tt kt => castTop (ef_printable m a mx) kt
  obtain ⟨cq101, kq101, q101a, q101b, q101c⟩ := isOf hZ0 e0 hS.1
  obtain ⟨_, _, ⟨T101, L101, k101, n101⟩, -, X101, ⟨Lc101, hQ101, l101, y101, z101⟩, st101⟩ := X0.virtualBack hx (y := yn10) (z := yn10) hown0 (mvT hZ0 (w40 hw)) (mvT hZ0 (w41 hw)) (notFace_of_selects (args := #[]) (mvT hZ0 (w43 hw))) (mvT hZ0 (w43 hw)) (mvT hZ0 (w42 hw)) (by decide) (backOf (W := 0) (rm_length l Z a0 hw [] a t kb cs cS h0 n0 Z0 O0 S_cs hcS hS) hZ0 (w44 hw) (w9 hw) (by decide) (by decide)) q101a q101c (g := (mkF m 1 #[.val (.ref a), .val (.int mx), .unset, .unset, .unset, .unset] [(.ref a)])) rfl (by rw [hml]; rfl) (Steps.refl _) (argsL := []) (rest := []) (lenOf pd__28__29_I rfl) rfl (by show 2 * 0 + _ ≤ _; exact Nat.le_of_eq rfl) (hb hby d_prog_12_method_2_1) (fun _ _ => ⟨rfl, e0, (Nat.le_of_ble_eq_true rfl), (Nat.le_of_ble_eq_true rfl)⟩)
  dsimp only [Pt.U, Pt.locs, Pt.cells, Pt.slots] at X101 l101 y101 z101 st101 hQ101
  subst l101 y101 z101
  obtain ⟨rfl, Nq101, eq101⟩ := hQ101
  have N101 := Fr.app N0 Nq101
  obtain ⟨_, _, ⟨T102, L102, k102, n102⟩, -, X102, ⟨Lc102, hQ102, l102, y102, z102⟩, st102⟩ := Jvm.LawKit.callS X101 hx (y := yn21) hown0 (mvT hZ0 (w50 hw)) (mvT hZ0 (w51 hw)) (mvT hZ0 (w52 hw)) (mvT hZ0 (w53 hw)) (by decide) (backOf (W := 0) (rm_mini l Z a0 hw [] (Int32.ofNat cs.length) mx h0 n0 Z0 ) hZ0 (w53 hw) (w52 hw) (by decide) (by decide)) (g := (mkF m 5 #[.val (.ref a), .val (.int mx), .unset, .unset, .unset, .unset] [(.int mx), (.int (Int32.ofNat cs.length))])) rfl (by rw [hml]; rfl) (argsL := [(.int (Int32.ofNat cs.length)), (.int mx)]) (rest := []) (lenOf pd__28_II_29_I rfl) rfl (by show 2 * 0 + _ ≤ _; exact Nat.le_of_eq rfl) (hb hby d_prog_12_method_2_5) (fun _ _ => ⟨rfl, eq101, (Nat.le_of_ble_eq_true rfl), (Nat.le_of_ble_eq_true rfl)⟩)
  dsimp only [Pt.U, Pt.locs, Pt.cells, Pt.slots] at X102 l102 y102 z102 st102 hQ102
  subst l102 y102 z102
  obtain ⟨rfl, Nq102, eq102⟩ := hQ102
  have N102 := Fr.app N101 Nq102
  obtain ⟨T103, h103, X103, e103, E103, A103, D103, U103, st103⟩ := newO X102 hx hZ0 hown0 (w54 hw) (w55 hw) (w56 hw) eq102 (g := (mkF m 9 #[.val (.ref a), .val (.int mx), .val (.int (Int32.ofNat kk)), .unset, .unset, .unset] [])) rfl (hb hby d_prog_12_method_2_9) (by decide) (by decide)
  obtain ⟨b103, g103⟩ : ∃ z, z = h0.size := ⟨_, rfl⟩
  rw [← g103] at A103 D103 U103 st103
  have K103 := (Keep.refl h0 []).ext E103
  have R104 : CHr Z EL_1 s.vm h0 s.vm h103 := R0.trans (CHr.keep K103 sf0 R0.1)
  have G103_value : Fld Z h103 b103 "java/lang/AbstractStringBuilder" "value" "[B" .null := D103 (Or.inl (w69 hw)) (ty := (.array .byte)) (by decide)
  have G103_coder : Fld Z h103 b103 "java/lang/AbstractStringBuilder" "coder" "B" (.int (0 : Int32)) := D103 (Or.inl (w71 hw)) (ty := .byte) (by decide)
  have G103_count : Fld Z h103 b103 "java/lang/AbstractStringBuilder" "count" "I" (.int (0 : Int32)) := D103 (Or.inl (w105 hw)) (ty := .int) (by decide)
  have O105 : Old Z n0 h103 := (O0.keep K103 all0)
  obtain ⟨_, _, ⟨T106, L106, k106, n106⟩, -, X106, ⟨Lc106, hQ106, l106, y106, z106⟩, st106⟩ := X103.specialBack hx (y := yn25) rfl hown0 (mvT hZ0 (w57 hw)) (mvT hZ0 (w58 hw)) (mvT hZ0 (w59 hw)) (by decide) (backOf (W := 1) (rm_sbinit l Z a0 hw [] b103 (kk + 3) cS h103 n0 (Nat.le_trans Z0 K103.1) O105 S_cs hcS A103 G103_value G103_coder G103_count (Nat.le_trans Z0 (Nat.le_of_eq g103.symm)) (by omega)) hZ0 (w59 hw) (w56 hw) (by decide) (by decide)) (g := (mkF m 16 #[.val (.ref a), .val (.int mx), .val (.int (Int32.ofNat kk)), .unset, .unset, .unset] [(.int (Int32.ofNat (kk + 3))), (.ref b103), (.ref b103)])) rfl (by rw [hml]; rfl) (Steps.refl _) (a := b103) (argsL := [(.int (Int32.ofNat (kk + 3)))]) (rest := [(.ref b103)]) (lenOf pd__28_I_29_V rfl) rfl (by show 2 * 0 + _ ≤ _; exact Nat.le_of_eq rfl) (hb hby d_prog_12_method_2_16) (fun _ _ => ⟨rfl, e103, (Nat.le_of_ble_eq_true rfl), (Nat.le_of_ble_eq_true rfl)⟩)
  dsimp only [Pt.U, Pt.locs, Pt.cells, Pt.slots] at X106 l106 y106 z106 st106 hQ106
  subst l106 y106 z106
  obtain ⟨t_107, kb_108, rfl, Nq106, K106, P106_0, P106_1, P106_2, P106_3, P106_4, P106_5⟩ := hQ106
  have N106 := Fr.app N102 Nq106
  have R109 : CHr Z EL_1 s.vm h0 s.vm T106.heap := R104.trans (CHr.keep K106 (sfS (Safe.exa hZ0.alike A103 (by decide) (by decide)) sf0) R104.1)
  have O111 : Old Z n0 T106.heap := (O105.keep K106 (allS (Nat.le_trans Z0 (Nat.le_of_eq g103.symm)) all0))
  have F112 : Str Z T106.heap a t kb cs := ((hS.keep K103 nin0 nin0).keep K106 (ninS (Nat.ne_of_lt (Nat.lt_of_lt_of_le hS.lt (Nat.le_of_eq g103.symm))) nin0) (ninS (Nat.ne_of_lt (Nat.lt_of_lt_of_le hS.lt2 (Nat.le_of_eq g103.symm))) nin0))
  have F113 : Exa Z T106.heap b103 "java/lang/StringBuilder" := (A103.keep K106)
  obtain ⟨T110, L110, h110, X110, e110, s6_114, Nl110, K110, P110_0, P110_1, P110_2, P110_3, st110⟩ := lp_prl hx hZ0 hw hby hml hown0 (by decide) (by decide) (by decide) (by decide) a t kb cs b103 t_107 kb_108 (kk + 3) kk mx cS fm n0 S_cs hcS S_fm hfm S_ad S_hi S_lo hkk hc4 rfl (Nat.le_trans Z0 (Nat.le_of_eq g103.symm)) (Nat.le_trans Z0 (Nat.le_trans K103.1 P106_0)) (Nat.ne_of_lt (Nat.lt_of_lt_of_le A103.lt P106_0)) (Nat.ne_of_lt (Nat.lt_of_lt_of_le hS.lt (Nat.le_of_eq g103.symm))) (Nat.ne_of_lt (Nat.lt_of_lt_of_le hS.lt2 (Nat.le_of_eq g103.symm))) (Nat.ne_of_lt (Nat.lt_of_lt_of_le (Nat.lt_of_lt_of_le hS.lt K103.1) P106_0)) (Nat.ne_of_lt (Nat.lt_of_lt_of_le (Nat.lt_of_lt_of_le hS.lt2 K103.1) P106_0)) (cs.take kk) [] .unset T106 _ T106.heap X106 rfl N106 (Nat.le_trans Z0 (Nat.le_trans K103.1 K106.1)) O111 F112 F113 P106_1 P106_2 P106_3 P106_4 One.u rfl
  have Sf115 : Safe Z EL_1 s.vm T106.heap t_107 := (Safe.keep K106 (sfS (Safe.exa hZ0.alike A103 (by decide) (by decide)) sf0) R104.1 (Safe.new P106_0))
  have R116 : CHr Z EL_1 s.vm h0 s.vm h110 := R109.trans (CHr.keep K110 (sfS (Safe.exa hZ0.alike F113 (by decide) (by decide)) (sfS Sf115 sf0)) R109.1)
  have F117 : Str Z h110 a t kb cs := (F112.keep K110 (ninS (Nat.ne_of_lt (Nat.lt_of_lt_of_le hS.lt (Nat.le_of_eq g103.symm))) (ninS (Nat.ne_of_lt (Nat.lt_of_lt_of_le (Nat.lt_of_lt_of_le hS.lt K103.1) P106_0)) nin0)) (ninS (Nat.ne_of_lt (Nat.lt_of_lt_of_le hS.lt2 (Nat.le_of_eq g103.symm))) (ninS (Nat.ne_of_lt (Nat.lt_of_lt_of_le (Nat.lt_of_lt_of_le hS.lt2 K103.1) P106_0)) nin0)))
  have O118 : Old Z n0 h110 := (O111.keep K110 (allS (Nat.le_trans Z0 (Nat.le_of_eq g103.symm)) (allS (Nat.le_trans Z0 (Nat.le_trans K103.1 P106_0)) all0)))
  obtain ⟨cq119, kq119, q119a, q119b, q119c⟩ := isOf hZ0 e110 F117.1
  obtain ⟨_, _, ⟨T119, L119, k119, n119⟩, -, X119, ⟨Lc119, hQ119, l119, y119, z119⟩, st119⟩ := X110.virtualBack hx (y := yn10) (z := yn10) hown0 (mvT hZ0 (w40 hw)) (mvT hZ0 (w41 hw)) (notFace_of_selects (args := #[]) (mvT hZ0 (w43 hw))) (mvT hZ0 (w43 hw)) (mvT hZ0 (w42 hw)) (by decide) (backOf (W := 0) (rm_length l Z a0 hw [] a t kb cs cS h110 n0 (Nat.le_trans Z0 (Nat.le_trans (Nat.le_trans K103.1 K106.1) K110.1)) O118 S_cs hcS F117) hZ0 (w44 hw) (w9 hw) (by decide) (by decide)) q119a q119c (g := (mkF m 70 #[.val (.ref a), .val (.int mx), .val (.int (Int32.ofNat kk)), .val (.ref b103), .val (.int (Int32.ofNat kk)), s6_114] [(.ref a)])) rfl (by rw [hml]; rfl) (Steps.refl _) (argsL := []) (rest := []) (lenOf pd__28__29_I rfl) rfl (by show 2 * 0 + _ ≤ _; exact Nat.le_of_eq rfl) (hb hby d_prog_12_method_2_70) (fun _ _ => ⟨rfl, e110, (Nat.le_of_ble_eq_true rfl), (Nat.le_of_ble_eq_true rfl)⟩)
  dsimp only [Pt.U, Pt.locs, Pt.cells, Pt.slots] at X119 l119 y119 z119 st119 hQ119
  subst l119 y119 z119
  obtain ⟨rfl, Nq119, eq119⟩ := hQ119
  have N119 := Fr.app Nl110 Nq119
  have W120 : ∀ zQ, SS p e below T119 m 74 #[.val (.ref a), .val (.int mx), .val (.int (Int32.ofNat kk)), .val (.ref b103), .val (.int (Int32.ofNat kk)), s6_114] [(.int (Int32.ofNat kk)), (.int (Int32.ofNat cs.length))] zQ → Steps p.tables e below (s₁.setTop (entryFrame m #[(.ref a), (.int mx)] 6)) zQ := by
    intro tt kt
    refine W0 tt ?_
    refine XS.aloadN X0.here hx rfl (hb hby d_prog_12_method_2_0) rfl rfl ?_
    show SS p e below s₁ m 1 #[.val (.ref a), .val (.int mx), .unset, .unset, .unset, .unset] [(.ref a)] _
    refine st101.trans ?_
    refine XS.iloadN X101.here hx rfl (hb hby d_prog_12_method_2_4) rfl ?_
    show SS p e below T101 m 5 #[.val (.ref a), .val (.int mx), .unset, .unset, .unset, .unset] [(.int mx), (.int (Int32.ofNat cs.length))] _
    refine st102 _ ?_
    show SS p e below T102 m 8 #[.val (.ref a), .val (.int mx), .unset, .unset, .unset, .unset] [(.int (if mx < (Int32.ofNat cs.length) then mx else (Int32.ofNat cs.length)))] _
    rw [show (if mx < (Int32.ofNat cs.length) then mx else (Int32.ofNat cs.length)) = (Int32.ofNat kk) from hmin]
    refine XS.istoreN X102.here hx rfl (hb hby d_prog_12_method_2_8) rfl (l' := #[.val (.ref a), .val (.int mx), .val (.int (Int32.ofNat kk)), .unset, .unset, .unset]) rfl ?_
    show SS p e below T102 m 9 #[.val (.ref a), .val (.int mx), .val (.int (Int32.ofNat kk)), .unset, .unset, .unset] [] _
    refine st103 _ ?_
    refine XS.dup X103.here hx rfl (hb hby d_prog_12_method_2_12) rfl rfl ?_
    refine XS.iloadN X103.here hx rfl (hb hby d_prog_12_method_2_13) rfl ?_
    refine XS.iconst X103.here hx rfl (hb hby d_prog_12_method_2_14) ?_
    refine XS.iadd X103.here hx rfl (hb hby d_prog_12_method_2_15) rfl ?_
    show SS p e below T103 m 16 #[.val (.ref a), .val (.int mx), .val (.int (Int32.ofNat kk)), .unset, .unset, .unset] [(.int ((Int32.ofNat kk) + (3 : Int32))), (.ref b103), (.ref b103)] _
    rw [show ((Int32.ofNat kk) + (3 : Int32)) = (Int32.ofNat (kk + 3)) from (Int32.ofNat_add kk 3).symm]
    show SS p e below T103 m 16 #[.val (.ref a), .val (.int mx), .val (.int (Int32.ofNat kk)), .unset, .unset, .unset] [(.int (Int32.ofNat (kk + 3))), (.ref b103), (.ref b103)] _
    refine st106.trans ?_
    refine XS.astoreN X106.here hx rfl (hb hby d_prog_12_method_2_19) rfl rfl (l' := #[.val (.ref a), .val (.int mx), .val (.int (Int32.ofNat kk)), .val (.ref b103), .unset, .unset]) rfl ?_
    refine XS.iconst X106.here hx rfl (hb hby d_prog_12_method_2_20) ?_
    refine XS.istore X106.here hx rfl (hb hby d_prog_12_method_2_21) rfl (l' := #[.val (.ref a), .val (.int mx), .val (.int (Int32.ofNat kk)), .val (.ref b103), .val (.int (0 : Int32)), .unset]) rfl ?_
    show SS p e below T106 m 23 #[.val (.ref a), .val (.int mx), .val (.int (Int32.ofNat kk)), .val (.ref b103), .val (.int (0 : Int32)), .unset] [] _
    refine st110 _ ?_
    refine XS.aloadN X110.here hx rfl (hb hby d_prog_12_method_2_69) rfl rfl ?_
    show SS p e below T110 m 70 #[.val (.ref a), .val (.int mx), .val (.int (Int32.ofNat kk)), .val (.ref b103), .val (.int (Int32.ofNat kk)), s6_114] [(.ref a)] _
    refine st119.trans ?_
    refine XS.iloadN X119.here hx rfl (hb hby d_prog_12_method_2_73) rfl ?_
    exact kt
  by_cases hc121 : (Int32.ofNat kk) < (Int32.ofNat cs.length)
  ·
    have hcut : kk < cs.length := own_ltof (by omega) (by omega) hc121
    obtain ⟨b122, T122, h122, k122, c122, kb122, X122, e122, E122, hS122, hk122, hZ122, hown122, LE122, LC122, LV122, LA122, l1122, l2122, A122, -, sf122, st122⟩ := ldcCH X119 hx hZ0 hown0 (w119 hw) (own_wS hw) eq119 hS0 (Nat.le_trans hk0 (Nat.le_trans (Nat.le_trans K103.1 K106.1) K110.1)) hEL (by decide +kernel) R116.1 (vs := (l1 ([(46 : Int32), (46 : Int32), (46 : Int32)] : List Int32))) (z := (3 : Int32)) (by decide +kernel) (by decide) (by decide) (g := (mkF m 78 #[.val (.ref a), .val (.int mx), .val (.int (Int32.ofNat kk)), .val (.ref b103), .val (.int (Int32.ofNat kk)), s6_114] [(.ref b103)])) rfl (hb hby d_prog_12_method_2_78) (n := 12) (by decide) (by decide) (by decide) (by decide)
    have K122 := (Keep.refl h110 []).ext E122
    have R123 : CHr Z EL_1 s.vm h0 T122.vm h122 := R116.trans A122
    have LS122 : Str Z h122 b122 c122 kb122 ([(46 : Int32), (46 : Int32), (46 : Int32)] : List Int32) := ⟨LE122, LV122, LC122, LA122, by decide, by decide⟩
    have F124 : Exa Z h122 b103 "java/lang/StringBuilder" := ((F113.keep K110).keep K122)
    have Sf125 : Safe Z EL_1 T122.vm h122 t_107 := (CHr.safe A122 (Nat.lt_of_lt_of_le P106_4.lt K110.1) (Safe.keep K110 (sfS (Safe.exa hZ0.alike F113 (by decide) (by decide)) (sfS Sf115 sf0)) R109.1 Sf115))
    have F126 : Fld Z h122 b103 "java/lang/AbstractStringBuilder" "value" "[B" (.ref t_107) := (P110_0.keep K122 nin0)
    have F127 : Fld Z h122 b103 "java/lang/AbstractStringBuilder" "coder" "B" (.int (0 : Int32)) := (P110_1.keep K122 nin0)
    have F128 : Fld Z h122 b103 "java/lang/AbstractStringBuilder" "count" "I" (.int (Int32.ofNat ((cs.take kk).map pr).length)) := (P110_2.keep K122 nin0)
    have F129 : Arv Z h122 t_107 kb_108 .byte (Int32.ofNat (kk + 3)) (l1 ((cs.take kk).map pr)) (.int (0 : Int32)) := (P110_3.keep K122 nin0)
    have O130 : Old Z n0 h122 := (O118.keep K122 all0)
    obtain ⟨cq131, kq131, q131a, q131b, q131c⟩ := isOf hZ122 e122 F124
    obtain ⟨_, _, ⟨T131, L131, k131, n131⟩, -, X131, ⟨Lc131, hQ131, l131, y131, z131⟩, st131⟩ := X122.virtualBack hx (y := yn35) (z := yn35) hown122 (mvT hZ122 (w122 hw)) (mvT hZ122 (w123 hw)) (notFace_of_selects (args := #[]) (mvT hZ122 (w125 hw))) (mvT hZ122 (w125 hw)) (mvT hZ122 (w124 hw)) (by decide) (backOf (W := 0) (rm_sbAppS l Z a0 hw [] b103 b122 c122 kb122 [(46 : Int32), (46 : Int32), (46 : Int32)] t_107 kb_108 (kk + 3) ((cs.take kk).map pr) cS h122 n0 (Nat.le_trans Z0 (Nat.le_trans (Nat.le_trans (Nat.le_trans K103.1 K106.1) K110.1) K122.1)) O130 S_cs hcS F124 F126 F127 F128 LS122 (by decide) F129 (by simp; omega) (by omega) (Nat.le_trans Z0 (Nat.le_of_eq g103.symm)) (Nat.le_trans Z0 (Nat.le_trans K103.1 P106_0)) (Nat.ne_of_lt (Nat.lt_of_lt_of_le A103.lt P106_0)) (Ne.symm (sf122 _ Sf125).1) (Ne.symm (sf122 _ Sf125).2) (Ne.symm (sf122 _ (Safe.exa hZ122.alike F124 (by decide) (by decide))).1) (Ne.symm (sf122 _ (Safe.exa hZ122.alike F124 (by decide) (by decide))).2)) hZ122 (w126 hw) (w56 hw) (by decide) (by decide)) q131a q131c (g := (mkF m 80 #[.val (.ref a), .val (.int mx), .val (.int (Int32.ofNat kk)), .val (.ref b103), .val (.int (Int32.ofNat kk)), s6_114] [(.ref b122), (.ref b103)])) rfl (by rw [hml]; rfl) (Steps.refl _) (argsL := [(.ref b122)]) (rest := []) (lenOf pd__28_Ljava_2f_lang_2f_String_3b__29_Ljava_2f_lang_2f_StringBuilder_3b_ rfl) rfl (by show 2 * 0 + _ ≤ _; exact Nat.le_of_eq rfl) (hb hby d_prog_12_method_2_80) (fun _ _ => ⟨rfl, e122, (Nat.le_of_ble_eq_true rfl), (Nat.le_of_ble_eq_true rfl)⟩)
    dsimp only [Pt.U, Pt.locs, Pt.cells, Pt.slots] at X131 l131 y131 z131 st131 hQ131
    subst l131 y131 z131
    obtain ⟨rfl, Nq131, K131, P131_0, P131_1, P131_2, P131_3⟩ := hQ131
    have N131 := Fr.app N119 Nq131
    have R132 : CHr Z EL_1 s.vm h0 T122.vm T131.heap := R123.trans (CHr.keep K131 (sfS (Safe.exa hZ122.alike F124 (by decide) (by decide)) (sfS Sf125 sf0)) R123.1)
    have F133 : Exa Z T131.heap b103 "java/lang/StringBuilder" := (F124.keep K131)
    have F134 : Exa Z T131.heap t_107 "[B" := (((P106_5.keep K110).keep K122).keep K131)
    have O135 : Old Z n0 T131.heap := (O130.keep K131 (allS (Nat.le_trans Z0 (Nat.le_of_eq g103.symm)) (allS (Nat.le_trans Z0 (Nat.le_trans K103.1 P106_0)) all0)))
    obtain ⟨cq136, kq136, q136a, q136b, q136c⟩ := isOf hZ122 rfl F133
    obtain ⟨_, _, ⟨T136, L136, k136, n136⟩, -, X136, ⟨Lc136, hQ136, l136, y136, z136⟩, st136⟩ := X131.virtualBack hx (y := yn41) (z := yn41) hown122 (mvT hZ122 (w152 hw)) (mvT hZ122 (w153 hw)) (notFace_of_selects (args := #[]) (mvT hZ122 (w155 hw))) (mvT hZ122 (w155 hw)) (mvT hZ122 (w154 hw)) (by decide) (backOf (W := 0) (rm_sbToString l Z a0 hw [] b103 t_107 kb_108 (kk + 3) (((cs.take kk).map pr) ++ [(46 : Int32), (46 : Int32), (46 : Int32)]) cS T131.heap n0 (Nat.le_trans Z0 (Nat.le_trans (Nat.le_trans (Nat.le_trans (Nat.le_trans K103.1 K106.1) K110.1) K122.1) K131.1)) O135 S_cs hcS F133 P131_0 P131_1 P131_2 P131_3 F134 (by simp; omega) (by omega) (lat_app (lat_pr _) (by decide)) (ok_dots (ok_pr (by simp; omega)) (by simp; omega))) hZ122 (w156 hw) (w56 hw) (by decide) (by decide)) q136a q136c (g := (mkF m 85 #[.val (.ref a), .val (.int mx), .val (.int (Int32.ofNat kk)), .val (.ref b103), .val (.int (Int32.ofNat kk)), s6_114] [(.ref b103)])) rfl (by rw [hml]; rfl) (Steps.refl _) (argsL := []) (rest := []) (lenOf pd__28__29_Ljava_2f_lang_2f_String_3b_ rfl) rfl (by show 2 * 0 + _ ≤ _; exact Nat.le_of_eq rfl) (hb hby d_prog_12_method_2_85) (fun _ _ => ⟨rfl, rfl, (Nat.le_of_ble_eq_true rfl), (Nat.le_of_ble_eq_true rfl)⟩)
    dsimp only [Pt.U, Pt.locs, Pt.cells, Pt.slots] at X136 l136 y136 z136 st136 hQ136
    subst l136 y136 z136
    obtain ⟨r_137, t2_138, kb2_139, rfl, Nq136, K136, P136_0, P136_1, P136_2⟩ := hQ136
    have N136 := Fr.app N131 Nq136
    have R140 : CHr Z EL_1 s.vm h0 T122.vm T136.heap := R132.trans (CHr.keep K136 sf0 R132.1)
    have W141 : ∀ zQ, SS p e below T136 m 88 #[.val (.ref a), .val (.int mx), .val (.int (Int32.ofNat kk)), .val (.ref b103), .val (.int (Int32.ofNat kk)), s6_114] [(.ref r_137)] zQ → Steps p.tables e below (s₁.setTop (entryFrame m #[(.ref a), (.int mx)] 6)) zQ := by
      intro tt kt
      refine W120 tt ?_
      refine XS.icmpNo X119.here hx rfl (hb hby d_prog_12_method_2_74) rfl (tlt hc121).2.2.2 ?_
      refine XS.aloadN X119.here hx rfl (hb hby d_prog_12_method_2_77) rfl rfl ?_
      show SS p e below T119 m 78 #[.val (.ref a), .val (.int mx), .val (.int (Int32.ofNat kk)), .val (.ref b103), .val (.int (Int32.ofNat kk)), s6_114] [(.ref b103)] _
      refine st122 _ ?_
      show SS p e below T122 m 80 #[.val (.ref a), .val (.int mx), .val (.int (Int32.ofNat kk)), .val (.ref b103), .val (.int (Int32.ofNat kk)), s6_114] [(.ref b122), (.ref b103)] _
      refine st131.trans ?_
      refine XS.pop X131.here hx rfl (hb hby d_prog_12_method_2_83) rfl rfl ?_
      refine XS.aloadN X131.here hx rfl (hb hby d_prog_12_method_2_84) rfl rfl ?_
      show SS p e below T131 m 85 #[.val (.ref a), .val (.int mx), .val (.int (Int32.ofNat kk)), .val (.ref b103), .val (.int (Int32.ofNat kk)), s6_114] [(.ref b103)] _
      refine st136.trans ?_
      exact kt
    have hR142 : Str Z T136.heap r_137 t2_138 kb2_139 (pres cs kk) := by unfold pres; rw [if_pos hcut]; exact P136_2
    obtain ⟨fs, hr, hrun, hended, hRW⟩ := Jvm.Stand.leaveW X136 hS122 (Nat.le_trans hk122 (Nat.le_trans K131.1 K136.1)) (v := some (.ref r_137)) (fun h => by rw [Bd.returns] at h; cases h) (BodyLoose.notSynchronized Bd)
    refine ⟨_, _, W141 _ (own_retR X136 hx Bd.returns rfl rfl (hb hby d_prog_12_method_2_88) hr), hrun, hended, _, _, rfl, ?_, own_chr (T := T136) R140 (CHv.at X136 hZ122 hEL R140.1) hh.symm rfl, own_rw hRW (by decide) (by decide)⟩
    show Q_printable Z a mx kk t kb cs cS fm h0 n0 _ T136.heap _
    exact ⟨r_137, t2_138, kb2_139, rfl, N136, (Keep.trans (Keep.trans (Keep.trans (Keep.trans (Keep.trans (Keep.trans (Keep.refl h0 []) K103 all0) K106 (allS (Or.inr (Nat.le_of_eq g103.symm)) all0)) K110 (allS (Or.inr (Nat.le_of_eq g103.symm)) (allS (Or.inr (Nat.le_trans K103.1 P106_0)) all0))) K122 all0) K131 (allS (Or.inr (Nat.le_of_eq g103.symm)) (allS (Or.inr (Nat.le_trans K103.1 P106_0)) all0))) K136 all0), (Nat.le_trans (Nat.le_trans (Nat.le_trans (Nat.le_trans (Nat.le_trans K103.1 K106.1) K110.1) K122.1) K131.1) P136_0), (Nat.le_trans (Nat.le_trans (Nat.le_trans (Nat.le_trans (Nat.le_trans K103.1 K106.1) K110.1) K122.1) K131.1) P136_1), hR142⟩
  ·
    have hcut : ¬ kk < cs.length := fun q => hc121 (own_lt q (by omega))
    have F143 : Exa Z h110 b103 "java/lang/StringBuilder" := (F113.keep K110)
    have F144 : Exa Z h110 t_107 "[B" := (P106_5.keep K110)
    obtain ⟨cq145, kq145, q145a, q145b, q145c⟩ := isOf hZ0 eq119 F143
    obtain ⟨_, _, ⟨T145, L145, k145, n145⟩, -, X145, ⟨Lc145, hQ145, l145, y145, z145⟩, st145⟩ := X119.virtualBack hx (y := yn41) (z := yn41) hown0 (mvT hZ0 (w152 hw)) (mvT hZ0 (w153 hw)) (notFace_of_selects (args := #[]) (mvT hZ0 (w155 hw))) (mvT hZ0 (w155 hw)) (mvT hZ0 (w154 hw)) (by decide) (backOf (W := 0) (rm_sbToString l Z a0 hw [] b103 t_107 kb_108 (kk + 3) ((cs.take kk).map pr) cS h110 n0 (Nat.le_trans Z0 (Nat.le_trans (Nat.le_trans K103.1 K106.1) K110.1)) O118 S_cs hcS F143 P110_0 P110_1 P110_2 P110_3 F144 (by simp; omega) (by omega) (lat_pr _) (ok_pr (by simp; omega))) hZ0 (w156 hw) (w56 hw) (by decide) (by decide)) q145a q145c (g := (mkF m 85 #[.val (.ref a), .val (.int mx), .val (.int (Int32.ofNat kk)), .val (.ref b103), .val (.int (Int32.ofNat kk)), s6_114] [(.ref b103)])) rfl (by rw [hml]; rfl) (Steps.refl _) (argsL := []) (rest := []) (lenOf pd__28__29_Ljava_2f_lang_2f_String_3b_ rfl) rfl (by show 2 * 0 + _ ≤ _; exact Nat.le_of_eq rfl) (hb hby d_prog_12_method_2_85) (fun _ _ => ⟨rfl, eq119, (Nat.le_of_ble_eq_true rfl), (Nat.le_of_ble_eq_true rfl)⟩)
    dsimp only [Pt.U, Pt.locs, Pt.cells, Pt.slots] at X145 l145 y145 z145 st145 hQ145
    subst l145 y145 z145
    obtain ⟨r_146, t2_147, kb2_148, rfl, Nq145, K145, P145_0, P145_1, P145_2⟩ := hQ145
    have N145 := Fr.app N119 Nq145
    have R149 : CHr Z EL_1 s.vm h0 s.vm T145.heap := R116.trans (CHr.keep K145 sf0 R116.1)
    have W150 : ∀ zQ, SS p e below T145 m 88 #[.val (.ref a), .val (.int mx), .val (.int (Int32.ofNat kk)), .val (.ref b103), .val (.int (Int32.ofNat kk)), s6_114] [(.ref r_146)] zQ → Steps p.tables e below (s₁.setTop (entryFrame m #[(.ref a), (.int mx)] 6)) zQ := by
      intro tt kt
      refine W120 tt ?_
      refine XS.icmpYes X119.here hx rfl (pc0 := 74) (pc' := 84) rfl (hb hby d_prog_12_method_2_74) rfl (flt hc121).2.2.2 (by decide) (by decide) ?_
      refine XS.aloadN X119.here hx rfl (hb hby d_prog_12_method_2_84) rfl rfl ?_
      show SS p e below T119 m 85 #[.val (.ref a), .val (.int mx), .val (.int (Int32.ofNat kk)), .val (.ref b103), .val (.int (Int32.ofNat kk)), s6_114] [(.ref b103)] _
      refine st145.trans ?_
      exact kt
    have hR151 : Str Z T145.heap r_146 t2_147 kb2_148 (pres cs kk) := by unfold pres; rw [if_neg hcut, List.append_nil]; exact P145_2
    obtain ⟨fs, hr, hrun, hended, hRW⟩ := Jvm.Stand.leaveW X145 hS0 (Nat.le_trans hk0 (Nat.le_trans (Nat.le_trans (Nat.le_trans K103.1 K106.1) K110.1) K145.1)) (v := some (.ref r_146)) (fun h => by rw [Bd.returns] at h; cases h) (BodyLoose.notSynchronized Bd)
    refine ⟨_, _, W150 _ (own_retR X145 hx Bd.returns rfl rfl (hb hby d_prog_12_method_2_88) hr), hrun, hended, _, _, rfl, ?_, own_chr (T := T145) R149 (CHv.at X145 hZ0 hEL R149.1) hh.symm rfl, own_rw hRW (by decide) (by decide)⟩
    show Q_printable Z a mx kk t kb cs cS fm h0 n0 _ T145.heap _
    exact ⟨r_146, t2_147, kb2_148, rfl, N145, (Keep.trans (Keep.trans (Keep.trans (Keep.trans (Keep.refl h0 []) K103 all0) K106 (allS (Or.inr (Nat.le_of_eq g103.symm)) all0)) K110 (allS (Or.inr (Nat.le_of_eq g103.symm)) (allS (Or.inr (Nat.le_trans K103.1 P106_0)) all0))) K145 all0), (Nat.le_trans (Nat.le_trans (Nat.le_trans K103.1 K106.1) K110.1) P145_0), (Nat.le_trans (Nat.le_trans (Nat.le_trans K103.1 K106.1) K110.1) P145_1), hR151⟩
def Q_law (Z : State) (a : Int32) (b_ : Int32) (n : Int32) (m_ : Int32) (cS : Int32) (fm : Value) (h0 : Heap) (n0 : Nat) (vQ_ : Option Value) (hQ_ : Heap) (LQ_ : List Loc) : Prop := vQ_ = some (.int (1 : Int32)) ∧ Fr n0 LQ_ ∧ Keep h0 hQ_ []
set_option maxRecDepth 65536 in
set_option maxHeartbeats 40000000 in
theorem rm_law (l : Launch) (Z : State) (a0 : Array Value) (hw : HW a0 Z) (ws : List Jvm.Cond) (a : Int32) (b_ : Int32) (n : Int32) (m_ : Int32) (cS : Int32) (fm : Value) (h0 : Heap) (n0 : Nat) (Z0 : n0 ≤ h0.size) (O0 : Old Z n0 h0) (S_cs : Sta Z Z.heap "java/lang/String" "COMPACT_STRINGS" "Z" (.int cS)) (hcS : ¬ (cS = (0 : Int32))) (S_fm : Sta Z Z.heap "jdk/internal/util/Preconditions" "SIOOBE_FORMATTER" "Ljava/util/function/BiFunction;" fm) (hfm : fm.isRef = true) (S_ad : Sta Z Z.heap "java/lang/StringUTF16" "$assertionsDisabled" "Z" (.int (1 : Int32))) (S_hi : Sta Z Z.heap "java/lang/StringUTF16" "HI_BYTE_SHIFT" "I" (.int (0 : Int32))) (S_lo : Sta Z Z.heap "java/lang/StringUTF16" "LO_BYTE_SHIFT" "I" (.int (8 : Int32))) :
    MetFree l x (head1 (Jvm.Cond.code x code maxLocals ret :: ws) room_1) (fun aQ_ UQ => aQ_ = #[(.int a), (.int b_), (.int n), (.int m_)] ∧ Z.Warmed39 UQ.vm ∧ UQ.heap = h0 ∧ CHv Z EL_1 UQ.vm h0) (fun _ _ _ _ _ => True) (fun _ UQ oQ UQ' => ∃ vQ_ LQ_, oQ = .returned vQ_ ∧ Q_law Z a b_ n m_ cS fm h0 n0 vQ_ UQ'.heap LQ_ ∧ CHr Z EL_1 UQ.vm UQ.heap UQ'.vm UQ'.heap ∧ ReturnedEndW UQ oQ UQ' LQ_ room_1.cells room_1.slots) := by
  refine MetFree.of_bodySF (plainFor_of_name pn_com_example_patents_via_api_patentsviaapi_errors_UntrustedTextPrintablePinLaw) hisR ?_
  intro p e s m args below meth cO s₁ Bd hml0 hP hK
  obtain ⟨rfl, hZ, hh, hH⟩ := hP
  have hx := Bd.exec
  have hby := Bd.bytes
  have hml : cO.maxLocals = 16 := hml0
  have hown : s.vm.findClass "com/example/patents_via_api/patentsviaapi/errors/UntrustedTextPrintablePinLaw" = some m.cls := findClass_of_methodNamed Bd.named
  have hnm := (name_of_methodNamed Bd.named Bd.method).1
  have X0 : Stand p l e room_1 (s.setVm s.vm) m #[(.int a), (.int b_), (.int n), (.int m_)] below meth cO s₁ [] 0 0 := Stand.of_body Bd
  have e0 : s₁.heap = h0 := by rw [← hh, Bd.state]; rfl
  have N0 := Fr.nil n0
  have hZ0 : Z.Warmed39 (s.setVm s.vm).vm := hZ
  have hown0 : (s.setVm s.vm).vm.findClass "com/example/patents_via_api/patentsviaapi/errors/UntrustedTextPrintablePinLaw" = some m.cls := hown
  have hS0 : s.Since s.vm 0 := (State.WarmedH.refl s).since 0
  have hk0 : 0 ≤ h0.size := Nat.zero_le _
  have hEL : EW Z a0 EL_1 := own_EW hw
  have R0 : CHr Z EL_1 s.vm h0 s.vm h0 := CHr.refl hH
  have W0 : ∀ zQ, SS p e below s₁ m 0 #[.val (.int a), .val (.int b_), .val (.int n), .val (.int m_), .unset, .unset, .unset, .unset, .unset, .unset, .unset, .unset, .unset, .unset, .unset, .unset] [] zQ → Steps p.tables e below (s₁.setTop (entryFrame m #[(.int a), (.int b_), (.int n), (.int m_)] maxLocals)) zQ := fun tt kt => castTop (ef_law m a b_ n m_) kt
  obtain ⟨rr, h_rr⟩ : ∃ z : Int32, z = ((n &&& (2147483647 : Int32)) % (5 : Int32)) := ⟨_, rfl⟩
  have W101 : ∀ zQ, SS p e below s₁ m 9 #[.val (.int a), .val (.int b_), .val (.int n), .val (.int m_), .val (.int rr), .unset, .unset, .unset, .unset, .unset, .unset, .unset, .unset, .unset, .unset, .unset] [(.int m_)] zQ → Steps p.tables e below (s₁.setTop (entryFrame m #[(.int a), (.int b_), (.int n), (.int m_)] maxLocals)) zQ := by
    intro tt kt
    refine W0 tt ?_
    refine XS.iloadN X0.here hx rfl (hb hby at_0) rfl ?_
    refine X0.ldcInt hx hown0 (mvT hZ0 (w0 hw)) (g := (mkF m 1 #[.val (.int a), .val (.int b_), .val (.int n), .val (.int m_), .unset, .unset, .unset, .unset, .unset, .unset, .unset, .unset, .unset, .unset, .unset, .unset] [(.int n)])) rfl (hb hby at_1) _ ?_
    refine XS.iand X0.here hx rfl (hb hby at_3) rfl ?_
    refine XS.iconst X0.here hx rfl (hb hby at_4) ?_
    show SS p e below s₁ m 5 #[.val (.int a), .val (.int b_), .val (.int n), .val (.int m_), .unset, .unset, .unset, .unset, .unset, .unset, .unset, .unset, .unset, .unset, .unset, .unset] [(.int (5 : Int32)), (.int (n &&& (2147483647 : Int32)))] _
    refine Jvm.RoadKit.iremM X0 hx rfl (hb hby at_5) rfl (by decide) ?_
    show SS p e below s₁ m 6 #[.val (.int a), .val (.int b_), .val (.int n), .val (.int m_), .unset, .unset, .unset, .unset, .unset, .unset, .unset, .unset, .unset, .unset, .unset, .unset] [(.int ((n &&& (2147483647 : Int32)) % (5 : Int32)))] _
    rw [← h_rr]
    refine XS.istore X0.here hx rfl (hb hby at_6) rfl (l' := #[.val (.int a), .val (.int b_), .val (.int n), .val (.int m_), .val (.int rr), .unset, .unset, .unset, .unset, .unset, .unset, .unset, .unset, .unset, .unset, .unset]) rfl ?_
    refine XS.iloadN X0.here hx rfl (hb hby at_8) rfl ?_
    exact kt
  have W103 : ∀ zQ, SS p e below s₁ m 20 #[.val (.int a), .val (.int b_), .val (.int n), .val (.int m_), .val (.int rr), .unset, .unset, .unset, .unset, .unset, .unset, .unset, .unset, .unset, .unset, .unset] [(.int (if m_ < (0 : Int32) then (m_ &&& (7 : Int32)) else m_))] zQ → Steps p.tables e below (s₁.setTop (entryFrame m #[(.int a), (.int b_), (.int n), (.int m_)] maxLocals)) zQ := by
    intro tt kt
    refine W101 tt ?_
    by_cases hj102 : m_ < (0 : Int32)
    ·
      refine XS.ifNo X0.here hx rfl (hb hby at_9) rfl ((if0 _ _).trans (tlt hj102).2.1) ?_
      refine XS.iloadN X0.here hx rfl (hb hby at_12) rfl ?_
      refine XS.bipush X0.here hx rfl (hb hby at_13) ?_
      refine XS.iand X0.here hx rfl (hb hby at_15) rfl ?_
      refine XS.goto X0.here hx rfl (pc0 := 16) (pc' := 20) rfl (hb hby at_16) (by decide) (by decide) ?_
      exact castTop (by first | rfl | (simp only [if_pos hj102]; first | done | rfl)) kt
    ·
      refine XS.ifYes X0.here hx rfl (pc0 := 9) (pc' := 19) rfl (hb hby at_9) rfl ((if0 _ _).trans (flt hj102).2.1) (by decide) (by decide) ?_
      refine XS.iloadN X0.here hx rfl (hb hby at_19) rfl ?_
      exact castTop (by first | rfl | (simp only [if_neg hj102]; first | done | rfl)) kt
  obtain ⟨mx, h_mx⟩ : ∃ z : Int32, z = (if m_ < (0 : Int32) then (m_ &&& (7 : Int32)) else m_) := ⟨_, rfl⟩
  have hmx : ¬ (mx < (0 : Int32)) := by rw [h_mx]; exact own_mx m_
  obtain ⟨c0, h_c0⟩ : ∃ z : Int32, z = ((a &&& (65535 : Int32)).toUInt32.toUInt16.toUInt32.toInt32) := ⟨_, rfl⟩
  obtain ⟨c1, h_c1⟩ : ∃ z : Int32, z = (((a.toUInt32 >>> ((16 : Int32) &&& 31).toUInt32).toInt32).toUInt32.toUInt16.toUInt32.toInt32) := ⟨_, rfl⟩
  obtain ⟨c2, h_c2⟩ : ∃ z : Int32, z = ((b_ &&& (65535 : Int32)).toUInt32.toUInt16.toUInt32.toInt32) := ⟨_, rfl⟩
  obtain ⟨c3, h_c3⟩ : ∃ z : Int32, z = (((b_.toUInt32 >>> ((16 : Int32) &&& 31).toUInt32).toInt32).toUInt32.toUInt16.toUInt32.toInt32) := ⟨_, rfl⟩
  have W104 : ∀ zQ, SS p e below s₁ m 50 #[.val (.int a), .val (.int b_), .val (.int n), .val (.int m_), .val (.int rr), .val (.int mx), .val (.int c0), .val (.int c1), .val (.int c2), .val (.int c3), .unset, .unset, .unset, .unset, .unset, .unset] [] zQ → Steps p.tables e below (s₁.setTop (entryFrame m #[(.int a), (.int b_), (.int n), (.int m_)] maxLocals)) zQ := by
    intro tt kt
    refine W103 tt ?_
    rw [← h_mx]
    refine XS.istore X0.here hx rfl (hb hby at_20) rfl (l' := #[.val (.int a), .val (.int b_), .val (.int n), .val (.int m_), .val (.int rr), .val (.int mx), .unset, .unset, .unset, .unset, .unset, .unset, .unset, .unset, .unset, .unset]) rfl ?_
    refine XS.iloadN X0.here hx rfl (hb hby at_22) rfl ?_
    refine X0.ldcInt hx hown0 (mvT hZ0 (w1 hw)) (g := (mkF m 23 #[.val (.int a), .val (.int b_), .val (.int n), .val (.int m_), .val (.int rr), .val (.int mx), .unset, .unset, .unset, .unset, .unset, .unset, .unset, .unset, .unset, .unset] [(.int a)])) rfl (hb hby at_23) _ ?_
    refine XS.iand X0.here hx rfl (hb hby at_25) rfl ?_
    refine XS.i2c X0.here hx rfl (hb hby at_26) rfl ?_
    show SS p e below s₁ m 27 #[.val (.int a), .val (.int b_), .val (.int n), .val (.int m_), .val (.int rr), .val (.int mx), .unset, .unset, .unset, .unset, .unset, .unset, .unset, .unset, .unset, .unset] [(.int ((a &&& (65535 : Int32)).toUInt32.toUInt16.toUInt32.toInt32))] _
    rw [← h_c0]
    refine XS.istore X0.here hx rfl (hb hby at_27) rfl (l' := #[.val (.int a), .val (.int b_), .val (.int n), .val (.int m_), .val (.int rr), .val (.int mx), .val (.int c0), .unset, .unset, .unset, .unset, .unset, .unset, .unset, .unset, .unset]) rfl ?_
    refine XS.iloadN X0.here hx rfl (hb hby at_29) rfl ?_
    refine XS.bipush X0.here hx rfl (hb hby at_30) ?_
    refine XS.iushr X0.here hx rfl (hb hby at_32) rfl ?_
    refine XS.i2c X0.here hx rfl (hb hby at_33) rfl ?_
    show SS p e below s₁ m 34 #[.val (.int a), .val (.int b_), .val (.int n), .val (.int m_), .val (.int rr), .val (.int mx), .val (.int c0), .unset, .unset, .unset, .unset, .unset, .unset, .unset, .unset, .unset] [(.int (((a.toUInt32 >>> ((16 : Int32) &&& 31).toUInt32).toInt32).toUInt32.toUInt16.toUInt32.toInt32))] _
    rw [← h_c1]
    refine XS.istore X0.here hx rfl (hb hby at_34) rfl (l' := #[.val (.int a), .val (.int b_), .val (.int n), .val (.int m_), .val (.int rr), .val (.int mx), .val (.int c0), .val (.int c1), .unset, .unset, .unset, .unset, .unset, .unset, .unset, .unset]) rfl ?_
    refine XS.iloadN X0.here hx rfl (hb hby at_36) rfl ?_
    refine X0.ldcInt hx hown0 (mvT hZ0 (w1 hw)) (g := (mkF m 37 #[.val (.int a), .val (.int b_), .val (.int n), .val (.int m_), .val (.int rr), .val (.int mx), .val (.int c0), .val (.int c1), .unset, .unset, .unset, .unset, .unset, .unset, .unset, .unset] [(.int b_)])) rfl (hb hby at_37) _ ?_
    refine XS.iand X0.here hx rfl (hb hby at_39) rfl ?_
    refine XS.i2c X0.here hx rfl (hb hby at_40) rfl ?_
    show SS p e below s₁ m 41 #[.val (.int a), .val (.int b_), .val (.int n), .val (.int m_), .val (.int rr), .val (.int mx), .val (.int c0), .val (.int c1), .unset, .unset, .unset, .unset, .unset, .unset, .unset, .unset] [(.int ((b_ &&& (65535 : Int32)).toUInt32.toUInt16.toUInt32.toInt32))] _
    rw [← h_c2]
    refine XS.istore X0.here hx rfl (hb hby at_41) rfl (l' := #[.val (.int a), .val (.int b_), .val (.int n), .val (.int m_), .val (.int rr), .val (.int mx), .val (.int c0), .val (.int c1), .val (.int c2), .unset, .unset, .unset, .unset, .unset, .unset, .unset]) rfl ?_
    refine XS.iloadN X0.here hx rfl (hb hby at_43) rfl ?_
    refine XS.bipush X0.here hx rfl (hb hby at_44) ?_
    refine XS.iushr X0.here hx rfl (hb hby at_46) rfl ?_
    refine XS.i2c X0.here hx rfl (hb hby at_47) rfl ?_
    show SS p e below s₁ m 48 #[.val (.int a), .val (.int b_), .val (.int n), .val (.int m_), .val (.int rr), .val (.int mx), .val (.int c0), .val (.int c1), .val (.int c2), .unset, .unset, .unset, .unset, .unset, .unset, .unset] [(.int (((b_.toUInt32 >>> ((16 : Int32) &&& 31).toUInt32).toInt32).toUInt32.toUInt16.toUInt32.toInt32))] _
    rw [← h_c3]
    refine XS.istore X0.here hx rfl (hb hby at_48) rfl (l' := #[.val (.int a), .val (.int b_), .val (.int n), .val (.int m_), .val (.int rr), .val (.int mx), .val (.int c0), .val (.int c1), .val (.int c2), .val (.int c3), .unset, .unset, .unset, .unset, .unset, .unset]) rfl ?_
    exact kt
  rcases (h_rr ▸ own_r5 n : rr = 0 ∨ rr = 1 ∨ rr = 2 ∨ rr = 3 ∨ rr = 4) with rfl | rfl | rfl | rfl | rfl
  ·
    obtain ⟨T105, h105, k105, X105, e105, E105, A105, st105⟩ := newP X0 hx hZ0 (aty := .char) (w2 hw) e0 (g := (mkF m 52 #[.val (.int a), .val (.int b_), .val (.int n), .val (.int m_), .val (.int (0 : Int32)), .val (.int mx), .val (.int c0), .val (.int c1), .val (.int c2), .val (.int c3), .unset, .unset, .unset, .unset, .unset, .unset] [(.int (0 : Int32))])) rfl (hb hby at_52) (n := (0 : Int32)) rfl (by decide) (cap := 0) (by decide) (by decide) (by decide) (by decide)
    obtain ⟨b105, g105⟩ : ∃ z, z = h0.size := ⟨_, rfl⟩
    rw [← g105] at A105 st105
    have K105 := (Keep.refl h0 []).ext E105
    have R106 : CHr Z EL_1 s.vm h0 s.vm h105 := R0.trans (CHr.keep K105 sf0 R0.1)
    have G105 : Arv Z h105 b105 k105 .char (0 : Int32) [] (.int (0 : Int32)) := (Arv.new A105 (by decide)).pad (pad_rep [] (.int (0 : Int32)) 0)
    obtain ⟨T107, h107, k107, X107, e107, E107, A107, st107⟩ := newP X105 hx hZ0 (aty := .char) (w2 hw) e105 (g := (mkF m 104 #[.val (.int a), .val (.int b_), .val (.int n), .val (.int m_), .val (.int (0 : Int32)), .val (.int mx), .val (.int c0), .val (.int c1), .val (.int c2), .val (.int c3), .val (.ref b105), .unset, .unset, .unset, .unset, .unset] [(.int (4 : Int32))])) rfl (hb hby at_104) (n := (4 : Int32)) rfl (by decide) (cap := 4) (by decide) (by decide) (by decide) (by decide)
    obtain ⟨b107, g107⟩ : ∃ z, z = h105.size := ⟨_, rfl⟩
    rw [← g107] at A107 st107
    have K107 := (Keep.refl h105 []).ext E107
    have R108 : CHr Z EL_1 s.vm h0 s.vm h107 := R106.trans (CHr.keep K107 sf0 R106.1)
    have G107 : Arv Z h107 b107 k107 .char (4 : Int32) [(.int (0 : Int32)), (.int (0 : Int32)), (.int (0 : Int32)), (.int (0 : Int32))] (.int (0 : Int32)) := (Arv.new A107 (by decide)).pad (pad_rep [] (.int (0 : Int32)) 4)
    obtain ⟨_, _, ⟨T109, L109, k109, n109⟩, -, X109, ⟨Lc109, hQ109, l109, y109, z109⟩, st109⟩ := Jvm.LawKit.callS X107 hx (y := yn42) hown0 (mvT hZ0 (w3 hw)) (mvT hZ0 (w4 hw)) (mvT hZ0 (w5 hw)) (mvT hZ0 (w6 hw)) (by decide) (backOf (W := 2) (rm_safe l Z a0 hw [] c0 h107 n0 (Nat.le_trans Z0 (Nat.le_trans K105.1 K107.1)) (by rw [h_c0]; exact (own_i2cr _).1) (by rw [h_c0]; exact (own_i2cr _).2)) hZ0 (w6 hw) (w5 hw) (by decide) (by decide)) (g := (mkF m 113 #[.val (.int a), .val (.int b_), .val (.int n), .val (.int m_), .val (.int (0 : Int32)), .val (.int mx), .val (.int c0), .val (.int c1), .val (.int c2), .val (.int c3), .val (.ref b105), .val (.ref b107), .unset, .unset, .unset, .unset] [(.int c0), (.int (0 : Int32)), (.ref b107)])) rfl (by rw [hml]; rfl) (argsL := [(.int c0)]) (rest := [(.int (0 : Int32)), (.ref b107)]) (lenOf pd__28_C_29_C rfl) rfl (by show 2 * 0 + _ ≤ _; exact Nat.le_of_eq rfl) (hb hby at_113) (fun _ _ => ⟨rfl, e107, (Nat.le_of_ble_eq_true rfl), (Nat.le_of_ble_eq_true rfl)⟩)
    dsimp only [Pt.U, Pt.locs, Pt.cells, Pt.slots] at X109 l109 y109 z109 st109 hQ109
    subst l109 y109 z109
    obtain ⟨rfl, Nq109, eq109⟩ := hQ109
    have N109 := Fr.app N0 Nq109
    obtain ⟨cl110, Ar110, q110, S110, M110, H110, F110g⟩ := id G107
    have hin110 : ¬ ((0 : Int32) < 0 ∨ cl110.slots.size ≤ ((0 : Int32)).toNatClampNeg) := inb_of S110 ⟨by decide, by decide⟩
    obtain ⟨T110, h110, X110, e110, Wr110, st110⟩ := stC X109 hx hZ0 eq109 Ar110 (j := (0 : Int32)) hin110 (g := (mkF m 116 #[.val (.int a), .val (.int b_), .val (.int n), .val (.int m_), .val (.int (0 : Int32)), .val (.int mx), .val (.int c0), .val (.int c1), .val (.int c2), .val (.int c3), .val (.ref b105), .val (.ref b107), .unset, .unset, .unset, .unset] [(.int (pr c0)), (.int (0 : Int32)), (.ref b107)])) rfl rfl (hb hby at_116)
    have G110 : Arv Z h110 b107 k107 .char (4 : Int32) [(.int (nar .char (pr c0))), (.int (0 : Int32)), (.int (0 : Int32)), (.int (0 : Int32))] (.int (0 : Int32)) := Arv.set Ar110 q110 S110 M110 H110 F110g (fits_nar_char _) Wr110 0 rfl (Nat.le_of_ble_eq_true rfl)
    have K110 := Keep.of_wr Wr110
    have N110 := Fr.snoc X110 N109 (Nat.le_trans Z0 (Nat.le_trans K105.1 (Nat.le_of_eq g107.symm)))
    have R111 : CHr Z EL_1 s.vm h0 s.vm h110 := R108.trans (CHr.keep K110 (sfS (Safe.arv hZ0.alike G107 (by intro q; cases q)) sf0) R108.1)
    have J110 : Arv Z h110 b107 k107 .char (4 : Int32) [(.int (pr c0)), (.int (0 : Int32)), (.int (0 : Int32)), (.int (0 : Int32))] (.int (0 : Int32)) := by rw [own_narpr] at G110; exact G110
    obtain ⟨_, _, ⟨T112, L112, k112, n112⟩, -, X112, ⟨Lc112, hQ112, l112, y112, z112⟩, st112⟩ := Jvm.LawKit.callS X110 hx (y := yn42) hown0 (mvT hZ0 (w3 hw)) (mvT hZ0 (w4 hw)) (mvT hZ0 (w5 hw)) (mvT hZ0 (w6 hw)) (by decide) (backOf (W := 2) (rm_safe l Z a0 hw [] c1 h110 n0 (Nat.le_trans Z0 (Nat.le_trans (Nat.le_trans K105.1 K107.1) K110.1)) (by rw [h_c1]; exact (own_i2cr _).1) (by rw [h_c1]; exact (own_i2cr _).2)) hZ0 (w6 hw) (w5 hw) (by decide) (by decide)) (g := (mkF m 122 #[.val (.int a), .val (.int b_), .val (.int n), .val (.int m_), .val (.int (0 : Int32)), .val (.int mx), .val (.int c0), .val (.int c1), .val (.int c2), .val (.int c3), .val (.ref b105), .val (.ref b107), .unset, .unset, .unset, .unset] [(.int c1), (.int (1 : Int32)), (.ref b107)])) rfl (by rw [hml]; rfl) (argsL := [(.int c1)]) (rest := [(.int (1 : Int32)), (.ref b107)]) (lenOf pd__28_C_29_C rfl) rfl (by show 2 * 0 + _ ≤ _; exact Nat.le_of_eq rfl) (hb hby at_122) (fun _ _ => ⟨rfl, e110, (Nat.le_of_ble_eq_true rfl), (Nat.le_of_ble_eq_true rfl)⟩)
    dsimp only [Pt.U, Pt.locs, Pt.cells, Pt.slots] at X112 l112 y112 z112 st112 hQ112
    subst l112 y112 z112
    obtain ⟨rfl, Nq112, eq112⟩ := hQ112
    have N112 := Fr.app N110 Nq112
    obtain ⟨cl113, Ar113, q113, S113, M113, H113, F113g⟩ := id J110
    have hin113 : ¬ ((1 : Int32) < 0 ∨ cl113.slots.size ≤ ((1 : Int32)).toNatClampNeg) := inb_of S113 ⟨by decide, by decide⟩
    obtain ⟨T113, h113, X113, e113, Wr113, st113⟩ := stC X112 hx hZ0 eq112 Ar113 (j := (1 : Int32)) hin113 (g := (mkF m 125 #[.val (.int a), .val (.int b_), .val (.int n), .val (.int m_), .val (.int (0 : Int32)), .val (.int mx), .val (.int c0), .val (.int c1), .val (.int c2), .val (.int c3), .val (.ref b105), .val (.ref b107), .unset, .unset, .unset, .unset] [(.int (pr c1)), (.int (1 : Int32)), (.ref b107)])) rfl rfl (hb hby at_125)
    have G113 : Arv Z h113 b107 k107 .char (4 : Int32) [(.int (pr c0)), (.int (nar .char (pr c1))), (.int (0 : Int32)), (.int (0 : Int32))] (.int (0 : Int32)) := Arv.set Ar113 q113 S113 M113 H113 F113g (fits_nar_char _) Wr113 1 rfl (Nat.le_of_ble_eq_true rfl)
    have K113 := Keep.of_wr Wr113
    have N113 := Fr.snoc X113 N112 (Nat.le_trans Z0 (Nat.le_trans K105.1 (Nat.le_of_eq g107.symm)))
    have R114 : CHr Z EL_1 s.vm h0 s.vm h113 := R111.trans (CHr.keep K113 (sfS (Safe.arv hZ0.alike J110 (by intro q; cases q)) sf0) R111.1)
    have J113 : Arv Z h113 b107 k107 .char (4 : Int32) [(.int (pr c0)), (.int (pr c1)), (.int (0 : Int32)), (.int (0 : Int32))] (.int (0 : Int32)) := by rw [own_narpr] at G113; exact G113
    obtain ⟨_, _, ⟨T115, L115, k115, n115⟩, -, X115, ⟨Lc115, hQ115, l115, y115, z115⟩, st115⟩ := Jvm.LawKit.callS X113 hx (y := yn42) hown0 (mvT hZ0 (w3 hw)) (mvT hZ0 (w4 hw)) (mvT hZ0 (w5 hw)) (mvT hZ0 (w6 hw)) (by decide) (backOf (W := 2) (rm_safe l Z a0 hw [] c2 h113 n0 (Nat.le_trans Z0 (Nat.le_trans (Nat.le_trans (Nat.le_trans K105.1 K107.1) K110.1) K113.1)) (by rw [h_c2]; exact (own_i2cr _).1) (by rw [h_c2]; exact (own_i2cr _).2)) hZ0 (w6 hw) (w5 hw) (by decide) (by decide)) (g := (mkF m 131 #[.val (.int a), .val (.int b_), .val (.int n), .val (.int m_), .val (.int (0 : Int32)), .val (.int mx), .val (.int c0), .val (.int c1), .val (.int c2), .val (.int c3), .val (.ref b105), .val (.ref b107), .unset, .unset, .unset, .unset] [(.int c2), (.int (2 : Int32)), (.ref b107)])) rfl (by rw [hml]; rfl) (argsL := [(.int c2)]) (rest := [(.int (2 : Int32)), (.ref b107)]) (lenOf pd__28_C_29_C rfl) rfl (by show 2 * 0 + _ ≤ _; exact Nat.le_of_eq rfl) (hb hby at_131) (fun _ _ => ⟨rfl, e113, (Nat.le_of_ble_eq_true rfl), (Nat.le_of_ble_eq_true rfl)⟩)
    dsimp only [Pt.U, Pt.locs, Pt.cells, Pt.slots] at X115 l115 y115 z115 st115 hQ115
    subst l115 y115 z115
    obtain ⟨rfl, Nq115, eq115⟩ := hQ115
    have N115 := Fr.app N113 Nq115
    obtain ⟨cl116, Ar116, q116, S116, M116, H116, F116g⟩ := id J113
    have hin116 : ¬ ((2 : Int32) < 0 ∨ cl116.slots.size ≤ ((2 : Int32)).toNatClampNeg) := inb_of S116 ⟨by decide, by decide⟩
    obtain ⟨T116, h116, X116, e116, Wr116, st116⟩ := stC X115 hx hZ0 eq115 Ar116 (j := (2 : Int32)) hin116 (g := (mkF m 134 #[.val (.int a), .val (.int b_), .val (.int n), .val (.int m_), .val (.int (0 : Int32)), .val (.int mx), .val (.int c0), .val (.int c1), .val (.int c2), .val (.int c3), .val (.ref b105), .val (.ref b107), .unset, .unset, .unset, .unset] [(.int (pr c2)), (.int (2 : Int32)), (.ref b107)])) rfl rfl (hb hby at_134)
    have G116 : Arv Z h116 b107 k107 .char (4 : Int32) [(.int (pr c0)), (.int (pr c1)), (.int (nar .char (pr c2))), (.int (0 : Int32))] (.int (0 : Int32)) := Arv.set Ar116 q116 S116 M116 H116 F116g (fits_nar_char _) Wr116 2 rfl (Nat.le_of_ble_eq_true rfl)
    have K116 := Keep.of_wr Wr116
    have N116 := Fr.snoc X116 N115 (Nat.le_trans Z0 (Nat.le_trans K105.1 (Nat.le_of_eq g107.symm)))
    have R117 : CHr Z EL_1 s.vm h0 s.vm h116 := R114.trans (CHr.keep K116 (sfS (Safe.arv hZ0.alike J113 (by intro q; cases q)) sf0) R114.1)
    have J116 : Arv Z h116 b107 k107 .char (4 : Int32) [(.int (pr c0)), (.int (pr c1)), (.int (pr c2)), (.int (0 : Int32))] (.int (0 : Int32)) := by rw [own_narpr] at G116; exact G116
    obtain ⟨_, _, ⟨T118, L118, k118, n118⟩, -, X118, ⟨Lc118, hQ118, l118, y118, z118⟩, st118⟩ := Jvm.LawKit.callS X116 hx (y := yn42) hown0 (mvT hZ0 (w3 hw)) (mvT hZ0 (w4 hw)) (mvT hZ0 (w5 hw)) (mvT hZ0 (w6 hw)) (by decide) (backOf (W := 2) (rm_safe l Z a0 hw [] c3 h116 n0 (Nat.le_trans Z0 (Nat.le_trans (Nat.le_trans (Nat.le_trans (Nat.le_trans K105.1 K107.1) K110.1) K113.1) K116.1)) (by rw [h_c3]; exact (own_i2cr _).1) (by rw [h_c3]; exact (own_i2cr _).2)) hZ0 (w6 hw) (w5 hw) (by decide) (by decide)) (g := (mkF m 140 #[.val (.int a), .val (.int b_), .val (.int n), .val (.int m_), .val (.int (0 : Int32)), .val (.int mx), .val (.int c0), .val (.int c1), .val (.int c2), .val (.int c3), .val (.ref b105), .val (.ref b107), .unset, .unset, .unset, .unset] [(.int c3), (.int (3 : Int32)), (.ref b107)])) rfl (by rw [hml]; rfl) (argsL := [(.int c3)]) (rest := [(.int (3 : Int32)), (.ref b107)]) (lenOf pd__28_C_29_C rfl) rfl (by show 2 * 0 + _ ≤ _; exact Nat.le_of_eq rfl) (hb hby at_140) (fun _ _ => ⟨rfl, e116, (Nat.le_of_ble_eq_true rfl), (Nat.le_of_ble_eq_true rfl)⟩)
    dsimp only [Pt.U, Pt.locs, Pt.cells, Pt.slots] at X118 l118 y118 z118 st118 hQ118
    subst l118 y118 z118
    obtain ⟨rfl, Nq118, eq118⟩ := hQ118
    have N118 := Fr.app N116 Nq118
    obtain ⟨cl119, Ar119, q119, S119, M119, H119, F119g⟩ := id J116
    have hin119 : ¬ ((3 : Int32) < 0 ∨ cl119.slots.size ≤ ((3 : Int32)).toNatClampNeg) := inb_of S119 ⟨by decide, by decide⟩
    obtain ⟨T119, h119, X119, e119, Wr119, st119⟩ := stC X118 hx hZ0 eq118 Ar119 (j := (3 : Int32)) hin119 (g := (mkF m 143 #[.val (.int a), .val (.int b_), .val (.int n), .val (.int m_), .val (.int (0 : Int32)), .val (.int mx), .val (.int c0), .val (.int c1), .val (.int c2), .val (.int c3), .val (.ref b105), .val (.ref b107), .unset, .unset, .unset, .unset] [(.int (pr c3)), (.int (3 : Int32)), (.ref b107)])) rfl rfl (hb hby at_143)
    have G119 : Arv Z h119 b107 k107 .char (4 : Int32) [(.int (pr c0)), (.int (pr c1)), (.int (pr c2)), (.int (nar .char (pr c3)))] (.int (0 : Int32)) := Arv.set Ar119 q119 S119 M119 H119 F119g (fits_nar_char _) Wr119 3 rfl (Nat.le_of_ble_eq_true rfl)
    have K119 := Keep.of_wr Wr119
    have N119 := Fr.snoc X119 N118 (Nat.le_trans Z0 (Nat.le_trans K105.1 (Nat.le_of_eq g107.symm)))
    have R120 : CHr Z EL_1 s.vm h0 s.vm h119 := R117.trans (CHr.keep K119 (sfS (Safe.arv hZ0.alike J116 (by intro q; cases q)) sf0) R117.1)
    have J119 : Arv Z h119 b107 k107 .char (4 : Int32) [(.int (pr c0)), (.int (pr c1)), (.int (pr c2)), (.int (pr c3))] (.int (0 : Int32)) := by rw [own_narpr] at G119; exact G119
    obtain ⟨T121, h121, X121, e121, E121, A121, D121, U121, st121⟩ := newO X119 hx hZ0 hown0 (w7 hw) (w8 hw) (w9 hw) e119 (g := (mkF m 144 #[.val (.int a), .val (.int b_), .val (.int n), .val (.int m_), .val (.int (0 : Int32)), .val (.int mx), .val (.int c0), .val (.int c1), .val (.int c2), .val (.int c3), .val (.ref b105), .val (.ref b107), .unset, .unset, .unset, .unset] [])) rfl (hb hby at_144) (by decide) (by decide)
    obtain ⟨b121, g121⟩ : ∃ z, z = h119.size := ⟨_, rfl⟩
    rw [← g121] at A121 D121 U121 st121
    have K121 := (Keep.refl h119 []).ext E121
    have R122 : CHr Z EL_1 s.vm h0 s.vm h121 := R120.trans (CHr.keep K121 sf0 R120.1)
    have G121_coder : Fld Z h121 b121 "java/lang/String" "coder" "B" (.int (0 : Int32)) := D121 (Or.inr (w33 hw)) (ty := .byte) (by decide)
    have G121_value : Fld Z h121 b121 "java/lang/String" "value" "[B" .null := D121 (Or.inr (w35 hw)) (ty := (.array .byte)) (by decide)
    have F123 : Arv Z h121 b105 k105 .char (0 : Int32) [] (.int (0 : Int32)) := ((((((G105.keep K107 nin0).keep K110 (ninS (Nat.ne_of_lt (Nat.lt_of_lt_of_le G105.lt (Nat.le_of_eq g107.symm))) nin0)).keep K113 (ninS (Nat.ne_of_lt (Nat.lt_of_lt_of_le G105.lt (Nat.le_of_eq g107.symm))) nin0)).keep K116 (ninS (Nat.ne_of_lt (Nat.lt_of_lt_of_le G105.lt (Nat.le_of_eq g107.symm))) nin0)).keep K119 (ninS (Nat.ne_of_lt (Nat.lt_of_lt_of_le G105.lt (Nat.le_of_eq g107.symm))) nin0)).keep K121 nin0)
    obtain ⟨_, _, ⟨T124, L124, k124, n124⟩, -, X124', hS124', hgr124, ⟨Lc124, hQ124, l124, y124, z124, A124⟩, st124⟩ := X121.specialBackS hx (y := yn19) rfl hown0 (mvT hZ0 (w10 hw)) (mvT hZ0 (w11 hw)) (mvT hZ0 (w12 hw)) (by decide) (backOfSH (W := 1) (rm_sinit0 l Z a0 hw [] b121 b105 k105 h121 n0 (Nat.le_trans Z0 (Nat.le_trans (Nat.le_trans (Nat.le_trans (Nat.le_trans (Nat.le_trans (Nat.le_trans K105.1 K107.1) K110.1) K113.1) K116.1) K119.1) K121.1)) A121 G121_value G121_coder (Nat.le_trans Z0 (Nat.le_trans (Nat.le_trans (Nat.le_trans (Nat.le_trans (Nat.le_trans (Nat.le_trans K105.1 K107.1) K110.1) K113.1) K116.1) K119.1) (Nat.le_of_eq g121.symm))) F123) hZ0 (w12 hw) (w9 hw) (by decide) (by decide) hEL R122.1) (g := (mkF m 150 #[.val (.int a), .val (.int b_), .val (.int n), .val (.int m_), .val (.int (0 : Int32)), .val (.int mx), .val (.int c0), .val (.int c1), .val (.int c2), .val (.int c3), .val (.ref b105), .val (.ref b107), .unset, .unset, .unset, .unset] [(.ref b105), (.ref b121), (.ref b121)])) rfl (by rw [hml]; rfl) (Steps.refl _) (a := b121) (argsL := [(.ref b105)]) (rest := [(.ref b121)]) (lenOf pd__28__5b_C_29_V rfl) rfl (by show 2 * 0 + _ ≤ _; exact Nat.le_of_eq rfl) (hb hby at_150) (fun _ _ => ⟨rfl, e121, (Nat.le_of_ble_eq_true rfl), (Nat.le_of_ble_eq_true rfl)⟩)
    dsimp only [Pt.U, Pt.locs, Pt.cells, Pt.slots] at X124' hS124' hgr124 l124 y124 z124 st124 hQ124 A124
    subst l124 y124 z124
    obtain ⟨X124, hS124, hZ124, hown124⟩ := rebS hS0 (by rw [e121]; exact (Nat.le_trans hk0 (Nat.le_trans (Nat.le_trans (Nat.le_trans (Nat.le_trans (Nat.le_trans (Nat.le_trans K105.1 K107.1) K110.1) K113.1) K116.1) K119.1) K121.1))) X124' hS124' hgr124 hZ0 hown0
    obtain ⟨t_125, kb_126, rfl, Nq124, K124, P124_0⟩ := hQ124
    have N124 := Fr.app N119 Nq124
    have R127 : CHr Z EL_1 s.vm h0 T124.vm T124.heap := R122.trans A124
    have hk124 : T124.heap.size ≤ T124.heap.size := Nat.le_refl _
    obtain ⟨kk, hkl, hmin, hkept, hcut⟩ := own_kk ([] : List Int32).length mx hmx (Nat.le_of_ble_eq_true rfl)
    have hes : ∀ i, i < ([] : List Int32).length → ([pr c0, pr c1, pr c2, pr c3] : List Int32).getD i 0 = pr (([] : List Int32).getD i 0) := fun i hi => absurd hi (Nat.not_lt_zero i)
    have O128 : Old Z n0 T124.heap := ((((((((O0.keep K105 all0).keep K107 all0).keep K110 (allS (Nat.le_trans Z0 (Nat.le_trans K105.1 (Nat.le_of_eq g107.symm))) all0)).keep K113 (allS (Nat.le_trans Z0 (Nat.le_trans K105.1 (Nat.le_of_eq g107.symm))) all0)).keep K116 (allS (Nat.le_trans Z0 (Nat.le_trans K105.1 (Nat.le_of_eq g107.symm))) all0)).keep K119 (allS (Nat.le_trans Z0 (Nat.le_trans K105.1 (Nat.le_of_eq g107.symm))) all0)).keep K121 all0).keep K124 (allS (Nat.le_trans Z0 (Nat.le_trans (Nat.le_trans (Nat.le_trans (Nat.le_trans (Nat.le_trans (Nat.le_trans K105.1 K107.1) K110.1) K113.1) K116.1) K119.1) (Nat.le_of_eq g121.symm))) all0))
    obtain ⟨_, _, ⟨T129, L129, k129, n129⟩, -, X129', hS129', hgr129, ⟨Lc129, hQ129, l129, y129, z129, A129⟩, st129⟩ := callSS X124 hx (y := yn44) hown124 (mvT hZ124 (w36 hw)) (mvT hZ124 (w37 hw)) (mvT hZ124 (w38 hw)) (mvT hZ124 (w39 hw)) (by decide) (backOfSH (W := 0) (rm_printable l Z a0 hw [] b121 mx kk t_125 kb_126 ([] : List Int32) cS fm T124.heap n0 (Nat.le_trans Z0 (Nat.le_trans (Nat.le_trans (Nat.le_trans (Nat.le_trans (Nat.le_trans (Nat.le_trans (Nat.le_trans K105.1 K107.1) K110.1) K113.1) K116.1) K119.1) K121.1) K124.1)) O128 S_cs hcS S_fm hfm S_ad S_hi S_lo P124_0 hkl (Nat.le_of_ble_eq_true rfl) hmin) hZ124 (w39 hw) (w38 hw) (by decide) (by decide) hEL R127.1) (g := (mkF m 155 #[.val (.int a), .val (.int b_), .val (.int n), .val (.int m_), .val (.int (0 : Int32)), .val (.int mx), .val (.int c0), .val (.int c1), .val (.int c2), .val (.int c3), .val (.ref b105), .val (.ref b107), .unset, .unset, .unset, .unset] [(.int mx), (.ref b121)])) rfl (by rw [hml]; rfl) (argsL := [(.ref b121), (.int mx)]) (rest := []) (lenOf pd__28_Ljava_2f_lang_2f_String_3b_I_29_Ljava_2f_lang_2f_String_3b_ rfl) rfl (by show 2 * 0 + _ ≤ _; exact Nat.le_of_eq rfl) (hb hby at_155) (fun _ _ => ⟨rfl, rfl, (Nat.le_of_ble_eq_true rfl), (Nat.le_of_ble_eq_true rfl)⟩)
    dsimp only [Pt.U, Pt.locs, Pt.cells, Pt.slots] at X129' hS129' hgr129 l129 y129 z129 st129 hQ129 A129
    subst l129 y129 z129
    obtain ⟨X129, hS129, hZ129, hown129⟩ := rebS hS124 hk124 X129' hS129' hgr129 hZ124 hown124
    obtain ⟨r_130, t2_131, kb2_132, rfl, Nq129, K129, P129_0, P129_1, P129_2⟩ := hQ129
    have N129 := Fr.app N124 Nq129
    have R133 : CHr Z EL_1 s.vm h0 T129.vm T129.heap := R127.trans A129
    have hk129 : T129.heap.size ≤ T129.heap.size := Nat.le_refl _
    have W134 : ∀ zQ, SS p e below T129 m 164 #[.val (.int a), .val (.int b_), .val (.int n), .val (.int m_), .val (.int (0 : Int32)), .val (.int mx), .val (.int c0), .val (.int c1), .val (.int c2), .val (.int c3), .val (.ref b105), .val (.ref b107), .val (.ref r_130), .unset, .unset, .unset] [(.int mx), (.int (0 : Int32))] zQ → Steps p.tables e below (s₁.setTop (entryFrame m #[(.int a), (.int b_), (.int n), (.int m_)] maxLocals)) zQ := by
      intro tt kt
      refine W104 tt ?_
      refine XS.iload X0.here hx rfl (hb hby at_50) rfl ?_
      refine st105 _ ?_
      refine XS.astore X105.here hx rfl (hb hby at_54) rfl rfl (l' := #[.val (.int a), .val (.int b_), .val (.int n), .val (.int m_), .val (.int (0 : Int32)), .val (.int mx), .val (.int c0), .val (.int c1), .val (.int c2), .val (.int c3), .val (.ref b105), .unset, .unset, .unset, .unset, .unset]) rfl ?_
      refine XS.iload X105.here hx rfl (hb hby at_56) rfl ?_
      refine XS.ifYes X105.here hx rfl (pc0 := 58) (pc' := 67) rfl (hb hby at_58) rfl ((if0 _ _).trans (flt (by decide)).2.2.2) (by decide) (by decide) ?_
      refine XS.iload X105.here hx rfl (hb hby at_67) rfl ?_
      refine XS.iconst X105.here hx rfl (hb hby at_69) ?_
      refine XS.icmpYes X105.here hx rfl (pc0 := 70) (pc' := 79) rfl (hb hby at_70) rfl (flt (by decide)).2.2.2 (by decide) (by decide) ?_
      show SS p e below T105 m 79 #[.val (.int a), .val (.int b_), .val (.int n), .val (.int m_), .val (.int (0 : Int32)), .val (.int mx), .val (.int c0), .val (.int c1), .val (.int c2), .val (.int c3), .val (.ref b105), .unset, .unset, .unset, .unset, .unset] [] _
      refine XS.iload X105.here hx rfl (hb hby at_79) rfl ?_
      refine XS.iconst X105.here hx rfl (hb hby at_81) ?_
      refine XS.icmpYes X105.here hx rfl (pc0 := 82) (pc' := 91) rfl (hb hby at_82) rfl (flt (by decide)).2.2.2 (by decide) (by decide) ?_
      refine XS.iload X105.here hx rfl (hb hby at_91) rfl ?_
      refine XS.iconst X105.here hx rfl (hb hby at_93) ?_
      refine XS.icmpYes X105.here hx rfl (pc0 := 94) (pc' := 103) rfl (hb hby at_94) rfl (flt (by decide)).2.2.2 (by decide) (by decide) ?_
      refine XS.iconst X105.here hx rfl (hb hby at_103) ?_
      refine st107 _ ?_
      show SS p e below T107 m 106 #[.val (.int a), .val (.int b_), .val (.int n), .val (.int m_), .val (.int (0 : Int32)), .val (.int mx), .val (.int c0), .val (.int c1), .val (.int c2), .val (.int c3), .val (.ref b105), .unset, .unset, .unset, .unset, .unset] [(.ref b107)] _
      refine XS.astore X107.here hx rfl (hb hby at_106) rfl rfl (l' := #[.val (.int a), .val (.int b_), .val (.int n), .val (.int m_), .val (.int (0 : Int32)), .val (.int mx), .val (.int c0), .val (.int c1), .val (.int c2), .val (.int c3), .val (.ref b105), .val (.ref b107), .unset, .unset, .unset, .unset]) rfl ?_
      refine XS.aload X107.here hx rfl (hb hby at_108) rfl rfl ?_
      refine XS.iconst X107.here hx rfl (hb hby at_110) ?_
      refine XS.iload X107.here hx rfl (hb hby at_111) rfl ?_
      refine st109 _ ?_
      refine st110 _ ?_
      refine XS.aload X110.here hx rfl (hb hby at_117) rfl rfl ?_
      refine XS.iconst X110.here hx rfl (hb hby at_119) ?_
      show SS p e below T110 m 120 #[.val (.int a), .val (.int b_), .val (.int n), .val (.int m_), .val (.int (0 : Int32)), .val (.int mx), .val (.int c0), .val (.int c1), .val (.int c2), .val (.int c3), .val (.ref b105), .val (.ref b107), .unset, .unset, .unset, .unset] [(.int (1 : Int32)), (.ref b107)] _
      refine XS.iload X110.here hx rfl (hb hby at_120) rfl ?_
      refine st112 _ ?_
      refine st113 _ ?_
      refine XS.aload X113.here hx rfl (hb hby at_126) rfl rfl ?_
      refine XS.iconst X113.here hx rfl (hb hby at_128) ?_
      refine XS.iload X113.here hx rfl (hb hby at_129) rfl ?_
      refine st115 _ ?_
      refine st116 _ ?_
      show SS p e below T116 m 135 #[.val (.int a), .val (.int b_), .val (.int n), .val (.int m_), .val (.int (0 : Int32)), .val (.int mx), .val (.int c0), .val (.int c1), .val (.int c2), .val (.int c3), .val (.ref b105), .val (.ref b107), .unset, .unset, .unset, .unset] [] _
      refine XS.aload X116.here hx rfl (hb hby at_135) rfl rfl ?_
      refine XS.iconst X116.here hx rfl (hb hby at_137) ?_
      refine XS.iload X116.here hx rfl (hb hby at_138) rfl ?_
      refine st118 _ ?_
      refine st119 _ ?_
      refine st121 _ ?_
      refine XS.dup X121.here hx rfl (hb hby at_147) rfl rfl ?_
      refine XS.aload X121.here hx rfl (hb hby at_148) rfl rfl ?_
      show SS p e below T121 m 150 #[.val (.int a), .val (.int b_), .val (.int n), .val (.int m_), .val (.int (0 : Int32)), .val (.int mx), .val (.int c0), .val (.int c1), .val (.int c2), .val (.int c3), .val (.ref b105), .val (.ref b107), .unset, .unset, .unset, .unset] [(.ref b105), (.ref b121), (.ref b121)] _
      refine st124.trans ?_
      refine XS.iload X124.here hx rfl (hb hby at_153) rfl ?_
      refine st129.trans ?_
      refine XS.astore X129.here hx rfl (hb hby at_158) rfl rfl (l' := #[.val (.int a), .val (.int b_), .val (.int n), .val (.int m_), .val (.int (0 : Int32)), .val (.int mx), .val (.int c0), .val (.int c1), .val (.int c2), .val (.int c3), .val (.ref b105), .val (.ref b107), .val (.ref r_130), .unset, .unset, .unset]) rfl ?_
      refine XS.iload X129.here hx rfl (hb hby at_160) rfl ?_
      refine XS.iload X129.here hx rfl (hb hby at_162) rfl ?_
      exact kt
    have W136 : ∀ zQ, SS p e below T129 m 174 #[.val (.int a), .val (.int b_), .val (.int n), .val (.int m_), .val (.int (0 : Int32)), .val (.int mx), .val (.int c0), .val (.int c1), .val (.int c2), .val (.int c3), .val (.ref b105), .val (.ref b107), .val (.ref r_130), .unset, .unset, .unset] [(.int (if (0 : Int32) < mx then (0 : Int32) else mx))] zQ → Steps p.tables e below (s₁.setTop (entryFrame m #[(.int a), (.int b_), (.int n), (.int m_)] maxLocals)) zQ := by
      intro tt kt
      refine W134 tt ?_
      by_cases hj135 : (0 : Int32) < mx
      ·
        refine XS.icmpNo X129.here hx rfl (hb hby at_164) rfl (tlt hj135).2.1 ?_
        refine XS.iload X129.here hx rfl (hb hby at_167) rfl ?_
        refine XS.goto X129.here hx rfl (pc0 := 169) (pc' := 174) rfl (hb hby at_169) (by decide) (by decide) ?_
        exact castTop (by first | rfl | (simp only [if_pos hj135]; first | done | rfl)) kt
      ·
        refine XS.icmpYes X129.here hx rfl (pc0 := 164) (pc' := 172) rfl (hb hby at_164) rfl (flt hj135).2.1 (by decide) (by decide) ?_
        refine XS.iload X129.here hx rfl (hb hby at_172) rfl ?_
        exact castTop (by first | rfl | (simp only [if_neg hj135]; first | done | rfl)) kt
    have W137 : ∀ zQ, SS p e below T129 m 180 #[.val (.int a), .val (.int b_), .val (.int n), .val (.int m_), .val (.int (0 : Int32)), .val (.int mx), .val (.int c0), .val (.int c1), .val (.int c2), .val (.int c3), .val (.ref b105), .val (.ref b107), .val (.ref r_130), .val (.int (Int32.ofNat kk)), .unset, .unset] [(.int mx), (.int (0 : Int32))] zQ → Steps p.tables e below (s₁.setTop (entryFrame m #[(.int a), (.int b_), (.int n), (.int m_)] maxLocals)) zQ := by
      intro tt kt
      refine W136 tt ?_
      rw [show (if (0 : Int32) < mx then (0 : Int32) else mx) = (Int32.ofNat kk) from hkept]
      refine XS.istore X129.here hx rfl (hb hby at_174) rfl (l' := #[.val (.int a), .val (.int b_), .val (.int n), .val (.int m_), .val (.int (0 : Int32)), .val (.int mx), .val (.int c0), .val (.int c1), .val (.int c2), .val (.int c3), .val (.ref b105), .val (.ref b107), .val (.ref r_130), .val (.int (Int32.ofNat kk)), .unset, .unset]) rfl ?_
      refine XS.iload X129.here hx rfl (hb hby at_176) rfl ?_
      refine XS.iload X129.here hx rfl (hb hby at_178) rfl ?_
      exact kt
    have W139 : ∀ zQ, SS p e below T129 m 188 #[.val (.int a), .val (.int b_), .val (.int n), .val (.int m_), .val (.int (0 : Int32)), .val (.int mx), .val (.int c0), .val (.int c1), .val (.int c2), .val (.int c3), .val (.ref b105), .val (.ref b107), .val (.ref r_130), .val (.int (Int32.ofNat kk)), .unset, .unset] [(.int (if mx < (0 : Int32) then (1 : Int32) else (0 : Int32)))] zQ → Steps p.tables e below (s₁.setTop (entryFrame m #[(.int a), (.int b_), (.int n), (.int m_)] maxLocals)) zQ := by
      intro tt kt
      refine W137 tt ?_
      by_cases hj138 : mx < (0 : Int32)
      ·
        refine XS.icmpNo X129.here hx rfl (hb hby at_180) rfl (tlt hj138).2.2.2 ?_
        refine XS.iconst X129.here hx rfl (hb hby at_183) ?_
        refine XS.goto X129.here hx rfl (pc0 := 184) (pc' := 188) rfl (hb hby at_184) (by decide) (by decide) ?_
        exact castTop (by first | rfl | (simp only [if_pos hj138]; first | done | rfl)) kt
      ·
        refine XS.icmpYes X129.here hx rfl (pc0 := 180) (pc' := 187) rfl (hb hby at_180) rfl (flt hj138).2.2.2 (by decide) (by decide) ?_
        refine XS.iconst X129.here hx rfl (hb hby at_187) ?_
        exact castTop (by first | rfl | (simp only [if_neg hj138]; first | done | rfl)) kt
    have W140 : ∀ zQ, SS p e below T129 m 194 #[.val (.int a), .val (.int b_), .val (.int n), .val (.int m_), .val (.int (0 : Int32)), .val (.int mx), .val (.int c0), .val (.int c1), .val (.int c2), .val (.int c3), .val (.ref b105), .val (.ref b107), .val (.ref r_130), .val (.int (Int32.ofNat kk)), .val (.int (if mx < (0 : Int32) then (1 : Int32) else (0 : Int32))), .unset] [(.int (if mx < (0 : Int32) then (1 : Int32) else (0 : Int32))), (.int (Int32.ofNat kk))] zQ → Steps p.tables e below (s₁.setTop (entryFrame m #[(.int a), (.int b_), (.int n), (.int m_)] maxLocals)) zQ := by
      intro tt kt
      refine W139 tt ?_
      refine XS.istore X129.here hx rfl (hb hby at_188) rfl (l' := #[.val (.int a), .val (.int b_), .val (.int n), .val (.int m_), .val (.int (0 : Int32)), .val (.int mx), .val (.int c0), .val (.int c1), .val (.int c2), .val (.int c3), .val (.ref b105), .val (.ref b107), .val (.ref r_130), .val (.int (Int32.ofNat kk)), .val (.int (if mx < (0 : Int32) then (1 : Int32) else (0 : Int32))), .unset]) rfl ?_
      refine XS.iload X129.here hx rfl (hb hby at_190) rfl ?_
      refine XS.iload X129.here hx rfl (hb hby at_192) rfl ?_
      exact kt
    have W142 : ∀ zQ, SS p e below T129 m 202 #[.val (.int a), .val (.int b_), .val (.int n), .val (.int m_), .val (.int (0 : Int32)), .val (.int mx), .val (.int c0), .val (.int c1), .val (.int c2), .val (.int c3), .val (.ref b105), .val (.ref b107), .val (.ref r_130), .val (.int (Int32.ofNat kk)), .val (.int (if mx < (0 : Int32) then (1 : Int32) else (0 : Int32))), .unset] [(.int (if (if mx < (0 : Int32) then (1 : Int32) else (0 : Int32)) = (0 : Int32) then (0 : Int32) else (3 : Int32))), (.int (Int32.ofNat kk))] zQ → Steps p.tables e below (s₁.setTop (entryFrame m #[(.int a), (.int b_), (.int n), (.int m_)] maxLocals)) zQ := by
      intro tt kt
      refine W140 tt ?_
      by_cases hj141 : (if mx < (0 : Int32) then (1 : Int32) else (0 : Int32)) = (0 : Int32)
      ·
        refine XS.ifYes X129.here hx rfl (pc0 := 194) (pc' := 201) rfl (hb hby at_194) rfl ((if0 _ _).trans (teq hj141).1) (by decide) (by decide) ?_
        refine XS.iconst X129.here hx rfl (hb hby at_201) ?_
        exact castTop (by first | rfl | (simp only [if_pos hj141]; first | done | rfl)) kt
      ·
        refine XS.ifNo X129.here hx rfl (hb hby at_194) rfl ((if0 _ _).trans (feq hj141).1) ?_
        refine XS.iconst X129.here hx rfl (hb hby at_197) ?_
        refine XS.goto X129.here hx rfl (pc0 := 198) (pc' := 202) rfl (hb hby at_198) (by decide) (by decide) ?_
        exact castTop (by first | rfl | (simp only [if_neg hj141]; first | done | rfl)) kt
    have O143 : Old Z n0 T129.heap := (O128.keep K129 all0)
    obtain ⟨cq144, kq144, q144a, q144b, q144c⟩ := isOf hZ129 rfl P129_2.1
    obtain ⟨_, _, ⟨T144, L144, k144, n144⟩, -, X144, ⟨Lc144, hQ144, l144, y144, z144⟩, st144⟩ := X129.virtualBack hx (y := yn10) (z := yn10) hown129 (mvT hZ129 (w191 hw)) (mvT hZ129 (w41 hw)) (notFace_of_selects (args := #[]) (mvT hZ129 (w43 hw))) (mvT hZ129 (w43 hw)) (mvT hZ129 (w42 hw)) (by decide) (backOf (W := 0) (rm_length l Z a0 hw [] r_130 t2_131 kb2_132 (pres ([] : List Int32) kk) cS T129.heap n0 (Nat.le_trans Z0 (Nat.le_trans (Nat.le_trans (Nat.le_trans (Nat.le_trans (Nat.le_trans (Nat.le_trans (Nat.le_trans (Nat.le_trans K105.1 K107.1) K110.1) K113.1) K116.1) K119.1) K121.1) K124.1) K129.1)) O143 S_cs hcS P129_2) hZ129 (w44 hw) (w9 hw) (by decide) (by decide)) q144a q144c (g := (mkF m 207 #[.val (.int a), .val (.int b_), .val (.int n), .val (.int m_), .val (.int (0 : Int32)), .val (.int mx), .val (.int c0), .val (.int c1), .val (.int c2), .val (.int c3), .val (.ref b105), .val (.ref b107), .val (.ref r_130), .val (.int (Int32.ofNat kk)), .val (.int (if mx < (0 : Int32) then (1 : Int32) else (0 : Int32))), .val (.int (Int32.ofNat (pres ([] : List Int32) kk).length))] [(.ref r_130)])) rfl (by rw [hml]; rfl) (Steps.refl _) (argsL := []) (rest := []) (lenOf pd__28__29_I rfl) rfl (by show 2 * 0 + _ ≤ _; exact Nat.le_of_eq rfl) (hb hby at_207) (fun _ _ => ⟨rfl, rfl, (Nat.le_of_ble_eq_true rfl), (Nat.le_of_ble_eq_true rfl)⟩)
    dsimp only [Pt.U, Pt.locs, Pt.cells, Pt.slots] at X144 l144 y144 z144 st144 hQ144
    subst l144 y144 z144
    obtain ⟨rfl, Nq144, eq144⟩ := hQ144
    have N144 := Fr.app N129 Nq144
    have F145 : Arv Z T129.heap b107 k107 .char (4 : Int32) [(.int (pr c0)), (.int (pr c1)), (.int (pr c2)), (.int (pr c3))] (.int (0 : Int32)) := (((J119.keep K121 nin0).keep K124 (ninS (Nat.ne_of_lt (Nat.lt_of_lt_of_le (Nat.lt_of_lt_of_le G107.lt (Nat.le_trans (Nat.le_trans (Nat.le_trans K110.1 K113.1) K116.1) K119.1)) (Nat.le_of_eq g121.symm))) nin0)).keep K129 nin0)
    obtain ⟨_, _, ⟨T146, L146, k146, n146⟩, -, X146, ⟨Lc146, hQ146, l146, y146, z146⟩, st146⟩ := Jvm.LawKit.callS X144 hx (y := yn43) hown129 (mvT hZ129 (w192 hw)) (mvT hZ129 (w193 hw)) (mvT hZ129 (w5 hw)) (mvT hZ129 (w194 hw)) (by decide) (backOf (W := 0) (rm_okay l Z a0 hw [] r_130 b107 0 kk (pres ([] : List Int32) kk).length k107 [pr c0, pr c1, pr c2, pr c3] t2_131 kb2_132 (pres ([] : List Int32) kk) cS fm T129.heap n0 (Nat.le_trans Z0 (Nat.le_trans (Nat.le_trans (Nat.le_trans (Nat.le_trans (Nat.le_trans (Nat.le_trans (Nat.le_trans (Nat.le_trans K105.1 K107.1) K110.1) K113.1) K116.1) K119.1) K121.1) K124.1) K129.1)) O143 S_cs hcS S_fm hfm S_ad S_hi S_lo P129_2 F145 rfl (pres_at hkl hes) (Nat.le_trans hkl (Nat.le_of_ble_eq_true rfl)) (Nat.le_of_ble_eq_true rfl) (Nat.le_of_ble_eq_true rfl)) hZ129 (w194 hw) (w5 hw) (by decide) (by decide)) (g := (mkF m 226 #[.val (.int a), .val (.int b_), .val (.int n), .val (.int m_), .val (.int (0 : Int32)), .val (.int mx), .val (.int c0), .val (.int c1), .val (.int c2), .val (.int c3), .val (.ref b105), .val (.ref b107), .val (.ref r_130), .val (.int (Int32.ofNat kk)), .val (.int (if mx < (0 : Int32) then (1 : Int32) else (0 : Int32))), .val (.int (Int32.ofNat (pres ([] : List Int32) kk).length))] [(.ref b107), (.int (Int32.ofNat (pres ([] : List Int32) kk).length)), (.int (Int32.ofNat kk)), (.int (0 : Int32)), (.ref r_130)])) rfl (by rw [hml]; rfl) (argsL := [(.ref r_130), (.int (0 : Int32)), (.int (Int32.ofNat kk)), (.int (Int32.ofNat (pres ([] : List Int32) kk).length)), (.ref b107)]) (rest := []) (lenOf pd__28_Ljava_2f_lang_2f_String_3b_III_5b_C_29_Z rfl) rfl (by show 2 * 0 + _ ≤ _; exact Nat.le_of_eq rfl) (hb hby at_226) (fun _ _ => ⟨rfl, eq144, (Nat.le_of_ble_eq_true rfl), (Nat.le_of_ble_eq_true rfl)⟩)
    dsimp only [Pt.U, Pt.locs, Pt.cells, Pt.slots] at X146 l146 y146 z146 st146 hQ146
    subst l146 y146 z146
    obtain ⟨rfl, Nq146, eq146⟩ := hQ146
    have N146 := Fr.app N144 Nq146
    obtain ⟨_, _, ⟨T147, L147, k147, n147⟩, -, X147, ⟨Lc147, hQ147, l147, y147, z147⟩, st147⟩ := Jvm.LawKit.callS X146 hx (y := yn43) hown129 (mvT hZ129 (w192 hw)) (mvT hZ129 (w193 hw)) (mvT hZ129 (w5 hw)) (mvT hZ129 (w194 hw)) (by decide) (backOf (W := 0) (rm_okay l Z a0 hw [] r_130 b107 1 kk (pres ([] : List Int32) kk).length k107 [pr c0, pr c1, pr c2, pr c3] t2_131 kb2_132 (pres ([] : List Int32) kk) cS fm T129.heap n0 (Nat.le_trans Z0 (Nat.le_trans (Nat.le_trans (Nat.le_trans (Nat.le_trans (Nat.le_trans (Nat.le_trans (Nat.le_trans (Nat.le_trans K105.1 K107.1) K110.1) K113.1) K116.1) K119.1) K121.1) K124.1) K129.1)) O143 S_cs hcS S_fm hfm S_ad S_hi S_lo P129_2 F145 rfl (pres_at hkl hes) (Nat.le_trans hkl (Nat.le_of_ble_eq_true rfl)) (Nat.le_of_ble_eq_true rfl) (Nat.le_of_ble_eq_true rfl)) hZ129 (w194 hw) (w5 hw) (by decide) (by decide)) (g := (mkF m 241 #[.val (.int a), .val (.int b_), .val (.int n), .val (.int m_), .val (.int (0 : Int32)), .val (.int mx), .val (.int c0), .val (.int c1), .val (.int c2), .val (.int c3), .val (.ref b105), .val (.ref b107), .val (.ref r_130), .val (.int (Int32.ofNat kk)), .val (.int (if mx < (0 : Int32) then (1 : Int32) else (0 : Int32))), .val (.int (Int32.ofNat (pres ([] : List Int32) kk).length))] [(.ref b107), (.int (Int32.ofNat (pres ([] : List Int32) kk).length)), (.int (Int32.ofNat kk)), (.int (1 : Int32)), (.ref r_130)])) rfl (by rw [hml]; rfl) (argsL := [(.ref r_130), (.int (1 : Int32)), (.int (Int32.ofNat kk)), (.int (Int32.ofNat (pres ([] : List Int32) kk).length)), (.ref b107)]) (rest := []) (lenOf pd__28_Ljava_2f_lang_2f_String_3b_III_5b_C_29_Z rfl) rfl (by show 2 * 0 + _ ≤ _; exact Nat.le_of_eq rfl) (hb hby at_241) (fun _ _ => ⟨rfl, eq146, (Nat.le_of_ble_eq_true rfl), (Nat.le_of_ble_eq_true rfl)⟩)
    dsimp only [Pt.U, Pt.locs, Pt.cells, Pt.slots] at X147 l147 y147 z147 st147 hQ147
    subst l147 y147 z147
    obtain ⟨rfl, Nq147, eq147⟩ := hQ147
    have N147 := Fr.app N146 Nq147
    obtain ⟨_, _, ⟨T148, L148, k148, n148⟩, -, X148, ⟨Lc148, hQ148, l148, y148, z148⟩, st148⟩ := Jvm.LawKit.callS X147 hx (y := yn43) hown129 (mvT hZ129 (w192 hw)) (mvT hZ129 (w193 hw)) (mvT hZ129 (w5 hw)) (mvT hZ129 (w194 hw)) (by decide) (backOf (W := 0) (rm_okay l Z a0 hw [] r_130 b107 2 kk (pres ([] : List Int32) kk).length k107 [pr c0, pr c1, pr c2, pr c3] t2_131 kb2_132 (pres ([] : List Int32) kk) cS fm T129.heap n0 (Nat.le_trans Z0 (Nat.le_trans (Nat.le_trans (Nat.le_trans (Nat.le_trans (Nat.le_trans (Nat.le_trans (Nat.le_trans (Nat.le_trans K105.1 K107.1) K110.1) K113.1) K116.1) K119.1) K121.1) K124.1) K129.1)) O143 S_cs hcS S_fm hfm S_ad S_hi S_lo P129_2 F145 rfl (pres_at hkl hes) (Nat.le_trans hkl (Nat.le_of_ble_eq_true rfl)) (Nat.le_of_ble_eq_true rfl) (Nat.le_of_ble_eq_true rfl)) hZ129 (w194 hw) (w5 hw) (by decide) (by decide)) (g := (mkF m 256 #[.val (.int a), .val (.int b_), .val (.int n), .val (.int m_), .val (.int (0 : Int32)), .val (.int mx), .val (.int c0), .val (.int c1), .val (.int c2), .val (.int c3), .val (.ref b105), .val (.ref b107), .val (.ref r_130), .val (.int (Int32.ofNat kk)), .val (.int (if mx < (0 : Int32) then (1 : Int32) else (0 : Int32))), .val (.int (Int32.ofNat (pres ([] : List Int32) kk).length))] [(.ref b107), (.int (Int32.ofNat (pres ([] : List Int32) kk).length)), (.int (Int32.ofNat kk)), (.int (2 : Int32)), (.ref r_130)])) rfl (by rw [hml]; rfl) (argsL := [(.ref r_130), (.int (2 : Int32)), (.int (Int32.ofNat kk)), (.int (Int32.ofNat (pres ([] : List Int32) kk).length)), (.ref b107)]) (rest := []) (lenOf pd__28_Ljava_2f_lang_2f_String_3b_III_5b_C_29_Z rfl) rfl (by show 2 * 0 + _ ≤ _; exact Nat.le_of_eq rfl) (hb hby at_256) (fun _ _ => ⟨rfl, eq147, (Nat.le_of_ble_eq_true rfl), (Nat.le_of_ble_eq_true rfl)⟩)
    dsimp only [Pt.U, Pt.locs, Pt.cells, Pt.slots] at X148 l148 y148 z148 st148 hQ148
    subst l148 y148 z148
    obtain ⟨rfl, Nq148, eq148⟩ := hQ148
    have N148 := Fr.app N147 Nq148
    obtain ⟨_, _, ⟨T149, L149, k149, n149⟩, -, X149, ⟨Lc149, hQ149, l149, y149, z149⟩, st149⟩ := Jvm.LawKit.callS X148 hx (y := yn43) hown129 (mvT hZ129 (w192 hw)) (mvT hZ129 (w193 hw)) (mvT hZ129 (w5 hw)) (mvT hZ129 (w194 hw)) (by decide) (backOf (W := 0) (rm_okay l Z a0 hw [] r_130 b107 3 kk (pres ([] : List Int32) kk).length k107 [pr c0, pr c1, pr c2, pr c3] t2_131 kb2_132 (pres ([] : List Int32) kk) cS fm T129.heap n0 (Nat.le_trans Z0 (Nat.le_trans (Nat.le_trans (Nat.le_trans (Nat.le_trans (Nat.le_trans (Nat.le_trans (Nat.le_trans (Nat.le_trans K105.1 K107.1) K110.1) K113.1) K116.1) K119.1) K121.1) K124.1) K129.1)) O143 S_cs hcS S_fm hfm S_ad S_hi S_lo P129_2 F145 rfl (pres_at hkl hes) (Nat.le_trans hkl (Nat.le_of_ble_eq_true rfl)) (Nat.le_of_ble_eq_true rfl) (Nat.le_of_ble_eq_true rfl)) hZ129 (w194 hw) (w5 hw) (by decide) (by decide)) (g := (mkF m 271 #[.val (.int a), .val (.int b_), .val (.int n), .val (.int m_), .val (.int (0 : Int32)), .val (.int mx), .val (.int c0), .val (.int c1), .val (.int c2), .val (.int c3), .val (.ref b105), .val (.ref b107), .val (.ref r_130), .val (.int (Int32.ofNat kk)), .val (.int (if mx < (0 : Int32) then (1 : Int32) else (0 : Int32))), .val (.int (Int32.ofNat (pres ([] : List Int32) kk).length))] [(.ref b107), (.int (Int32.ofNat (pres ([] : List Int32) kk).length)), (.int (Int32.ofNat kk)), (.int (3 : Int32)), (.ref r_130)])) rfl (by rw [hml]; rfl) (argsL := [(.ref r_130), (.int (3 : Int32)), (.int (Int32.ofNat kk)), (.int (Int32.ofNat (pres ([] : List Int32) kk).length)), (.ref b107)]) (rest := []) (lenOf pd__28_Ljava_2f_lang_2f_String_3b_III_5b_C_29_Z rfl) rfl (by show 2 * 0 + _ ≤ _; exact Nat.le_of_eq rfl) (hb hby at_271) (fun _ _ => ⟨rfl, eq148, (Nat.le_of_ble_eq_true rfl), (Nat.le_of_ble_eq_true rfl)⟩)
    dsimp only [Pt.U, Pt.locs, Pt.cells, Pt.slots] at X149 l149 y149 z149 st149 hQ149
    subst l149 y149 z149
    obtain ⟨rfl, Nq149, eq149⟩ := hQ149
    have N149 := Fr.app N148 Nq149
    obtain ⟨_, _, ⟨T150, L150, k150, n150⟩, -, X150, ⟨Lc150, hQ150, l150, y150, z150⟩, st150⟩ := Jvm.LawKit.callS X149 hx (y := yn43) hown129 (mvT hZ129 (w192 hw)) (mvT hZ129 (w193 hw)) (mvT hZ129 (w5 hw)) (mvT hZ129 (w194 hw)) (by decide) (backOf (W := 0) (rm_okay l Z a0 hw [] r_130 b107 4 kk (pres ([] : List Int32) kk).length k107 [pr c0, pr c1, pr c2, pr c3] t2_131 kb2_132 (pres ([] : List Int32) kk) cS fm T129.heap n0 (Nat.le_trans Z0 (Nat.le_trans (Nat.le_trans (Nat.le_trans (Nat.le_trans (Nat.le_trans (Nat.le_trans (Nat.le_trans (Nat.le_trans K105.1 K107.1) K110.1) K113.1) K116.1) K119.1) K121.1) K124.1) K129.1)) O143 S_cs hcS S_fm hfm S_ad S_hi S_lo P129_2 F145 rfl (pres_at hkl hes) (Nat.le_trans hkl (Nat.le_of_ble_eq_true rfl)) (Nat.le_of_ble_eq_true rfl) (Nat.le_of_ble_eq_true rfl)) hZ129 (w194 hw) (w5 hw) (by decide) (by decide)) (g := (mkF m 286 #[.val (.int a), .val (.int b_), .val (.int n), .val (.int m_), .val (.int (0 : Int32)), .val (.int mx), .val (.int c0), .val (.int c1), .val (.int c2), .val (.int c3), .val (.ref b105), .val (.ref b107), .val (.ref r_130), .val (.int (Int32.ofNat kk)), .val (.int (if mx < (0 : Int32) then (1 : Int32) else (0 : Int32))), .val (.int (Int32.ofNat (pres ([] : List Int32) kk).length))] [(.ref b107), (.int (Int32.ofNat (pres ([] : List Int32) kk).length)), (.int (Int32.ofNat kk)), (.int (4 : Int32)), (.ref r_130)])) rfl (by rw [hml]; rfl) (argsL := [(.ref r_130), (.int (4 : Int32)), (.int (Int32.ofNat kk)), (.int (Int32.ofNat (pres ([] : List Int32) kk).length)), (.ref b107)]) (rest := []) (lenOf pd__28_Ljava_2f_lang_2f_String_3b_III_5b_C_29_Z rfl) rfl (by show 2 * 0 + _ ≤ _; exact Nat.le_of_eq rfl) (hb hby at_286) (fun _ _ => ⟨rfl, eq149, (Nat.le_of_ble_eq_true rfl), (Nat.le_of_ble_eq_true rfl)⟩)
    dsimp only [Pt.U, Pt.locs, Pt.cells, Pt.slots] at X150 l150 y150 z150 st150 hQ150
    subst l150 y150 z150
    obtain ⟨rfl, Nq150, eq150⟩ := hQ150
    have N150 := Fr.app N149 Nq150
    obtain ⟨_, _, ⟨T151, L151, k151, n151⟩, -, X151, ⟨Lc151, hQ151, l151, y151, z151⟩, st151⟩ := Jvm.LawKit.callS X150 hx (y := yn43) hown129 (mvT hZ129 (w192 hw)) (mvT hZ129 (w193 hw)) (mvT hZ129 (w5 hw)) (mvT hZ129 (w194 hw)) (by decide) (backOf (W := 0) (rm_okay l Z a0 hw [] r_130 b107 5 kk (pres ([] : List Int32) kk).length k107 [pr c0, pr c1, pr c2, pr c3] t2_131 kb2_132 (pres ([] : List Int32) kk) cS fm T129.heap n0 (Nat.le_trans Z0 (Nat.le_trans (Nat.le_trans (Nat.le_trans (Nat.le_trans (Nat.le_trans (Nat.le_trans (Nat.le_trans (Nat.le_trans K105.1 K107.1) K110.1) K113.1) K116.1) K119.1) K121.1) K124.1) K129.1)) O143 S_cs hcS S_fm hfm S_ad S_hi S_lo P129_2 F145 rfl (pres_at hkl hes) (Nat.le_trans hkl (Nat.le_of_ble_eq_true rfl)) (Nat.le_of_ble_eq_true rfl) (Nat.le_of_ble_eq_true rfl)) hZ129 (w194 hw) (w5 hw) (by decide) (by decide)) (g := (mkF m 301 #[.val (.int a), .val (.int b_), .val (.int n), .val (.int m_), .val (.int (0 : Int32)), .val (.int mx), .val (.int c0), .val (.int c1), .val (.int c2), .val (.int c3), .val (.ref b105), .val (.ref b107), .val (.ref r_130), .val (.int (Int32.ofNat kk)), .val (.int (if mx < (0 : Int32) then (1 : Int32) else (0 : Int32))), .val (.int (Int32.ofNat (pres ([] : List Int32) kk).length))] [(.ref b107), (.int (Int32.ofNat (pres ([] : List Int32) kk).length)), (.int (Int32.ofNat kk)), (.int (5 : Int32)), (.ref r_130)])) rfl (by rw [hml]; rfl) (argsL := [(.ref r_130), (.int (5 : Int32)), (.int (Int32.ofNat kk)), (.int (Int32.ofNat (pres ([] : List Int32) kk).length)), (.ref b107)]) (rest := []) (lenOf pd__28_Ljava_2f_lang_2f_String_3b_III_5b_C_29_Z rfl) rfl (by show 2 * 0 + _ ≤ _; exact Nat.le_of_eq rfl) (hb hby at_301) (fun _ _ => ⟨rfl, eq150, (Nat.le_of_ble_eq_true rfl), (Nat.le_of_ble_eq_true rfl)⟩)
    dsimp only [Pt.U, Pt.locs, Pt.cells, Pt.slots] at X151 l151 y151 z151 st151 hQ151
    subst l151 y151 z151
    obtain ⟨rfl, Nq151, eq151⟩ := hQ151
    have N151 := Fr.app N150 Nq151
    obtain ⟨_, _, ⟨T152, L152, k152, n152⟩, -, X152, ⟨Lc152, hQ152, l152, y152, z152⟩, st152⟩ := Jvm.LawKit.callS X151 hx (y := yn43) hown129 (mvT hZ129 (w192 hw)) (mvT hZ129 (w193 hw)) (mvT hZ129 (w5 hw)) (mvT hZ129 (w194 hw)) (by decide) (backOf (W := 0) (rm_okay l Z a0 hw [] r_130 b107 6 kk (pres ([] : List Int32) kk).length k107 [pr c0, pr c1, pr c2, pr c3] t2_131 kb2_132 (pres ([] : List Int32) kk) cS fm T129.heap n0 (Nat.le_trans Z0 (Nat.le_trans (Nat.le_trans (Nat.le_trans (Nat.le_trans (Nat.le_trans (Nat.le_trans (Nat.le_trans (Nat.le_trans K105.1 K107.1) K110.1) K113.1) K116.1) K119.1) K121.1) K124.1) K129.1)) O143 S_cs hcS S_fm hfm S_ad S_hi S_lo P129_2 F145 rfl (pres_at hkl hes) (Nat.le_trans hkl (Nat.le_of_ble_eq_true rfl)) (Nat.le_of_ble_eq_true rfl) (Nat.le_of_ble_eq_true rfl)) hZ129 (w194 hw) (w5 hw) (by decide) (by decide)) (g := (mkF m 317 #[.val (.int a), .val (.int b_), .val (.int n), .val (.int m_), .val (.int (0 : Int32)), .val (.int mx), .val (.int c0), .val (.int c1), .val (.int c2), .val (.int c3), .val (.ref b105), .val (.ref b107), .val (.ref r_130), .val (.int (Int32.ofNat kk)), .val (.int (if mx < (0 : Int32) then (1 : Int32) else (0 : Int32))), .val (.int (Int32.ofNat (pres ([] : List Int32) kk).length))] [(.ref b107), (.int (Int32.ofNat (pres ([] : List Int32) kk).length)), (.int (Int32.ofNat kk)), (.int (6 : Int32)), (.ref r_130)])) rfl (by rw [hml]; rfl) (argsL := [(.ref r_130), (.int (6 : Int32)), (.int (Int32.ofNat kk)), (.int (Int32.ofNat (pres ([] : List Int32) kk).length)), (.ref b107)]) (rest := []) (lenOf pd__28_Ljava_2f_lang_2f_String_3b_III_5b_C_29_Z rfl) rfl (by show 2 * 0 + _ ≤ _; exact Nat.le_of_eq rfl) (hb hby at_317) (fun _ _ => ⟨rfl, eq151, (Nat.le_of_ble_eq_true rfl), (Nat.le_of_ble_eq_true rfl)⟩)
    dsimp only [Pt.U, Pt.locs, Pt.cells, Pt.slots] at X152 l152 y152 z152 st152 hQ152
    subst l152 y152 z152
    obtain ⟨rfl, Nq152, eq152⟩ := hQ152
    have N152 := Fr.app N151 Nq152
    have W153 : ∀ zQ, SS p e below T152 m 328 #[.val (.int a), .val (.int b_), .val (.int n), .val (.int m_), .val (.int (0 : Int32)), .val (.int mx), .val (.int c0), .val (.int c1), .val (.int c2), .val (.int c3), .val (.ref b105), .val (.ref b107), .val (.ref r_130), .val (.int (Int32.ofNat kk)), .val (.int (if mx < (0 : Int32) then (1 : Int32) else (0 : Int32))), .val (.int (Int32.ofNat (pres ([] : List Int32) kk).length))] [(.int (1 : Int32))] zQ → Steps p.tables e below (s₁.setTop (entryFrame m #[(.int a), (.int b_), (.int n), (.int m_)] maxLocals)) zQ := by
      intro tt kt
      refine W142 tt ?_
      refine XS.iadd X129.here hx rfl (hb hby at_202) rfl ?_
      show SS p e below T129 m 203 #[.val (.int a), .val (.int b_), .val (.int n), .val (.int m_), .val (.int (0 : Int32)), .val (.int mx), .val (.int c0), .val (.int c1), .val (.int c2), .val (.int c3), .val (.ref b105), .val (.ref b107), .val (.ref r_130), .val (.int (Int32.ofNat kk)), .val (.int (if mx < (0 : Int32) then (1 : Int32) else (0 : Int32))), .unset] [(.int ((Int32.ofNat kk) + (if (if mx < (0 : Int32) then (1 : Int32) else (0 : Int32)) = (0 : Int32) then (0 : Int32) else (3 : Int32))))] _
      rw [show ((Int32.ofNat kk) + (if (if mx < (0 : Int32) then (1 : Int32) else (0 : Int32)) = (0 : Int32) then (0 : Int32) else (3 : Int32))) = (Int32.ofNat (pres ([] : List Int32) kk).length) from (own_want (cs := ([] : List Int32)) (kk := kk) (mx := mx) hkl hcut)]
      refine XS.istore X129.here hx rfl (hb hby at_203) rfl (l' := #[.val (.int a), .val (.int b_), .val (.int n), .val (.int m_), .val (.int (0 : Int32)), .val (.int mx), .val (.int c0), .val (.int c1), .val (.int c2), .val (.int c3), .val (.ref b105), .val (.ref b107), .val (.ref r_130), .val (.int (Int32.ofNat kk)), .val (.int (if mx < (0 : Int32) then (1 : Int32) else (0 : Int32))), .val (.int (Int32.ofNat (pres ([] : List Int32) kk).length))]) rfl ?_
      refine XS.aload X129.here hx rfl (hb hby at_205) rfl rfl ?_
      refine st144.trans ?_
      refine XS.iload X144.here hx rfl (hb hby at_210) rfl ?_
      refine XS.icmpYes X144.here hx rfl (pc0 := 212) (pc' := 217) rfl (hb hby at_212) rfl (teq rfl).1 (by decide) (by decide) ?_
      refine XS.aload X144.here hx rfl (hb hby at_217) rfl rfl ?_
      refine XS.iconst X144.here hx rfl (hb hby at_219) ?_
      show SS p e below T144 m 220 #[.val (.int a), .val (.int b_), .val (.int n), .val (.int m_), .val (.int (0 : Int32)), .val (.int mx), .val (.int c0), .val (.int c1), .val (.int c2), .val (.int c3), .val (.ref b105), .val (.ref b107), .val (.ref r_130), .val (.int (Int32.ofNat kk)), .val (.int (if mx < (0 : Int32) then (1 : Int32) else (0 : Int32))), .val (.int (Int32.ofNat (pres ([] : List Int32) kk).length))] [(.int (0 : Int32)), (.ref r_130)] _
      refine XS.iload X144.here hx rfl (hb hby at_220) rfl ?_
      refine XS.iload X144.here hx rfl (hb hby at_222) rfl ?_
      refine XS.aload X144.here hx rfl (hb hby at_224) rfl rfl ?_
      refine st146 _ ?_
      refine XS.ifNo X146.here hx rfl (hb hby at_229) rfl ((if0 _ _).trans (feq (by decide)).1) ?_
      refine XS.aload X146.here hx rfl (hb hby at_232) rfl rfl ?_
      refine XS.iconst X146.here hx rfl (hb hby at_234) ?_
      refine XS.iload X146.here hx rfl (hb hby at_235) rfl ?_
      show SS p e below T146 m 237 #[.val (.int a), .val (.int b_), .val (.int n), .val (.int m_), .val (.int (0 : Int32)), .val (.int mx), .val (.int c0), .val (.int c1), .val (.int c2), .val (.int c3), .val (.ref b105), .val (.ref b107), .val (.ref r_130), .val (.int (Int32.ofNat kk)), .val (.int (if mx < (0 : Int32) then (1 : Int32) else (0 : Int32))), .val (.int (Int32.ofNat (pres ([] : List Int32) kk).length))] [(.int (Int32.ofNat kk)), (.int (1 : Int32)), (.ref r_130)] _
      refine XS.iload X146.here hx rfl (hb hby at_237) rfl ?_
      refine XS.aload X146.here hx rfl (hb hby at_239) rfl rfl ?_
      refine st147 _ ?_
      refine XS.ifNo X147.here hx rfl (hb hby at_244) rfl ((if0 _ _).trans (feq (by decide)).1) ?_
      refine XS.aload X147.here hx rfl (hb hby at_247) rfl rfl ?_
      refine XS.iconst X147.here hx rfl (hb hby at_249) ?_
      refine XS.iload X147.here hx rfl (hb hby at_250) rfl ?_
      refine XS.iload X147.here hx rfl (hb hby at_252) rfl ?_
      show SS p e below T147 m 254 #[.val (.int a), .val (.int b_), .val (.int n), .val (.int m_), .val (.int (0 : Int32)), .val (.int mx), .val (.int c0), .val (.int c1), .val (.int c2), .val (.int c3), .val (.ref b105), .val (.ref b107), .val (.ref r_130), .val (.int (Int32.ofNat kk)), .val (.int (if mx < (0 : Int32) then (1 : Int32) else (0 : Int32))), .val (.int (Int32.ofNat (pres ([] : List Int32) kk).length))] [(.int (Int32.ofNat (pres ([] : List Int32) kk).length)), (.int (Int32.ofNat kk)), (.int (2 : Int32)), (.ref r_130)] _
      refine XS.aload X147.here hx rfl (hb hby at_254) rfl rfl ?_
      refine st148 _ ?_
      refine XS.ifNo X148.here hx rfl (hb hby at_259) rfl ((if0 _ _).trans (feq (by decide)).1) ?_
      refine XS.aload X148.here hx rfl (hb hby at_262) rfl rfl ?_
      refine XS.iconst X148.here hx rfl (hb hby at_264) ?_
      refine XS.iload X148.here hx rfl (hb hby at_265) rfl ?_
      refine XS.iload X148.here hx rfl (hb hby at_267) rfl ?_
      refine XS.aload X148.here hx rfl (hb hby at_269) rfl rfl ?_
      show SS p e below T148 m 271 #[.val (.int a), .val (.int b_), .val (.int n), .val (.int m_), .val (.int (0 : Int32)), .val (.int mx), .val (.int c0), .val (.int c1), .val (.int c2), .val (.int c3), .val (.ref b105), .val (.ref b107), .val (.ref r_130), .val (.int (Int32.ofNat kk)), .val (.int (if mx < (0 : Int32) then (1 : Int32) else (0 : Int32))), .val (.int (Int32.ofNat (pres ([] : List Int32) kk).length))] [(.ref b107), (.int (Int32.ofNat (pres ([] : List Int32) kk).length)), (.int (Int32.ofNat kk)), (.int (3 : Int32)), (.ref r_130)] _
      refine st149 _ ?_
      refine XS.ifNo X149.here hx rfl (hb hby at_274) rfl ((if0 _ _).trans (feq (by decide)).1) ?_
      refine XS.aload X149.here hx rfl (hb hby at_277) rfl rfl ?_
      refine XS.iconst X149.here hx rfl (hb hby at_279) ?_
      refine XS.iload X149.here hx rfl (hb hby at_280) rfl ?_
      refine XS.iload X149.here hx rfl (hb hby at_282) rfl ?_
      refine XS.aload X149.here hx rfl (hb hby at_284) rfl rfl ?_
      refine st150 _ ?_
      show SS p e below T150 m 289 #[.val (.int a), .val (.int b_), .val (.int n), .val (.int m_), .val (.int (0 : Int32)), .val (.int mx), .val (.int c0), .val (.int c1), .val (.int c2), .val (.int c3), .val (.ref b105), .val (.ref b107), .val (.ref r_130), .val (.int (Int32.ofNat kk)), .val (.int (if mx < (0 : Int32) then (1 : Int32) else (0 : Int32))), .val (.int (Int32.ofNat (pres ([] : List Int32) kk).length))] [(.int (1 : Int32))] _
      refine XS.ifNo X150.here hx rfl (hb hby at_289) rfl ((if0 _ _).trans (feq (by decide)).1) ?_
      refine XS.aload X150.here hx rfl (hb hby at_292) rfl rfl ?_
      refine XS.iconst X150.here hx rfl (hb hby at_294) ?_
      refine XS.iload X150.here hx rfl (hb hby at_295) rfl ?_
      refine XS.iload X150.here hx rfl (hb hby at_297) rfl ?_
      refine XS.aload X150.here hx rfl (hb hby at_299) rfl rfl ?_
      refine st151 _ ?_
      refine XS.ifNo X151.here hx rfl (hb hby at_304) rfl ((if0 _ _).trans (feq (by decide)).1) ?_
      show SS p e below T151 m 307 #[.val (.int a), .val (.int b_), .val (.int n), .val (.int m_), .val (.int (0 : Int32)), .val (.int mx), .val (.int c0), .val (.int c1), .val (.int c2), .val (.int c3), .val (.ref b105), .val (.ref b107), .val (.ref r_130), .val (.int (Int32.ofNat kk)), .val (.int (if mx < (0 : Int32) then (1 : Int32) else (0 : Int32))), .val (.int (Int32.ofNat (pres ([] : List Int32) kk).length))] [] _
      refine XS.aload X151.here hx rfl (hb hby at_307) rfl rfl ?_
      refine XS.bipush X151.here hx rfl (hb hby at_309) ?_
      refine XS.iload X151.here hx rfl (hb hby at_311) rfl ?_
      refine XS.iload X151.here hx rfl (hb hby at_313) rfl ?_
      refine XS.aload X151.here hx rfl (hb hby at_315) rfl rfl ?_
      refine st152 _ ?_
      refine XS.ifNo X152.here hx rfl (hb hby at_320) rfl ((if0 _ _).trans (feq (by decide)).1) ?_
      refine XS.iconst X152.here hx rfl (hb hby at_323) ?_
      show SS p e below T152 m 324 #[.val (.int a), .val (.int b_), .val (.int n), .val (.int m_), .val (.int (0 : Int32)), .val (.int mx), .val (.int c0), .val (.int c1), .val (.int c2), .val (.int c3), .val (.ref b105), .val (.ref b107), .val (.ref r_130), .val (.int (Int32.ofNat kk)), .val (.int (if mx < (0 : Int32) then (1 : Int32) else (0 : Int32))), .val (.int (Int32.ofNat (pres ([] : List Int32) kk).length))] [(.int (1 : Int32))] _
      refine XS.goto X152.here hx rfl (pc0 := 324) (pc' := 328) rfl (hb hby at_324) (by decide) (by decide) ?_
      exact kt
    obtain ⟨fs, hr, hrun, hended, hRW⟩ := Jvm.Stand.leaveW X152 hS129 (by rw [eq152]; exact hk129) (v := some (.int (nar .boolean (1 : Int32)))) (fun h => by rw [Bd.returns] at h; cases h) (BodyLoose.notSynchronized Bd)
    refine ⟨_, _, W153 _ (retN X152 hx (t := .boolean) Bd.returns (by simp) (hb hby at_328) hr), hrun, hended, _, _, rfl, ?_, own_chr (T := T152) R133 (CHv.at X152 hZ129 hEL R133.1) hh.symm eq152, own_rw hRW (by decide) (by decide)⟩
    show Q_law Z a b_ n m_ cS fm h0 n0 _ T152.heap _
    rw [eq152]
    exact ⟨rfl, N152, (Keep.trans (Keep.trans (Keep.trans (Keep.trans (Keep.trans (Keep.trans (Keep.trans (Keep.trans (Keep.trans (Keep.refl h0 []) K105 all0) K107 all0) K110 (allS (Or.inr (Nat.le_trans K105.1 (Nat.le_of_eq g107.symm))) all0)) K113 (allS (Or.inr (Nat.le_trans K105.1 (Nat.le_of_eq g107.symm))) all0)) K116 (allS (Or.inr (Nat.le_trans K105.1 (Nat.le_of_eq g107.symm))) all0)) K119 (allS (Or.inr (Nat.le_trans K105.1 (Nat.le_of_eq g107.symm))) all0)) K121 all0) K124 (allS (Or.inr (Nat.le_trans (Nat.le_trans (Nat.le_trans (Nat.le_trans (Nat.le_trans (Nat.le_trans K105.1 K107.1) K110.1) K113.1) K116.1) K119.1) (Nat.le_of_eq g121.symm))) all0)) K129 all0)⟩
  ·
    obtain ⟨T154, h154, k154, X154, e154, E154, A154, st154⟩ := newP X0 hx hZ0 (aty := .char) (w2 hw) e0 (g := (mkF m 52 #[.val (.int a), .val (.int b_), .val (.int n), .val (.int m_), .val (.int (1 : Int32)), .val (.int mx), .val (.int c0), .val (.int c1), .val (.int c2), .val (.int c3), .unset, .unset, .unset, .unset, .unset, .unset] [(.int (1 : Int32))])) rfl (hb hby at_52) (n := (1 : Int32)) rfl (by decide) (cap := 1) (by decide) (by decide) (by decide) (by decide)
    obtain ⟨b154, g154⟩ : ∃ z, z = h0.size := ⟨_, rfl⟩
    rw [← g154] at A154 st154
    have K154 := (Keep.refl h0 []).ext E154
    have R155 : CHr Z EL_1 s.vm h0 s.vm h154 := R0.trans (CHr.keep K154 sf0 R0.1)
    have G154 : Arv Z h154 b154 k154 .char (1 : Int32) [(.int (0 : Int32))] (.int (0 : Int32)) := (Arv.new A154 (by decide)).pad (pad_rep [] (.int (0 : Int32)) 1)
    obtain ⟨cl156, Ar156, q156, S156, M156, H156, F156g⟩ := id G154
    have hin156 : ¬ ((0 : Int32) < 0 ∨ cl156.slots.size ≤ ((0 : Int32)).toNatClampNeg) := inb_of S156 ⟨by decide, by decide⟩
    obtain ⟨T156, h156, X156, e156, Wr156, st156⟩ := stC X154 hx hZ0 e154 Ar156 (j := (0 : Int32)) hin156 (g := (mkF m 66 #[.val (.int a), .val (.int b_), .val (.int n), .val (.int m_), .val (.int (1 : Int32)), .val (.int mx), .val (.int c0), .val (.int c1), .val (.int c2), .val (.int c3), .val (.ref b154), .unset, .unset, .unset, .unset, .unset] [(.int c0), (.int (0 : Int32)), (.ref b154)])) rfl rfl (hb hby at_66)
    have G156 : Arv Z h156 b154 k154 .char (1 : Int32) [(.int (nar .char c0))] (.int (0 : Int32)) := Arv.set Ar156 q156 S156 M156 H156 F156g (fits_nar_char _) Wr156 0 rfl (Nat.le_of_ble_eq_true rfl)
    have K156 := Keep.of_wr Wr156
    have N156 := Fr.snoc X156 N0 (Nat.le_trans Z0 (Nat.le_of_eq g154.symm))
    have R157 : CHr Z EL_1 s.vm h0 s.vm h156 := R155.trans (CHr.keep K156 (sfS (Safe.arv hZ0.alike G154 (by intro q; cases q)) sf0) R155.1)
    have J156 : Arv Z h156 b154 k154 .char (1 : Int32) [(.int c0)] (.int (0 : Int32)) := by rw [show nar .char c0 = c0 from by rw [h_c0]; exact own_narc (own_i2cr _).1 (own_i2cr _).2] at G156; exact G156
    obtain ⟨T158, h158, k158, X158, e158, E158, A158, st158⟩ := newP X156 hx hZ0 (aty := .char) (w2 hw) e156 (g := (mkF m 104 #[.val (.int a), .val (.int b_), .val (.int n), .val (.int m_), .val (.int (1 : Int32)), .val (.int mx), .val (.int c0), .val (.int c1), .val (.int c2), .val (.int c3), .val (.ref b154), .unset, .unset, .unset, .unset, .unset] [(.int (4 : Int32))])) rfl (hb hby at_104) (n := (4 : Int32)) rfl (by decide) (cap := 4) (by decide) (by decide) (by decide) (by decide)
    obtain ⟨b158, g158⟩ : ∃ z, z = h156.size := ⟨_, rfl⟩
    rw [← g158] at A158 st158
    have K158 := (Keep.refl h156 []).ext E158
    have R159 : CHr Z EL_1 s.vm h0 s.vm h158 := R157.trans (CHr.keep K158 sf0 R157.1)
    have G158 : Arv Z h158 b158 k158 .char (4 : Int32) [(.int (0 : Int32)), (.int (0 : Int32)), (.int (0 : Int32)), (.int (0 : Int32))] (.int (0 : Int32)) := (Arv.new A158 (by decide)).pad (pad_rep [] (.int (0 : Int32)) 4)
    obtain ⟨_, _, ⟨T160, L160, k160, n160⟩, -, X160, ⟨Lc160, hQ160, l160, y160, z160⟩, st160⟩ := Jvm.LawKit.callS X158 hx (y := yn42) hown0 (mvT hZ0 (w3 hw)) (mvT hZ0 (w4 hw)) (mvT hZ0 (w5 hw)) (mvT hZ0 (w6 hw)) (by decide) (backOf (W := 2) (rm_safe l Z a0 hw [] c0 h158 n0 (Nat.le_trans Z0 (Nat.le_trans (Nat.le_trans K154.1 K156.1) K158.1)) (by rw [h_c0]; exact (own_i2cr _).1) (by rw [h_c0]; exact (own_i2cr _).2)) hZ0 (w6 hw) (w5 hw) (by decide) (by decide)) (g := (mkF m 113 #[.val (.int a), .val (.int b_), .val (.int n), .val (.int m_), .val (.int (1 : Int32)), .val (.int mx), .val (.int c0), .val (.int c1), .val (.int c2), .val (.int c3), .val (.ref b154), .val (.ref b158), .unset, .unset, .unset, .unset] [(.int c0), (.int (0 : Int32)), (.ref b158)])) rfl (by rw [hml]; rfl) (argsL := [(.int c0)]) (rest := [(.int (0 : Int32)), (.ref b158)]) (lenOf pd__28_C_29_C rfl) rfl (by show 2 * 0 + _ ≤ _; exact Nat.le_of_eq rfl) (hb hby at_113) (fun _ _ => ⟨rfl, e158, (Nat.le_of_ble_eq_true rfl), (Nat.le_of_ble_eq_true rfl)⟩)
    dsimp only [Pt.U, Pt.locs, Pt.cells, Pt.slots] at X160 l160 y160 z160 st160 hQ160
    subst l160 y160 z160
    obtain ⟨rfl, Nq160, eq160⟩ := hQ160
    have N160 := Fr.app N156 Nq160
    obtain ⟨cl161, Ar161, q161, S161, M161, H161, F161g⟩ := id G158
    have hin161 : ¬ ((0 : Int32) < 0 ∨ cl161.slots.size ≤ ((0 : Int32)).toNatClampNeg) := inb_of S161 ⟨by decide, by decide⟩
    obtain ⟨T161, h161, X161, e161, Wr161, st161⟩ := stC X160 hx hZ0 eq160 Ar161 (j := (0 : Int32)) hin161 (g := (mkF m 116 #[.val (.int a), .val (.int b_), .val (.int n), .val (.int m_), .val (.int (1 : Int32)), .val (.int mx), .val (.int c0), .val (.int c1), .val (.int c2), .val (.int c3), .val (.ref b154), .val (.ref b158), .unset, .unset, .unset, .unset] [(.int (pr c0)), (.int (0 : Int32)), (.ref b158)])) rfl rfl (hb hby at_116)
    have G161 : Arv Z h161 b158 k158 .char (4 : Int32) [(.int (nar .char (pr c0))), (.int (0 : Int32)), (.int (0 : Int32)), (.int (0 : Int32))] (.int (0 : Int32)) := Arv.set Ar161 q161 S161 M161 H161 F161g (fits_nar_char _) Wr161 0 rfl (Nat.le_of_ble_eq_true rfl)
    have K161 := Keep.of_wr Wr161
    have N161 := Fr.snoc X161 N160 (Nat.le_trans Z0 (Nat.le_trans (Nat.le_trans K154.1 K156.1) (Nat.le_of_eq g158.symm)))
    have R162 : CHr Z EL_1 s.vm h0 s.vm h161 := R159.trans (CHr.keep K161 (sfS (Safe.arv hZ0.alike G158 (by intro q; cases q)) sf0) R159.1)
    have J161 : Arv Z h161 b158 k158 .char (4 : Int32) [(.int (pr c0)), (.int (0 : Int32)), (.int (0 : Int32)), (.int (0 : Int32))] (.int (0 : Int32)) := by rw [own_narpr] at G161; exact G161
    obtain ⟨_, _, ⟨T163, L163, k163, n163⟩, -, X163, ⟨Lc163, hQ163, l163, y163, z163⟩, st163⟩ := Jvm.LawKit.callS X161 hx (y := yn42) hown0 (mvT hZ0 (w3 hw)) (mvT hZ0 (w4 hw)) (mvT hZ0 (w5 hw)) (mvT hZ0 (w6 hw)) (by decide) (backOf (W := 2) (rm_safe l Z a0 hw [] c1 h161 n0 (Nat.le_trans Z0 (Nat.le_trans (Nat.le_trans (Nat.le_trans K154.1 K156.1) K158.1) K161.1)) (by rw [h_c1]; exact (own_i2cr _).1) (by rw [h_c1]; exact (own_i2cr _).2)) hZ0 (w6 hw) (w5 hw) (by decide) (by decide)) (g := (mkF m 122 #[.val (.int a), .val (.int b_), .val (.int n), .val (.int m_), .val (.int (1 : Int32)), .val (.int mx), .val (.int c0), .val (.int c1), .val (.int c2), .val (.int c3), .val (.ref b154), .val (.ref b158), .unset, .unset, .unset, .unset] [(.int c1), (.int (1 : Int32)), (.ref b158)])) rfl (by rw [hml]; rfl) (argsL := [(.int c1)]) (rest := [(.int (1 : Int32)), (.ref b158)]) (lenOf pd__28_C_29_C rfl) rfl (by show 2 * 0 + _ ≤ _; exact Nat.le_of_eq rfl) (hb hby at_122) (fun _ _ => ⟨rfl, e161, (Nat.le_of_ble_eq_true rfl), (Nat.le_of_ble_eq_true rfl)⟩)
    dsimp only [Pt.U, Pt.locs, Pt.cells, Pt.slots] at X163 l163 y163 z163 st163 hQ163
    subst l163 y163 z163
    obtain ⟨rfl, Nq163, eq163⟩ := hQ163
    have N163 := Fr.app N161 Nq163
    obtain ⟨cl164, Ar164, q164, S164, M164, H164, F164g⟩ := id J161
    have hin164 : ¬ ((1 : Int32) < 0 ∨ cl164.slots.size ≤ ((1 : Int32)).toNatClampNeg) := inb_of S164 ⟨by decide, by decide⟩
    obtain ⟨T164, h164, X164, e164, Wr164, st164⟩ := stC X163 hx hZ0 eq163 Ar164 (j := (1 : Int32)) hin164 (g := (mkF m 125 #[.val (.int a), .val (.int b_), .val (.int n), .val (.int m_), .val (.int (1 : Int32)), .val (.int mx), .val (.int c0), .val (.int c1), .val (.int c2), .val (.int c3), .val (.ref b154), .val (.ref b158), .unset, .unset, .unset, .unset] [(.int (pr c1)), (.int (1 : Int32)), (.ref b158)])) rfl rfl (hb hby at_125)
    have G164 : Arv Z h164 b158 k158 .char (4 : Int32) [(.int (pr c0)), (.int (nar .char (pr c1))), (.int (0 : Int32)), (.int (0 : Int32))] (.int (0 : Int32)) := Arv.set Ar164 q164 S164 M164 H164 F164g (fits_nar_char _) Wr164 1 rfl (Nat.le_of_ble_eq_true rfl)
    have K164 := Keep.of_wr Wr164
    have N164 := Fr.snoc X164 N163 (Nat.le_trans Z0 (Nat.le_trans (Nat.le_trans K154.1 K156.1) (Nat.le_of_eq g158.symm)))
    have R165 : CHr Z EL_1 s.vm h0 s.vm h164 := R162.trans (CHr.keep K164 (sfS (Safe.arv hZ0.alike J161 (by intro q; cases q)) sf0) R162.1)
    have J164 : Arv Z h164 b158 k158 .char (4 : Int32) [(.int (pr c0)), (.int (pr c1)), (.int (0 : Int32)), (.int (0 : Int32))] (.int (0 : Int32)) := by rw [own_narpr] at G164; exact G164
    obtain ⟨_, _, ⟨T166, L166, k166, n166⟩, -, X166, ⟨Lc166, hQ166, l166, y166, z166⟩, st166⟩ := Jvm.LawKit.callS X164 hx (y := yn42) hown0 (mvT hZ0 (w3 hw)) (mvT hZ0 (w4 hw)) (mvT hZ0 (w5 hw)) (mvT hZ0 (w6 hw)) (by decide) (backOf (W := 2) (rm_safe l Z a0 hw [] c2 h164 n0 (Nat.le_trans Z0 (Nat.le_trans (Nat.le_trans (Nat.le_trans (Nat.le_trans K154.1 K156.1) K158.1) K161.1) K164.1)) (by rw [h_c2]; exact (own_i2cr _).1) (by rw [h_c2]; exact (own_i2cr _).2)) hZ0 (w6 hw) (w5 hw) (by decide) (by decide)) (g := (mkF m 131 #[.val (.int a), .val (.int b_), .val (.int n), .val (.int m_), .val (.int (1 : Int32)), .val (.int mx), .val (.int c0), .val (.int c1), .val (.int c2), .val (.int c3), .val (.ref b154), .val (.ref b158), .unset, .unset, .unset, .unset] [(.int c2), (.int (2 : Int32)), (.ref b158)])) rfl (by rw [hml]; rfl) (argsL := [(.int c2)]) (rest := [(.int (2 : Int32)), (.ref b158)]) (lenOf pd__28_C_29_C rfl) rfl (by show 2 * 0 + _ ≤ _; exact Nat.le_of_eq rfl) (hb hby at_131) (fun _ _ => ⟨rfl, e164, (Nat.le_of_ble_eq_true rfl), (Nat.le_of_ble_eq_true rfl)⟩)
    dsimp only [Pt.U, Pt.locs, Pt.cells, Pt.slots] at X166 l166 y166 z166 st166 hQ166
    subst l166 y166 z166
    obtain ⟨rfl, Nq166, eq166⟩ := hQ166
    have N166 := Fr.app N164 Nq166
    obtain ⟨cl167, Ar167, q167, S167, M167, H167, F167g⟩ := id J164
    have hin167 : ¬ ((2 : Int32) < 0 ∨ cl167.slots.size ≤ ((2 : Int32)).toNatClampNeg) := inb_of S167 ⟨by decide, by decide⟩
    obtain ⟨T167, h167, X167, e167, Wr167, st167⟩ := stC X166 hx hZ0 eq166 Ar167 (j := (2 : Int32)) hin167 (g := (mkF m 134 #[.val (.int a), .val (.int b_), .val (.int n), .val (.int m_), .val (.int (1 : Int32)), .val (.int mx), .val (.int c0), .val (.int c1), .val (.int c2), .val (.int c3), .val (.ref b154), .val (.ref b158), .unset, .unset, .unset, .unset] [(.int (pr c2)), (.int (2 : Int32)), (.ref b158)])) rfl rfl (hb hby at_134)
    have G167 : Arv Z h167 b158 k158 .char (4 : Int32) [(.int (pr c0)), (.int (pr c1)), (.int (nar .char (pr c2))), (.int (0 : Int32))] (.int (0 : Int32)) := Arv.set Ar167 q167 S167 M167 H167 F167g (fits_nar_char _) Wr167 2 rfl (Nat.le_of_ble_eq_true rfl)
    have K167 := Keep.of_wr Wr167
    have N167 := Fr.snoc X167 N166 (Nat.le_trans Z0 (Nat.le_trans (Nat.le_trans K154.1 K156.1) (Nat.le_of_eq g158.symm)))
    have R168 : CHr Z EL_1 s.vm h0 s.vm h167 := R165.trans (CHr.keep K167 (sfS (Safe.arv hZ0.alike J164 (by intro q; cases q)) sf0) R165.1)
    have J167 : Arv Z h167 b158 k158 .char (4 : Int32) [(.int (pr c0)), (.int (pr c1)), (.int (pr c2)), (.int (0 : Int32))] (.int (0 : Int32)) := by rw [own_narpr] at G167; exact G167
    obtain ⟨_, _, ⟨T169, L169, k169, n169⟩, -, X169, ⟨Lc169, hQ169, l169, y169, z169⟩, st169⟩ := Jvm.LawKit.callS X167 hx (y := yn42) hown0 (mvT hZ0 (w3 hw)) (mvT hZ0 (w4 hw)) (mvT hZ0 (w5 hw)) (mvT hZ0 (w6 hw)) (by decide) (backOf (W := 2) (rm_safe l Z a0 hw [] c3 h167 n0 (Nat.le_trans Z0 (Nat.le_trans (Nat.le_trans (Nat.le_trans (Nat.le_trans (Nat.le_trans K154.1 K156.1) K158.1) K161.1) K164.1) K167.1)) (by rw [h_c3]; exact (own_i2cr _).1) (by rw [h_c3]; exact (own_i2cr _).2)) hZ0 (w6 hw) (w5 hw) (by decide) (by decide)) (g := (mkF m 140 #[.val (.int a), .val (.int b_), .val (.int n), .val (.int m_), .val (.int (1 : Int32)), .val (.int mx), .val (.int c0), .val (.int c1), .val (.int c2), .val (.int c3), .val (.ref b154), .val (.ref b158), .unset, .unset, .unset, .unset] [(.int c3), (.int (3 : Int32)), (.ref b158)])) rfl (by rw [hml]; rfl) (argsL := [(.int c3)]) (rest := [(.int (3 : Int32)), (.ref b158)]) (lenOf pd__28_C_29_C rfl) rfl (by show 2 * 0 + _ ≤ _; exact Nat.le_of_eq rfl) (hb hby at_140) (fun _ _ => ⟨rfl, e167, (Nat.le_of_ble_eq_true rfl), (Nat.le_of_ble_eq_true rfl)⟩)
    dsimp only [Pt.U, Pt.locs, Pt.cells, Pt.slots] at X169 l169 y169 z169 st169 hQ169
    subst l169 y169 z169
    obtain ⟨rfl, Nq169, eq169⟩ := hQ169
    have N169 := Fr.app N167 Nq169
    obtain ⟨cl170, Ar170, q170, S170, M170, H170, F170g⟩ := id J167
    have hin170 : ¬ ((3 : Int32) < 0 ∨ cl170.slots.size ≤ ((3 : Int32)).toNatClampNeg) := inb_of S170 ⟨by decide, by decide⟩
    obtain ⟨T170, h170, X170, e170, Wr170, st170⟩ := stC X169 hx hZ0 eq169 Ar170 (j := (3 : Int32)) hin170 (g := (mkF m 143 #[.val (.int a), .val (.int b_), .val (.int n), .val (.int m_), .val (.int (1 : Int32)), .val (.int mx), .val (.int c0), .val (.int c1), .val (.int c2), .val (.int c3), .val (.ref b154), .val (.ref b158), .unset, .unset, .unset, .unset] [(.int (pr c3)), (.int (3 : Int32)), (.ref b158)])) rfl rfl (hb hby at_143)
    have G170 : Arv Z h170 b158 k158 .char (4 : Int32) [(.int (pr c0)), (.int (pr c1)), (.int (pr c2)), (.int (nar .char (pr c3)))] (.int (0 : Int32)) := Arv.set Ar170 q170 S170 M170 H170 F170g (fits_nar_char _) Wr170 3 rfl (Nat.le_of_ble_eq_true rfl)
    have K170 := Keep.of_wr Wr170
    have N170 := Fr.snoc X170 N169 (Nat.le_trans Z0 (Nat.le_trans (Nat.le_trans K154.1 K156.1) (Nat.le_of_eq g158.symm)))
    have R171 : CHr Z EL_1 s.vm h0 s.vm h170 := R168.trans (CHr.keep K170 (sfS (Safe.arv hZ0.alike J167 (by intro q; cases q)) sf0) R168.1)
    have J170 : Arv Z h170 b158 k158 .char (4 : Int32) [(.int (pr c0)), (.int (pr c1)), (.int (pr c2)), (.int (pr c3))] (.int (0 : Int32)) := by rw [own_narpr] at G170; exact G170
    obtain ⟨T172, h172, X172, e172, E172, A172, D172, U172, st172⟩ := newO X170 hx hZ0 hown0 (w7 hw) (w8 hw) (w9 hw) e170 (g := (mkF m 144 #[.val (.int a), .val (.int b_), .val (.int n), .val (.int m_), .val (.int (1 : Int32)), .val (.int mx), .val (.int c0), .val (.int c1), .val (.int c2), .val (.int c3), .val (.ref b154), .val (.ref b158), .unset, .unset, .unset, .unset] [])) rfl (hb hby at_144) (by decide) (by decide)
    obtain ⟨b172, g172⟩ : ∃ z, z = h170.size := ⟨_, rfl⟩
    rw [← g172] at A172 D172 U172 st172
    have K172 := (Keep.refl h170 []).ext E172
    have R173 : CHr Z EL_1 s.vm h0 s.vm h172 := R171.trans (CHr.keep K172 sf0 R171.1)
    have G172_coder : Fld Z h172 b172 "java/lang/String" "coder" "B" (.int (0 : Int32)) := D172 (Or.inr (w33 hw)) (ty := .byte) (by decide)
    have G172_value : Fld Z h172 b172 "java/lang/String" "value" "[B" .null := D172 (Or.inr (w35 hw)) (ty := (.array .byte)) (by decide)
    have hokc : ∀ x ∈ [c0], ¬ (x < (0 : Int32)) ∧ ¬ ((65535 : Int32) < x) := by
      intro x hx
      simp only [List.mem_cons, List.not_mem_nil, or_false] at hx
      rcases hx with hx
      · rw [hx, h_c0]; exact own_i2cr _
    have F174 : Arv Z h172 b154 k154 .char (1 : Int32) [(.int c0)] (.int (0 : Int32)) := ((((((J156.keep K158 nin0).keep K161 (ninS (Nat.ne_of_lt (Nat.lt_of_lt_of_le (Nat.lt_of_lt_of_le G154.lt K156.1) (Nat.le_of_eq g158.symm))) nin0)).keep K164 (ninS (Nat.ne_of_lt (Nat.lt_of_lt_of_le (Nat.lt_of_lt_of_le G154.lt K156.1) (Nat.le_of_eq g158.symm))) nin0)).keep K167 (ninS (Nat.ne_of_lt (Nat.lt_of_lt_of_le (Nat.lt_of_lt_of_le G154.lt K156.1) (Nat.le_of_eq g158.symm))) nin0)).keep K170 (ninS (Nat.ne_of_lt (Nat.lt_of_lt_of_le (Nat.lt_of_lt_of_le G154.lt K156.1) (Nat.le_of_eq g158.symm))) nin0)).keep K172 nin0)
    have O175 : Old Z n0 h172 := ((((((((O0.keep K154 all0).keep K156 (allS (Nat.le_trans Z0 (Nat.le_of_eq g154.symm)) all0)).keep K158 all0).keep K161 (allS (Nat.le_trans Z0 (Nat.le_trans (Nat.le_trans K154.1 K156.1) (Nat.le_of_eq g158.symm))) all0)).keep K164 (allS (Nat.le_trans Z0 (Nat.le_trans (Nat.le_trans K154.1 K156.1) (Nat.le_of_eq g158.symm))) all0)).keep K167 (allS (Nat.le_trans Z0 (Nat.le_trans (Nat.le_trans K154.1 K156.1) (Nat.le_of_eq g158.symm))) all0)).keep K170 (allS (Nat.le_trans Z0 (Nat.le_trans (Nat.le_trans K154.1 K156.1) (Nat.le_of_eq g158.symm))) all0)).keep K172 all0)
    obtain ⟨_, _, ⟨T176, L176, k176, n176⟩, -, X176, ⟨Lc176, hQ176, l176, y176, z176⟩, st176⟩ := X172.specialBack hx (y := yn19) rfl hown0 (mvT hZ0 (w10 hw)) (mvT hZ0 (w11 hw)) (mvT hZ0 (w12 hw)) (by decide) (backOf (W := 1) (rm_sinit l Z a0 hw [] b172 b154 k154 [c0] cS h172 n0 (Nat.le_trans Z0 (Nat.le_trans (Nat.le_trans (Nat.le_trans (Nat.le_trans (Nat.le_trans (Nat.le_trans (Nat.le_trans K154.1 K156.1) K158.1) K161.1) K164.1) K167.1) K170.1) K172.1)) O175 S_cs hcS S_ad S_hi S_lo A172 G172_value G172_coder (Nat.le_trans Z0 (Nat.le_trans (Nat.le_trans (Nat.le_trans (Nat.le_trans (Nat.le_trans (Nat.le_trans (Nat.le_trans K154.1 K156.1) K158.1) K161.1) K164.1) K167.1) K170.1) (Nat.le_of_eq g172.symm))) F174 ⟨hokc, (Nat.le_of_ble_eq_true rfl)⟩ (Nat.le_of_ble_eq_true rfl) (Nat.le_of_ble_eq_true rfl) (Ne.symm (Nat.ne_of_lt (Nat.lt_of_lt_of_le (Nat.lt_of_lt_of_le G154.lt (Nat.le_trans (Nat.le_trans (Nat.le_trans (Nat.le_trans (Nat.le_trans K156.1 K158.1) K161.1) K164.1) K167.1) K170.1)) (Nat.le_of_eq g172.symm))))) hZ0 (w12 hw) (w9 hw) (by decide) (by decide)) (g := (mkF m 150 #[.val (.int a), .val (.int b_), .val (.int n), .val (.int m_), .val (.int (1 : Int32)), .val (.int mx), .val (.int c0), .val (.int c1), .val (.int c2), .val (.int c3), .val (.ref b154), .val (.ref b158), .unset, .unset, .unset, .unset] [(.ref b154), (.ref b172), (.ref b172)])) rfl (by rw [hml]; rfl) (Steps.refl _) (a := b172) (argsL := [(.ref b154)]) (rest := [(.ref b172)]) (lenOf pd__28__5b_C_29_V rfl) rfl (by show 2 * 0 + _ ≤ _; exact Nat.le_of_eq rfl) (hb hby at_150) (fun _ _ => ⟨rfl, e172, (Nat.le_of_ble_eq_true rfl), (Nat.le_of_ble_eq_true rfl)⟩)
    dsimp only [Pt.U, Pt.locs, Pt.cells, Pt.slots] at X176 l176 y176 z176 st176 hQ176
    subst l176 y176 z176
    obtain ⟨t_177, kb_178, rfl, Nq176, K176, P176_0, P176_1⟩ := hQ176
    have N176 := Fr.app N170 Nq176
    have Sf179 : Safe Z EL_1 s.vm h172 b172 := (Safe.keep K172 sf0 R171.1 (Safe.new (Nat.le_of_eq g172.symm)))
    have R180 : CHr Z EL_1 s.vm h0 s.vm T176.heap := R173.trans (CHr.keep K176 (sfS Sf179 sf0) R173.1)
    obtain ⟨kk, hkl, hmin, hkept, hcut⟩ := own_kk [c0].length mx hmx (Nat.le_of_ble_eq_true rfl)
    have hes : ∀ i, i < [c0].length → ([pr c0, pr c1, pr c2, pr c3] : List Int32).getD i 0 = pr (([c0] : List Int32).getD i 0) := fun i hi => match i, hi with | 0, _ => rfl | n_ + 1, h => absurd h (by simp only [List.length_cons, List.length_nil]; omega)
    have O181 : Old Z n0 T176.heap := (O175.keep K176 (allS (Nat.le_trans Z0 (Nat.le_trans (Nat.le_trans (Nat.le_trans (Nat.le_trans (Nat.le_trans (Nat.le_trans (Nat.le_trans K154.1 K156.1) K158.1) K161.1) K164.1) K167.1) K170.1) (Nat.le_of_eq g172.symm))) all0))
    obtain ⟨_, _, ⟨T182, L182, k182, n182⟩, -, X182', hS182', hgr182, ⟨Lc182, hQ182, l182, y182, z182, A182⟩, st182⟩ := callSS X176 hx (y := yn44) hown0 (mvT hZ0 (w36 hw)) (mvT hZ0 (w37 hw)) (mvT hZ0 (w38 hw)) (mvT hZ0 (w39 hw)) (by decide) (backOfSH (W := 0) (rm_printable l Z a0 hw [] b172 mx kk t_177 kb_178 [c0] cS fm T176.heap n0 (Nat.le_trans Z0 (Nat.le_trans (Nat.le_trans (Nat.le_trans (Nat.le_trans (Nat.le_trans (Nat.le_trans (Nat.le_trans (Nat.le_trans K154.1 K156.1) K158.1) K161.1) K164.1) K167.1) K170.1) K172.1) K176.1)) O181 S_cs hcS S_fm hfm S_ad S_hi S_lo P176_1 hkl (Nat.le_of_ble_eq_true rfl) hmin) hZ0 (w39 hw) (w38 hw) (by decide) (by decide) hEL R180.1) (g := (mkF m 155 #[.val (.int a), .val (.int b_), .val (.int n), .val (.int m_), .val (.int (1 : Int32)), .val (.int mx), .val (.int c0), .val (.int c1), .val (.int c2), .val (.int c3), .val (.ref b154), .val (.ref b158), .unset, .unset, .unset, .unset] [(.int mx), (.ref b172)])) rfl (by rw [hml]; rfl) (argsL := [(.ref b172), (.int mx)]) (rest := []) (lenOf pd__28_Ljava_2f_lang_2f_String_3b_I_29_Ljava_2f_lang_2f_String_3b_ rfl) rfl (by show 2 * 0 + _ ≤ _; exact Nat.le_of_eq rfl) (hb hby at_155) (fun _ _ => ⟨rfl, rfl, (Nat.le_of_ble_eq_true rfl), (Nat.le_of_ble_eq_true rfl)⟩)
    dsimp only [Pt.U, Pt.locs, Pt.cells, Pt.slots] at X182' hS182' hgr182 l182 y182 z182 st182 hQ182 A182
    subst l182 y182 z182
    obtain ⟨X182, hS182, hZ182, hown182⟩ := rebS hS0 (Nat.le_trans hk0 (Nat.le_trans (Nat.le_trans (Nat.le_trans (Nat.le_trans (Nat.le_trans (Nat.le_trans (Nat.le_trans (Nat.le_trans K154.1 K156.1) K158.1) K161.1) K164.1) K167.1) K170.1) K172.1) K176.1)) X182' hS182' hgr182 hZ0 hown0
    obtain ⟨r_183, t2_184, kb2_185, rfl, Nq182, K182, P182_0, P182_1, P182_2⟩ := hQ182
    have N182 := Fr.app N176 Nq182
    have R186 : CHr Z EL_1 s.vm h0 T182.vm T182.heap := R180.trans A182
    have hk182 : T182.heap.size ≤ T182.heap.size := Nat.le_refl _
    have W187 : ∀ zQ, SS p e below T182 m 164 #[.val (.int a), .val (.int b_), .val (.int n), .val (.int m_), .val (.int (1 : Int32)), .val (.int mx), .val (.int c0), .val (.int c1), .val (.int c2), .val (.int c3), .val (.ref b154), .val (.ref b158), .val (.ref r_183), .unset, .unset, .unset] [(.int mx), (.int (1 : Int32))] zQ → Steps p.tables e below (s₁.setTop (entryFrame m #[(.int a), (.int b_), (.int n), (.int m_)] maxLocals)) zQ := by
      intro tt kt
      refine W104 tt ?_
      refine XS.iload X0.here hx rfl (hb hby at_50) rfl ?_
      refine st154 _ ?_
      refine XS.astore X154.here hx rfl (hb hby at_54) rfl rfl (l' := #[.val (.int a), .val (.int b_), .val (.int n), .val (.int m_), .val (.int (1 : Int32)), .val (.int mx), .val (.int c0), .val (.int c1), .val (.int c2), .val (.int c3), .val (.ref b154), .unset, .unset, .unset, .unset, .unset]) rfl ?_
      refine XS.iload X154.here hx rfl (hb hby at_56) rfl ?_
      refine XS.ifNo X154.here hx rfl (hb hby at_58) rfl ((if0 _ _).trans (tlt (by decide)).2.2.2) ?_
      refine XS.aload X154.here hx rfl (hb hby at_61) rfl rfl ?_
      refine XS.iconst X154.here hx rfl (hb hby at_63) ?_
      refine XS.iload X154.here hx rfl (hb hby at_64) rfl ?_
      show SS p e below T154 m 66 #[.val (.int a), .val (.int b_), .val (.int n), .val (.int m_), .val (.int (1 : Int32)), .val (.int mx), .val (.int c0), .val (.int c1), .val (.int c2), .val (.int c3), .val (.ref b154), .unset, .unset, .unset, .unset, .unset] [(.int c0), (.int (0 : Int32)), (.ref b154)] _
      refine st156 _ ?_
      refine XS.iload X156.here hx rfl (hb hby at_67) rfl ?_
      refine XS.iconst X156.here hx rfl (hb hby at_69) ?_
      refine XS.icmpYes X156.here hx rfl (pc0 := 70) (pc' := 79) rfl (hb hby at_70) rfl (flt (by decide)).2.2.2 (by decide) (by decide) ?_
      refine XS.iload X156.here hx rfl (hb hby at_79) rfl ?_
      refine XS.iconst X156.here hx rfl (hb hby at_81) ?_
      refine XS.icmpYes X156.here hx rfl (pc0 := 82) (pc' := 91) rfl (hb hby at_82) rfl (flt (by decide)).2.2.2 (by decide) (by decide) ?_
      refine XS.iload X156.here hx rfl (hb hby at_91) rfl ?_
      show SS p e below T156 m 93 #[.val (.int a), .val (.int b_), .val (.int n), .val (.int m_), .val (.int (1 : Int32)), .val (.int mx), .val (.int c0), .val (.int c1), .val (.int c2), .val (.int c3), .val (.ref b154), .unset, .unset, .unset, .unset, .unset] [(.int (1 : Int32))] _
      refine XS.iconst X156.here hx rfl (hb hby at_93) ?_
      refine XS.icmpYes X156.here hx rfl (pc0 := 94) (pc' := 103) rfl (hb hby at_94) rfl (flt (by decide)).2.2.2 (by decide) (by decide) ?_
      refine XS.iconst X156.here hx rfl (hb hby at_103) ?_
      refine st158 _ ?_
      refine XS.astore X158.here hx rfl (hb hby at_106) rfl rfl (l' := #[.val (.int a), .val (.int b_), .val (.int n), .val (.int m_), .val (.int (1 : Int32)), .val (.int mx), .val (.int c0), .val (.int c1), .val (.int c2), .val (.int c3), .val (.ref b154), .val (.ref b158), .unset, .unset, .unset, .unset]) rfl ?_
      refine XS.aload X158.here hx rfl (hb hby at_108) rfl rfl ?_
      refine XS.iconst X158.here hx rfl (hb hby at_110) ?_
      refine XS.iload X158.here hx rfl (hb hby at_111) rfl ?_
      show SS p e below T158 m 113 #[.val (.int a), .val (.int b_), .val (.int n), .val (.int m_), .val (.int (1 : Int32)), .val (.int mx), .val (.int c0), .val (.int c1), .val (.int c2), .val (.int c3), .val (.ref b154), .val (.ref b158), .unset, .unset, .unset, .unset] [(.int c0), (.int (0 : Int32)), (.ref b158)] _
      refine st160 _ ?_
      refine st161 _ ?_
      refine XS.aload X161.here hx rfl (hb hby at_117) rfl rfl ?_
      refine XS.iconst X161.here hx rfl (hb hby at_119) ?_
      refine XS.iload X161.here hx rfl (hb hby at_120) rfl ?_
      refine st163 _ ?_
      refine st164 _ ?_
      refine XS.aload X164.here hx rfl (hb hby at_126) rfl rfl ?_
      show SS p e below T164 m 128 #[.val (.int a), .val (.int b_), .val (.int n), .val (.int m_), .val (.int (1 : Int32)), .val (.int mx), .val (.int c0), .val (.int c1), .val (.int c2), .val (.int c3), .val (.ref b154), .val (.ref b158), .unset, .unset, .unset, .unset] [(.ref b158)] _
      refine XS.iconst X164.here hx rfl (hb hby at_128) ?_
      refine XS.iload X164.here hx rfl (hb hby at_129) rfl ?_
      refine st166 _ ?_
      refine st167 _ ?_
      refine XS.aload X167.here hx rfl (hb hby at_135) rfl rfl ?_
      refine XS.iconst X167.here hx rfl (hb hby at_137) ?_
      refine XS.iload X167.here hx rfl (hb hby at_138) rfl ?_
      refine st169 _ ?_
      show SS p e below T169 m 143 #[.val (.int a), .val (.int b_), .val (.int n), .val (.int m_), .val (.int (1 : Int32)), .val (.int mx), .val (.int c0), .val (.int c1), .val (.int c2), .val (.int c3), .val (.ref b154), .val (.ref b158), .unset, .unset, .unset, .unset] [(.int (pr c3)), (.int (3 : Int32)), (.ref b158)] _
      refine st170 _ ?_
      refine st172 _ ?_
      refine XS.dup X172.here hx rfl (hb hby at_147) rfl rfl ?_
      refine XS.aload X172.here hx rfl (hb hby at_148) rfl rfl ?_
      refine st176.trans ?_
      refine XS.iload X176.here hx rfl (hb hby at_153) rfl ?_
      refine st182.trans ?_
      refine XS.astore X182.here hx rfl (hb hby at_158) rfl rfl (l' := #[.val (.int a), .val (.int b_), .val (.int n), .val (.int m_), .val (.int (1 : Int32)), .val (.int mx), .val (.int c0), .val (.int c1), .val (.int c2), .val (.int c3), .val (.ref b154), .val (.ref b158), .val (.ref r_183), .unset, .unset, .unset]) rfl ?_
      show SS p e below T182 m 160 #[.val (.int a), .val (.int b_), .val (.int n), .val (.int m_), .val (.int (1 : Int32)), .val (.int mx), .val (.int c0), .val (.int c1), .val (.int c2), .val (.int c3), .val (.ref b154), .val (.ref b158), .val (.ref r_183), .unset, .unset, .unset] [] _
      refine XS.iload X182.here hx rfl (hb hby at_160) rfl ?_
      refine XS.iload X182.here hx rfl (hb hby at_162) rfl ?_
      exact kt
    have W189 : ∀ zQ, SS p e below T182 m 174 #[.val (.int a), .val (.int b_), .val (.int n), .val (.int m_), .val (.int (1 : Int32)), .val (.int mx), .val (.int c0), .val (.int c1), .val (.int c2), .val (.int c3), .val (.ref b154), .val (.ref b158), .val (.ref r_183), .unset, .unset, .unset] [(.int (if (1 : Int32) < mx then (1 : Int32) else mx))] zQ → Steps p.tables e below (s₁.setTop (entryFrame m #[(.int a), (.int b_), (.int n), (.int m_)] maxLocals)) zQ := by
      intro tt kt
      refine W187 tt ?_
      by_cases hj188 : (1 : Int32) < mx
      ·
        refine XS.icmpNo X182.here hx rfl (hb hby at_164) rfl (tlt hj188).2.1 ?_
        refine XS.iload X182.here hx rfl (hb hby at_167) rfl ?_
        refine XS.goto X182.here hx rfl (pc0 := 169) (pc' := 174) rfl (hb hby at_169) (by decide) (by decide) ?_
        exact castTop (by first | rfl | (simp only [if_pos hj188]; first | done | rfl)) kt
      ·
        refine XS.icmpYes X182.here hx rfl (pc0 := 164) (pc' := 172) rfl (hb hby at_164) rfl (flt hj188).2.1 (by decide) (by decide) ?_
        refine XS.iload X182.here hx rfl (hb hby at_172) rfl ?_
        exact castTop (by first | rfl | (simp only [if_neg hj188]; first | done | rfl)) kt
    have W190 : ∀ zQ, SS p e below T182 m 180 #[.val (.int a), .val (.int b_), .val (.int n), .val (.int m_), .val (.int (1 : Int32)), .val (.int mx), .val (.int c0), .val (.int c1), .val (.int c2), .val (.int c3), .val (.ref b154), .val (.ref b158), .val (.ref r_183), .val (.int (Int32.ofNat kk)), .unset, .unset] [(.int mx), (.int (1 : Int32))] zQ → Steps p.tables e below (s₁.setTop (entryFrame m #[(.int a), (.int b_), (.int n), (.int m_)] maxLocals)) zQ := by
      intro tt kt
      refine W189 tt ?_
      rw [show (if (1 : Int32) < mx then (1 : Int32) else mx) = (Int32.ofNat kk) from hkept]
      refine XS.istore X182.here hx rfl (hb hby at_174) rfl (l' := #[.val (.int a), .val (.int b_), .val (.int n), .val (.int m_), .val (.int (1 : Int32)), .val (.int mx), .val (.int c0), .val (.int c1), .val (.int c2), .val (.int c3), .val (.ref b154), .val (.ref b158), .val (.ref r_183), .val (.int (Int32.ofNat kk)), .unset, .unset]) rfl ?_
      refine XS.iload X182.here hx rfl (hb hby at_176) rfl ?_
      refine XS.iload X182.here hx rfl (hb hby at_178) rfl ?_
      exact kt
    have W192 : ∀ zQ, SS p e below T182 m 188 #[.val (.int a), .val (.int b_), .val (.int n), .val (.int m_), .val (.int (1 : Int32)), .val (.int mx), .val (.int c0), .val (.int c1), .val (.int c2), .val (.int c3), .val (.ref b154), .val (.ref b158), .val (.ref r_183), .val (.int (Int32.ofNat kk)), .unset, .unset] [(.int (if mx < (1 : Int32) then (1 : Int32) else (0 : Int32)))] zQ → Steps p.tables e below (s₁.setTop (entryFrame m #[(.int a), (.int b_), (.int n), (.int m_)] maxLocals)) zQ := by
      intro tt kt
      refine W190 tt ?_
      by_cases hj191 : mx < (1 : Int32)
      ·
        refine XS.icmpNo X182.here hx rfl (hb hby at_180) rfl (tlt hj191).2.2.2 ?_
        refine XS.iconst X182.here hx rfl (hb hby at_183) ?_
        refine XS.goto X182.here hx rfl (pc0 := 184) (pc' := 188) rfl (hb hby at_184) (by decide) (by decide) ?_
        exact castTop (by first | rfl | (simp only [if_pos hj191]; first | done | rfl)) kt
      ·
        refine XS.icmpYes X182.here hx rfl (pc0 := 180) (pc' := 187) rfl (hb hby at_180) rfl (flt hj191).2.2.2 (by decide) (by decide) ?_
        refine XS.iconst X182.here hx rfl (hb hby at_187) ?_
        exact castTop (by first | rfl | (simp only [if_neg hj191]; first | done | rfl)) kt
    have W193 : ∀ zQ, SS p e below T182 m 194 #[.val (.int a), .val (.int b_), .val (.int n), .val (.int m_), .val (.int (1 : Int32)), .val (.int mx), .val (.int c0), .val (.int c1), .val (.int c2), .val (.int c3), .val (.ref b154), .val (.ref b158), .val (.ref r_183), .val (.int (Int32.ofNat kk)), .val (.int (if mx < (1 : Int32) then (1 : Int32) else (0 : Int32))), .unset] [(.int (if mx < (1 : Int32) then (1 : Int32) else (0 : Int32))), (.int (Int32.ofNat kk))] zQ → Steps p.tables e below (s₁.setTop (entryFrame m #[(.int a), (.int b_), (.int n), (.int m_)] maxLocals)) zQ := by
      intro tt kt
      refine W192 tt ?_
      refine XS.istore X182.here hx rfl (hb hby at_188) rfl (l' := #[.val (.int a), .val (.int b_), .val (.int n), .val (.int m_), .val (.int (1 : Int32)), .val (.int mx), .val (.int c0), .val (.int c1), .val (.int c2), .val (.int c3), .val (.ref b154), .val (.ref b158), .val (.ref r_183), .val (.int (Int32.ofNat kk)), .val (.int (if mx < (1 : Int32) then (1 : Int32) else (0 : Int32))), .unset]) rfl ?_
      refine XS.iload X182.here hx rfl (hb hby at_190) rfl ?_
      refine XS.iload X182.here hx rfl (hb hby at_192) rfl ?_
      exact kt
    have W195 : ∀ zQ, SS p e below T182 m 202 #[.val (.int a), .val (.int b_), .val (.int n), .val (.int m_), .val (.int (1 : Int32)), .val (.int mx), .val (.int c0), .val (.int c1), .val (.int c2), .val (.int c3), .val (.ref b154), .val (.ref b158), .val (.ref r_183), .val (.int (Int32.ofNat kk)), .val (.int (if mx < (1 : Int32) then (1 : Int32) else (0 : Int32))), .unset] [(.int (if (if mx < (1 : Int32) then (1 : Int32) else (0 : Int32)) = (0 : Int32) then (0 : Int32) else (3 : Int32))), (.int (Int32.ofNat kk))] zQ → Steps p.tables e below (s₁.setTop (entryFrame m #[(.int a), (.int b_), (.int n), (.int m_)] maxLocals)) zQ := by
      intro tt kt
      refine W193 tt ?_
      by_cases hj194 : (if mx < (1 : Int32) then (1 : Int32) else (0 : Int32)) = (0 : Int32)
      ·
        refine XS.ifYes X182.here hx rfl (pc0 := 194) (pc' := 201) rfl (hb hby at_194) rfl ((if0 _ _).trans (teq hj194).1) (by decide) (by decide) ?_
        refine XS.iconst X182.here hx rfl (hb hby at_201) ?_
        exact castTop (by first | rfl | (simp only [if_pos hj194]; first | done | rfl)) kt
      ·
        refine XS.ifNo X182.here hx rfl (hb hby at_194) rfl ((if0 _ _).trans (feq hj194).1) ?_
        refine XS.iconst X182.here hx rfl (hb hby at_197) ?_
        refine XS.goto X182.here hx rfl (pc0 := 198) (pc' := 202) rfl (hb hby at_198) (by decide) (by decide) ?_
        exact castTop (by first | rfl | (simp only [if_neg hj194]; first | done | rfl)) kt
    have O196 : Old Z n0 T182.heap := (O181.keep K182 all0)
    obtain ⟨cq197, kq197, q197a, q197b, q197c⟩ := isOf hZ182 rfl P182_2.1
    obtain ⟨_, _, ⟨T197, L197, k197, n197⟩, -, X197, ⟨Lc197, hQ197, l197, y197, z197⟩, st197⟩ := X182.virtualBack hx (y := yn10) (z := yn10) hown182 (mvT hZ182 (w191 hw)) (mvT hZ182 (w41 hw)) (notFace_of_selects (args := #[]) (mvT hZ182 (w43 hw))) (mvT hZ182 (w43 hw)) (mvT hZ182 (w42 hw)) (by decide) (backOf (W := 0) (rm_length l Z a0 hw [] r_183 t2_184 kb2_185 (pres [c0] kk) cS T182.heap n0 (Nat.le_trans Z0 (Nat.le_trans (Nat.le_trans (Nat.le_trans (Nat.le_trans (Nat.le_trans (Nat.le_trans (Nat.le_trans (Nat.le_trans (Nat.le_trans K154.1 K156.1) K158.1) K161.1) K164.1) K167.1) K170.1) K172.1) K176.1) K182.1)) O196 S_cs hcS P182_2) hZ182 (w44 hw) (w9 hw) (by decide) (by decide)) q197a q197c (g := (mkF m 207 #[.val (.int a), .val (.int b_), .val (.int n), .val (.int m_), .val (.int (1 : Int32)), .val (.int mx), .val (.int c0), .val (.int c1), .val (.int c2), .val (.int c3), .val (.ref b154), .val (.ref b158), .val (.ref r_183), .val (.int (Int32.ofNat kk)), .val (.int (if mx < (1 : Int32) then (1 : Int32) else (0 : Int32))), .val (.int (Int32.ofNat (pres [c0] kk).length))] [(.ref r_183)])) rfl (by rw [hml]; rfl) (Steps.refl _) (argsL := []) (rest := []) (lenOf pd__28__29_I rfl) rfl (by show 2 * 0 + _ ≤ _; exact Nat.le_of_eq rfl) (hb hby at_207) (fun _ _ => ⟨rfl, rfl, (Nat.le_of_ble_eq_true rfl), (Nat.le_of_ble_eq_true rfl)⟩)
    dsimp only [Pt.U, Pt.locs, Pt.cells, Pt.slots] at X197 l197 y197 z197 st197 hQ197
    subst l197 y197 z197
    obtain ⟨rfl, Nq197, eq197⟩ := hQ197
    have N197 := Fr.app N182 Nq197
    have F198 : Arv Z T182.heap b158 k158 .char (4 : Int32) [(.int (pr c0)), (.int (pr c1)), (.int (pr c2)), (.int (pr c3))] (.int (0 : Int32)) := (((J170.keep K172 nin0).keep K176 (ninS (Nat.ne_of_lt (Nat.lt_of_lt_of_le (Nat.lt_of_lt_of_le G158.lt (Nat.le_trans (Nat.le_trans (Nat.le_trans K161.1 K164.1) K167.1) K170.1)) (Nat.le_of_eq g172.symm))) nin0)).keep K182 nin0)
    obtain ⟨_, _, ⟨T199, L199, k199, n199⟩, -, X199, ⟨Lc199, hQ199, l199, y199, z199⟩, st199⟩ := Jvm.LawKit.callS X197 hx (y := yn43) hown182 (mvT hZ182 (w192 hw)) (mvT hZ182 (w193 hw)) (mvT hZ182 (w5 hw)) (mvT hZ182 (w194 hw)) (by decide) (backOf (W := 0) (rm_okay l Z a0 hw [] r_183 b158 0 kk (pres [c0] kk).length k158 [pr c0, pr c1, pr c2, pr c3] t2_184 kb2_185 (pres [c0] kk) cS fm T182.heap n0 (Nat.le_trans Z0 (Nat.le_trans (Nat.le_trans (Nat.le_trans (Nat.le_trans (Nat.le_trans (Nat.le_trans (Nat.le_trans (Nat.le_trans (Nat.le_trans K154.1 K156.1) K158.1) K161.1) K164.1) K167.1) K170.1) K172.1) K176.1) K182.1)) O196 S_cs hcS S_fm hfm S_ad S_hi S_lo P182_2 F198 rfl (pres_at hkl hes) (Nat.le_trans hkl (Nat.le_of_ble_eq_true rfl)) (Nat.le_of_ble_eq_true rfl) (Nat.le_of_ble_eq_true rfl)) hZ182 (w194 hw) (w5 hw) (by decide) (by decide)) (g := (mkF m 226 #[.val (.int a), .val (.int b_), .val (.int n), .val (.int m_), .val (.int (1 : Int32)), .val (.int mx), .val (.int c0), .val (.int c1), .val (.int c2), .val (.int c3), .val (.ref b154), .val (.ref b158), .val (.ref r_183), .val (.int (Int32.ofNat kk)), .val (.int (if mx < (1 : Int32) then (1 : Int32) else (0 : Int32))), .val (.int (Int32.ofNat (pres [c0] kk).length))] [(.ref b158), (.int (Int32.ofNat (pres [c0] kk).length)), (.int (Int32.ofNat kk)), (.int (0 : Int32)), (.ref r_183)])) rfl (by rw [hml]; rfl) (argsL := [(.ref r_183), (.int (0 : Int32)), (.int (Int32.ofNat kk)), (.int (Int32.ofNat (pres [c0] kk).length)), (.ref b158)]) (rest := []) (lenOf pd__28_Ljava_2f_lang_2f_String_3b_III_5b_C_29_Z rfl) rfl (by show 2 * 0 + _ ≤ _; exact Nat.le_of_eq rfl) (hb hby at_226) (fun _ _ => ⟨rfl, eq197, (Nat.le_of_ble_eq_true rfl), (Nat.le_of_ble_eq_true rfl)⟩)
    dsimp only [Pt.U, Pt.locs, Pt.cells, Pt.slots] at X199 l199 y199 z199 st199 hQ199
    subst l199 y199 z199
    obtain ⟨rfl, Nq199, eq199⟩ := hQ199
    have N199 := Fr.app N197 Nq199
    obtain ⟨_, _, ⟨T200, L200, k200, n200⟩, -, X200, ⟨Lc200, hQ200, l200, y200, z200⟩, st200⟩ := Jvm.LawKit.callS X199 hx (y := yn43) hown182 (mvT hZ182 (w192 hw)) (mvT hZ182 (w193 hw)) (mvT hZ182 (w5 hw)) (mvT hZ182 (w194 hw)) (by decide) (backOf (W := 0) (rm_okay l Z a0 hw [] r_183 b158 1 kk (pres [c0] kk).length k158 [pr c0, pr c1, pr c2, pr c3] t2_184 kb2_185 (pres [c0] kk) cS fm T182.heap n0 (Nat.le_trans Z0 (Nat.le_trans (Nat.le_trans (Nat.le_trans (Nat.le_trans (Nat.le_trans (Nat.le_trans (Nat.le_trans (Nat.le_trans (Nat.le_trans K154.1 K156.1) K158.1) K161.1) K164.1) K167.1) K170.1) K172.1) K176.1) K182.1)) O196 S_cs hcS S_fm hfm S_ad S_hi S_lo P182_2 F198 rfl (pres_at hkl hes) (Nat.le_trans hkl (Nat.le_of_ble_eq_true rfl)) (Nat.le_of_ble_eq_true rfl) (Nat.le_of_ble_eq_true rfl)) hZ182 (w194 hw) (w5 hw) (by decide) (by decide)) (g := (mkF m 241 #[.val (.int a), .val (.int b_), .val (.int n), .val (.int m_), .val (.int (1 : Int32)), .val (.int mx), .val (.int c0), .val (.int c1), .val (.int c2), .val (.int c3), .val (.ref b154), .val (.ref b158), .val (.ref r_183), .val (.int (Int32.ofNat kk)), .val (.int (if mx < (1 : Int32) then (1 : Int32) else (0 : Int32))), .val (.int (Int32.ofNat (pres [c0] kk).length))] [(.ref b158), (.int (Int32.ofNat (pres [c0] kk).length)), (.int (Int32.ofNat kk)), (.int (1 : Int32)), (.ref r_183)])) rfl (by rw [hml]; rfl) (argsL := [(.ref r_183), (.int (1 : Int32)), (.int (Int32.ofNat kk)), (.int (Int32.ofNat (pres [c0] kk).length)), (.ref b158)]) (rest := []) (lenOf pd__28_Ljava_2f_lang_2f_String_3b_III_5b_C_29_Z rfl) rfl (by show 2 * 0 + _ ≤ _; exact Nat.le_of_eq rfl) (hb hby at_241) (fun _ _ => ⟨rfl, eq199, (Nat.le_of_ble_eq_true rfl), (Nat.le_of_ble_eq_true rfl)⟩)
    dsimp only [Pt.U, Pt.locs, Pt.cells, Pt.slots] at X200 l200 y200 z200 st200 hQ200
    subst l200 y200 z200
    obtain ⟨rfl, Nq200, eq200⟩ := hQ200
    have N200 := Fr.app N199 Nq200
    obtain ⟨_, _, ⟨T201, L201, k201, n201⟩, -, X201, ⟨Lc201, hQ201, l201, y201, z201⟩, st201⟩ := Jvm.LawKit.callS X200 hx (y := yn43) hown182 (mvT hZ182 (w192 hw)) (mvT hZ182 (w193 hw)) (mvT hZ182 (w5 hw)) (mvT hZ182 (w194 hw)) (by decide) (backOf (W := 0) (rm_okay l Z a0 hw [] r_183 b158 2 kk (pres [c0] kk).length k158 [pr c0, pr c1, pr c2, pr c3] t2_184 kb2_185 (pres [c0] kk) cS fm T182.heap n0 (Nat.le_trans Z0 (Nat.le_trans (Nat.le_trans (Nat.le_trans (Nat.le_trans (Nat.le_trans (Nat.le_trans (Nat.le_trans (Nat.le_trans (Nat.le_trans K154.1 K156.1) K158.1) K161.1) K164.1) K167.1) K170.1) K172.1) K176.1) K182.1)) O196 S_cs hcS S_fm hfm S_ad S_hi S_lo P182_2 F198 rfl (pres_at hkl hes) (Nat.le_trans hkl (Nat.le_of_ble_eq_true rfl)) (Nat.le_of_ble_eq_true rfl) (Nat.le_of_ble_eq_true rfl)) hZ182 (w194 hw) (w5 hw) (by decide) (by decide)) (g := (mkF m 256 #[.val (.int a), .val (.int b_), .val (.int n), .val (.int m_), .val (.int (1 : Int32)), .val (.int mx), .val (.int c0), .val (.int c1), .val (.int c2), .val (.int c3), .val (.ref b154), .val (.ref b158), .val (.ref r_183), .val (.int (Int32.ofNat kk)), .val (.int (if mx < (1 : Int32) then (1 : Int32) else (0 : Int32))), .val (.int (Int32.ofNat (pres [c0] kk).length))] [(.ref b158), (.int (Int32.ofNat (pres [c0] kk).length)), (.int (Int32.ofNat kk)), (.int (2 : Int32)), (.ref r_183)])) rfl (by rw [hml]; rfl) (argsL := [(.ref r_183), (.int (2 : Int32)), (.int (Int32.ofNat kk)), (.int (Int32.ofNat (pres [c0] kk).length)), (.ref b158)]) (rest := []) (lenOf pd__28_Ljava_2f_lang_2f_String_3b_III_5b_C_29_Z rfl) rfl (by show 2 * 0 + _ ≤ _; exact Nat.le_of_eq rfl) (hb hby at_256) (fun _ _ => ⟨rfl, eq200, (Nat.le_of_ble_eq_true rfl), (Nat.le_of_ble_eq_true rfl)⟩)
    dsimp only [Pt.U, Pt.locs, Pt.cells, Pt.slots] at X201 l201 y201 z201 st201 hQ201
    subst l201 y201 z201
    obtain ⟨rfl, Nq201, eq201⟩ := hQ201
    have N201 := Fr.app N200 Nq201
    obtain ⟨_, _, ⟨T202, L202, k202, n202⟩, -, X202, ⟨Lc202, hQ202, l202, y202, z202⟩, st202⟩ := Jvm.LawKit.callS X201 hx (y := yn43) hown182 (mvT hZ182 (w192 hw)) (mvT hZ182 (w193 hw)) (mvT hZ182 (w5 hw)) (mvT hZ182 (w194 hw)) (by decide) (backOf (W := 0) (rm_okay l Z a0 hw [] r_183 b158 3 kk (pres [c0] kk).length k158 [pr c0, pr c1, pr c2, pr c3] t2_184 kb2_185 (pres [c0] kk) cS fm T182.heap n0 (Nat.le_trans Z0 (Nat.le_trans (Nat.le_trans (Nat.le_trans (Nat.le_trans (Nat.le_trans (Nat.le_trans (Nat.le_trans (Nat.le_trans (Nat.le_trans K154.1 K156.1) K158.1) K161.1) K164.1) K167.1) K170.1) K172.1) K176.1) K182.1)) O196 S_cs hcS S_fm hfm S_ad S_hi S_lo P182_2 F198 rfl (pres_at hkl hes) (Nat.le_trans hkl (Nat.le_of_ble_eq_true rfl)) (Nat.le_of_ble_eq_true rfl) (Nat.le_of_ble_eq_true rfl)) hZ182 (w194 hw) (w5 hw) (by decide) (by decide)) (g := (mkF m 271 #[.val (.int a), .val (.int b_), .val (.int n), .val (.int m_), .val (.int (1 : Int32)), .val (.int mx), .val (.int c0), .val (.int c1), .val (.int c2), .val (.int c3), .val (.ref b154), .val (.ref b158), .val (.ref r_183), .val (.int (Int32.ofNat kk)), .val (.int (if mx < (1 : Int32) then (1 : Int32) else (0 : Int32))), .val (.int (Int32.ofNat (pres [c0] kk).length))] [(.ref b158), (.int (Int32.ofNat (pres [c0] kk).length)), (.int (Int32.ofNat kk)), (.int (3 : Int32)), (.ref r_183)])) rfl (by rw [hml]; rfl) (argsL := [(.ref r_183), (.int (3 : Int32)), (.int (Int32.ofNat kk)), (.int (Int32.ofNat (pres [c0] kk).length)), (.ref b158)]) (rest := []) (lenOf pd__28_Ljava_2f_lang_2f_String_3b_III_5b_C_29_Z rfl) rfl (by show 2 * 0 + _ ≤ _; exact Nat.le_of_eq rfl) (hb hby at_271) (fun _ _ => ⟨rfl, eq201, (Nat.le_of_ble_eq_true rfl), (Nat.le_of_ble_eq_true rfl)⟩)
    dsimp only [Pt.U, Pt.locs, Pt.cells, Pt.slots] at X202 l202 y202 z202 st202 hQ202
    subst l202 y202 z202
    obtain ⟨rfl, Nq202, eq202⟩ := hQ202
    have N202 := Fr.app N201 Nq202
    obtain ⟨_, _, ⟨T203, L203, k203, n203⟩, -, X203, ⟨Lc203, hQ203, l203, y203, z203⟩, st203⟩ := Jvm.LawKit.callS X202 hx (y := yn43) hown182 (mvT hZ182 (w192 hw)) (mvT hZ182 (w193 hw)) (mvT hZ182 (w5 hw)) (mvT hZ182 (w194 hw)) (by decide) (backOf (W := 0) (rm_okay l Z a0 hw [] r_183 b158 4 kk (pres [c0] kk).length k158 [pr c0, pr c1, pr c2, pr c3] t2_184 kb2_185 (pres [c0] kk) cS fm T182.heap n0 (Nat.le_trans Z0 (Nat.le_trans (Nat.le_trans (Nat.le_trans (Nat.le_trans (Nat.le_trans (Nat.le_trans (Nat.le_trans (Nat.le_trans (Nat.le_trans K154.1 K156.1) K158.1) K161.1) K164.1) K167.1) K170.1) K172.1) K176.1) K182.1)) O196 S_cs hcS S_fm hfm S_ad S_hi S_lo P182_2 F198 rfl (pres_at hkl hes) (Nat.le_trans hkl (Nat.le_of_ble_eq_true rfl)) (Nat.le_of_ble_eq_true rfl) (Nat.le_of_ble_eq_true rfl)) hZ182 (w194 hw) (w5 hw) (by decide) (by decide)) (g := (mkF m 286 #[.val (.int a), .val (.int b_), .val (.int n), .val (.int m_), .val (.int (1 : Int32)), .val (.int mx), .val (.int c0), .val (.int c1), .val (.int c2), .val (.int c3), .val (.ref b154), .val (.ref b158), .val (.ref r_183), .val (.int (Int32.ofNat kk)), .val (.int (if mx < (1 : Int32) then (1 : Int32) else (0 : Int32))), .val (.int (Int32.ofNat (pres [c0] kk).length))] [(.ref b158), (.int (Int32.ofNat (pres [c0] kk).length)), (.int (Int32.ofNat kk)), (.int (4 : Int32)), (.ref r_183)])) rfl (by rw [hml]; rfl) (argsL := [(.ref r_183), (.int (4 : Int32)), (.int (Int32.ofNat kk)), (.int (Int32.ofNat (pres [c0] kk).length)), (.ref b158)]) (rest := []) (lenOf pd__28_Ljava_2f_lang_2f_String_3b_III_5b_C_29_Z rfl) rfl (by show 2 * 0 + _ ≤ _; exact Nat.le_of_eq rfl) (hb hby at_286) (fun _ _ => ⟨rfl, eq202, (Nat.le_of_ble_eq_true rfl), (Nat.le_of_ble_eq_true rfl)⟩)
    dsimp only [Pt.U, Pt.locs, Pt.cells, Pt.slots] at X203 l203 y203 z203 st203 hQ203
    subst l203 y203 z203
    obtain ⟨rfl, Nq203, eq203⟩ := hQ203
    have N203 := Fr.app N202 Nq203
    obtain ⟨_, _, ⟨T204, L204, k204, n204⟩, -, X204, ⟨Lc204, hQ204, l204, y204, z204⟩, st204⟩ := Jvm.LawKit.callS X203 hx (y := yn43) hown182 (mvT hZ182 (w192 hw)) (mvT hZ182 (w193 hw)) (mvT hZ182 (w5 hw)) (mvT hZ182 (w194 hw)) (by decide) (backOf (W := 0) (rm_okay l Z a0 hw [] r_183 b158 5 kk (pres [c0] kk).length k158 [pr c0, pr c1, pr c2, pr c3] t2_184 kb2_185 (pres [c0] kk) cS fm T182.heap n0 (Nat.le_trans Z0 (Nat.le_trans (Nat.le_trans (Nat.le_trans (Nat.le_trans (Nat.le_trans (Nat.le_trans (Nat.le_trans (Nat.le_trans (Nat.le_trans K154.1 K156.1) K158.1) K161.1) K164.1) K167.1) K170.1) K172.1) K176.1) K182.1)) O196 S_cs hcS S_fm hfm S_ad S_hi S_lo P182_2 F198 rfl (pres_at hkl hes) (Nat.le_trans hkl (Nat.le_of_ble_eq_true rfl)) (Nat.le_of_ble_eq_true rfl) (Nat.le_of_ble_eq_true rfl)) hZ182 (w194 hw) (w5 hw) (by decide) (by decide)) (g := (mkF m 301 #[.val (.int a), .val (.int b_), .val (.int n), .val (.int m_), .val (.int (1 : Int32)), .val (.int mx), .val (.int c0), .val (.int c1), .val (.int c2), .val (.int c3), .val (.ref b154), .val (.ref b158), .val (.ref r_183), .val (.int (Int32.ofNat kk)), .val (.int (if mx < (1 : Int32) then (1 : Int32) else (0 : Int32))), .val (.int (Int32.ofNat (pres [c0] kk).length))] [(.ref b158), (.int (Int32.ofNat (pres [c0] kk).length)), (.int (Int32.ofNat kk)), (.int (5 : Int32)), (.ref r_183)])) rfl (by rw [hml]; rfl) (argsL := [(.ref r_183), (.int (5 : Int32)), (.int (Int32.ofNat kk)), (.int (Int32.ofNat (pres [c0] kk).length)), (.ref b158)]) (rest := []) (lenOf pd__28_Ljava_2f_lang_2f_String_3b_III_5b_C_29_Z rfl) rfl (by show 2 * 0 + _ ≤ _; exact Nat.le_of_eq rfl) (hb hby at_301) (fun _ _ => ⟨rfl, eq203, (Nat.le_of_ble_eq_true rfl), (Nat.le_of_ble_eq_true rfl)⟩)
    dsimp only [Pt.U, Pt.locs, Pt.cells, Pt.slots] at X204 l204 y204 z204 st204 hQ204
    subst l204 y204 z204
    obtain ⟨rfl, Nq204, eq204⟩ := hQ204
    have N204 := Fr.app N203 Nq204
    obtain ⟨_, _, ⟨T205, L205, k205, n205⟩, -, X205, ⟨Lc205, hQ205, l205, y205, z205⟩, st205⟩ := Jvm.LawKit.callS X204 hx (y := yn43) hown182 (mvT hZ182 (w192 hw)) (mvT hZ182 (w193 hw)) (mvT hZ182 (w5 hw)) (mvT hZ182 (w194 hw)) (by decide) (backOf (W := 0) (rm_okay l Z a0 hw [] r_183 b158 6 kk (pres [c0] kk).length k158 [pr c0, pr c1, pr c2, pr c3] t2_184 kb2_185 (pres [c0] kk) cS fm T182.heap n0 (Nat.le_trans Z0 (Nat.le_trans (Nat.le_trans (Nat.le_trans (Nat.le_trans (Nat.le_trans (Nat.le_trans (Nat.le_trans (Nat.le_trans (Nat.le_trans K154.1 K156.1) K158.1) K161.1) K164.1) K167.1) K170.1) K172.1) K176.1) K182.1)) O196 S_cs hcS S_fm hfm S_ad S_hi S_lo P182_2 F198 rfl (pres_at hkl hes) (Nat.le_trans hkl (Nat.le_of_ble_eq_true rfl)) (Nat.le_of_ble_eq_true rfl) (Nat.le_of_ble_eq_true rfl)) hZ182 (w194 hw) (w5 hw) (by decide) (by decide)) (g := (mkF m 317 #[.val (.int a), .val (.int b_), .val (.int n), .val (.int m_), .val (.int (1 : Int32)), .val (.int mx), .val (.int c0), .val (.int c1), .val (.int c2), .val (.int c3), .val (.ref b154), .val (.ref b158), .val (.ref r_183), .val (.int (Int32.ofNat kk)), .val (.int (if mx < (1 : Int32) then (1 : Int32) else (0 : Int32))), .val (.int (Int32.ofNat (pres [c0] kk).length))] [(.ref b158), (.int (Int32.ofNat (pres [c0] kk).length)), (.int (Int32.ofNat kk)), (.int (6 : Int32)), (.ref r_183)])) rfl (by rw [hml]; rfl) (argsL := [(.ref r_183), (.int (6 : Int32)), (.int (Int32.ofNat kk)), (.int (Int32.ofNat (pres [c0] kk).length)), (.ref b158)]) (rest := []) (lenOf pd__28_Ljava_2f_lang_2f_String_3b_III_5b_C_29_Z rfl) rfl (by show 2 * 0 + _ ≤ _; exact Nat.le_of_eq rfl) (hb hby at_317) (fun _ _ => ⟨rfl, eq204, (Nat.le_of_ble_eq_true rfl), (Nat.le_of_ble_eq_true rfl)⟩)
    dsimp only [Pt.U, Pt.locs, Pt.cells, Pt.slots] at X205 l205 y205 z205 st205 hQ205
    subst l205 y205 z205
    obtain ⟨rfl, Nq205, eq205⟩ := hQ205
    have N205 := Fr.app N204 Nq205
    have W206 : ∀ zQ, SS p e below T205 m 328 #[.val (.int a), .val (.int b_), .val (.int n), .val (.int m_), .val (.int (1 : Int32)), .val (.int mx), .val (.int c0), .val (.int c1), .val (.int c2), .val (.int c3), .val (.ref b154), .val (.ref b158), .val (.ref r_183), .val (.int (Int32.ofNat kk)), .val (.int (if mx < (1 : Int32) then (1 : Int32) else (0 : Int32))), .val (.int (Int32.ofNat (pres [c0] kk).length))] [(.int (1 : Int32))] zQ → Steps p.tables e below (s₁.setTop (entryFrame m #[(.int a), (.int b_), (.int n), (.int m_)] maxLocals)) zQ := by
      intro tt kt
      refine W195 tt ?_
      refine XS.iadd X182.here hx rfl (hb hby at_202) rfl ?_
      show SS p e below T182 m 203 #[.val (.int a), .val (.int b_), .val (.int n), .val (.int m_), .val (.int (1 : Int32)), .val (.int mx), .val (.int c0), .val (.int c1), .val (.int c2), .val (.int c3), .val (.ref b154), .val (.ref b158), .val (.ref r_183), .val (.int (Int32.ofNat kk)), .val (.int (if mx < (1 : Int32) then (1 : Int32) else (0 : Int32))), .unset] [(.int ((Int32.ofNat kk) + (if (if mx < (1 : Int32) then (1 : Int32) else (0 : Int32)) = (0 : Int32) then (0 : Int32) else (3 : Int32))))] _
      rw [show ((Int32.ofNat kk) + (if (if mx < (1 : Int32) then (1 : Int32) else (0 : Int32)) = (0 : Int32) then (0 : Int32) else (3 : Int32))) = (Int32.ofNat (pres [c0] kk).length) from (own_want (cs := [c0]) (kk := kk) (mx := mx) hkl hcut)]
      refine XS.istore X182.here hx rfl (hb hby at_203) rfl (l' := #[.val (.int a), .val (.int b_), .val (.int n), .val (.int m_), .val (.int (1 : Int32)), .val (.int mx), .val (.int c0), .val (.int c1), .val (.int c2), .val (.int c3), .val (.ref b154), .val (.ref b158), .val (.ref r_183), .val (.int (Int32.ofNat kk)), .val (.int (if mx < (1 : Int32) then (1 : Int32) else (0 : Int32))), .val (.int (Int32.ofNat (pres [c0] kk).length))]) rfl ?_
      refine XS.aload X182.here hx rfl (hb hby at_205) rfl rfl ?_
      refine st197.trans ?_
      refine XS.iload X197.here hx rfl (hb hby at_210) rfl ?_
      refine XS.icmpYes X197.here hx rfl (pc0 := 212) (pc' := 217) rfl (hb hby at_212) rfl (teq rfl).1 (by decide) (by decide) ?_
      refine XS.aload X197.here hx rfl (hb hby at_217) rfl rfl ?_
      refine XS.iconst X197.here hx rfl (hb hby at_219) ?_
      show SS p e below T197 m 220 #[.val (.int a), .val (.int b_), .val (.int n), .val (.int m_), .val (.int (1 : Int32)), .val (.int mx), .val (.int c0), .val (.int c1), .val (.int c2), .val (.int c3), .val (.ref b154), .val (.ref b158), .val (.ref r_183), .val (.int (Int32.ofNat kk)), .val (.int (if mx < (1 : Int32) then (1 : Int32) else (0 : Int32))), .val (.int (Int32.ofNat (pres [c0] kk).length))] [(.int (0 : Int32)), (.ref r_183)] _
      refine XS.iload X197.here hx rfl (hb hby at_220) rfl ?_
      refine XS.iload X197.here hx rfl (hb hby at_222) rfl ?_
      refine XS.aload X197.here hx rfl (hb hby at_224) rfl rfl ?_
      refine st199 _ ?_
      refine XS.ifNo X199.here hx rfl (hb hby at_229) rfl ((if0 _ _).trans (feq (by decide)).1) ?_
      refine XS.aload X199.here hx rfl (hb hby at_232) rfl rfl ?_
      refine XS.iconst X199.here hx rfl (hb hby at_234) ?_
      refine XS.iload X199.here hx rfl (hb hby at_235) rfl ?_
      show SS p e below T199 m 237 #[.val (.int a), .val (.int b_), .val (.int n), .val (.int m_), .val (.int (1 : Int32)), .val (.int mx), .val (.int c0), .val (.int c1), .val (.int c2), .val (.int c3), .val (.ref b154), .val (.ref b158), .val (.ref r_183), .val (.int (Int32.ofNat kk)), .val (.int (if mx < (1 : Int32) then (1 : Int32) else (0 : Int32))), .val (.int (Int32.ofNat (pres [c0] kk).length))] [(.int (Int32.ofNat kk)), (.int (1 : Int32)), (.ref r_183)] _
      refine XS.iload X199.here hx rfl (hb hby at_237) rfl ?_
      refine XS.aload X199.here hx rfl (hb hby at_239) rfl rfl ?_
      refine st200 _ ?_
      refine XS.ifNo X200.here hx rfl (hb hby at_244) rfl ((if0 _ _).trans (feq (by decide)).1) ?_
      refine XS.aload X200.here hx rfl (hb hby at_247) rfl rfl ?_
      refine XS.iconst X200.here hx rfl (hb hby at_249) ?_
      refine XS.iload X200.here hx rfl (hb hby at_250) rfl ?_
      refine XS.iload X200.here hx rfl (hb hby at_252) rfl ?_
      show SS p e below T200 m 254 #[.val (.int a), .val (.int b_), .val (.int n), .val (.int m_), .val (.int (1 : Int32)), .val (.int mx), .val (.int c0), .val (.int c1), .val (.int c2), .val (.int c3), .val (.ref b154), .val (.ref b158), .val (.ref r_183), .val (.int (Int32.ofNat kk)), .val (.int (if mx < (1 : Int32) then (1 : Int32) else (0 : Int32))), .val (.int (Int32.ofNat (pres [c0] kk).length))] [(.int (Int32.ofNat (pres [c0] kk).length)), (.int (Int32.ofNat kk)), (.int (2 : Int32)), (.ref r_183)] _
      refine XS.aload X200.here hx rfl (hb hby at_254) rfl rfl ?_
      refine st201 _ ?_
      refine XS.ifNo X201.here hx rfl (hb hby at_259) rfl ((if0 _ _).trans (feq (by decide)).1) ?_
      refine XS.aload X201.here hx rfl (hb hby at_262) rfl rfl ?_
      refine XS.iconst X201.here hx rfl (hb hby at_264) ?_
      refine XS.iload X201.here hx rfl (hb hby at_265) rfl ?_
      refine XS.iload X201.here hx rfl (hb hby at_267) rfl ?_
      refine XS.aload X201.here hx rfl (hb hby at_269) rfl rfl ?_
      show SS p e below T201 m 271 #[.val (.int a), .val (.int b_), .val (.int n), .val (.int m_), .val (.int (1 : Int32)), .val (.int mx), .val (.int c0), .val (.int c1), .val (.int c2), .val (.int c3), .val (.ref b154), .val (.ref b158), .val (.ref r_183), .val (.int (Int32.ofNat kk)), .val (.int (if mx < (1 : Int32) then (1 : Int32) else (0 : Int32))), .val (.int (Int32.ofNat (pres [c0] kk).length))] [(.ref b158), (.int (Int32.ofNat (pres [c0] kk).length)), (.int (Int32.ofNat kk)), (.int (3 : Int32)), (.ref r_183)] _
      refine st202 _ ?_
      refine XS.ifNo X202.here hx rfl (hb hby at_274) rfl ((if0 _ _).trans (feq (by decide)).1) ?_
      refine XS.aload X202.here hx rfl (hb hby at_277) rfl rfl ?_
      refine XS.iconst X202.here hx rfl (hb hby at_279) ?_
      refine XS.iload X202.here hx rfl (hb hby at_280) rfl ?_
      refine XS.iload X202.here hx rfl (hb hby at_282) rfl ?_
      refine XS.aload X202.here hx rfl (hb hby at_284) rfl rfl ?_
      refine st203 _ ?_
      show SS p e below T203 m 289 #[.val (.int a), .val (.int b_), .val (.int n), .val (.int m_), .val (.int (1 : Int32)), .val (.int mx), .val (.int c0), .val (.int c1), .val (.int c2), .val (.int c3), .val (.ref b154), .val (.ref b158), .val (.ref r_183), .val (.int (Int32.ofNat kk)), .val (.int (if mx < (1 : Int32) then (1 : Int32) else (0 : Int32))), .val (.int (Int32.ofNat (pres [c0] kk).length))] [(.int (1 : Int32))] _
      refine XS.ifNo X203.here hx rfl (hb hby at_289) rfl ((if0 _ _).trans (feq (by decide)).1) ?_
      refine XS.aload X203.here hx rfl (hb hby at_292) rfl rfl ?_
      refine XS.iconst X203.here hx rfl (hb hby at_294) ?_
      refine XS.iload X203.here hx rfl (hb hby at_295) rfl ?_
      refine XS.iload X203.here hx rfl (hb hby at_297) rfl ?_
      refine XS.aload X203.here hx rfl (hb hby at_299) rfl rfl ?_
      refine st204 _ ?_
      refine XS.ifNo X204.here hx rfl (hb hby at_304) rfl ((if0 _ _).trans (feq (by decide)).1) ?_
      show SS p e below T204 m 307 #[.val (.int a), .val (.int b_), .val (.int n), .val (.int m_), .val (.int (1 : Int32)), .val (.int mx), .val (.int c0), .val (.int c1), .val (.int c2), .val (.int c3), .val (.ref b154), .val (.ref b158), .val (.ref r_183), .val (.int (Int32.ofNat kk)), .val (.int (if mx < (1 : Int32) then (1 : Int32) else (0 : Int32))), .val (.int (Int32.ofNat (pres [c0] kk).length))] [] _
      refine XS.aload X204.here hx rfl (hb hby at_307) rfl rfl ?_
      refine XS.bipush X204.here hx rfl (hb hby at_309) ?_
      refine XS.iload X204.here hx rfl (hb hby at_311) rfl ?_
      refine XS.iload X204.here hx rfl (hb hby at_313) rfl ?_
      refine XS.aload X204.here hx rfl (hb hby at_315) rfl rfl ?_
      refine st205 _ ?_
      refine XS.ifNo X205.here hx rfl (hb hby at_320) rfl ((if0 _ _).trans (feq (by decide)).1) ?_
      refine XS.iconst X205.here hx rfl (hb hby at_323) ?_
      show SS p e below T205 m 324 #[.val (.int a), .val (.int b_), .val (.int n), .val (.int m_), .val (.int (1 : Int32)), .val (.int mx), .val (.int c0), .val (.int c1), .val (.int c2), .val (.int c3), .val (.ref b154), .val (.ref b158), .val (.ref r_183), .val (.int (Int32.ofNat kk)), .val (.int (if mx < (1 : Int32) then (1 : Int32) else (0 : Int32))), .val (.int (Int32.ofNat (pres [c0] kk).length))] [(.int (1 : Int32))] _
      refine XS.goto X205.here hx rfl (pc0 := 324) (pc' := 328) rfl (hb hby at_324) (by decide) (by decide) ?_
      exact kt
    obtain ⟨fs, hr, hrun, hended, hRW⟩ := Jvm.Stand.leaveW X205 hS182 (by rw [eq205]; exact hk182) (v := some (.int (nar .boolean (1 : Int32)))) (fun h => by rw [Bd.returns] at h; cases h) (BodyLoose.notSynchronized Bd)
    refine ⟨_, _, W206 _ (retN X205 hx (t := .boolean) Bd.returns (by simp) (hb hby at_328) hr), hrun, hended, _, _, rfl, ?_, own_chr (T := T205) R186 (CHv.at X205 hZ182 hEL R186.1) hh.symm eq205, own_rw hRW (by decide) (by decide)⟩
    show Q_law Z a b_ n m_ cS fm h0 n0 _ T205.heap _
    rw [eq205]
    exact ⟨rfl, N205, (Keep.trans (Keep.trans (Keep.trans (Keep.trans (Keep.trans (Keep.trans (Keep.trans (Keep.trans (Keep.trans (Keep.trans (Keep.refl h0 []) K154 all0) K156 (allS (Or.inr (Nat.le_of_eq g154.symm)) all0)) K158 all0) K161 (allS (Or.inr (Nat.le_trans (Nat.le_trans K154.1 K156.1) (Nat.le_of_eq g158.symm))) all0)) K164 (allS (Or.inr (Nat.le_trans (Nat.le_trans K154.1 K156.1) (Nat.le_of_eq g158.symm))) all0)) K167 (allS (Or.inr (Nat.le_trans (Nat.le_trans K154.1 K156.1) (Nat.le_of_eq g158.symm))) all0)) K170 (allS (Or.inr (Nat.le_trans (Nat.le_trans K154.1 K156.1) (Nat.le_of_eq g158.symm))) all0)) K172 all0) K176 (allS (Or.inr (Nat.le_trans (Nat.le_trans (Nat.le_trans (Nat.le_trans (Nat.le_trans (Nat.le_trans (Nat.le_trans K154.1 K156.1) K158.1) K161.1) K164.1) K167.1) K170.1) (Nat.le_of_eq g172.symm))) all0)) K182 all0)⟩
  ·
    obtain ⟨T207, h207, k207, X207, e207, E207, A207, st207⟩ := newP X0 hx hZ0 (aty := .char) (w2 hw) e0 (g := (mkF m 52 #[.val (.int a), .val (.int b_), .val (.int n), .val (.int m_), .val (.int (2 : Int32)), .val (.int mx), .val (.int c0), .val (.int c1), .val (.int c2), .val (.int c3), .unset, .unset, .unset, .unset, .unset, .unset] [(.int (2 : Int32))])) rfl (hb hby at_52) (n := (2 : Int32)) rfl (by decide) (cap := 2) (by decide) (by decide) (by decide) (by decide)
    obtain ⟨b207, g207⟩ : ∃ z, z = h0.size := ⟨_, rfl⟩
    rw [← g207] at A207 st207
    have K207 := (Keep.refl h0 []).ext E207
    have R208 : CHr Z EL_1 s.vm h0 s.vm h207 := R0.trans (CHr.keep K207 sf0 R0.1)
    have G207 : Arv Z h207 b207 k207 .char (2 : Int32) [(.int (0 : Int32)), (.int (0 : Int32))] (.int (0 : Int32)) := (Arv.new A207 (by decide)).pad (pad_rep [] (.int (0 : Int32)) 2)
    obtain ⟨cl209, Ar209, q209, S209, M209, H209, F209g⟩ := id G207
    have hin209 : ¬ ((0 : Int32) < 0 ∨ cl209.slots.size ≤ ((0 : Int32)).toNatClampNeg) := inb_of S209 ⟨by decide, by decide⟩
    obtain ⟨T209, h209, X209, e209, Wr209, st209⟩ := stC X207 hx hZ0 e207 Ar209 (j := (0 : Int32)) hin209 (g := (mkF m 66 #[.val (.int a), .val (.int b_), .val (.int n), .val (.int m_), .val (.int (2 : Int32)), .val (.int mx), .val (.int c0), .val (.int c1), .val (.int c2), .val (.int c3), .val (.ref b207), .unset, .unset, .unset, .unset, .unset] [(.int c0), (.int (0 : Int32)), (.ref b207)])) rfl rfl (hb hby at_66)
    have G209 : Arv Z h209 b207 k207 .char (2 : Int32) [(.int (nar .char c0)), (.int (0 : Int32))] (.int (0 : Int32)) := Arv.set Ar209 q209 S209 M209 H209 F209g (fits_nar_char _) Wr209 0 rfl (Nat.le_of_ble_eq_true rfl)
    have K209 := Keep.of_wr Wr209
    have N209 := Fr.snoc X209 N0 (Nat.le_trans Z0 (Nat.le_of_eq g207.symm))
    have R210 : CHr Z EL_1 s.vm h0 s.vm h209 := R208.trans (CHr.keep K209 (sfS (Safe.arv hZ0.alike G207 (by intro q; cases q)) sf0) R208.1)
    have J209 : Arv Z h209 b207 k207 .char (2 : Int32) [(.int c0), (.int (0 : Int32))] (.int (0 : Int32)) := by rw [show nar .char c0 = c0 from by rw [h_c0]; exact own_narc (own_i2cr _).1 (own_i2cr _).2] at G209; exact G209
    obtain ⟨cl211, Ar211, q211, S211, M211, H211, F211g⟩ := id J209
    have hin211 : ¬ ((1 : Int32) < 0 ∨ cl211.slots.size ≤ ((1 : Int32)).toNatClampNeg) := inb_of S211 ⟨by decide, by decide⟩
    obtain ⟨T211, h211, X211, e211, Wr211, st211⟩ := stC X209 hx hZ0 e209 Ar211 (j := (1 : Int32)) hin211 (g := (mkF m 78 #[.val (.int a), .val (.int b_), .val (.int n), .val (.int m_), .val (.int (2 : Int32)), .val (.int mx), .val (.int c0), .val (.int c1), .val (.int c2), .val (.int c3), .val (.ref b207), .unset, .unset, .unset, .unset, .unset] [(.int c1), (.int (1 : Int32)), (.ref b207)])) rfl rfl (hb hby at_78)
    have G211 : Arv Z h211 b207 k207 .char (2 : Int32) [(.int c0), (.int (nar .char c1))] (.int (0 : Int32)) := Arv.set Ar211 q211 S211 M211 H211 F211g (fits_nar_char _) Wr211 1 rfl (Nat.le_of_ble_eq_true rfl)
    have K211 := Keep.of_wr Wr211
    have N211 := Fr.snoc X211 N209 (Nat.le_trans Z0 (Nat.le_of_eq g207.symm))
    have R212 : CHr Z EL_1 s.vm h0 s.vm h211 := R210.trans (CHr.keep K211 (sfS (Safe.arv hZ0.alike J209 (by intro q; cases q)) sf0) R210.1)
    have J211 : Arv Z h211 b207 k207 .char (2 : Int32) [(.int c0), (.int c1)] (.int (0 : Int32)) := by rw [show nar .char c1 = c1 from by rw [h_c1]; exact own_narc (own_i2cr _).1 (own_i2cr _).2] at G211; exact G211
    obtain ⟨T213, h213, k213, X213, e213, E213, A213, st213⟩ := newP X211 hx hZ0 (aty := .char) (w2 hw) e211 (g := (mkF m 104 #[.val (.int a), .val (.int b_), .val (.int n), .val (.int m_), .val (.int (2 : Int32)), .val (.int mx), .val (.int c0), .val (.int c1), .val (.int c2), .val (.int c3), .val (.ref b207), .unset, .unset, .unset, .unset, .unset] [(.int (4 : Int32))])) rfl (hb hby at_104) (n := (4 : Int32)) rfl (by decide) (cap := 4) (by decide) (by decide) (by decide) (by decide)
    obtain ⟨b213, g213⟩ : ∃ z, z = h211.size := ⟨_, rfl⟩
    rw [← g213] at A213 st213
    have K213 := (Keep.refl h211 []).ext E213
    have R214 : CHr Z EL_1 s.vm h0 s.vm h213 := R212.trans (CHr.keep K213 sf0 R212.1)
    have G213 : Arv Z h213 b213 k213 .char (4 : Int32) [(.int (0 : Int32)), (.int (0 : Int32)), (.int (0 : Int32)), (.int (0 : Int32))] (.int (0 : Int32)) := (Arv.new A213 (by decide)).pad (pad_rep [] (.int (0 : Int32)) 4)
    obtain ⟨_, _, ⟨T215, L215, k215, n215⟩, -, X215, ⟨Lc215, hQ215, l215, y215, z215⟩, st215⟩ := Jvm.LawKit.callS X213 hx (y := yn42) hown0 (mvT hZ0 (w3 hw)) (mvT hZ0 (w4 hw)) (mvT hZ0 (w5 hw)) (mvT hZ0 (w6 hw)) (by decide) (backOf (W := 2) (rm_safe l Z a0 hw [] c0 h213 n0 (Nat.le_trans Z0 (Nat.le_trans (Nat.le_trans (Nat.le_trans K207.1 K209.1) K211.1) K213.1)) (by rw [h_c0]; exact (own_i2cr _).1) (by rw [h_c0]; exact (own_i2cr _).2)) hZ0 (w6 hw) (w5 hw) (by decide) (by decide)) (g := (mkF m 113 #[.val (.int a), .val (.int b_), .val (.int n), .val (.int m_), .val (.int (2 : Int32)), .val (.int mx), .val (.int c0), .val (.int c1), .val (.int c2), .val (.int c3), .val (.ref b207), .val (.ref b213), .unset, .unset, .unset, .unset] [(.int c0), (.int (0 : Int32)), (.ref b213)])) rfl (by rw [hml]; rfl) (argsL := [(.int c0)]) (rest := [(.int (0 : Int32)), (.ref b213)]) (lenOf pd__28_C_29_C rfl) rfl (by show 2 * 0 + _ ≤ _; exact Nat.le_of_eq rfl) (hb hby at_113) (fun _ _ => ⟨rfl, e213, (Nat.le_of_ble_eq_true rfl), (Nat.le_of_ble_eq_true rfl)⟩)
    dsimp only [Pt.U, Pt.locs, Pt.cells, Pt.slots] at X215 l215 y215 z215 st215 hQ215
    subst l215 y215 z215
    obtain ⟨rfl, Nq215, eq215⟩ := hQ215
    have N215 := Fr.app N211 Nq215
    obtain ⟨cl216, Ar216, q216, S216, M216, H216, F216g⟩ := id G213
    have hin216 : ¬ ((0 : Int32) < 0 ∨ cl216.slots.size ≤ ((0 : Int32)).toNatClampNeg) := inb_of S216 ⟨by decide, by decide⟩
    obtain ⟨T216, h216, X216, e216, Wr216, st216⟩ := stC X215 hx hZ0 eq215 Ar216 (j := (0 : Int32)) hin216 (g := (mkF m 116 #[.val (.int a), .val (.int b_), .val (.int n), .val (.int m_), .val (.int (2 : Int32)), .val (.int mx), .val (.int c0), .val (.int c1), .val (.int c2), .val (.int c3), .val (.ref b207), .val (.ref b213), .unset, .unset, .unset, .unset] [(.int (pr c0)), (.int (0 : Int32)), (.ref b213)])) rfl rfl (hb hby at_116)
    have G216 : Arv Z h216 b213 k213 .char (4 : Int32) [(.int (nar .char (pr c0))), (.int (0 : Int32)), (.int (0 : Int32)), (.int (0 : Int32))] (.int (0 : Int32)) := Arv.set Ar216 q216 S216 M216 H216 F216g (fits_nar_char _) Wr216 0 rfl (Nat.le_of_ble_eq_true rfl)
    have K216 := Keep.of_wr Wr216
    have N216 := Fr.snoc X216 N215 (Nat.le_trans Z0 (Nat.le_trans (Nat.le_trans (Nat.le_trans K207.1 K209.1) K211.1) (Nat.le_of_eq g213.symm)))
    have R217 : CHr Z EL_1 s.vm h0 s.vm h216 := R214.trans (CHr.keep K216 (sfS (Safe.arv hZ0.alike G213 (by intro q; cases q)) sf0) R214.1)
    have J216 : Arv Z h216 b213 k213 .char (4 : Int32) [(.int (pr c0)), (.int (0 : Int32)), (.int (0 : Int32)), (.int (0 : Int32))] (.int (0 : Int32)) := by rw [own_narpr] at G216; exact G216
    obtain ⟨_, _, ⟨T218, L218, k218, n218⟩, -, X218, ⟨Lc218, hQ218, l218, y218, z218⟩, st218⟩ := Jvm.LawKit.callS X216 hx (y := yn42) hown0 (mvT hZ0 (w3 hw)) (mvT hZ0 (w4 hw)) (mvT hZ0 (w5 hw)) (mvT hZ0 (w6 hw)) (by decide) (backOf (W := 2) (rm_safe l Z a0 hw [] c1 h216 n0 (Nat.le_trans Z0 (Nat.le_trans (Nat.le_trans (Nat.le_trans (Nat.le_trans K207.1 K209.1) K211.1) K213.1) K216.1)) (by rw [h_c1]; exact (own_i2cr _).1) (by rw [h_c1]; exact (own_i2cr _).2)) hZ0 (w6 hw) (w5 hw) (by decide) (by decide)) (g := (mkF m 122 #[.val (.int a), .val (.int b_), .val (.int n), .val (.int m_), .val (.int (2 : Int32)), .val (.int mx), .val (.int c0), .val (.int c1), .val (.int c2), .val (.int c3), .val (.ref b207), .val (.ref b213), .unset, .unset, .unset, .unset] [(.int c1), (.int (1 : Int32)), (.ref b213)])) rfl (by rw [hml]; rfl) (argsL := [(.int c1)]) (rest := [(.int (1 : Int32)), (.ref b213)]) (lenOf pd__28_C_29_C rfl) rfl (by show 2 * 0 + _ ≤ _; exact Nat.le_of_eq rfl) (hb hby at_122) (fun _ _ => ⟨rfl, e216, (Nat.le_of_ble_eq_true rfl), (Nat.le_of_ble_eq_true rfl)⟩)
    dsimp only [Pt.U, Pt.locs, Pt.cells, Pt.slots] at X218 l218 y218 z218 st218 hQ218
    subst l218 y218 z218
    obtain ⟨rfl, Nq218, eq218⟩ := hQ218
    have N218 := Fr.app N216 Nq218
    obtain ⟨cl219, Ar219, q219, S219, M219, H219, F219g⟩ := id J216
    have hin219 : ¬ ((1 : Int32) < 0 ∨ cl219.slots.size ≤ ((1 : Int32)).toNatClampNeg) := inb_of S219 ⟨by decide, by decide⟩
    obtain ⟨T219, h219, X219, e219, Wr219, st219⟩ := stC X218 hx hZ0 eq218 Ar219 (j := (1 : Int32)) hin219 (g := (mkF m 125 #[.val (.int a), .val (.int b_), .val (.int n), .val (.int m_), .val (.int (2 : Int32)), .val (.int mx), .val (.int c0), .val (.int c1), .val (.int c2), .val (.int c3), .val (.ref b207), .val (.ref b213), .unset, .unset, .unset, .unset] [(.int (pr c1)), (.int (1 : Int32)), (.ref b213)])) rfl rfl (hb hby at_125)
    have G219 : Arv Z h219 b213 k213 .char (4 : Int32) [(.int (pr c0)), (.int (nar .char (pr c1))), (.int (0 : Int32)), (.int (0 : Int32))] (.int (0 : Int32)) := Arv.set Ar219 q219 S219 M219 H219 F219g (fits_nar_char _) Wr219 1 rfl (Nat.le_of_ble_eq_true rfl)
    have K219 := Keep.of_wr Wr219
    have N219 := Fr.snoc X219 N218 (Nat.le_trans Z0 (Nat.le_trans (Nat.le_trans (Nat.le_trans K207.1 K209.1) K211.1) (Nat.le_of_eq g213.symm)))
    have R220 : CHr Z EL_1 s.vm h0 s.vm h219 := R217.trans (CHr.keep K219 (sfS (Safe.arv hZ0.alike J216 (by intro q; cases q)) sf0) R217.1)
    have J219 : Arv Z h219 b213 k213 .char (4 : Int32) [(.int (pr c0)), (.int (pr c1)), (.int (0 : Int32)), (.int (0 : Int32))] (.int (0 : Int32)) := by rw [own_narpr] at G219; exact G219
    obtain ⟨_, _, ⟨T221, L221, k221, n221⟩, -, X221, ⟨Lc221, hQ221, l221, y221, z221⟩, st221⟩ := Jvm.LawKit.callS X219 hx (y := yn42) hown0 (mvT hZ0 (w3 hw)) (mvT hZ0 (w4 hw)) (mvT hZ0 (w5 hw)) (mvT hZ0 (w6 hw)) (by decide) (backOf (W := 2) (rm_safe l Z a0 hw [] c2 h219 n0 (Nat.le_trans Z0 (Nat.le_trans (Nat.le_trans (Nat.le_trans (Nat.le_trans (Nat.le_trans K207.1 K209.1) K211.1) K213.1) K216.1) K219.1)) (by rw [h_c2]; exact (own_i2cr _).1) (by rw [h_c2]; exact (own_i2cr _).2)) hZ0 (w6 hw) (w5 hw) (by decide) (by decide)) (g := (mkF m 131 #[.val (.int a), .val (.int b_), .val (.int n), .val (.int m_), .val (.int (2 : Int32)), .val (.int mx), .val (.int c0), .val (.int c1), .val (.int c2), .val (.int c3), .val (.ref b207), .val (.ref b213), .unset, .unset, .unset, .unset] [(.int c2), (.int (2 : Int32)), (.ref b213)])) rfl (by rw [hml]; rfl) (argsL := [(.int c2)]) (rest := [(.int (2 : Int32)), (.ref b213)]) (lenOf pd__28_C_29_C rfl) rfl (by show 2 * 0 + _ ≤ _; exact Nat.le_of_eq rfl) (hb hby at_131) (fun _ _ => ⟨rfl, e219, (Nat.le_of_ble_eq_true rfl), (Nat.le_of_ble_eq_true rfl)⟩)
    dsimp only [Pt.U, Pt.locs, Pt.cells, Pt.slots] at X221 l221 y221 z221 st221 hQ221
    subst l221 y221 z221
    obtain ⟨rfl, Nq221, eq221⟩ := hQ221
    have N221 := Fr.app N219 Nq221
    obtain ⟨cl222, Ar222, q222, S222, M222, H222, F222g⟩ := id J219
    have hin222 : ¬ ((2 : Int32) < 0 ∨ cl222.slots.size ≤ ((2 : Int32)).toNatClampNeg) := inb_of S222 ⟨by decide, by decide⟩
    obtain ⟨T222, h222, X222, e222, Wr222, st222⟩ := stC X221 hx hZ0 eq221 Ar222 (j := (2 : Int32)) hin222 (g := (mkF m 134 #[.val (.int a), .val (.int b_), .val (.int n), .val (.int m_), .val (.int (2 : Int32)), .val (.int mx), .val (.int c0), .val (.int c1), .val (.int c2), .val (.int c3), .val (.ref b207), .val (.ref b213), .unset, .unset, .unset, .unset] [(.int (pr c2)), (.int (2 : Int32)), (.ref b213)])) rfl rfl (hb hby at_134)
    have G222 : Arv Z h222 b213 k213 .char (4 : Int32) [(.int (pr c0)), (.int (pr c1)), (.int (nar .char (pr c2))), (.int (0 : Int32))] (.int (0 : Int32)) := Arv.set Ar222 q222 S222 M222 H222 F222g (fits_nar_char _) Wr222 2 rfl (Nat.le_of_ble_eq_true rfl)
    have K222 := Keep.of_wr Wr222
    have N222 := Fr.snoc X222 N221 (Nat.le_trans Z0 (Nat.le_trans (Nat.le_trans (Nat.le_trans K207.1 K209.1) K211.1) (Nat.le_of_eq g213.symm)))
    have R223 : CHr Z EL_1 s.vm h0 s.vm h222 := R220.trans (CHr.keep K222 (sfS (Safe.arv hZ0.alike J219 (by intro q; cases q)) sf0) R220.1)
    have J222 : Arv Z h222 b213 k213 .char (4 : Int32) [(.int (pr c0)), (.int (pr c1)), (.int (pr c2)), (.int (0 : Int32))] (.int (0 : Int32)) := by rw [own_narpr] at G222; exact G222
    obtain ⟨_, _, ⟨T224, L224, k224, n224⟩, -, X224, ⟨Lc224, hQ224, l224, y224, z224⟩, st224⟩ := Jvm.LawKit.callS X222 hx (y := yn42) hown0 (mvT hZ0 (w3 hw)) (mvT hZ0 (w4 hw)) (mvT hZ0 (w5 hw)) (mvT hZ0 (w6 hw)) (by decide) (backOf (W := 2) (rm_safe l Z a0 hw [] c3 h222 n0 (Nat.le_trans Z0 (Nat.le_trans (Nat.le_trans (Nat.le_trans (Nat.le_trans (Nat.le_trans (Nat.le_trans K207.1 K209.1) K211.1) K213.1) K216.1) K219.1) K222.1)) (by rw [h_c3]; exact (own_i2cr _).1) (by rw [h_c3]; exact (own_i2cr _).2)) hZ0 (w6 hw) (w5 hw) (by decide) (by decide)) (g := (mkF m 140 #[.val (.int a), .val (.int b_), .val (.int n), .val (.int m_), .val (.int (2 : Int32)), .val (.int mx), .val (.int c0), .val (.int c1), .val (.int c2), .val (.int c3), .val (.ref b207), .val (.ref b213), .unset, .unset, .unset, .unset] [(.int c3), (.int (3 : Int32)), (.ref b213)])) rfl (by rw [hml]; rfl) (argsL := [(.int c3)]) (rest := [(.int (3 : Int32)), (.ref b213)]) (lenOf pd__28_C_29_C rfl) rfl (by show 2 * 0 + _ ≤ _; exact Nat.le_of_eq rfl) (hb hby at_140) (fun _ _ => ⟨rfl, e222, (Nat.le_of_ble_eq_true rfl), (Nat.le_of_ble_eq_true rfl)⟩)
    dsimp only [Pt.U, Pt.locs, Pt.cells, Pt.slots] at X224 l224 y224 z224 st224 hQ224
    subst l224 y224 z224
    obtain ⟨rfl, Nq224, eq224⟩ := hQ224
    have N224 := Fr.app N222 Nq224
    obtain ⟨cl225, Ar225, q225, S225, M225, H225, F225g⟩ := id J222
    have hin225 : ¬ ((3 : Int32) < 0 ∨ cl225.slots.size ≤ ((3 : Int32)).toNatClampNeg) := inb_of S225 ⟨by decide, by decide⟩
    obtain ⟨T225, h225, X225, e225, Wr225, st225⟩ := stC X224 hx hZ0 eq224 Ar225 (j := (3 : Int32)) hin225 (g := (mkF m 143 #[.val (.int a), .val (.int b_), .val (.int n), .val (.int m_), .val (.int (2 : Int32)), .val (.int mx), .val (.int c0), .val (.int c1), .val (.int c2), .val (.int c3), .val (.ref b207), .val (.ref b213), .unset, .unset, .unset, .unset] [(.int (pr c3)), (.int (3 : Int32)), (.ref b213)])) rfl rfl (hb hby at_143)
    have G225 : Arv Z h225 b213 k213 .char (4 : Int32) [(.int (pr c0)), (.int (pr c1)), (.int (pr c2)), (.int (nar .char (pr c3)))] (.int (0 : Int32)) := Arv.set Ar225 q225 S225 M225 H225 F225g (fits_nar_char _) Wr225 3 rfl (Nat.le_of_ble_eq_true rfl)
    have K225 := Keep.of_wr Wr225
    have N225 := Fr.snoc X225 N224 (Nat.le_trans Z0 (Nat.le_trans (Nat.le_trans (Nat.le_trans K207.1 K209.1) K211.1) (Nat.le_of_eq g213.symm)))
    have R226 : CHr Z EL_1 s.vm h0 s.vm h225 := R223.trans (CHr.keep K225 (sfS (Safe.arv hZ0.alike J222 (by intro q; cases q)) sf0) R223.1)
    have J225 : Arv Z h225 b213 k213 .char (4 : Int32) [(.int (pr c0)), (.int (pr c1)), (.int (pr c2)), (.int (pr c3))] (.int (0 : Int32)) := by rw [own_narpr] at G225; exact G225
    obtain ⟨T227, h227, X227, e227, E227, A227, D227, U227, st227⟩ := newO X225 hx hZ0 hown0 (w7 hw) (w8 hw) (w9 hw) e225 (g := (mkF m 144 #[.val (.int a), .val (.int b_), .val (.int n), .val (.int m_), .val (.int (2 : Int32)), .val (.int mx), .val (.int c0), .val (.int c1), .val (.int c2), .val (.int c3), .val (.ref b207), .val (.ref b213), .unset, .unset, .unset, .unset] [])) rfl (hb hby at_144) (by decide) (by decide)
    obtain ⟨b227, g227⟩ : ∃ z, z = h225.size := ⟨_, rfl⟩
    rw [← g227] at A227 D227 U227 st227
    have K227 := (Keep.refl h225 []).ext E227
    have R228 : CHr Z EL_1 s.vm h0 s.vm h227 := R226.trans (CHr.keep K227 sf0 R226.1)
    have G227_coder : Fld Z h227 b227 "java/lang/String" "coder" "B" (.int (0 : Int32)) := D227 (Or.inr (w33 hw)) (ty := .byte) (by decide)
    have G227_value : Fld Z h227 b227 "java/lang/String" "value" "[B" .null := D227 (Or.inr (w35 hw)) (ty := (.array .byte)) (by decide)
    have hokc : ∀ x ∈ [c0, c1], ¬ (x < (0 : Int32)) ∧ ¬ ((65535 : Int32) < x) := by
      intro x hx
      simp only [List.mem_cons, List.not_mem_nil, or_false] at hx
      rcases hx with hx | hx
      · rw [hx, h_c0]; exact own_i2cr _
      · rw [hx, h_c1]; exact own_i2cr _
    have F229 : Arv Z h227 b207 k207 .char (2 : Int32) [(.int c0), (.int c1)] (.int (0 : Int32)) := ((((((J211.keep K213 nin0).keep K216 (ninS (Nat.ne_of_lt (Nat.lt_of_lt_of_le (Nat.lt_of_lt_of_le G207.lt (Nat.le_trans K209.1 K211.1)) (Nat.le_of_eq g213.symm))) nin0)).keep K219 (ninS (Nat.ne_of_lt (Nat.lt_of_lt_of_le (Nat.lt_of_lt_of_le G207.lt (Nat.le_trans K209.1 K211.1)) (Nat.le_of_eq g213.symm))) nin0)).keep K222 (ninS (Nat.ne_of_lt (Nat.lt_of_lt_of_le (Nat.lt_of_lt_of_le G207.lt (Nat.le_trans K209.1 K211.1)) (Nat.le_of_eq g213.symm))) nin0)).keep K225 (ninS (Nat.ne_of_lt (Nat.lt_of_lt_of_le (Nat.lt_of_lt_of_le G207.lt (Nat.le_trans K209.1 K211.1)) (Nat.le_of_eq g213.symm))) nin0)).keep K227 nin0)
    have O230 : Old Z n0 h227 := (((((((((O0.keep K207 all0).keep K209 (allS (Nat.le_trans Z0 (Nat.le_of_eq g207.symm)) all0)).keep K211 (allS (Nat.le_trans Z0 (Nat.le_of_eq g207.symm)) all0)).keep K213 all0).keep K216 (allS (Nat.le_trans Z0 (Nat.le_trans (Nat.le_trans (Nat.le_trans K207.1 K209.1) K211.1) (Nat.le_of_eq g213.symm))) all0)).keep K219 (allS (Nat.le_trans Z0 (Nat.le_trans (Nat.le_trans (Nat.le_trans K207.1 K209.1) K211.1) (Nat.le_of_eq g213.symm))) all0)).keep K222 (allS (Nat.le_trans Z0 (Nat.le_trans (Nat.le_trans (Nat.le_trans K207.1 K209.1) K211.1) (Nat.le_of_eq g213.symm))) all0)).keep K225 (allS (Nat.le_trans Z0 (Nat.le_trans (Nat.le_trans (Nat.le_trans K207.1 K209.1) K211.1) (Nat.le_of_eq g213.symm))) all0)).keep K227 all0)
    obtain ⟨_, _, ⟨T231, L231, k231, n231⟩, -, X231, ⟨Lc231, hQ231, l231, y231, z231⟩, st231⟩ := X227.specialBack hx (y := yn19) rfl hown0 (mvT hZ0 (w10 hw)) (mvT hZ0 (w11 hw)) (mvT hZ0 (w12 hw)) (by decide) (backOf (W := 1) (rm_sinit l Z a0 hw [] b227 b207 k207 [c0, c1] cS h227 n0 (Nat.le_trans Z0 (Nat.le_trans (Nat.le_trans (Nat.le_trans (Nat.le_trans (Nat.le_trans (Nat.le_trans (Nat.le_trans (Nat.le_trans K207.1 K209.1) K211.1) K213.1) K216.1) K219.1) K222.1) K225.1) K227.1)) O230 S_cs hcS S_ad S_hi S_lo A227 G227_value G227_coder (Nat.le_trans Z0 (Nat.le_trans (Nat.le_trans (Nat.le_trans (Nat.le_trans (Nat.le_trans (Nat.le_trans (Nat.le_trans (Nat.le_trans K207.1 K209.1) K211.1) K213.1) K216.1) K219.1) K222.1) K225.1) (Nat.le_of_eq g227.symm))) F229 ⟨hokc, (Nat.le_of_ble_eq_true rfl)⟩ (Nat.le_of_ble_eq_true rfl) (Nat.le_of_ble_eq_true rfl) (Ne.symm (Nat.ne_of_lt (Nat.lt_of_lt_of_le (Nat.lt_of_lt_of_le G207.lt (Nat.le_trans (Nat.le_trans (Nat.le_trans (Nat.le_trans (Nat.le_trans (Nat.le_trans K209.1 K211.1) K213.1) K216.1) K219.1) K222.1) K225.1)) (Nat.le_of_eq g227.symm))))) hZ0 (w12 hw) (w9 hw) (by decide) (by decide)) (g := (mkF m 150 #[.val (.int a), .val (.int b_), .val (.int n), .val (.int m_), .val (.int (2 : Int32)), .val (.int mx), .val (.int c0), .val (.int c1), .val (.int c2), .val (.int c3), .val (.ref b207), .val (.ref b213), .unset, .unset, .unset, .unset] [(.ref b207), (.ref b227), (.ref b227)])) rfl (by rw [hml]; rfl) (Steps.refl _) (a := b227) (argsL := [(.ref b207)]) (rest := [(.ref b227)]) (lenOf pd__28__5b_C_29_V rfl) rfl (by show 2 * 0 + _ ≤ _; exact Nat.le_of_eq rfl) (hb hby at_150) (fun _ _ => ⟨rfl, e227, (Nat.le_of_ble_eq_true rfl), (Nat.le_of_ble_eq_true rfl)⟩)
    dsimp only [Pt.U, Pt.locs, Pt.cells, Pt.slots] at X231 l231 y231 z231 st231 hQ231
    subst l231 y231 z231
    obtain ⟨t_232, kb_233, rfl, Nq231, K231, P231_0, P231_1⟩ := hQ231
    have N231 := Fr.app N225 Nq231
    have Sf234 : Safe Z EL_1 s.vm h227 b227 := (Safe.keep K227 sf0 R226.1 (Safe.new (Nat.le_of_eq g227.symm)))
    have R235 : CHr Z EL_1 s.vm h0 s.vm T231.heap := R228.trans (CHr.keep K231 (sfS Sf234 sf0) R228.1)
    obtain ⟨kk, hkl, hmin, hkept, hcut⟩ := own_kk [c0, c1].length mx hmx (Nat.le_of_ble_eq_true rfl)
    have hes : ∀ i, i < [c0, c1].length → ([pr c0, pr c1, pr c2, pr c3] : List Int32).getD i 0 = pr (([c0, c1] : List Int32).getD i 0) := fun i hi => match i, hi with | 0, _ => rfl | 1, _ => rfl | n_ + 2, h => absurd h (by simp only [List.length_cons, List.length_nil]; omega)
    have O236 : Old Z n0 T231.heap := (O230.keep K231 (allS (Nat.le_trans Z0 (Nat.le_trans (Nat.le_trans (Nat.le_trans (Nat.le_trans (Nat.le_trans (Nat.le_trans (Nat.le_trans (Nat.le_trans K207.1 K209.1) K211.1) K213.1) K216.1) K219.1) K222.1) K225.1) (Nat.le_of_eq g227.symm))) all0))
    obtain ⟨_, _, ⟨T237, L237, k237, n237⟩, -, X237', hS237', hgr237, ⟨Lc237, hQ237, l237, y237, z237, A237⟩, st237⟩ := callSS X231 hx (y := yn44) hown0 (mvT hZ0 (w36 hw)) (mvT hZ0 (w37 hw)) (mvT hZ0 (w38 hw)) (mvT hZ0 (w39 hw)) (by decide) (backOfSH (W := 0) (rm_printable l Z a0 hw [] b227 mx kk t_232 kb_233 [c0, c1] cS fm T231.heap n0 (Nat.le_trans Z0 (Nat.le_trans (Nat.le_trans (Nat.le_trans (Nat.le_trans (Nat.le_trans (Nat.le_trans (Nat.le_trans (Nat.le_trans (Nat.le_trans K207.1 K209.1) K211.1) K213.1) K216.1) K219.1) K222.1) K225.1) K227.1) K231.1)) O236 S_cs hcS S_fm hfm S_ad S_hi S_lo P231_1 hkl (Nat.le_of_ble_eq_true rfl) hmin) hZ0 (w39 hw) (w38 hw) (by decide) (by decide) hEL R235.1) (g := (mkF m 155 #[.val (.int a), .val (.int b_), .val (.int n), .val (.int m_), .val (.int (2 : Int32)), .val (.int mx), .val (.int c0), .val (.int c1), .val (.int c2), .val (.int c3), .val (.ref b207), .val (.ref b213), .unset, .unset, .unset, .unset] [(.int mx), (.ref b227)])) rfl (by rw [hml]; rfl) (argsL := [(.ref b227), (.int mx)]) (rest := []) (lenOf pd__28_Ljava_2f_lang_2f_String_3b_I_29_Ljava_2f_lang_2f_String_3b_ rfl) rfl (by show 2 * 0 + _ ≤ _; exact Nat.le_of_eq rfl) (hb hby at_155) (fun _ _ => ⟨rfl, rfl, (Nat.le_of_ble_eq_true rfl), (Nat.le_of_ble_eq_true rfl)⟩)
    dsimp only [Pt.U, Pt.locs, Pt.cells, Pt.slots] at X237' hS237' hgr237 l237 y237 z237 st237 hQ237 A237
    subst l237 y237 z237
    obtain ⟨X237, hS237, hZ237, hown237⟩ := rebS hS0 (Nat.le_trans hk0 (Nat.le_trans (Nat.le_trans (Nat.le_trans (Nat.le_trans (Nat.le_trans (Nat.le_trans (Nat.le_trans (Nat.le_trans (Nat.le_trans K207.1 K209.1) K211.1) K213.1) K216.1) K219.1) K222.1) K225.1) K227.1) K231.1)) X237' hS237' hgr237 hZ0 hown0
    obtain ⟨r_238, t2_239, kb2_240, rfl, Nq237, K237, P237_0, P237_1, P237_2⟩ := hQ237
    have N237 := Fr.app N231 Nq237
    have R241 : CHr Z EL_1 s.vm h0 T237.vm T237.heap := R235.trans A237
    have hk237 : T237.heap.size ≤ T237.heap.size := Nat.le_refl _
    have W242 : ∀ zQ, SS p e below T237 m 164 #[.val (.int a), .val (.int b_), .val (.int n), .val (.int m_), .val (.int (2 : Int32)), .val (.int mx), .val (.int c0), .val (.int c1), .val (.int c2), .val (.int c3), .val (.ref b207), .val (.ref b213), .val (.ref r_238), .unset, .unset, .unset] [(.int mx), (.int (2 : Int32))] zQ → Steps p.tables e below (s₁.setTop (entryFrame m #[(.int a), (.int b_), (.int n), (.int m_)] maxLocals)) zQ := by
      intro tt kt
      refine W104 tt ?_
      refine XS.iload X0.here hx rfl (hb hby at_50) rfl ?_
      refine st207 _ ?_
      refine XS.astore X207.here hx rfl (hb hby at_54) rfl rfl (l' := #[.val (.int a), .val (.int b_), .val (.int n), .val (.int m_), .val (.int (2 : Int32)), .val (.int mx), .val (.int c0), .val (.int c1), .val (.int c2), .val (.int c3), .val (.ref b207), .unset, .unset, .unset, .unset, .unset]) rfl ?_
      refine XS.iload X207.here hx rfl (hb hby at_56) rfl ?_
      refine XS.ifNo X207.here hx rfl (hb hby at_58) rfl ((if0 _ _).trans (tlt (by decide)).2.2.2) ?_
      refine XS.aload X207.here hx rfl (hb hby at_61) rfl rfl ?_
      refine XS.iconst X207.here hx rfl (hb hby at_63) ?_
      refine XS.iload X207.here hx rfl (hb hby at_64) rfl ?_
      show SS p e below T207 m 66 #[.val (.int a), .val (.int b_), .val (.int n), .val (.int m_), .val (.int (2 : Int32)), .val (.int mx), .val (.int c0), .val (.int c1), .val (.int c2), .val (.int c3), .val (.ref b207), .unset, .unset, .unset, .unset, .unset] [(.int c0), (.int (0 : Int32)), (.ref b207)] _
      refine st209 _ ?_
      refine XS.iload X209.here hx rfl (hb hby at_67) rfl ?_
      refine XS.iconst X209.here hx rfl (hb hby at_69) ?_
      refine XS.icmpNo X209.here hx rfl (hb hby at_70) rfl (tlt (by decide)).2.2.2 ?_
      refine XS.aload X209.here hx rfl (hb hby at_73) rfl rfl ?_
      refine XS.iconst X209.here hx rfl (hb hby at_75) ?_
      refine XS.iload X209.here hx rfl (hb hby at_76) rfl ?_
      refine st211 _ ?_
      show SS p e below T211 m 79 #[.val (.int a), .val (.int b_), .val (.int n), .val (.int m_), .val (.int (2 : Int32)), .val (.int mx), .val (.int c0), .val (.int c1), .val (.int c2), .val (.int c3), .val (.ref b207), .unset, .unset, .unset, .unset, .unset] [] _
      refine XS.iload X211.here hx rfl (hb hby at_79) rfl ?_
      refine XS.iconst X211.here hx rfl (hb hby at_81) ?_
      refine XS.icmpYes X211.here hx rfl (pc0 := 82) (pc' := 91) rfl (hb hby at_82) rfl (flt (by decide)).2.2.2 (by decide) (by decide) ?_
      refine XS.iload X211.here hx rfl (hb hby at_91) rfl ?_
      refine XS.iconst X211.here hx rfl (hb hby at_93) ?_
      refine XS.icmpYes X211.here hx rfl (pc0 := 94) (pc' := 103) rfl (hb hby at_94) rfl (flt (by decide)).2.2.2 (by decide) (by decide) ?_
      refine XS.iconst X211.here hx rfl (hb hby at_103) ?_
      refine st213 _ ?_
      show SS p e below T213 m 106 #[.val (.int a), .val (.int b_), .val (.int n), .val (.int m_), .val (.int (2 : Int32)), .val (.int mx), .val (.int c0), .val (.int c1), .val (.int c2), .val (.int c3), .val (.ref b207), .unset, .unset, .unset, .unset, .unset] [(.ref b213)] _
      refine XS.astore X213.here hx rfl (hb hby at_106) rfl rfl (l' := #[.val (.int a), .val (.int b_), .val (.int n), .val (.int m_), .val (.int (2 : Int32)), .val (.int mx), .val (.int c0), .val (.int c1), .val (.int c2), .val (.int c3), .val (.ref b207), .val (.ref b213), .unset, .unset, .unset, .unset]) rfl ?_
      refine XS.aload X213.here hx rfl (hb hby at_108) rfl rfl ?_
      refine XS.iconst X213.here hx rfl (hb hby at_110) ?_
      refine XS.iload X213.here hx rfl (hb hby at_111) rfl ?_
      refine st215 _ ?_
      refine st216 _ ?_
      refine XS.aload X216.here hx rfl (hb hby at_117) rfl rfl ?_
      refine XS.iconst X216.here hx rfl (hb hby at_119) ?_
      show SS p e below T216 m 120 #[.val (.int a), .val (.int b_), .val (.int n), .val (.int m_), .val (.int (2 : Int32)), .val (.int mx), .val (.int c0), .val (.int c1), .val (.int c2), .val (.int c3), .val (.ref b207), .val (.ref b213), .unset, .unset, .unset, .unset] [(.int (1 : Int32)), (.ref b213)] _
      refine XS.iload X216.here hx rfl (hb hby at_120) rfl ?_
      refine st218 _ ?_
      refine st219 _ ?_
      refine XS.aload X219.here hx rfl (hb hby at_126) rfl rfl ?_
      refine XS.iconst X219.here hx rfl (hb hby at_128) ?_
      refine XS.iload X219.here hx rfl (hb hby at_129) rfl ?_
      refine st221 _ ?_
      refine st222 _ ?_
      show SS p e below T222 m 135 #[.val (.int a), .val (.int b_), .val (.int n), .val (.int m_), .val (.int (2 : Int32)), .val (.int mx), .val (.int c0), .val (.int c1), .val (.int c2), .val (.int c3), .val (.ref b207), .val (.ref b213), .unset, .unset, .unset, .unset] [] _
      refine XS.aload X222.here hx rfl (hb hby at_135) rfl rfl ?_
      refine XS.iconst X222.here hx rfl (hb hby at_137) ?_
      refine XS.iload X222.here hx rfl (hb hby at_138) rfl ?_
      refine st224 _ ?_
      refine st225 _ ?_
      refine st227 _ ?_
      refine XS.dup X227.here hx rfl (hb hby at_147) rfl rfl ?_
      refine XS.aload X227.here hx rfl (hb hby at_148) rfl rfl ?_
      show SS p e below T227 m 150 #[.val (.int a), .val (.int b_), .val (.int n), .val (.int m_), .val (.int (2 : Int32)), .val (.int mx), .val (.int c0), .val (.int c1), .val (.int c2), .val (.int c3), .val (.ref b207), .val (.ref b213), .unset, .unset, .unset, .unset] [(.ref b207), (.ref b227), (.ref b227)] _
      refine st231.trans ?_
      refine XS.iload X231.here hx rfl (hb hby at_153) rfl ?_
      refine st237.trans ?_
      refine XS.astore X237.here hx rfl (hb hby at_158) rfl rfl (l' := #[.val (.int a), .val (.int b_), .val (.int n), .val (.int m_), .val (.int (2 : Int32)), .val (.int mx), .val (.int c0), .val (.int c1), .val (.int c2), .val (.int c3), .val (.ref b207), .val (.ref b213), .val (.ref r_238), .unset, .unset, .unset]) rfl ?_
      refine XS.iload X237.here hx rfl (hb hby at_160) rfl ?_
      refine XS.iload X237.here hx rfl (hb hby at_162) rfl ?_
      exact kt
    have W244 : ∀ zQ, SS p e below T237 m 174 #[.val (.int a), .val (.int b_), .val (.int n), .val (.int m_), .val (.int (2 : Int32)), .val (.int mx), .val (.int c0), .val (.int c1), .val (.int c2), .val (.int c3), .val (.ref b207), .val (.ref b213), .val (.ref r_238), .unset, .unset, .unset] [(.int (if (2 : Int32) < mx then (2 : Int32) else mx))] zQ → Steps p.tables e below (s₁.setTop (entryFrame m #[(.int a), (.int b_), (.int n), (.int m_)] maxLocals)) zQ := by
      intro tt kt
      refine W242 tt ?_
      by_cases hj243 : (2 : Int32) < mx
      ·
        refine XS.icmpNo X237.here hx rfl (hb hby at_164) rfl (tlt hj243).2.1 ?_
        refine XS.iload X237.here hx rfl (hb hby at_167) rfl ?_
        refine XS.goto X237.here hx rfl (pc0 := 169) (pc' := 174) rfl (hb hby at_169) (by decide) (by decide) ?_
        exact castTop (by first | rfl | (simp only [if_pos hj243]; first | done | rfl)) kt
      ·
        refine XS.icmpYes X237.here hx rfl (pc0 := 164) (pc' := 172) rfl (hb hby at_164) rfl (flt hj243).2.1 (by decide) (by decide) ?_
        refine XS.iload X237.here hx rfl (hb hby at_172) rfl ?_
        exact castTop (by first | rfl | (simp only [if_neg hj243]; first | done | rfl)) kt
    have W245 : ∀ zQ, SS p e below T237 m 180 #[.val (.int a), .val (.int b_), .val (.int n), .val (.int m_), .val (.int (2 : Int32)), .val (.int mx), .val (.int c0), .val (.int c1), .val (.int c2), .val (.int c3), .val (.ref b207), .val (.ref b213), .val (.ref r_238), .val (.int (Int32.ofNat kk)), .unset, .unset] [(.int mx), (.int (2 : Int32))] zQ → Steps p.tables e below (s₁.setTop (entryFrame m #[(.int a), (.int b_), (.int n), (.int m_)] maxLocals)) zQ := by
      intro tt kt
      refine W244 tt ?_
      rw [show (if (2 : Int32) < mx then (2 : Int32) else mx) = (Int32.ofNat kk) from hkept]
      refine XS.istore X237.here hx rfl (hb hby at_174) rfl (l' := #[.val (.int a), .val (.int b_), .val (.int n), .val (.int m_), .val (.int (2 : Int32)), .val (.int mx), .val (.int c0), .val (.int c1), .val (.int c2), .val (.int c3), .val (.ref b207), .val (.ref b213), .val (.ref r_238), .val (.int (Int32.ofNat kk)), .unset, .unset]) rfl ?_
      refine XS.iload X237.here hx rfl (hb hby at_176) rfl ?_
      refine XS.iload X237.here hx rfl (hb hby at_178) rfl ?_
      exact kt
    have W247 : ∀ zQ, SS p e below T237 m 188 #[.val (.int a), .val (.int b_), .val (.int n), .val (.int m_), .val (.int (2 : Int32)), .val (.int mx), .val (.int c0), .val (.int c1), .val (.int c2), .val (.int c3), .val (.ref b207), .val (.ref b213), .val (.ref r_238), .val (.int (Int32.ofNat kk)), .unset, .unset] [(.int (if mx < (2 : Int32) then (1 : Int32) else (0 : Int32)))] zQ → Steps p.tables e below (s₁.setTop (entryFrame m #[(.int a), (.int b_), (.int n), (.int m_)] maxLocals)) zQ := by
      intro tt kt
      refine W245 tt ?_
      by_cases hj246 : mx < (2 : Int32)
      ·
        refine XS.icmpNo X237.here hx rfl (hb hby at_180) rfl (tlt hj246).2.2.2 ?_
        refine XS.iconst X237.here hx rfl (hb hby at_183) ?_
        refine XS.goto X237.here hx rfl (pc0 := 184) (pc' := 188) rfl (hb hby at_184) (by decide) (by decide) ?_
        exact castTop (by first | rfl | (simp only [if_pos hj246]; first | done | rfl)) kt
      ·
        refine XS.icmpYes X237.here hx rfl (pc0 := 180) (pc' := 187) rfl (hb hby at_180) rfl (flt hj246).2.2.2 (by decide) (by decide) ?_
        refine XS.iconst X237.here hx rfl (hb hby at_187) ?_
        exact castTop (by first | rfl | (simp only [if_neg hj246]; first | done | rfl)) kt
    have W248 : ∀ zQ, SS p e below T237 m 194 #[.val (.int a), .val (.int b_), .val (.int n), .val (.int m_), .val (.int (2 : Int32)), .val (.int mx), .val (.int c0), .val (.int c1), .val (.int c2), .val (.int c3), .val (.ref b207), .val (.ref b213), .val (.ref r_238), .val (.int (Int32.ofNat kk)), .val (.int (if mx < (2 : Int32) then (1 : Int32) else (0 : Int32))), .unset] [(.int (if mx < (2 : Int32) then (1 : Int32) else (0 : Int32))), (.int (Int32.ofNat kk))] zQ → Steps p.tables e below (s₁.setTop (entryFrame m #[(.int a), (.int b_), (.int n), (.int m_)] maxLocals)) zQ := by
      intro tt kt
      refine W247 tt ?_
      refine XS.istore X237.here hx rfl (hb hby at_188) rfl (l' := #[.val (.int a), .val (.int b_), .val (.int n), .val (.int m_), .val (.int (2 : Int32)), .val (.int mx), .val (.int c0), .val (.int c1), .val (.int c2), .val (.int c3), .val (.ref b207), .val (.ref b213), .val (.ref r_238), .val (.int (Int32.ofNat kk)), .val (.int (if mx < (2 : Int32) then (1 : Int32) else (0 : Int32))), .unset]) rfl ?_
      refine XS.iload X237.here hx rfl (hb hby at_190) rfl ?_
      refine XS.iload X237.here hx rfl (hb hby at_192) rfl ?_
      exact kt
    have W250 : ∀ zQ, SS p e below T237 m 202 #[.val (.int a), .val (.int b_), .val (.int n), .val (.int m_), .val (.int (2 : Int32)), .val (.int mx), .val (.int c0), .val (.int c1), .val (.int c2), .val (.int c3), .val (.ref b207), .val (.ref b213), .val (.ref r_238), .val (.int (Int32.ofNat kk)), .val (.int (if mx < (2 : Int32) then (1 : Int32) else (0 : Int32))), .unset] [(.int (if (if mx < (2 : Int32) then (1 : Int32) else (0 : Int32)) = (0 : Int32) then (0 : Int32) else (3 : Int32))), (.int (Int32.ofNat kk))] zQ → Steps p.tables e below (s₁.setTop (entryFrame m #[(.int a), (.int b_), (.int n), (.int m_)] maxLocals)) zQ := by
      intro tt kt
      refine W248 tt ?_
      by_cases hj249 : (if mx < (2 : Int32) then (1 : Int32) else (0 : Int32)) = (0 : Int32)
      ·
        refine XS.ifYes X237.here hx rfl (pc0 := 194) (pc' := 201) rfl (hb hby at_194) rfl ((if0 _ _).trans (teq hj249).1) (by decide) (by decide) ?_
        refine XS.iconst X237.here hx rfl (hb hby at_201) ?_
        exact castTop (by first | rfl | (simp only [if_pos hj249]; first | done | rfl)) kt
      ·
        refine XS.ifNo X237.here hx rfl (hb hby at_194) rfl ((if0 _ _).trans (feq hj249).1) ?_
        refine XS.iconst X237.here hx rfl (hb hby at_197) ?_
        refine XS.goto X237.here hx rfl (pc0 := 198) (pc' := 202) rfl (hb hby at_198) (by decide) (by decide) ?_
        exact castTop (by first | rfl | (simp only [if_neg hj249]; first | done | rfl)) kt
    have O251 : Old Z n0 T237.heap := (O236.keep K237 all0)
    obtain ⟨cq252, kq252, q252a, q252b, q252c⟩ := isOf hZ237 rfl P237_2.1
    obtain ⟨_, _, ⟨T252, L252, k252, n252⟩, -, X252, ⟨Lc252, hQ252, l252, y252, z252⟩, st252⟩ := X237.virtualBack hx (y := yn10) (z := yn10) hown237 (mvT hZ237 (w191 hw)) (mvT hZ237 (w41 hw)) (notFace_of_selects (args := #[]) (mvT hZ237 (w43 hw))) (mvT hZ237 (w43 hw)) (mvT hZ237 (w42 hw)) (by decide) (backOf (W := 0) (rm_length l Z a0 hw [] r_238 t2_239 kb2_240 (pres [c0, c1] kk) cS T237.heap n0 (Nat.le_trans Z0 (Nat.le_trans (Nat.le_trans (Nat.le_trans (Nat.le_trans (Nat.le_trans (Nat.le_trans (Nat.le_trans (Nat.le_trans (Nat.le_trans (Nat.le_trans K207.1 K209.1) K211.1) K213.1) K216.1) K219.1) K222.1) K225.1) K227.1) K231.1) K237.1)) O251 S_cs hcS P237_2) hZ237 (w44 hw) (w9 hw) (by decide) (by decide)) q252a q252c (g := (mkF m 207 #[.val (.int a), .val (.int b_), .val (.int n), .val (.int m_), .val (.int (2 : Int32)), .val (.int mx), .val (.int c0), .val (.int c1), .val (.int c2), .val (.int c3), .val (.ref b207), .val (.ref b213), .val (.ref r_238), .val (.int (Int32.ofNat kk)), .val (.int (if mx < (2 : Int32) then (1 : Int32) else (0 : Int32))), .val (.int (Int32.ofNat (pres [c0, c1] kk).length))] [(.ref r_238)])) rfl (by rw [hml]; rfl) (Steps.refl _) (argsL := []) (rest := []) (lenOf pd__28__29_I rfl) rfl (by show 2 * 0 + _ ≤ _; exact Nat.le_of_eq rfl) (hb hby at_207) (fun _ _ => ⟨rfl, rfl, (Nat.le_of_ble_eq_true rfl), (Nat.le_of_ble_eq_true rfl)⟩)
    dsimp only [Pt.U, Pt.locs, Pt.cells, Pt.slots] at X252 l252 y252 z252 st252 hQ252
    subst l252 y252 z252
    obtain ⟨rfl, Nq252, eq252⟩ := hQ252
    have N252 := Fr.app N237 Nq252
    have F253 : Arv Z T237.heap b213 k213 .char (4 : Int32) [(.int (pr c0)), (.int (pr c1)), (.int (pr c2)), (.int (pr c3))] (.int (0 : Int32)) := (((J225.keep K227 nin0).keep K231 (ninS (Nat.ne_of_lt (Nat.lt_of_lt_of_le (Nat.lt_of_lt_of_le G213.lt (Nat.le_trans (Nat.le_trans (Nat.le_trans K216.1 K219.1) K222.1) K225.1)) (Nat.le_of_eq g227.symm))) nin0)).keep K237 nin0)
    obtain ⟨_, _, ⟨T254, L254, k254, n254⟩, -, X254, ⟨Lc254, hQ254, l254, y254, z254⟩, st254⟩ := Jvm.LawKit.callS X252 hx (y := yn43) hown237 (mvT hZ237 (w192 hw)) (mvT hZ237 (w193 hw)) (mvT hZ237 (w5 hw)) (mvT hZ237 (w194 hw)) (by decide) (backOf (W := 0) (rm_okay l Z a0 hw [] r_238 b213 0 kk (pres [c0, c1] kk).length k213 [pr c0, pr c1, pr c2, pr c3] t2_239 kb2_240 (pres [c0, c1] kk) cS fm T237.heap n0 (Nat.le_trans Z0 (Nat.le_trans (Nat.le_trans (Nat.le_trans (Nat.le_trans (Nat.le_trans (Nat.le_trans (Nat.le_trans (Nat.le_trans (Nat.le_trans (Nat.le_trans K207.1 K209.1) K211.1) K213.1) K216.1) K219.1) K222.1) K225.1) K227.1) K231.1) K237.1)) O251 S_cs hcS S_fm hfm S_ad S_hi S_lo P237_2 F253 rfl (pres_at hkl hes) (Nat.le_trans hkl (Nat.le_of_ble_eq_true rfl)) (Nat.le_of_ble_eq_true rfl) (Nat.le_of_ble_eq_true rfl)) hZ237 (w194 hw) (w5 hw) (by decide) (by decide)) (g := (mkF m 226 #[.val (.int a), .val (.int b_), .val (.int n), .val (.int m_), .val (.int (2 : Int32)), .val (.int mx), .val (.int c0), .val (.int c1), .val (.int c2), .val (.int c3), .val (.ref b207), .val (.ref b213), .val (.ref r_238), .val (.int (Int32.ofNat kk)), .val (.int (if mx < (2 : Int32) then (1 : Int32) else (0 : Int32))), .val (.int (Int32.ofNat (pres [c0, c1] kk).length))] [(.ref b213), (.int (Int32.ofNat (pres [c0, c1] kk).length)), (.int (Int32.ofNat kk)), (.int (0 : Int32)), (.ref r_238)])) rfl (by rw [hml]; rfl) (argsL := [(.ref r_238), (.int (0 : Int32)), (.int (Int32.ofNat kk)), (.int (Int32.ofNat (pres [c0, c1] kk).length)), (.ref b213)]) (rest := []) (lenOf pd__28_Ljava_2f_lang_2f_String_3b_III_5b_C_29_Z rfl) rfl (by show 2 * 0 + _ ≤ _; exact Nat.le_of_eq rfl) (hb hby at_226) (fun _ _ => ⟨rfl, eq252, (Nat.le_of_ble_eq_true rfl), (Nat.le_of_ble_eq_true rfl)⟩)
    dsimp only [Pt.U, Pt.locs, Pt.cells, Pt.slots] at X254 l254 y254 z254 st254 hQ254
    subst l254 y254 z254
    obtain ⟨rfl, Nq254, eq254⟩ := hQ254
    have N254 := Fr.app N252 Nq254
    obtain ⟨_, _, ⟨T255, L255, k255, n255⟩, -, X255, ⟨Lc255, hQ255, l255, y255, z255⟩, st255⟩ := Jvm.LawKit.callS X254 hx (y := yn43) hown237 (mvT hZ237 (w192 hw)) (mvT hZ237 (w193 hw)) (mvT hZ237 (w5 hw)) (mvT hZ237 (w194 hw)) (by decide) (backOf (W := 0) (rm_okay l Z a0 hw [] r_238 b213 1 kk (pres [c0, c1] kk).length k213 [pr c0, pr c1, pr c2, pr c3] t2_239 kb2_240 (pres [c0, c1] kk) cS fm T237.heap n0 (Nat.le_trans Z0 (Nat.le_trans (Nat.le_trans (Nat.le_trans (Nat.le_trans (Nat.le_trans (Nat.le_trans (Nat.le_trans (Nat.le_trans (Nat.le_trans (Nat.le_trans K207.1 K209.1) K211.1) K213.1) K216.1) K219.1) K222.1) K225.1) K227.1) K231.1) K237.1)) O251 S_cs hcS S_fm hfm S_ad S_hi S_lo P237_2 F253 rfl (pres_at hkl hes) (Nat.le_trans hkl (Nat.le_of_ble_eq_true rfl)) (Nat.le_of_ble_eq_true rfl) (Nat.le_of_ble_eq_true rfl)) hZ237 (w194 hw) (w5 hw) (by decide) (by decide)) (g := (mkF m 241 #[.val (.int a), .val (.int b_), .val (.int n), .val (.int m_), .val (.int (2 : Int32)), .val (.int mx), .val (.int c0), .val (.int c1), .val (.int c2), .val (.int c3), .val (.ref b207), .val (.ref b213), .val (.ref r_238), .val (.int (Int32.ofNat kk)), .val (.int (if mx < (2 : Int32) then (1 : Int32) else (0 : Int32))), .val (.int (Int32.ofNat (pres [c0, c1] kk).length))] [(.ref b213), (.int (Int32.ofNat (pres [c0, c1] kk).length)), (.int (Int32.ofNat kk)), (.int (1 : Int32)), (.ref r_238)])) rfl (by rw [hml]; rfl) (argsL := [(.ref r_238), (.int (1 : Int32)), (.int (Int32.ofNat kk)), (.int (Int32.ofNat (pres [c0, c1] kk).length)), (.ref b213)]) (rest := []) (lenOf pd__28_Ljava_2f_lang_2f_String_3b_III_5b_C_29_Z rfl) rfl (by show 2 * 0 + _ ≤ _; exact Nat.le_of_eq rfl) (hb hby at_241) (fun _ _ => ⟨rfl, eq254, (Nat.le_of_ble_eq_true rfl), (Nat.le_of_ble_eq_true rfl)⟩)
    dsimp only [Pt.U, Pt.locs, Pt.cells, Pt.slots] at X255 l255 y255 z255 st255 hQ255
    subst l255 y255 z255
    obtain ⟨rfl, Nq255, eq255⟩ := hQ255
    have N255 := Fr.app N254 Nq255
    obtain ⟨_, _, ⟨T256, L256, k256, n256⟩, -, X256, ⟨Lc256, hQ256, l256, y256, z256⟩, st256⟩ := Jvm.LawKit.callS X255 hx (y := yn43) hown237 (mvT hZ237 (w192 hw)) (mvT hZ237 (w193 hw)) (mvT hZ237 (w5 hw)) (mvT hZ237 (w194 hw)) (by decide) (backOf (W := 0) (rm_okay l Z a0 hw [] r_238 b213 2 kk (pres [c0, c1] kk).length k213 [pr c0, pr c1, pr c2, pr c3] t2_239 kb2_240 (pres [c0, c1] kk) cS fm T237.heap n0 (Nat.le_trans Z0 (Nat.le_trans (Nat.le_trans (Nat.le_trans (Nat.le_trans (Nat.le_trans (Nat.le_trans (Nat.le_trans (Nat.le_trans (Nat.le_trans (Nat.le_trans K207.1 K209.1) K211.1) K213.1) K216.1) K219.1) K222.1) K225.1) K227.1) K231.1) K237.1)) O251 S_cs hcS S_fm hfm S_ad S_hi S_lo P237_2 F253 rfl (pres_at hkl hes) (Nat.le_trans hkl (Nat.le_of_ble_eq_true rfl)) (Nat.le_of_ble_eq_true rfl) (Nat.le_of_ble_eq_true rfl)) hZ237 (w194 hw) (w5 hw) (by decide) (by decide)) (g := (mkF m 256 #[.val (.int a), .val (.int b_), .val (.int n), .val (.int m_), .val (.int (2 : Int32)), .val (.int mx), .val (.int c0), .val (.int c1), .val (.int c2), .val (.int c3), .val (.ref b207), .val (.ref b213), .val (.ref r_238), .val (.int (Int32.ofNat kk)), .val (.int (if mx < (2 : Int32) then (1 : Int32) else (0 : Int32))), .val (.int (Int32.ofNat (pres [c0, c1] kk).length))] [(.ref b213), (.int (Int32.ofNat (pres [c0, c1] kk).length)), (.int (Int32.ofNat kk)), (.int (2 : Int32)), (.ref r_238)])) rfl (by rw [hml]; rfl) (argsL := [(.ref r_238), (.int (2 : Int32)), (.int (Int32.ofNat kk)), (.int (Int32.ofNat (pres [c0, c1] kk).length)), (.ref b213)]) (rest := []) (lenOf pd__28_Ljava_2f_lang_2f_String_3b_III_5b_C_29_Z rfl) rfl (by show 2 * 0 + _ ≤ _; exact Nat.le_of_eq rfl) (hb hby at_256) (fun _ _ => ⟨rfl, eq255, (Nat.le_of_ble_eq_true rfl), (Nat.le_of_ble_eq_true rfl)⟩)
    dsimp only [Pt.U, Pt.locs, Pt.cells, Pt.slots] at X256 l256 y256 z256 st256 hQ256
    subst l256 y256 z256
    obtain ⟨rfl, Nq256, eq256⟩ := hQ256
    have N256 := Fr.app N255 Nq256
    obtain ⟨_, _, ⟨T257, L257, k257, n257⟩, -, X257, ⟨Lc257, hQ257, l257, y257, z257⟩, st257⟩ := Jvm.LawKit.callS X256 hx (y := yn43) hown237 (mvT hZ237 (w192 hw)) (mvT hZ237 (w193 hw)) (mvT hZ237 (w5 hw)) (mvT hZ237 (w194 hw)) (by decide) (backOf (W := 0) (rm_okay l Z a0 hw [] r_238 b213 3 kk (pres [c0, c1] kk).length k213 [pr c0, pr c1, pr c2, pr c3] t2_239 kb2_240 (pres [c0, c1] kk) cS fm T237.heap n0 (Nat.le_trans Z0 (Nat.le_trans (Nat.le_trans (Nat.le_trans (Nat.le_trans (Nat.le_trans (Nat.le_trans (Nat.le_trans (Nat.le_trans (Nat.le_trans (Nat.le_trans K207.1 K209.1) K211.1) K213.1) K216.1) K219.1) K222.1) K225.1) K227.1) K231.1) K237.1)) O251 S_cs hcS S_fm hfm S_ad S_hi S_lo P237_2 F253 rfl (pres_at hkl hes) (Nat.le_trans hkl (Nat.le_of_ble_eq_true rfl)) (Nat.le_of_ble_eq_true rfl) (Nat.le_of_ble_eq_true rfl)) hZ237 (w194 hw) (w5 hw) (by decide) (by decide)) (g := (mkF m 271 #[.val (.int a), .val (.int b_), .val (.int n), .val (.int m_), .val (.int (2 : Int32)), .val (.int mx), .val (.int c0), .val (.int c1), .val (.int c2), .val (.int c3), .val (.ref b207), .val (.ref b213), .val (.ref r_238), .val (.int (Int32.ofNat kk)), .val (.int (if mx < (2 : Int32) then (1 : Int32) else (0 : Int32))), .val (.int (Int32.ofNat (pres [c0, c1] kk).length))] [(.ref b213), (.int (Int32.ofNat (pres [c0, c1] kk).length)), (.int (Int32.ofNat kk)), (.int (3 : Int32)), (.ref r_238)])) rfl (by rw [hml]; rfl) (argsL := [(.ref r_238), (.int (3 : Int32)), (.int (Int32.ofNat kk)), (.int (Int32.ofNat (pres [c0, c1] kk).length)), (.ref b213)]) (rest := []) (lenOf pd__28_Ljava_2f_lang_2f_String_3b_III_5b_C_29_Z rfl) rfl (by show 2 * 0 + _ ≤ _; exact Nat.le_of_eq rfl) (hb hby at_271) (fun _ _ => ⟨rfl, eq256, (Nat.le_of_ble_eq_true rfl), (Nat.le_of_ble_eq_true rfl)⟩)
    dsimp only [Pt.U, Pt.locs, Pt.cells, Pt.slots] at X257 l257 y257 z257 st257 hQ257
    subst l257 y257 z257
    obtain ⟨rfl, Nq257, eq257⟩ := hQ257
    have N257 := Fr.app N256 Nq257
    obtain ⟨_, _, ⟨T258, L258, k258, n258⟩, -, X258, ⟨Lc258, hQ258, l258, y258, z258⟩, st258⟩ := Jvm.LawKit.callS X257 hx (y := yn43) hown237 (mvT hZ237 (w192 hw)) (mvT hZ237 (w193 hw)) (mvT hZ237 (w5 hw)) (mvT hZ237 (w194 hw)) (by decide) (backOf (W := 0) (rm_okay l Z a0 hw [] r_238 b213 4 kk (pres [c0, c1] kk).length k213 [pr c0, pr c1, pr c2, pr c3] t2_239 kb2_240 (pres [c0, c1] kk) cS fm T237.heap n0 (Nat.le_trans Z0 (Nat.le_trans (Nat.le_trans (Nat.le_trans (Nat.le_trans (Nat.le_trans (Nat.le_trans (Nat.le_trans (Nat.le_trans (Nat.le_trans (Nat.le_trans K207.1 K209.1) K211.1) K213.1) K216.1) K219.1) K222.1) K225.1) K227.1) K231.1) K237.1)) O251 S_cs hcS S_fm hfm S_ad S_hi S_lo P237_2 F253 rfl (pres_at hkl hes) (Nat.le_trans hkl (Nat.le_of_ble_eq_true rfl)) (Nat.le_of_ble_eq_true rfl) (Nat.le_of_ble_eq_true rfl)) hZ237 (w194 hw) (w5 hw) (by decide) (by decide)) (g := (mkF m 286 #[.val (.int a), .val (.int b_), .val (.int n), .val (.int m_), .val (.int (2 : Int32)), .val (.int mx), .val (.int c0), .val (.int c1), .val (.int c2), .val (.int c3), .val (.ref b207), .val (.ref b213), .val (.ref r_238), .val (.int (Int32.ofNat kk)), .val (.int (if mx < (2 : Int32) then (1 : Int32) else (0 : Int32))), .val (.int (Int32.ofNat (pres [c0, c1] kk).length))] [(.ref b213), (.int (Int32.ofNat (pres [c0, c1] kk).length)), (.int (Int32.ofNat kk)), (.int (4 : Int32)), (.ref r_238)])) rfl (by rw [hml]; rfl) (argsL := [(.ref r_238), (.int (4 : Int32)), (.int (Int32.ofNat kk)), (.int (Int32.ofNat (pres [c0, c1] kk).length)), (.ref b213)]) (rest := []) (lenOf pd__28_Ljava_2f_lang_2f_String_3b_III_5b_C_29_Z rfl) rfl (by show 2 * 0 + _ ≤ _; exact Nat.le_of_eq rfl) (hb hby at_286) (fun _ _ => ⟨rfl, eq257, (Nat.le_of_ble_eq_true rfl), (Nat.le_of_ble_eq_true rfl)⟩)
    dsimp only [Pt.U, Pt.locs, Pt.cells, Pt.slots] at X258 l258 y258 z258 st258 hQ258
    subst l258 y258 z258
    obtain ⟨rfl, Nq258, eq258⟩ := hQ258
    have N258 := Fr.app N257 Nq258
    obtain ⟨_, _, ⟨T259, L259, k259, n259⟩, -, X259, ⟨Lc259, hQ259, l259, y259, z259⟩, st259⟩ := Jvm.LawKit.callS X258 hx (y := yn43) hown237 (mvT hZ237 (w192 hw)) (mvT hZ237 (w193 hw)) (mvT hZ237 (w5 hw)) (mvT hZ237 (w194 hw)) (by decide) (backOf (W := 0) (rm_okay l Z a0 hw [] r_238 b213 5 kk (pres [c0, c1] kk).length k213 [pr c0, pr c1, pr c2, pr c3] t2_239 kb2_240 (pres [c0, c1] kk) cS fm T237.heap n0 (Nat.le_trans Z0 (Nat.le_trans (Nat.le_trans (Nat.le_trans (Nat.le_trans (Nat.le_trans (Nat.le_trans (Nat.le_trans (Nat.le_trans (Nat.le_trans (Nat.le_trans K207.1 K209.1) K211.1) K213.1) K216.1) K219.1) K222.1) K225.1) K227.1) K231.1) K237.1)) O251 S_cs hcS S_fm hfm S_ad S_hi S_lo P237_2 F253 rfl (pres_at hkl hes) (Nat.le_trans hkl (Nat.le_of_ble_eq_true rfl)) (Nat.le_of_ble_eq_true rfl) (Nat.le_of_ble_eq_true rfl)) hZ237 (w194 hw) (w5 hw) (by decide) (by decide)) (g := (mkF m 301 #[.val (.int a), .val (.int b_), .val (.int n), .val (.int m_), .val (.int (2 : Int32)), .val (.int mx), .val (.int c0), .val (.int c1), .val (.int c2), .val (.int c3), .val (.ref b207), .val (.ref b213), .val (.ref r_238), .val (.int (Int32.ofNat kk)), .val (.int (if mx < (2 : Int32) then (1 : Int32) else (0 : Int32))), .val (.int (Int32.ofNat (pres [c0, c1] kk).length))] [(.ref b213), (.int (Int32.ofNat (pres [c0, c1] kk).length)), (.int (Int32.ofNat kk)), (.int (5 : Int32)), (.ref r_238)])) rfl (by rw [hml]; rfl) (argsL := [(.ref r_238), (.int (5 : Int32)), (.int (Int32.ofNat kk)), (.int (Int32.ofNat (pres [c0, c1] kk).length)), (.ref b213)]) (rest := []) (lenOf pd__28_Ljava_2f_lang_2f_String_3b_III_5b_C_29_Z rfl) rfl (by show 2 * 0 + _ ≤ _; exact Nat.le_of_eq rfl) (hb hby at_301) (fun _ _ => ⟨rfl, eq258, (Nat.le_of_ble_eq_true rfl), (Nat.le_of_ble_eq_true rfl)⟩)
    dsimp only [Pt.U, Pt.locs, Pt.cells, Pt.slots] at X259 l259 y259 z259 st259 hQ259
    subst l259 y259 z259
    obtain ⟨rfl, Nq259, eq259⟩ := hQ259
    have N259 := Fr.app N258 Nq259
    obtain ⟨_, _, ⟨T260, L260, k260, n260⟩, -, X260, ⟨Lc260, hQ260, l260, y260, z260⟩, st260⟩ := Jvm.LawKit.callS X259 hx (y := yn43) hown237 (mvT hZ237 (w192 hw)) (mvT hZ237 (w193 hw)) (mvT hZ237 (w5 hw)) (mvT hZ237 (w194 hw)) (by decide) (backOf (W := 0) (rm_okay l Z a0 hw [] r_238 b213 6 kk (pres [c0, c1] kk).length k213 [pr c0, pr c1, pr c2, pr c3] t2_239 kb2_240 (pres [c0, c1] kk) cS fm T237.heap n0 (Nat.le_trans Z0 (Nat.le_trans (Nat.le_trans (Nat.le_trans (Nat.le_trans (Nat.le_trans (Nat.le_trans (Nat.le_trans (Nat.le_trans (Nat.le_trans (Nat.le_trans K207.1 K209.1) K211.1) K213.1) K216.1) K219.1) K222.1) K225.1) K227.1) K231.1) K237.1)) O251 S_cs hcS S_fm hfm S_ad S_hi S_lo P237_2 F253 rfl (pres_at hkl hes) (Nat.le_trans hkl (Nat.le_of_ble_eq_true rfl)) (Nat.le_of_ble_eq_true rfl) (Nat.le_of_ble_eq_true rfl)) hZ237 (w194 hw) (w5 hw) (by decide) (by decide)) (g := (mkF m 317 #[.val (.int a), .val (.int b_), .val (.int n), .val (.int m_), .val (.int (2 : Int32)), .val (.int mx), .val (.int c0), .val (.int c1), .val (.int c2), .val (.int c3), .val (.ref b207), .val (.ref b213), .val (.ref r_238), .val (.int (Int32.ofNat kk)), .val (.int (if mx < (2 : Int32) then (1 : Int32) else (0 : Int32))), .val (.int (Int32.ofNat (pres [c0, c1] kk).length))] [(.ref b213), (.int (Int32.ofNat (pres [c0, c1] kk).length)), (.int (Int32.ofNat kk)), (.int (6 : Int32)), (.ref r_238)])) rfl (by rw [hml]; rfl) (argsL := [(.ref r_238), (.int (6 : Int32)), (.int (Int32.ofNat kk)), (.int (Int32.ofNat (pres [c0, c1] kk).length)), (.ref b213)]) (rest := []) (lenOf pd__28_Ljava_2f_lang_2f_String_3b_III_5b_C_29_Z rfl) rfl (by show 2 * 0 + _ ≤ _; exact Nat.le_of_eq rfl) (hb hby at_317) (fun _ _ => ⟨rfl, eq259, (Nat.le_of_ble_eq_true rfl), (Nat.le_of_ble_eq_true rfl)⟩)
    dsimp only [Pt.U, Pt.locs, Pt.cells, Pt.slots] at X260 l260 y260 z260 st260 hQ260
    subst l260 y260 z260
    obtain ⟨rfl, Nq260, eq260⟩ := hQ260
    have N260 := Fr.app N259 Nq260
    have W261 : ∀ zQ, SS p e below T260 m 328 #[.val (.int a), .val (.int b_), .val (.int n), .val (.int m_), .val (.int (2 : Int32)), .val (.int mx), .val (.int c0), .val (.int c1), .val (.int c2), .val (.int c3), .val (.ref b207), .val (.ref b213), .val (.ref r_238), .val (.int (Int32.ofNat kk)), .val (.int (if mx < (2 : Int32) then (1 : Int32) else (0 : Int32))), .val (.int (Int32.ofNat (pres [c0, c1] kk).length))] [(.int (1 : Int32))] zQ → Steps p.tables e below (s₁.setTop (entryFrame m #[(.int a), (.int b_), (.int n), (.int m_)] maxLocals)) zQ := by
      intro tt kt
      refine W250 tt ?_
      refine XS.iadd X237.here hx rfl (hb hby at_202) rfl ?_
      show SS p e below T237 m 203 #[.val (.int a), .val (.int b_), .val (.int n), .val (.int m_), .val (.int (2 : Int32)), .val (.int mx), .val (.int c0), .val (.int c1), .val (.int c2), .val (.int c3), .val (.ref b207), .val (.ref b213), .val (.ref r_238), .val (.int (Int32.ofNat kk)), .val (.int (if mx < (2 : Int32) then (1 : Int32) else (0 : Int32))), .unset] [(.int ((Int32.ofNat kk) + (if (if mx < (2 : Int32) then (1 : Int32) else (0 : Int32)) = (0 : Int32) then (0 : Int32) else (3 : Int32))))] _
      rw [show ((Int32.ofNat kk) + (if (if mx < (2 : Int32) then (1 : Int32) else (0 : Int32)) = (0 : Int32) then (0 : Int32) else (3 : Int32))) = (Int32.ofNat (pres [c0, c1] kk).length) from (own_want (cs := [c0, c1]) (kk := kk) (mx := mx) hkl hcut)]
      refine XS.istore X237.here hx rfl (hb hby at_203) rfl (l' := #[.val (.int a), .val (.int b_), .val (.int n), .val (.int m_), .val (.int (2 : Int32)), .val (.int mx), .val (.int c0), .val (.int c1), .val (.int c2), .val (.int c3), .val (.ref b207), .val (.ref b213), .val (.ref r_238), .val (.int (Int32.ofNat kk)), .val (.int (if mx < (2 : Int32) then (1 : Int32) else (0 : Int32))), .val (.int (Int32.ofNat (pres [c0, c1] kk).length))]) rfl ?_
      refine XS.aload X237.here hx rfl (hb hby at_205) rfl rfl ?_
      refine st252.trans ?_
      refine XS.iload X252.here hx rfl (hb hby at_210) rfl ?_
      refine XS.icmpYes X252.here hx rfl (pc0 := 212) (pc' := 217) rfl (hb hby at_212) rfl (teq rfl).1 (by decide) (by decide) ?_
      refine XS.aload X252.here hx rfl (hb hby at_217) rfl rfl ?_
      refine XS.iconst X252.here hx rfl (hb hby at_219) ?_
      show SS p e below T252 m 220 #[.val (.int a), .val (.int b_), .val (.int n), .val (.int m_), .val (.int (2 : Int32)), .val (.int mx), .val (.int c0), .val (.int c1), .val (.int c2), .val (.int c3), .val (.ref b207), .val (.ref b213), .val (.ref r_238), .val (.int (Int32.ofNat kk)), .val (.int (if mx < (2 : Int32) then (1 : Int32) else (0 : Int32))), .val (.int (Int32.ofNat (pres [c0, c1] kk).length))] [(.int (0 : Int32)), (.ref r_238)] _
      refine XS.iload X252.here hx rfl (hb hby at_220) rfl ?_
      refine XS.iload X252.here hx rfl (hb hby at_222) rfl ?_
      refine XS.aload X252.here hx rfl (hb hby at_224) rfl rfl ?_
      refine st254 _ ?_
      refine XS.ifNo X254.here hx rfl (hb hby at_229) rfl ((if0 _ _).trans (feq (by decide)).1) ?_
      refine XS.aload X254.here hx rfl (hb hby at_232) rfl rfl ?_
      refine XS.iconst X254.here hx rfl (hb hby at_234) ?_
      refine XS.iload X254.here hx rfl (hb hby at_235) rfl ?_
      show SS p e below T254 m 237 #[.val (.int a), .val (.int b_), .val (.int n), .val (.int m_), .val (.int (2 : Int32)), .val (.int mx), .val (.int c0), .val (.int c1), .val (.int c2), .val (.int c3), .val (.ref b207), .val (.ref b213), .val (.ref r_238), .val (.int (Int32.ofNat kk)), .val (.int (if mx < (2 : Int32) then (1 : Int32) else (0 : Int32))), .val (.int (Int32.ofNat (pres [c0, c1] kk).length))] [(.int (Int32.ofNat kk)), (.int (1 : Int32)), (.ref r_238)] _
      refine XS.iload X254.here hx rfl (hb hby at_237) rfl ?_
      refine XS.aload X254.here hx rfl (hb hby at_239) rfl rfl ?_
      refine st255 _ ?_
      refine XS.ifNo X255.here hx rfl (hb hby at_244) rfl ((if0 _ _).trans (feq (by decide)).1) ?_
      refine XS.aload X255.here hx rfl (hb hby at_247) rfl rfl ?_
      refine XS.iconst X255.here hx rfl (hb hby at_249) ?_
      refine XS.iload X255.here hx rfl (hb hby at_250) rfl ?_
      refine XS.iload X255.here hx rfl (hb hby at_252) rfl ?_
      show SS p e below T255 m 254 #[.val (.int a), .val (.int b_), .val (.int n), .val (.int m_), .val (.int (2 : Int32)), .val (.int mx), .val (.int c0), .val (.int c1), .val (.int c2), .val (.int c3), .val (.ref b207), .val (.ref b213), .val (.ref r_238), .val (.int (Int32.ofNat kk)), .val (.int (if mx < (2 : Int32) then (1 : Int32) else (0 : Int32))), .val (.int (Int32.ofNat (pres [c0, c1] kk).length))] [(.int (Int32.ofNat (pres [c0, c1] kk).length)), (.int (Int32.ofNat kk)), (.int (2 : Int32)), (.ref r_238)] _
      refine XS.aload X255.here hx rfl (hb hby at_254) rfl rfl ?_
      refine st256 _ ?_
      refine XS.ifNo X256.here hx rfl (hb hby at_259) rfl ((if0 _ _).trans (feq (by decide)).1) ?_
      refine XS.aload X256.here hx rfl (hb hby at_262) rfl rfl ?_
      refine XS.iconst X256.here hx rfl (hb hby at_264) ?_
      refine XS.iload X256.here hx rfl (hb hby at_265) rfl ?_
      refine XS.iload X256.here hx rfl (hb hby at_267) rfl ?_
      refine XS.aload X256.here hx rfl (hb hby at_269) rfl rfl ?_
      show SS p e below T256 m 271 #[.val (.int a), .val (.int b_), .val (.int n), .val (.int m_), .val (.int (2 : Int32)), .val (.int mx), .val (.int c0), .val (.int c1), .val (.int c2), .val (.int c3), .val (.ref b207), .val (.ref b213), .val (.ref r_238), .val (.int (Int32.ofNat kk)), .val (.int (if mx < (2 : Int32) then (1 : Int32) else (0 : Int32))), .val (.int (Int32.ofNat (pres [c0, c1] kk).length))] [(.ref b213), (.int (Int32.ofNat (pres [c0, c1] kk).length)), (.int (Int32.ofNat kk)), (.int (3 : Int32)), (.ref r_238)] _
      refine st257 _ ?_
      refine XS.ifNo X257.here hx rfl (hb hby at_274) rfl ((if0 _ _).trans (feq (by decide)).1) ?_
      refine XS.aload X257.here hx rfl (hb hby at_277) rfl rfl ?_
      refine XS.iconst X257.here hx rfl (hb hby at_279) ?_
      refine XS.iload X257.here hx rfl (hb hby at_280) rfl ?_
      refine XS.iload X257.here hx rfl (hb hby at_282) rfl ?_
      refine XS.aload X257.here hx rfl (hb hby at_284) rfl rfl ?_
      refine st258 _ ?_
      show SS p e below T258 m 289 #[.val (.int a), .val (.int b_), .val (.int n), .val (.int m_), .val (.int (2 : Int32)), .val (.int mx), .val (.int c0), .val (.int c1), .val (.int c2), .val (.int c3), .val (.ref b207), .val (.ref b213), .val (.ref r_238), .val (.int (Int32.ofNat kk)), .val (.int (if mx < (2 : Int32) then (1 : Int32) else (0 : Int32))), .val (.int (Int32.ofNat (pres [c0, c1] kk).length))] [(.int (1 : Int32))] _
      refine XS.ifNo X258.here hx rfl (hb hby at_289) rfl ((if0 _ _).trans (feq (by decide)).1) ?_
      refine XS.aload X258.here hx rfl (hb hby at_292) rfl rfl ?_
      refine XS.iconst X258.here hx rfl (hb hby at_294) ?_
      refine XS.iload X258.here hx rfl (hb hby at_295) rfl ?_
      refine XS.iload X258.here hx rfl (hb hby at_297) rfl ?_
      refine XS.aload X258.here hx rfl (hb hby at_299) rfl rfl ?_
      refine st259 _ ?_
      refine XS.ifNo X259.here hx rfl (hb hby at_304) rfl ((if0 _ _).trans (feq (by decide)).1) ?_
      show SS p e below T259 m 307 #[.val (.int a), .val (.int b_), .val (.int n), .val (.int m_), .val (.int (2 : Int32)), .val (.int mx), .val (.int c0), .val (.int c1), .val (.int c2), .val (.int c3), .val (.ref b207), .val (.ref b213), .val (.ref r_238), .val (.int (Int32.ofNat kk)), .val (.int (if mx < (2 : Int32) then (1 : Int32) else (0 : Int32))), .val (.int (Int32.ofNat (pres [c0, c1] kk).length))] [] _
      refine XS.aload X259.here hx rfl (hb hby at_307) rfl rfl ?_
      refine XS.bipush X259.here hx rfl (hb hby at_309) ?_
      refine XS.iload X259.here hx rfl (hb hby at_311) rfl ?_
      refine XS.iload X259.here hx rfl (hb hby at_313) rfl ?_
      refine XS.aload X259.here hx rfl (hb hby at_315) rfl rfl ?_
      refine st260 _ ?_
      refine XS.ifNo X260.here hx rfl (hb hby at_320) rfl ((if0 _ _).trans (feq (by decide)).1) ?_
      refine XS.iconst X260.here hx rfl (hb hby at_323) ?_
      show SS p e below T260 m 324 #[.val (.int a), .val (.int b_), .val (.int n), .val (.int m_), .val (.int (2 : Int32)), .val (.int mx), .val (.int c0), .val (.int c1), .val (.int c2), .val (.int c3), .val (.ref b207), .val (.ref b213), .val (.ref r_238), .val (.int (Int32.ofNat kk)), .val (.int (if mx < (2 : Int32) then (1 : Int32) else (0 : Int32))), .val (.int (Int32.ofNat (pres [c0, c1] kk).length))] [(.int (1 : Int32))] _
      refine XS.goto X260.here hx rfl (pc0 := 324) (pc' := 328) rfl (hb hby at_324) (by decide) (by decide) ?_
      exact kt
    obtain ⟨fs, hr, hrun, hended, hRW⟩ := Jvm.Stand.leaveW X260 hS237 (by rw [eq260]; exact hk237) (v := some (.int (nar .boolean (1 : Int32)))) (fun h => by rw [Bd.returns] at h; cases h) (BodyLoose.notSynchronized Bd)
    refine ⟨_, _, W261 _ (retN X260 hx (t := .boolean) Bd.returns (by simp) (hb hby at_328) hr), hrun, hended, _, _, rfl, ?_, own_chr (T := T260) R241 (CHv.at X260 hZ237 hEL R241.1) hh.symm eq260, own_rw hRW (by decide) (by decide)⟩
    show Q_law Z a b_ n m_ cS fm h0 n0 _ T260.heap _
    rw [eq260]
    exact ⟨rfl, N260, (Keep.trans (Keep.trans (Keep.trans (Keep.trans (Keep.trans (Keep.trans (Keep.trans (Keep.trans (Keep.trans (Keep.trans (Keep.trans (Keep.refl h0 []) K207 all0) K209 (allS (Or.inr (Nat.le_of_eq g207.symm)) all0)) K211 (allS (Or.inr (Nat.le_of_eq g207.symm)) all0)) K213 all0) K216 (allS (Or.inr (Nat.le_trans (Nat.le_trans (Nat.le_trans K207.1 K209.1) K211.1) (Nat.le_of_eq g213.symm))) all0)) K219 (allS (Or.inr (Nat.le_trans (Nat.le_trans (Nat.le_trans K207.1 K209.1) K211.1) (Nat.le_of_eq g213.symm))) all0)) K222 (allS (Or.inr (Nat.le_trans (Nat.le_trans (Nat.le_trans K207.1 K209.1) K211.1) (Nat.le_of_eq g213.symm))) all0)) K225 (allS (Or.inr (Nat.le_trans (Nat.le_trans (Nat.le_trans K207.1 K209.1) K211.1) (Nat.le_of_eq g213.symm))) all0)) K227 all0) K231 (allS (Or.inr (Nat.le_trans (Nat.le_trans (Nat.le_trans (Nat.le_trans (Nat.le_trans (Nat.le_trans (Nat.le_trans (Nat.le_trans K207.1 K209.1) K211.1) K213.1) K216.1) K219.1) K222.1) K225.1) (Nat.le_of_eq g227.symm))) all0)) K237 all0)⟩
  ·
    obtain ⟨T262, h262, k262, X262, e262, E262, A262, st262⟩ := newP X0 hx hZ0 (aty := .char) (w2 hw) e0 (g := (mkF m 52 #[.val (.int a), .val (.int b_), .val (.int n), .val (.int m_), .val (.int (3 : Int32)), .val (.int mx), .val (.int c0), .val (.int c1), .val (.int c2), .val (.int c3), .unset, .unset, .unset, .unset, .unset, .unset] [(.int (3 : Int32))])) rfl (hb hby at_52) (n := (3 : Int32)) rfl (by decide) (cap := 3) (by decide) (by decide) (by decide) (by decide)
    obtain ⟨b262, g262⟩ : ∃ z, z = h0.size := ⟨_, rfl⟩
    rw [← g262] at A262 st262
    have K262 := (Keep.refl h0 []).ext E262
    have R263 : CHr Z EL_1 s.vm h0 s.vm h262 := R0.trans (CHr.keep K262 sf0 R0.1)
    have G262 : Arv Z h262 b262 k262 .char (3 : Int32) [(.int (0 : Int32)), (.int (0 : Int32)), (.int (0 : Int32))] (.int (0 : Int32)) := (Arv.new A262 (by decide)).pad (pad_rep [] (.int (0 : Int32)) 3)
    obtain ⟨cl264, Ar264, q264, S264, M264, H264, F264g⟩ := id G262
    have hin264 : ¬ ((0 : Int32) < 0 ∨ cl264.slots.size ≤ ((0 : Int32)).toNatClampNeg) := inb_of S264 ⟨by decide, by decide⟩
    obtain ⟨T264, h264, X264, e264, Wr264, st264⟩ := stC X262 hx hZ0 e262 Ar264 (j := (0 : Int32)) hin264 (g := (mkF m 66 #[.val (.int a), .val (.int b_), .val (.int n), .val (.int m_), .val (.int (3 : Int32)), .val (.int mx), .val (.int c0), .val (.int c1), .val (.int c2), .val (.int c3), .val (.ref b262), .unset, .unset, .unset, .unset, .unset] [(.int c0), (.int (0 : Int32)), (.ref b262)])) rfl rfl (hb hby at_66)
    have G264 : Arv Z h264 b262 k262 .char (3 : Int32) [(.int (nar .char c0)), (.int (0 : Int32)), (.int (0 : Int32))] (.int (0 : Int32)) := Arv.set Ar264 q264 S264 M264 H264 F264g (fits_nar_char _) Wr264 0 rfl (Nat.le_of_ble_eq_true rfl)
    have K264 := Keep.of_wr Wr264
    have N264 := Fr.snoc X264 N0 (Nat.le_trans Z0 (Nat.le_of_eq g262.symm))
    have R265 : CHr Z EL_1 s.vm h0 s.vm h264 := R263.trans (CHr.keep K264 (sfS (Safe.arv hZ0.alike G262 (by intro q; cases q)) sf0) R263.1)
    have J264 : Arv Z h264 b262 k262 .char (3 : Int32) [(.int c0), (.int (0 : Int32)), (.int (0 : Int32))] (.int (0 : Int32)) := by rw [show nar .char c0 = c0 from by rw [h_c0]; exact own_narc (own_i2cr _).1 (own_i2cr _).2] at G264; exact G264
    obtain ⟨cl266, Ar266, q266, S266, M266, H266, F266g⟩ := id J264
    have hin266 : ¬ ((1 : Int32) < 0 ∨ cl266.slots.size ≤ ((1 : Int32)).toNatClampNeg) := inb_of S266 ⟨by decide, by decide⟩
    obtain ⟨T266, h266, X266, e266, Wr266, st266⟩ := stC X264 hx hZ0 e264 Ar266 (j := (1 : Int32)) hin266 (g := (mkF m 78 #[.val (.int a), .val (.int b_), .val (.int n), .val (.int m_), .val (.int (3 : Int32)), .val (.int mx), .val (.int c0), .val (.int c1), .val (.int c2), .val (.int c3), .val (.ref b262), .unset, .unset, .unset, .unset, .unset] [(.int c1), (.int (1 : Int32)), (.ref b262)])) rfl rfl (hb hby at_78)
    have G266 : Arv Z h266 b262 k262 .char (3 : Int32) [(.int c0), (.int (nar .char c1)), (.int (0 : Int32))] (.int (0 : Int32)) := Arv.set Ar266 q266 S266 M266 H266 F266g (fits_nar_char _) Wr266 1 rfl (Nat.le_of_ble_eq_true rfl)
    have K266 := Keep.of_wr Wr266
    have N266 := Fr.snoc X266 N264 (Nat.le_trans Z0 (Nat.le_of_eq g262.symm))
    have R267 : CHr Z EL_1 s.vm h0 s.vm h266 := R265.trans (CHr.keep K266 (sfS (Safe.arv hZ0.alike J264 (by intro q; cases q)) sf0) R265.1)
    have J266 : Arv Z h266 b262 k262 .char (3 : Int32) [(.int c0), (.int c1), (.int (0 : Int32))] (.int (0 : Int32)) := by rw [show nar .char c1 = c1 from by rw [h_c1]; exact own_narc (own_i2cr _).1 (own_i2cr _).2] at G266; exact G266
    obtain ⟨cl268, Ar268, q268, S268, M268, H268, F268g⟩ := id J266
    have hin268 : ¬ ((2 : Int32) < 0 ∨ cl268.slots.size ≤ ((2 : Int32)).toNatClampNeg) := inb_of S268 ⟨by decide, by decide⟩
    obtain ⟨T268, h268, X268, e268, Wr268, st268⟩ := stC X266 hx hZ0 e266 Ar268 (j := (2 : Int32)) hin268 (g := (mkF m 90 #[.val (.int a), .val (.int b_), .val (.int n), .val (.int m_), .val (.int (3 : Int32)), .val (.int mx), .val (.int c0), .val (.int c1), .val (.int c2), .val (.int c3), .val (.ref b262), .unset, .unset, .unset, .unset, .unset] [(.int c2), (.int (2 : Int32)), (.ref b262)])) rfl rfl (hb hby at_90)
    have G268 : Arv Z h268 b262 k262 .char (3 : Int32) [(.int c0), (.int c1), (.int (nar .char c2))] (.int (0 : Int32)) := Arv.set Ar268 q268 S268 M268 H268 F268g (fits_nar_char _) Wr268 2 rfl (Nat.le_of_ble_eq_true rfl)
    have K268 := Keep.of_wr Wr268
    have N268 := Fr.snoc X268 N266 (Nat.le_trans Z0 (Nat.le_of_eq g262.symm))
    have R269 : CHr Z EL_1 s.vm h0 s.vm h268 := R267.trans (CHr.keep K268 (sfS (Safe.arv hZ0.alike J266 (by intro q; cases q)) sf0) R267.1)
    have J268 : Arv Z h268 b262 k262 .char (3 : Int32) [(.int c0), (.int c1), (.int c2)] (.int (0 : Int32)) := by rw [show nar .char c2 = c2 from by rw [h_c2]; exact own_narc (own_i2cr _).1 (own_i2cr _).2] at G268; exact G268
    obtain ⟨T270, h270, k270, X270, e270, E270, A270, st270⟩ := newP X268 hx hZ0 (aty := .char) (w2 hw) e268 (g := (mkF m 104 #[.val (.int a), .val (.int b_), .val (.int n), .val (.int m_), .val (.int (3 : Int32)), .val (.int mx), .val (.int c0), .val (.int c1), .val (.int c2), .val (.int c3), .val (.ref b262), .unset, .unset, .unset, .unset, .unset] [(.int (4 : Int32))])) rfl (hb hby at_104) (n := (4 : Int32)) rfl (by decide) (cap := 4) (by decide) (by decide) (by decide) (by decide)
    obtain ⟨b270, g270⟩ : ∃ z, z = h268.size := ⟨_, rfl⟩
    rw [← g270] at A270 st270
    have K270 := (Keep.refl h268 []).ext E270
    have R271 : CHr Z EL_1 s.vm h0 s.vm h270 := R269.trans (CHr.keep K270 sf0 R269.1)
    have G270 : Arv Z h270 b270 k270 .char (4 : Int32) [(.int (0 : Int32)), (.int (0 : Int32)), (.int (0 : Int32)), (.int (0 : Int32))] (.int (0 : Int32)) := (Arv.new A270 (by decide)).pad (pad_rep [] (.int (0 : Int32)) 4)
    obtain ⟨_, _, ⟨T272, L272, k272, n272⟩, -, X272, ⟨Lc272, hQ272, l272, y272, z272⟩, st272⟩ := Jvm.LawKit.callS X270 hx (y := yn42) hown0 (mvT hZ0 (w3 hw)) (mvT hZ0 (w4 hw)) (mvT hZ0 (w5 hw)) (mvT hZ0 (w6 hw)) (by decide) (backOf (W := 2) (rm_safe l Z a0 hw [] c0 h270 n0 (Nat.le_trans Z0 (Nat.le_trans (Nat.le_trans (Nat.le_trans (Nat.le_trans K262.1 K264.1) K266.1) K268.1) K270.1)) (by rw [h_c0]; exact (own_i2cr _).1) (by rw [h_c0]; exact (own_i2cr _).2)) hZ0 (w6 hw) (w5 hw) (by decide) (by decide)) (g := (mkF m 113 #[.val (.int a), .val (.int b_), .val (.int n), .val (.int m_), .val (.int (3 : Int32)), .val (.int mx), .val (.int c0), .val (.int c1), .val (.int c2), .val (.int c3), .val (.ref b262), .val (.ref b270), .unset, .unset, .unset, .unset] [(.int c0), (.int (0 : Int32)), (.ref b270)])) rfl (by rw [hml]; rfl) (argsL := [(.int c0)]) (rest := [(.int (0 : Int32)), (.ref b270)]) (lenOf pd__28_C_29_C rfl) rfl (by show 2 * 0 + _ ≤ _; exact Nat.le_of_eq rfl) (hb hby at_113) (fun _ _ => ⟨rfl, e270, (Nat.le_of_ble_eq_true rfl), (Nat.le_of_ble_eq_true rfl)⟩)
    dsimp only [Pt.U, Pt.locs, Pt.cells, Pt.slots] at X272 l272 y272 z272 st272 hQ272
    subst l272 y272 z272
    obtain ⟨rfl, Nq272, eq272⟩ := hQ272
    have N272 := Fr.app N268 Nq272
    obtain ⟨cl273, Ar273, q273, S273, M273, H273, F273g⟩ := id G270
    have hin273 : ¬ ((0 : Int32) < 0 ∨ cl273.slots.size ≤ ((0 : Int32)).toNatClampNeg) := inb_of S273 ⟨by decide, by decide⟩
    obtain ⟨T273, h273, X273, e273, Wr273, st273⟩ := stC X272 hx hZ0 eq272 Ar273 (j := (0 : Int32)) hin273 (g := (mkF m 116 #[.val (.int a), .val (.int b_), .val (.int n), .val (.int m_), .val (.int (3 : Int32)), .val (.int mx), .val (.int c0), .val (.int c1), .val (.int c2), .val (.int c3), .val (.ref b262), .val (.ref b270), .unset, .unset, .unset, .unset] [(.int (pr c0)), (.int (0 : Int32)), (.ref b270)])) rfl rfl (hb hby at_116)
    have G273 : Arv Z h273 b270 k270 .char (4 : Int32) [(.int (nar .char (pr c0))), (.int (0 : Int32)), (.int (0 : Int32)), (.int (0 : Int32))] (.int (0 : Int32)) := Arv.set Ar273 q273 S273 M273 H273 F273g (fits_nar_char _) Wr273 0 rfl (Nat.le_of_ble_eq_true rfl)
    have K273 := Keep.of_wr Wr273
    have N273 := Fr.snoc X273 N272 (Nat.le_trans Z0 (Nat.le_trans (Nat.le_trans (Nat.le_trans (Nat.le_trans K262.1 K264.1) K266.1) K268.1) (Nat.le_of_eq g270.symm)))
    have R274 : CHr Z EL_1 s.vm h0 s.vm h273 := R271.trans (CHr.keep K273 (sfS (Safe.arv hZ0.alike G270 (by intro q; cases q)) sf0) R271.1)
    have J273 : Arv Z h273 b270 k270 .char (4 : Int32) [(.int (pr c0)), (.int (0 : Int32)), (.int (0 : Int32)), (.int (0 : Int32))] (.int (0 : Int32)) := by rw [own_narpr] at G273; exact G273
    obtain ⟨_, _, ⟨T275, L275, k275, n275⟩, -, X275, ⟨Lc275, hQ275, l275, y275, z275⟩, st275⟩ := Jvm.LawKit.callS X273 hx (y := yn42) hown0 (mvT hZ0 (w3 hw)) (mvT hZ0 (w4 hw)) (mvT hZ0 (w5 hw)) (mvT hZ0 (w6 hw)) (by decide) (backOf (W := 2) (rm_safe l Z a0 hw [] c1 h273 n0 (Nat.le_trans Z0 (Nat.le_trans (Nat.le_trans (Nat.le_trans (Nat.le_trans (Nat.le_trans K262.1 K264.1) K266.1) K268.1) K270.1) K273.1)) (by rw [h_c1]; exact (own_i2cr _).1) (by rw [h_c1]; exact (own_i2cr _).2)) hZ0 (w6 hw) (w5 hw) (by decide) (by decide)) (g := (mkF m 122 #[.val (.int a), .val (.int b_), .val (.int n), .val (.int m_), .val (.int (3 : Int32)), .val (.int mx), .val (.int c0), .val (.int c1), .val (.int c2), .val (.int c3), .val (.ref b262), .val (.ref b270), .unset, .unset, .unset, .unset] [(.int c1), (.int (1 : Int32)), (.ref b270)])) rfl (by rw [hml]; rfl) (argsL := [(.int c1)]) (rest := [(.int (1 : Int32)), (.ref b270)]) (lenOf pd__28_C_29_C rfl) rfl (by show 2 * 0 + _ ≤ _; exact Nat.le_of_eq rfl) (hb hby at_122) (fun _ _ => ⟨rfl, e273, (Nat.le_of_ble_eq_true rfl), (Nat.le_of_ble_eq_true rfl)⟩)
    dsimp only [Pt.U, Pt.locs, Pt.cells, Pt.slots] at X275 l275 y275 z275 st275 hQ275
    subst l275 y275 z275
    obtain ⟨rfl, Nq275, eq275⟩ := hQ275
    have N275 := Fr.app N273 Nq275
    obtain ⟨cl276, Ar276, q276, S276, M276, H276, F276g⟩ := id J273
    have hin276 : ¬ ((1 : Int32) < 0 ∨ cl276.slots.size ≤ ((1 : Int32)).toNatClampNeg) := inb_of S276 ⟨by decide, by decide⟩
    obtain ⟨T276, h276, X276, e276, Wr276, st276⟩ := stC X275 hx hZ0 eq275 Ar276 (j := (1 : Int32)) hin276 (g := (mkF m 125 #[.val (.int a), .val (.int b_), .val (.int n), .val (.int m_), .val (.int (3 : Int32)), .val (.int mx), .val (.int c0), .val (.int c1), .val (.int c2), .val (.int c3), .val (.ref b262), .val (.ref b270), .unset, .unset, .unset, .unset] [(.int (pr c1)), (.int (1 : Int32)), (.ref b270)])) rfl rfl (hb hby at_125)
    have G276 : Arv Z h276 b270 k270 .char (4 : Int32) [(.int (pr c0)), (.int (nar .char (pr c1))), (.int (0 : Int32)), (.int (0 : Int32))] (.int (0 : Int32)) := Arv.set Ar276 q276 S276 M276 H276 F276g (fits_nar_char _) Wr276 1 rfl (Nat.le_of_ble_eq_true rfl)
    have K276 := Keep.of_wr Wr276
    have N276 := Fr.snoc X276 N275 (Nat.le_trans Z0 (Nat.le_trans (Nat.le_trans (Nat.le_trans (Nat.le_trans K262.1 K264.1) K266.1) K268.1) (Nat.le_of_eq g270.symm)))
    have R277 : CHr Z EL_1 s.vm h0 s.vm h276 := R274.trans (CHr.keep K276 (sfS (Safe.arv hZ0.alike J273 (by intro q; cases q)) sf0) R274.1)
    have J276 : Arv Z h276 b270 k270 .char (4 : Int32) [(.int (pr c0)), (.int (pr c1)), (.int (0 : Int32)), (.int (0 : Int32))] (.int (0 : Int32)) := by rw [own_narpr] at G276; exact G276
    obtain ⟨_, _, ⟨T278, L278, k278, n278⟩, -, X278, ⟨Lc278, hQ278, l278, y278, z278⟩, st278⟩ := Jvm.LawKit.callS X276 hx (y := yn42) hown0 (mvT hZ0 (w3 hw)) (mvT hZ0 (w4 hw)) (mvT hZ0 (w5 hw)) (mvT hZ0 (w6 hw)) (by decide) (backOf (W := 2) (rm_safe l Z a0 hw [] c2 h276 n0 (Nat.le_trans Z0 (Nat.le_trans (Nat.le_trans (Nat.le_trans (Nat.le_trans (Nat.le_trans (Nat.le_trans K262.1 K264.1) K266.1) K268.1) K270.1) K273.1) K276.1)) (by rw [h_c2]; exact (own_i2cr _).1) (by rw [h_c2]; exact (own_i2cr _).2)) hZ0 (w6 hw) (w5 hw) (by decide) (by decide)) (g := (mkF m 131 #[.val (.int a), .val (.int b_), .val (.int n), .val (.int m_), .val (.int (3 : Int32)), .val (.int mx), .val (.int c0), .val (.int c1), .val (.int c2), .val (.int c3), .val (.ref b262), .val (.ref b270), .unset, .unset, .unset, .unset] [(.int c2), (.int (2 : Int32)), (.ref b270)])) rfl (by rw [hml]; rfl) (argsL := [(.int c2)]) (rest := [(.int (2 : Int32)), (.ref b270)]) (lenOf pd__28_C_29_C rfl) rfl (by show 2 * 0 + _ ≤ _; exact Nat.le_of_eq rfl) (hb hby at_131) (fun _ _ => ⟨rfl, e276, (Nat.le_of_ble_eq_true rfl), (Nat.le_of_ble_eq_true rfl)⟩)
    dsimp only [Pt.U, Pt.locs, Pt.cells, Pt.slots] at X278 l278 y278 z278 st278 hQ278
    subst l278 y278 z278
    obtain ⟨rfl, Nq278, eq278⟩ := hQ278
    have N278 := Fr.app N276 Nq278
    obtain ⟨cl279, Ar279, q279, S279, M279, H279, F279g⟩ := id J276
    have hin279 : ¬ ((2 : Int32) < 0 ∨ cl279.slots.size ≤ ((2 : Int32)).toNatClampNeg) := inb_of S279 ⟨by decide, by decide⟩
    obtain ⟨T279, h279, X279, e279, Wr279, st279⟩ := stC X278 hx hZ0 eq278 Ar279 (j := (2 : Int32)) hin279 (g := (mkF m 134 #[.val (.int a), .val (.int b_), .val (.int n), .val (.int m_), .val (.int (3 : Int32)), .val (.int mx), .val (.int c0), .val (.int c1), .val (.int c2), .val (.int c3), .val (.ref b262), .val (.ref b270), .unset, .unset, .unset, .unset] [(.int (pr c2)), (.int (2 : Int32)), (.ref b270)])) rfl rfl (hb hby at_134)
    have G279 : Arv Z h279 b270 k270 .char (4 : Int32) [(.int (pr c0)), (.int (pr c1)), (.int (nar .char (pr c2))), (.int (0 : Int32))] (.int (0 : Int32)) := Arv.set Ar279 q279 S279 M279 H279 F279g (fits_nar_char _) Wr279 2 rfl (Nat.le_of_ble_eq_true rfl)
    have K279 := Keep.of_wr Wr279
    have N279 := Fr.snoc X279 N278 (Nat.le_trans Z0 (Nat.le_trans (Nat.le_trans (Nat.le_trans (Nat.le_trans K262.1 K264.1) K266.1) K268.1) (Nat.le_of_eq g270.symm)))
    have R280 : CHr Z EL_1 s.vm h0 s.vm h279 := R277.trans (CHr.keep K279 (sfS (Safe.arv hZ0.alike J276 (by intro q; cases q)) sf0) R277.1)
    have J279 : Arv Z h279 b270 k270 .char (4 : Int32) [(.int (pr c0)), (.int (pr c1)), (.int (pr c2)), (.int (0 : Int32))] (.int (0 : Int32)) := by rw [own_narpr] at G279; exact G279
    obtain ⟨_, _, ⟨T281, L281, k281, n281⟩, -, X281, ⟨Lc281, hQ281, l281, y281, z281⟩, st281⟩ := Jvm.LawKit.callS X279 hx (y := yn42) hown0 (mvT hZ0 (w3 hw)) (mvT hZ0 (w4 hw)) (mvT hZ0 (w5 hw)) (mvT hZ0 (w6 hw)) (by decide) (backOf (W := 2) (rm_safe l Z a0 hw [] c3 h279 n0 (Nat.le_trans Z0 (Nat.le_trans (Nat.le_trans (Nat.le_trans (Nat.le_trans (Nat.le_trans (Nat.le_trans (Nat.le_trans K262.1 K264.1) K266.1) K268.1) K270.1) K273.1) K276.1) K279.1)) (by rw [h_c3]; exact (own_i2cr _).1) (by rw [h_c3]; exact (own_i2cr _).2)) hZ0 (w6 hw) (w5 hw) (by decide) (by decide)) (g := (mkF m 140 #[.val (.int a), .val (.int b_), .val (.int n), .val (.int m_), .val (.int (3 : Int32)), .val (.int mx), .val (.int c0), .val (.int c1), .val (.int c2), .val (.int c3), .val (.ref b262), .val (.ref b270), .unset, .unset, .unset, .unset] [(.int c3), (.int (3 : Int32)), (.ref b270)])) rfl (by rw [hml]; rfl) (argsL := [(.int c3)]) (rest := [(.int (3 : Int32)), (.ref b270)]) (lenOf pd__28_C_29_C rfl) rfl (by show 2 * 0 + _ ≤ _; exact Nat.le_of_eq rfl) (hb hby at_140) (fun _ _ => ⟨rfl, e279, (Nat.le_of_ble_eq_true rfl), (Nat.le_of_ble_eq_true rfl)⟩)
    dsimp only [Pt.U, Pt.locs, Pt.cells, Pt.slots] at X281 l281 y281 z281 st281 hQ281
    subst l281 y281 z281
    obtain ⟨rfl, Nq281, eq281⟩ := hQ281
    have N281 := Fr.app N279 Nq281
    obtain ⟨cl282, Ar282, q282, S282, M282, H282, F282g⟩ := id J279
    have hin282 : ¬ ((3 : Int32) < 0 ∨ cl282.slots.size ≤ ((3 : Int32)).toNatClampNeg) := inb_of S282 ⟨by decide, by decide⟩
    obtain ⟨T282, h282, X282, e282, Wr282, st282⟩ := stC X281 hx hZ0 eq281 Ar282 (j := (3 : Int32)) hin282 (g := (mkF m 143 #[.val (.int a), .val (.int b_), .val (.int n), .val (.int m_), .val (.int (3 : Int32)), .val (.int mx), .val (.int c0), .val (.int c1), .val (.int c2), .val (.int c3), .val (.ref b262), .val (.ref b270), .unset, .unset, .unset, .unset] [(.int (pr c3)), (.int (3 : Int32)), (.ref b270)])) rfl rfl (hb hby at_143)
    have G282 : Arv Z h282 b270 k270 .char (4 : Int32) [(.int (pr c0)), (.int (pr c1)), (.int (pr c2)), (.int (nar .char (pr c3)))] (.int (0 : Int32)) := Arv.set Ar282 q282 S282 M282 H282 F282g (fits_nar_char _) Wr282 3 rfl (Nat.le_of_ble_eq_true rfl)
    have K282 := Keep.of_wr Wr282
    have N282 := Fr.snoc X282 N281 (Nat.le_trans Z0 (Nat.le_trans (Nat.le_trans (Nat.le_trans (Nat.le_trans K262.1 K264.1) K266.1) K268.1) (Nat.le_of_eq g270.symm)))
    have R283 : CHr Z EL_1 s.vm h0 s.vm h282 := R280.trans (CHr.keep K282 (sfS (Safe.arv hZ0.alike J279 (by intro q; cases q)) sf0) R280.1)
    have J282 : Arv Z h282 b270 k270 .char (4 : Int32) [(.int (pr c0)), (.int (pr c1)), (.int (pr c2)), (.int (pr c3))] (.int (0 : Int32)) := by rw [own_narpr] at G282; exact G282
    obtain ⟨T284, h284, X284, e284, E284, A284, D284, U284, st284⟩ := newO X282 hx hZ0 hown0 (w7 hw) (w8 hw) (w9 hw) e282 (g := (mkF m 144 #[.val (.int a), .val (.int b_), .val (.int n), .val (.int m_), .val (.int (3 : Int32)), .val (.int mx), .val (.int c0), .val (.int c1), .val (.int c2), .val (.int c3), .val (.ref b262), .val (.ref b270), .unset, .unset, .unset, .unset] [])) rfl (hb hby at_144) (by decide) (by decide)
    obtain ⟨b284, g284⟩ : ∃ z, z = h282.size := ⟨_, rfl⟩
    rw [← g284] at A284 D284 U284 st284
    have K284 := (Keep.refl h282 []).ext E284
    have R285 : CHr Z EL_1 s.vm h0 s.vm h284 := R283.trans (CHr.keep K284 sf0 R283.1)
    have G284_coder : Fld Z h284 b284 "java/lang/String" "coder" "B" (.int (0 : Int32)) := D284 (Or.inr (w33 hw)) (ty := .byte) (by decide)
    have G284_value : Fld Z h284 b284 "java/lang/String" "value" "[B" .null := D284 (Or.inr (w35 hw)) (ty := (.array .byte)) (by decide)
    have hokc : ∀ x ∈ [c0, c1, c2], ¬ (x < (0 : Int32)) ∧ ¬ ((65535 : Int32) < x) := by
      intro x hx
      simp only [List.mem_cons, List.not_mem_nil, or_false] at hx
      rcases hx with hx | hx | hx
      · rw [hx, h_c0]; exact own_i2cr _
      · rw [hx, h_c1]; exact own_i2cr _
      · rw [hx, h_c2]; exact own_i2cr _
    have F286 : Arv Z h284 b262 k262 .char (3 : Int32) [(.int c0), (.int c1), (.int c2)] (.int (0 : Int32)) := ((((((J268.keep K270 nin0).keep K273 (ninS (Nat.ne_of_lt (Nat.lt_of_lt_of_le (Nat.lt_of_lt_of_le G262.lt (Nat.le_trans (Nat.le_trans K264.1 K266.1) K268.1)) (Nat.le_of_eq g270.symm))) nin0)).keep K276 (ninS (Nat.ne_of_lt (Nat.lt_of_lt_of_le (Nat.lt_of_lt_of_le G262.lt (Nat.le_trans (Nat.le_trans K264.1 K266.1) K268.1)) (Nat.le_of_eq g270.symm))) nin0)).keep K279 (ninS (Nat.ne_of_lt (Nat.lt_of_lt_of_le (Nat.lt_of_lt_of_le G262.lt (Nat.le_trans (Nat.le_trans K264.1 K266.1) K268.1)) (Nat.le_of_eq g270.symm))) nin0)).keep K282 (ninS (Nat.ne_of_lt (Nat.lt_of_lt_of_le (Nat.lt_of_lt_of_le G262.lt (Nat.le_trans (Nat.le_trans K264.1 K266.1) K268.1)) (Nat.le_of_eq g270.symm))) nin0)).keep K284 nin0)
    have O287 : Old Z n0 h284 := ((((((((((O0.keep K262 all0).keep K264 (allS (Nat.le_trans Z0 (Nat.le_of_eq g262.symm)) all0)).keep K266 (allS (Nat.le_trans Z0 (Nat.le_of_eq g262.symm)) all0)).keep K268 (allS (Nat.le_trans Z0 (Nat.le_of_eq g262.symm)) all0)).keep K270 all0).keep K273 (allS (Nat.le_trans Z0 (Nat.le_trans (Nat.le_trans (Nat.le_trans (Nat.le_trans K262.1 K264.1) K266.1) K268.1) (Nat.le_of_eq g270.symm))) all0)).keep K276 (allS (Nat.le_trans Z0 (Nat.le_trans (Nat.le_trans (Nat.le_trans (Nat.le_trans K262.1 K264.1) K266.1) K268.1) (Nat.le_of_eq g270.symm))) all0)).keep K279 (allS (Nat.le_trans Z0 (Nat.le_trans (Nat.le_trans (Nat.le_trans (Nat.le_trans K262.1 K264.1) K266.1) K268.1) (Nat.le_of_eq g270.symm))) all0)).keep K282 (allS (Nat.le_trans Z0 (Nat.le_trans (Nat.le_trans (Nat.le_trans (Nat.le_trans K262.1 K264.1) K266.1) K268.1) (Nat.le_of_eq g270.symm))) all0)).keep K284 all0)
    obtain ⟨_, _, ⟨T288, L288, k288, n288⟩, -, X288, ⟨Lc288, hQ288, l288, y288, z288⟩, st288⟩ := X284.specialBack hx (y := yn19) rfl hown0 (mvT hZ0 (w10 hw)) (mvT hZ0 (w11 hw)) (mvT hZ0 (w12 hw)) (by decide) (backOf (W := 1) (rm_sinit l Z a0 hw [] b284 b262 k262 [c0, c1, c2] cS h284 n0 (Nat.le_trans Z0 (Nat.le_trans (Nat.le_trans (Nat.le_trans (Nat.le_trans (Nat.le_trans (Nat.le_trans (Nat.le_trans (Nat.le_trans (Nat.le_trans K262.1 K264.1) K266.1) K268.1) K270.1) K273.1) K276.1) K279.1) K282.1) K284.1)) O287 S_cs hcS S_ad S_hi S_lo A284 G284_value G284_coder (Nat.le_trans Z0 (Nat.le_trans (Nat.le_trans (Nat.le_trans (Nat.le_trans (Nat.le_trans (Nat.le_trans (Nat.le_trans (Nat.le_trans (Nat.le_trans K262.1 K264.1) K266.1) K268.1) K270.1) K273.1) K276.1) K279.1) K282.1) (Nat.le_of_eq g284.symm))) F286 ⟨hokc, (Nat.le_of_ble_eq_true rfl)⟩ (Nat.le_of_ble_eq_true rfl) (Nat.le_of_ble_eq_true rfl) (Ne.symm (Nat.ne_of_lt (Nat.lt_of_lt_of_le (Nat.lt_of_lt_of_le G262.lt (Nat.le_trans (Nat.le_trans (Nat.le_trans (Nat.le_trans (Nat.le_trans (Nat.le_trans (Nat.le_trans K264.1 K266.1) K268.1) K270.1) K273.1) K276.1) K279.1) K282.1)) (Nat.le_of_eq g284.symm))))) hZ0 (w12 hw) (w9 hw) (by decide) (by decide)) (g := (mkF m 150 #[.val (.int a), .val (.int b_), .val (.int n), .val (.int m_), .val (.int (3 : Int32)), .val (.int mx), .val (.int c0), .val (.int c1), .val (.int c2), .val (.int c3), .val (.ref b262), .val (.ref b270), .unset, .unset, .unset, .unset] [(.ref b262), (.ref b284), (.ref b284)])) rfl (by rw [hml]; rfl) (Steps.refl _) (a := b284) (argsL := [(.ref b262)]) (rest := [(.ref b284)]) (lenOf pd__28__5b_C_29_V rfl) rfl (by show 2 * 0 + _ ≤ _; exact Nat.le_of_eq rfl) (hb hby at_150) (fun _ _ => ⟨rfl, e284, (Nat.le_of_ble_eq_true rfl), (Nat.le_of_ble_eq_true rfl)⟩)
    dsimp only [Pt.U, Pt.locs, Pt.cells, Pt.slots] at X288 l288 y288 z288 st288 hQ288
    subst l288 y288 z288
    obtain ⟨t_289, kb_290, rfl, Nq288, K288, P288_0, P288_1⟩ := hQ288
    have N288 := Fr.app N282 Nq288
    have Sf291 : Safe Z EL_1 s.vm h284 b284 := (Safe.keep K284 sf0 R283.1 (Safe.new (Nat.le_of_eq g284.symm)))
    have R292 : CHr Z EL_1 s.vm h0 s.vm T288.heap := R285.trans (CHr.keep K288 (sfS Sf291 sf0) R285.1)
    obtain ⟨kk, hkl, hmin, hkept, hcut⟩ := own_kk [c0, c1, c2].length mx hmx (Nat.le_of_ble_eq_true rfl)
    have hes : ∀ i, i < [c0, c1, c2].length → ([pr c0, pr c1, pr c2, pr c3] : List Int32).getD i 0 = pr (([c0, c1, c2] : List Int32).getD i 0) := fun i hi => match i, hi with | 0, _ => rfl | 1, _ => rfl | 2, _ => rfl | n_ + 3, h => absurd h (by simp only [List.length_cons, List.length_nil]; omega)
    have O293 : Old Z n0 T288.heap := (O287.keep K288 (allS (Nat.le_trans Z0 (Nat.le_trans (Nat.le_trans (Nat.le_trans (Nat.le_trans (Nat.le_trans (Nat.le_trans (Nat.le_trans (Nat.le_trans (Nat.le_trans K262.1 K264.1) K266.1) K268.1) K270.1) K273.1) K276.1) K279.1) K282.1) (Nat.le_of_eq g284.symm))) all0))
    obtain ⟨_, _, ⟨T294, L294, k294, n294⟩, -, X294', hS294', hgr294, ⟨Lc294, hQ294, l294, y294, z294, A294⟩, st294⟩ := callSS X288 hx (y := yn44) hown0 (mvT hZ0 (w36 hw)) (mvT hZ0 (w37 hw)) (mvT hZ0 (w38 hw)) (mvT hZ0 (w39 hw)) (by decide) (backOfSH (W := 0) (rm_printable l Z a0 hw [] b284 mx kk t_289 kb_290 [c0, c1, c2] cS fm T288.heap n0 (Nat.le_trans Z0 (Nat.le_trans (Nat.le_trans (Nat.le_trans (Nat.le_trans (Nat.le_trans (Nat.le_trans (Nat.le_trans (Nat.le_trans (Nat.le_trans (Nat.le_trans K262.1 K264.1) K266.1) K268.1) K270.1) K273.1) K276.1) K279.1) K282.1) K284.1) K288.1)) O293 S_cs hcS S_fm hfm S_ad S_hi S_lo P288_1 hkl (Nat.le_of_ble_eq_true rfl) hmin) hZ0 (w39 hw) (w38 hw) (by decide) (by decide) hEL R292.1) (g := (mkF m 155 #[.val (.int a), .val (.int b_), .val (.int n), .val (.int m_), .val (.int (3 : Int32)), .val (.int mx), .val (.int c0), .val (.int c1), .val (.int c2), .val (.int c3), .val (.ref b262), .val (.ref b270), .unset, .unset, .unset, .unset] [(.int mx), (.ref b284)])) rfl (by rw [hml]; rfl) (argsL := [(.ref b284), (.int mx)]) (rest := []) (lenOf pd__28_Ljava_2f_lang_2f_String_3b_I_29_Ljava_2f_lang_2f_String_3b_ rfl) rfl (by show 2 * 0 + _ ≤ _; exact Nat.le_of_eq rfl) (hb hby at_155) (fun _ _ => ⟨rfl, rfl, (Nat.le_of_ble_eq_true rfl), (Nat.le_of_ble_eq_true rfl)⟩)
    dsimp only [Pt.U, Pt.locs, Pt.cells, Pt.slots] at X294' hS294' hgr294 l294 y294 z294 st294 hQ294 A294
    subst l294 y294 z294
    obtain ⟨X294, hS294, hZ294, hown294⟩ := rebS hS0 (Nat.le_trans hk0 (Nat.le_trans (Nat.le_trans (Nat.le_trans (Nat.le_trans (Nat.le_trans (Nat.le_trans (Nat.le_trans (Nat.le_trans (Nat.le_trans (Nat.le_trans K262.1 K264.1) K266.1) K268.1) K270.1) K273.1) K276.1) K279.1) K282.1) K284.1) K288.1)) X294' hS294' hgr294 hZ0 hown0
    obtain ⟨r_295, t2_296, kb2_297, rfl, Nq294, K294, P294_0, P294_1, P294_2⟩ := hQ294
    have N294 := Fr.app N288 Nq294
    have R298 : CHr Z EL_1 s.vm h0 T294.vm T294.heap := R292.trans A294
    have hk294 : T294.heap.size ≤ T294.heap.size := Nat.le_refl _
    have W299 : ∀ zQ, SS p e below T294 m 164 #[.val (.int a), .val (.int b_), .val (.int n), .val (.int m_), .val (.int (3 : Int32)), .val (.int mx), .val (.int c0), .val (.int c1), .val (.int c2), .val (.int c3), .val (.ref b262), .val (.ref b270), .val (.ref r_295), .unset, .unset, .unset] [(.int mx), (.int (3 : Int32))] zQ → Steps p.tables e below (s₁.setTop (entryFrame m #[(.int a), (.int b_), (.int n), (.int m_)] maxLocals)) zQ := by
      intro tt kt
      refine W104 tt ?_
      refine XS.iload X0.here hx rfl (hb hby at_50) rfl ?_
      refine st262 _ ?_
      refine XS.astore X262.here hx rfl (hb hby at_54) rfl rfl (l' := #[.val (.int a), .val (.int b_), .val (.int n), .val (.int m_), .val (.int (3 : Int32)), .val (.int mx), .val (.int c0), .val (.int c1), .val (.int c2), .val (.int c3), .val (.ref b262), .unset, .unset, .unset, .unset, .unset]) rfl ?_
      refine XS.iload X262.here hx rfl (hb hby at_56) rfl ?_
      refine XS.ifNo X262.here hx rfl (hb hby at_58) rfl ((if0 _ _).trans (tlt (by decide)).2.2.2) ?_
      refine XS.aload X262.here hx rfl (hb hby at_61) rfl rfl ?_
      refine XS.iconst X262.here hx rfl (hb hby at_63) ?_
      refine XS.iload X262.here hx rfl (hb hby at_64) rfl ?_
      show SS p e below T262 m 66 #[.val (.int a), .val (.int b_), .val (.int n), .val (.int m_), .val (.int (3 : Int32)), .val (.int mx), .val (.int c0), .val (.int c1), .val (.int c2), .val (.int c3), .val (.ref b262), .unset, .unset, .unset, .unset, .unset] [(.int c0), (.int (0 : Int32)), (.ref b262)] _
      refine st264 _ ?_
      refine XS.iload X264.here hx rfl (hb hby at_67) rfl ?_
      refine XS.iconst X264.here hx rfl (hb hby at_69) ?_
      refine XS.icmpNo X264.here hx rfl (hb hby at_70) rfl (tlt (by decide)).2.2.2 ?_
      refine XS.aload X264.here hx rfl (hb hby at_73) rfl rfl ?_
      refine XS.iconst X264.here hx rfl (hb hby at_75) ?_
      refine XS.iload X264.here hx rfl (hb hby at_76) rfl ?_
      refine st266 _ ?_
      show SS p e below T266 m 79 #[.val (.int a), .val (.int b_), .val (.int n), .val (.int m_), .val (.int (3 : Int32)), .val (.int mx), .val (.int c0), .val (.int c1), .val (.int c2), .val (.int c3), .val (.ref b262), .unset, .unset, .unset, .unset, .unset] [] _
      refine XS.iload X266.here hx rfl (hb hby at_79) rfl ?_
      refine XS.iconst X266.here hx rfl (hb hby at_81) ?_
      refine XS.icmpNo X266.here hx rfl (hb hby at_82) rfl (tlt (by decide)).2.2.2 ?_
      refine XS.aload X266.here hx rfl (hb hby at_85) rfl rfl ?_
      refine XS.iconst X266.here hx rfl (hb hby at_87) ?_
      refine XS.iload X266.here hx rfl (hb hby at_88) rfl ?_
      refine st268 _ ?_
      refine XS.iload X268.here hx rfl (hb hby at_91) rfl ?_
      show SS p e below T268 m 93 #[.val (.int a), .val (.int b_), .val (.int n), .val (.int m_), .val (.int (3 : Int32)), .val (.int mx), .val (.int c0), .val (.int c1), .val (.int c2), .val (.int c3), .val (.ref b262), .unset, .unset, .unset, .unset, .unset] [(.int (3 : Int32))] _
      refine XS.iconst X268.here hx rfl (hb hby at_93) ?_
      refine XS.icmpYes X268.here hx rfl (pc0 := 94) (pc' := 103) rfl (hb hby at_94) rfl (flt (by decide)).2.2.2 (by decide) (by decide) ?_
      refine XS.iconst X268.here hx rfl (hb hby at_103) ?_
      refine st270 _ ?_
      refine XS.astore X270.here hx rfl (hb hby at_106) rfl rfl (l' := #[.val (.int a), .val (.int b_), .val (.int n), .val (.int m_), .val (.int (3 : Int32)), .val (.int mx), .val (.int c0), .val (.int c1), .val (.int c2), .val (.int c3), .val (.ref b262), .val (.ref b270), .unset, .unset, .unset, .unset]) rfl ?_
      refine XS.aload X270.here hx rfl (hb hby at_108) rfl rfl ?_
      refine XS.iconst X270.here hx rfl (hb hby at_110) ?_
      refine XS.iload X270.here hx rfl (hb hby at_111) rfl ?_
      show SS p e below T270 m 113 #[.val (.int a), .val (.int b_), .val (.int n), .val (.int m_), .val (.int (3 : Int32)), .val (.int mx), .val (.int c0), .val (.int c1), .val (.int c2), .val (.int c3), .val (.ref b262), .val (.ref b270), .unset, .unset, .unset, .unset] [(.int c0), (.int (0 : Int32)), (.ref b270)] _
      refine st272 _ ?_
      refine st273 _ ?_
      refine XS.aload X273.here hx rfl (hb hby at_117) rfl rfl ?_
      refine XS.iconst X273.here hx rfl (hb hby at_119) ?_
      refine XS.iload X273.here hx rfl (hb hby at_120) rfl ?_
      refine st275 _ ?_
      refine st276 _ ?_
      refine XS.aload X276.here hx rfl (hb hby at_126) rfl rfl ?_
      show SS p e below T276 m 128 #[.val (.int a), .val (.int b_), .val (.int n), .val (.int m_), .val (.int (3 : Int32)), .val (.int mx), .val (.int c0), .val (.int c1), .val (.int c2), .val (.int c3), .val (.ref b262), .val (.ref b270), .unset, .unset, .unset, .unset] [(.ref b270)] _
      refine XS.iconst X276.here hx rfl (hb hby at_128) ?_
      refine XS.iload X276.here hx rfl (hb hby at_129) rfl ?_
      refine st278 _ ?_
      refine st279 _ ?_
      refine XS.aload X279.here hx rfl (hb hby at_135) rfl rfl ?_
      refine XS.iconst X279.here hx rfl (hb hby at_137) ?_
      refine XS.iload X279.here hx rfl (hb hby at_138) rfl ?_
      refine st281 _ ?_
      show SS p e below T281 m 143 #[.val (.int a), .val (.int b_), .val (.int n), .val (.int m_), .val (.int (3 : Int32)), .val (.int mx), .val (.int c0), .val (.int c1), .val (.int c2), .val (.int c3), .val (.ref b262), .val (.ref b270), .unset, .unset, .unset, .unset] [(.int (pr c3)), (.int (3 : Int32)), (.ref b270)] _
      refine st282 _ ?_
      refine st284 _ ?_
      refine XS.dup X284.here hx rfl (hb hby at_147) rfl rfl ?_
      refine XS.aload X284.here hx rfl (hb hby at_148) rfl rfl ?_
      refine st288.trans ?_
      refine XS.iload X288.here hx rfl (hb hby at_153) rfl ?_
      refine st294.trans ?_
      refine XS.astore X294.here hx rfl (hb hby at_158) rfl rfl (l' := #[.val (.int a), .val (.int b_), .val (.int n), .val (.int m_), .val (.int (3 : Int32)), .val (.int mx), .val (.int c0), .val (.int c1), .val (.int c2), .val (.int c3), .val (.ref b262), .val (.ref b270), .val (.ref r_295), .unset, .unset, .unset]) rfl ?_
      show SS p e below T294 m 160 #[.val (.int a), .val (.int b_), .val (.int n), .val (.int m_), .val (.int (3 : Int32)), .val (.int mx), .val (.int c0), .val (.int c1), .val (.int c2), .val (.int c3), .val (.ref b262), .val (.ref b270), .val (.ref r_295), .unset, .unset, .unset] [] _
      refine XS.iload X294.here hx rfl (hb hby at_160) rfl ?_
      refine XS.iload X294.here hx rfl (hb hby at_162) rfl ?_
      exact kt
    have W301 : ∀ zQ, SS p e below T294 m 174 #[.val (.int a), .val (.int b_), .val (.int n), .val (.int m_), .val (.int (3 : Int32)), .val (.int mx), .val (.int c0), .val (.int c1), .val (.int c2), .val (.int c3), .val (.ref b262), .val (.ref b270), .val (.ref r_295), .unset, .unset, .unset] [(.int (if (3 : Int32) < mx then (3 : Int32) else mx))] zQ → Steps p.tables e below (s₁.setTop (entryFrame m #[(.int a), (.int b_), (.int n), (.int m_)] maxLocals)) zQ := by
      intro tt kt
      refine W299 tt ?_
      by_cases hj300 : (3 : Int32) < mx
      ·
        refine XS.icmpNo X294.here hx rfl (hb hby at_164) rfl (tlt hj300).2.1 ?_
        refine XS.iload X294.here hx rfl (hb hby at_167) rfl ?_
        refine XS.goto X294.here hx rfl (pc0 := 169) (pc' := 174) rfl (hb hby at_169) (by decide) (by decide) ?_
        exact castTop (by first | rfl | (simp only [if_pos hj300]; first | done | rfl)) kt
      ·
        refine XS.icmpYes X294.here hx rfl (pc0 := 164) (pc' := 172) rfl (hb hby at_164) rfl (flt hj300).2.1 (by decide) (by decide) ?_
        refine XS.iload X294.here hx rfl (hb hby at_172) rfl ?_
        exact castTop (by first | rfl | (simp only [if_neg hj300]; first | done | rfl)) kt
    have W302 : ∀ zQ, SS p e below T294 m 180 #[.val (.int a), .val (.int b_), .val (.int n), .val (.int m_), .val (.int (3 : Int32)), .val (.int mx), .val (.int c0), .val (.int c1), .val (.int c2), .val (.int c3), .val (.ref b262), .val (.ref b270), .val (.ref r_295), .val (.int (Int32.ofNat kk)), .unset, .unset] [(.int mx), (.int (3 : Int32))] zQ → Steps p.tables e below (s₁.setTop (entryFrame m #[(.int a), (.int b_), (.int n), (.int m_)] maxLocals)) zQ := by
      intro tt kt
      refine W301 tt ?_
      rw [show (if (3 : Int32) < mx then (3 : Int32) else mx) = (Int32.ofNat kk) from hkept]
      refine XS.istore X294.here hx rfl (hb hby at_174) rfl (l' := #[.val (.int a), .val (.int b_), .val (.int n), .val (.int m_), .val (.int (3 : Int32)), .val (.int mx), .val (.int c0), .val (.int c1), .val (.int c2), .val (.int c3), .val (.ref b262), .val (.ref b270), .val (.ref r_295), .val (.int (Int32.ofNat kk)), .unset, .unset]) rfl ?_
      refine XS.iload X294.here hx rfl (hb hby at_176) rfl ?_
      refine XS.iload X294.here hx rfl (hb hby at_178) rfl ?_
      exact kt
    have W304 : ∀ zQ, SS p e below T294 m 188 #[.val (.int a), .val (.int b_), .val (.int n), .val (.int m_), .val (.int (3 : Int32)), .val (.int mx), .val (.int c0), .val (.int c1), .val (.int c2), .val (.int c3), .val (.ref b262), .val (.ref b270), .val (.ref r_295), .val (.int (Int32.ofNat kk)), .unset, .unset] [(.int (if mx < (3 : Int32) then (1 : Int32) else (0 : Int32)))] zQ → Steps p.tables e below (s₁.setTop (entryFrame m #[(.int a), (.int b_), (.int n), (.int m_)] maxLocals)) zQ := by
      intro tt kt
      refine W302 tt ?_
      by_cases hj303 : mx < (3 : Int32)
      ·
        refine XS.icmpNo X294.here hx rfl (hb hby at_180) rfl (tlt hj303).2.2.2 ?_
        refine XS.iconst X294.here hx rfl (hb hby at_183) ?_
        refine XS.goto X294.here hx rfl (pc0 := 184) (pc' := 188) rfl (hb hby at_184) (by decide) (by decide) ?_
        exact castTop (by first | rfl | (simp only [if_pos hj303]; first | done | rfl)) kt
      ·
        refine XS.icmpYes X294.here hx rfl (pc0 := 180) (pc' := 187) rfl (hb hby at_180) rfl (flt hj303).2.2.2 (by decide) (by decide) ?_
        refine XS.iconst X294.here hx rfl (hb hby at_187) ?_
        exact castTop (by first | rfl | (simp only [if_neg hj303]; first | done | rfl)) kt
    have W305 : ∀ zQ, SS p e below T294 m 194 #[.val (.int a), .val (.int b_), .val (.int n), .val (.int m_), .val (.int (3 : Int32)), .val (.int mx), .val (.int c0), .val (.int c1), .val (.int c2), .val (.int c3), .val (.ref b262), .val (.ref b270), .val (.ref r_295), .val (.int (Int32.ofNat kk)), .val (.int (if mx < (3 : Int32) then (1 : Int32) else (0 : Int32))), .unset] [(.int (if mx < (3 : Int32) then (1 : Int32) else (0 : Int32))), (.int (Int32.ofNat kk))] zQ → Steps p.tables e below (s₁.setTop (entryFrame m #[(.int a), (.int b_), (.int n), (.int m_)] maxLocals)) zQ := by
      intro tt kt
      refine W304 tt ?_
      refine XS.istore X294.here hx rfl (hb hby at_188) rfl (l' := #[.val (.int a), .val (.int b_), .val (.int n), .val (.int m_), .val (.int (3 : Int32)), .val (.int mx), .val (.int c0), .val (.int c1), .val (.int c2), .val (.int c3), .val (.ref b262), .val (.ref b270), .val (.ref r_295), .val (.int (Int32.ofNat kk)), .val (.int (if mx < (3 : Int32) then (1 : Int32) else (0 : Int32))), .unset]) rfl ?_
      refine XS.iload X294.here hx rfl (hb hby at_190) rfl ?_
      refine XS.iload X294.here hx rfl (hb hby at_192) rfl ?_
      exact kt
    have W307 : ∀ zQ, SS p e below T294 m 202 #[.val (.int a), .val (.int b_), .val (.int n), .val (.int m_), .val (.int (3 : Int32)), .val (.int mx), .val (.int c0), .val (.int c1), .val (.int c2), .val (.int c3), .val (.ref b262), .val (.ref b270), .val (.ref r_295), .val (.int (Int32.ofNat kk)), .val (.int (if mx < (3 : Int32) then (1 : Int32) else (0 : Int32))), .unset] [(.int (if (if mx < (3 : Int32) then (1 : Int32) else (0 : Int32)) = (0 : Int32) then (0 : Int32) else (3 : Int32))), (.int (Int32.ofNat kk))] zQ → Steps p.tables e below (s₁.setTop (entryFrame m #[(.int a), (.int b_), (.int n), (.int m_)] maxLocals)) zQ := by
      intro tt kt
      refine W305 tt ?_
      by_cases hj306 : (if mx < (3 : Int32) then (1 : Int32) else (0 : Int32)) = (0 : Int32)
      ·
        refine XS.ifYes X294.here hx rfl (pc0 := 194) (pc' := 201) rfl (hb hby at_194) rfl ((if0 _ _).trans (teq hj306).1) (by decide) (by decide) ?_
        refine XS.iconst X294.here hx rfl (hb hby at_201) ?_
        exact castTop (by first | rfl | (simp only [if_pos hj306]; first | done | rfl)) kt
      ·
        refine XS.ifNo X294.here hx rfl (hb hby at_194) rfl ((if0 _ _).trans (feq hj306).1) ?_
        refine XS.iconst X294.here hx rfl (hb hby at_197) ?_
        refine XS.goto X294.here hx rfl (pc0 := 198) (pc' := 202) rfl (hb hby at_198) (by decide) (by decide) ?_
        exact castTop (by first | rfl | (simp only [if_neg hj306]; first | done | rfl)) kt
    have O308 : Old Z n0 T294.heap := (O293.keep K294 all0)
    obtain ⟨cq309, kq309, q309a, q309b, q309c⟩ := isOf hZ294 rfl P294_2.1
    obtain ⟨_, _, ⟨T309, L309, k309, n309⟩, -, X309, ⟨Lc309, hQ309, l309, y309, z309⟩, st309⟩ := X294.virtualBack hx (y := yn10) (z := yn10) hown294 (mvT hZ294 (w191 hw)) (mvT hZ294 (w41 hw)) (notFace_of_selects (args := #[]) (mvT hZ294 (w43 hw))) (mvT hZ294 (w43 hw)) (mvT hZ294 (w42 hw)) (by decide) (backOf (W := 0) (rm_length l Z a0 hw [] r_295 t2_296 kb2_297 (pres [c0, c1, c2] kk) cS T294.heap n0 (Nat.le_trans Z0 (Nat.le_trans (Nat.le_trans (Nat.le_trans (Nat.le_trans (Nat.le_trans (Nat.le_trans (Nat.le_trans (Nat.le_trans (Nat.le_trans (Nat.le_trans (Nat.le_trans K262.1 K264.1) K266.1) K268.1) K270.1) K273.1) K276.1) K279.1) K282.1) K284.1) K288.1) K294.1)) O308 S_cs hcS P294_2) hZ294 (w44 hw) (w9 hw) (by decide) (by decide)) q309a q309c (g := (mkF m 207 #[.val (.int a), .val (.int b_), .val (.int n), .val (.int m_), .val (.int (3 : Int32)), .val (.int mx), .val (.int c0), .val (.int c1), .val (.int c2), .val (.int c3), .val (.ref b262), .val (.ref b270), .val (.ref r_295), .val (.int (Int32.ofNat kk)), .val (.int (if mx < (3 : Int32) then (1 : Int32) else (0 : Int32))), .val (.int (Int32.ofNat (pres [c0, c1, c2] kk).length))] [(.ref r_295)])) rfl (by rw [hml]; rfl) (Steps.refl _) (argsL := []) (rest := []) (lenOf pd__28__29_I rfl) rfl (by show 2 * 0 + _ ≤ _; exact Nat.le_of_eq rfl) (hb hby at_207) (fun _ _ => ⟨rfl, rfl, (Nat.le_of_ble_eq_true rfl), (Nat.le_of_ble_eq_true rfl)⟩)
    dsimp only [Pt.U, Pt.locs, Pt.cells, Pt.slots] at X309 l309 y309 z309 st309 hQ309
    subst l309 y309 z309
    obtain ⟨rfl, Nq309, eq309⟩ := hQ309
    have N309 := Fr.app N294 Nq309
    have F310 : Arv Z T294.heap b270 k270 .char (4 : Int32) [(.int (pr c0)), (.int (pr c1)), (.int (pr c2)), (.int (pr c3))] (.int (0 : Int32)) := (((J282.keep K284 nin0).keep K288 (ninS (Nat.ne_of_lt (Nat.lt_of_lt_of_le (Nat.lt_of_lt_of_le G270.lt (Nat.le_trans (Nat.le_trans (Nat.le_trans K273.1 K276.1) K279.1) K282.1)) (Nat.le_of_eq g284.symm))) nin0)).keep K294 nin0)
    obtain ⟨_, _, ⟨T311, L311, k311, n311⟩, -, X311, ⟨Lc311, hQ311, l311, y311, z311⟩, st311⟩ := Jvm.LawKit.callS X309 hx (y := yn43) hown294 (mvT hZ294 (w192 hw)) (mvT hZ294 (w193 hw)) (mvT hZ294 (w5 hw)) (mvT hZ294 (w194 hw)) (by decide) (backOf (W := 0) (rm_okay l Z a0 hw [] r_295 b270 0 kk (pres [c0, c1, c2] kk).length k270 [pr c0, pr c1, pr c2, pr c3] t2_296 kb2_297 (pres [c0, c1, c2] kk) cS fm T294.heap n0 (Nat.le_trans Z0 (Nat.le_trans (Nat.le_trans (Nat.le_trans (Nat.le_trans (Nat.le_trans (Nat.le_trans (Nat.le_trans (Nat.le_trans (Nat.le_trans (Nat.le_trans (Nat.le_trans K262.1 K264.1) K266.1) K268.1) K270.1) K273.1) K276.1) K279.1) K282.1) K284.1) K288.1) K294.1)) O308 S_cs hcS S_fm hfm S_ad S_hi S_lo P294_2 F310 rfl (pres_at hkl hes) (Nat.le_trans hkl (Nat.le_of_ble_eq_true rfl)) (Nat.le_of_ble_eq_true rfl) (Nat.le_of_ble_eq_true rfl)) hZ294 (w194 hw) (w5 hw) (by decide) (by decide)) (g := (mkF m 226 #[.val (.int a), .val (.int b_), .val (.int n), .val (.int m_), .val (.int (3 : Int32)), .val (.int mx), .val (.int c0), .val (.int c1), .val (.int c2), .val (.int c3), .val (.ref b262), .val (.ref b270), .val (.ref r_295), .val (.int (Int32.ofNat kk)), .val (.int (if mx < (3 : Int32) then (1 : Int32) else (0 : Int32))), .val (.int (Int32.ofNat (pres [c0, c1, c2] kk).length))] [(.ref b270), (.int (Int32.ofNat (pres [c0, c1, c2] kk).length)), (.int (Int32.ofNat kk)), (.int (0 : Int32)), (.ref r_295)])) rfl (by rw [hml]; rfl) (argsL := [(.ref r_295), (.int (0 : Int32)), (.int (Int32.ofNat kk)), (.int (Int32.ofNat (pres [c0, c1, c2] kk).length)), (.ref b270)]) (rest := []) (lenOf pd__28_Ljava_2f_lang_2f_String_3b_III_5b_C_29_Z rfl) rfl (by show 2 * 0 + _ ≤ _; exact Nat.le_of_eq rfl) (hb hby at_226) (fun _ _ => ⟨rfl, eq309, (Nat.le_of_ble_eq_true rfl), (Nat.le_of_ble_eq_true rfl)⟩)
    dsimp only [Pt.U, Pt.locs, Pt.cells, Pt.slots] at X311 l311 y311 z311 st311 hQ311
    subst l311 y311 z311
    obtain ⟨rfl, Nq311, eq311⟩ := hQ311
    have N311 := Fr.app N309 Nq311
    obtain ⟨_, _, ⟨T312, L312, k312, n312⟩, -, X312, ⟨Lc312, hQ312, l312, y312, z312⟩, st312⟩ := Jvm.LawKit.callS X311 hx (y := yn43) hown294 (mvT hZ294 (w192 hw)) (mvT hZ294 (w193 hw)) (mvT hZ294 (w5 hw)) (mvT hZ294 (w194 hw)) (by decide) (backOf (W := 0) (rm_okay l Z a0 hw [] r_295 b270 1 kk (pres [c0, c1, c2] kk).length k270 [pr c0, pr c1, pr c2, pr c3] t2_296 kb2_297 (pres [c0, c1, c2] kk) cS fm T294.heap n0 (Nat.le_trans Z0 (Nat.le_trans (Nat.le_trans (Nat.le_trans (Nat.le_trans (Nat.le_trans (Nat.le_trans (Nat.le_trans (Nat.le_trans (Nat.le_trans (Nat.le_trans (Nat.le_trans K262.1 K264.1) K266.1) K268.1) K270.1) K273.1) K276.1) K279.1) K282.1) K284.1) K288.1) K294.1)) O308 S_cs hcS S_fm hfm S_ad S_hi S_lo P294_2 F310 rfl (pres_at hkl hes) (Nat.le_trans hkl (Nat.le_of_ble_eq_true rfl)) (Nat.le_of_ble_eq_true rfl) (Nat.le_of_ble_eq_true rfl)) hZ294 (w194 hw) (w5 hw) (by decide) (by decide)) (g := (mkF m 241 #[.val (.int a), .val (.int b_), .val (.int n), .val (.int m_), .val (.int (3 : Int32)), .val (.int mx), .val (.int c0), .val (.int c1), .val (.int c2), .val (.int c3), .val (.ref b262), .val (.ref b270), .val (.ref r_295), .val (.int (Int32.ofNat kk)), .val (.int (if mx < (3 : Int32) then (1 : Int32) else (0 : Int32))), .val (.int (Int32.ofNat (pres [c0, c1, c2] kk).length))] [(.ref b270), (.int (Int32.ofNat (pres [c0, c1, c2] kk).length)), (.int (Int32.ofNat kk)), (.int (1 : Int32)), (.ref r_295)])) rfl (by rw [hml]; rfl) (argsL := [(.ref r_295), (.int (1 : Int32)), (.int (Int32.ofNat kk)), (.int (Int32.ofNat (pres [c0, c1, c2] kk).length)), (.ref b270)]) (rest := []) (lenOf pd__28_Ljava_2f_lang_2f_String_3b_III_5b_C_29_Z rfl) rfl (by show 2 * 0 + _ ≤ _; exact Nat.le_of_eq rfl) (hb hby at_241) (fun _ _ => ⟨rfl, eq311, (Nat.le_of_ble_eq_true rfl), (Nat.le_of_ble_eq_true rfl)⟩)
    dsimp only [Pt.U, Pt.locs, Pt.cells, Pt.slots] at X312 l312 y312 z312 st312 hQ312
    subst l312 y312 z312
    obtain ⟨rfl, Nq312, eq312⟩ := hQ312
    have N312 := Fr.app N311 Nq312
    obtain ⟨_, _, ⟨T313, L313, k313, n313⟩, -, X313, ⟨Lc313, hQ313, l313, y313, z313⟩, st313⟩ := Jvm.LawKit.callS X312 hx (y := yn43) hown294 (mvT hZ294 (w192 hw)) (mvT hZ294 (w193 hw)) (mvT hZ294 (w5 hw)) (mvT hZ294 (w194 hw)) (by decide) (backOf (W := 0) (rm_okay l Z a0 hw [] r_295 b270 2 kk (pres [c0, c1, c2] kk).length k270 [pr c0, pr c1, pr c2, pr c3] t2_296 kb2_297 (pres [c0, c1, c2] kk) cS fm T294.heap n0 (Nat.le_trans Z0 (Nat.le_trans (Nat.le_trans (Nat.le_trans (Nat.le_trans (Nat.le_trans (Nat.le_trans (Nat.le_trans (Nat.le_trans (Nat.le_trans (Nat.le_trans (Nat.le_trans K262.1 K264.1) K266.1) K268.1) K270.1) K273.1) K276.1) K279.1) K282.1) K284.1) K288.1) K294.1)) O308 S_cs hcS S_fm hfm S_ad S_hi S_lo P294_2 F310 rfl (pres_at hkl hes) (Nat.le_trans hkl (Nat.le_of_ble_eq_true rfl)) (Nat.le_of_ble_eq_true rfl) (Nat.le_of_ble_eq_true rfl)) hZ294 (w194 hw) (w5 hw) (by decide) (by decide)) (g := (mkF m 256 #[.val (.int a), .val (.int b_), .val (.int n), .val (.int m_), .val (.int (3 : Int32)), .val (.int mx), .val (.int c0), .val (.int c1), .val (.int c2), .val (.int c3), .val (.ref b262), .val (.ref b270), .val (.ref r_295), .val (.int (Int32.ofNat kk)), .val (.int (if mx < (3 : Int32) then (1 : Int32) else (0 : Int32))), .val (.int (Int32.ofNat (pres [c0, c1, c2] kk).length))] [(.ref b270), (.int (Int32.ofNat (pres [c0, c1, c2] kk).length)), (.int (Int32.ofNat kk)), (.int (2 : Int32)), (.ref r_295)])) rfl (by rw [hml]; rfl) (argsL := [(.ref r_295), (.int (2 : Int32)), (.int (Int32.ofNat kk)), (.int (Int32.ofNat (pres [c0, c1, c2] kk).length)), (.ref b270)]) (rest := []) (lenOf pd__28_Ljava_2f_lang_2f_String_3b_III_5b_C_29_Z rfl) rfl (by show 2 * 0 + _ ≤ _; exact Nat.le_of_eq rfl) (hb hby at_256) (fun _ _ => ⟨rfl, eq312, (Nat.le_of_ble_eq_true rfl), (Nat.le_of_ble_eq_true rfl)⟩)
    dsimp only [Pt.U, Pt.locs, Pt.cells, Pt.slots] at X313 l313 y313 z313 st313 hQ313
    subst l313 y313 z313
    obtain ⟨rfl, Nq313, eq313⟩ := hQ313
    have N313 := Fr.app N312 Nq313
    obtain ⟨_, _, ⟨T314, L314, k314, n314⟩, -, X314, ⟨Lc314, hQ314, l314, y314, z314⟩, st314⟩ := Jvm.LawKit.callS X313 hx (y := yn43) hown294 (mvT hZ294 (w192 hw)) (mvT hZ294 (w193 hw)) (mvT hZ294 (w5 hw)) (mvT hZ294 (w194 hw)) (by decide) (backOf (W := 0) (rm_okay l Z a0 hw [] r_295 b270 3 kk (pres [c0, c1, c2] kk).length k270 [pr c0, pr c1, pr c2, pr c3] t2_296 kb2_297 (pres [c0, c1, c2] kk) cS fm T294.heap n0 (Nat.le_trans Z0 (Nat.le_trans (Nat.le_trans (Nat.le_trans (Nat.le_trans (Nat.le_trans (Nat.le_trans (Nat.le_trans (Nat.le_trans (Nat.le_trans (Nat.le_trans (Nat.le_trans K262.1 K264.1) K266.1) K268.1) K270.1) K273.1) K276.1) K279.1) K282.1) K284.1) K288.1) K294.1)) O308 S_cs hcS S_fm hfm S_ad S_hi S_lo P294_2 F310 rfl (pres_at hkl hes) (Nat.le_trans hkl (Nat.le_of_ble_eq_true rfl)) (Nat.le_of_ble_eq_true rfl) (Nat.le_of_ble_eq_true rfl)) hZ294 (w194 hw) (w5 hw) (by decide) (by decide)) (g := (mkF m 271 #[.val (.int a), .val (.int b_), .val (.int n), .val (.int m_), .val (.int (3 : Int32)), .val (.int mx), .val (.int c0), .val (.int c1), .val (.int c2), .val (.int c3), .val (.ref b262), .val (.ref b270), .val (.ref r_295), .val (.int (Int32.ofNat kk)), .val (.int (if mx < (3 : Int32) then (1 : Int32) else (0 : Int32))), .val (.int (Int32.ofNat (pres [c0, c1, c2] kk).length))] [(.ref b270), (.int (Int32.ofNat (pres [c0, c1, c2] kk).length)), (.int (Int32.ofNat kk)), (.int (3 : Int32)), (.ref r_295)])) rfl (by rw [hml]; rfl) (argsL := [(.ref r_295), (.int (3 : Int32)), (.int (Int32.ofNat kk)), (.int (Int32.ofNat (pres [c0, c1, c2] kk).length)), (.ref b270)]) (rest := []) (lenOf pd__28_Ljava_2f_lang_2f_String_3b_III_5b_C_29_Z rfl) rfl (by show 2 * 0 + _ ≤ _; exact Nat.le_of_eq rfl) (hb hby at_271) (fun _ _ => ⟨rfl, eq313, (Nat.le_of_ble_eq_true rfl), (Nat.le_of_ble_eq_true rfl)⟩)
    dsimp only [Pt.U, Pt.locs, Pt.cells, Pt.slots] at X314 l314 y314 z314 st314 hQ314
    subst l314 y314 z314
    obtain ⟨rfl, Nq314, eq314⟩ := hQ314
    have N314 := Fr.app N313 Nq314
    obtain ⟨_, _, ⟨T315, L315, k315, n315⟩, -, X315, ⟨Lc315, hQ315, l315, y315, z315⟩, st315⟩ := Jvm.LawKit.callS X314 hx (y := yn43) hown294 (mvT hZ294 (w192 hw)) (mvT hZ294 (w193 hw)) (mvT hZ294 (w5 hw)) (mvT hZ294 (w194 hw)) (by decide) (backOf (W := 0) (rm_okay l Z a0 hw [] r_295 b270 4 kk (pres [c0, c1, c2] kk).length k270 [pr c0, pr c1, pr c2, pr c3] t2_296 kb2_297 (pres [c0, c1, c2] kk) cS fm T294.heap n0 (Nat.le_trans Z0 (Nat.le_trans (Nat.le_trans (Nat.le_trans (Nat.le_trans (Nat.le_trans (Nat.le_trans (Nat.le_trans (Nat.le_trans (Nat.le_trans (Nat.le_trans (Nat.le_trans K262.1 K264.1) K266.1) K268.1) K270.1) K273.1) K276.1) K279.1) K282.1) K284.1) K288.1) K294.1)) O308 S_cs hcS S_fm hfm S_ad S_hi S_lo P294_2 F310 rfl (pres_at hkl hes) (Nat.le_trans hkl (Nat.le_of_ble_eq_true rfl)) (Nat.le_of_ble_eq_true rfl) (Nat.le_of_ble_eq_true rfl)) hZ294 (w194 hw) (w5 hw) (by decide) (by decide)) (g := (mkF m 286 #[.val (.int a), .val (.int b_), .val (.int n), .val (.int m_), .val (.int (3 : Int32)), .val (.int mx), .val (.int c0), .val (.int c1), .val (.int c2), .val (.int c3), .val (.ref b262), .val (.ref b270), .val (.ref r_295), .val (.int (Int32.ofNat kk)), .val (.int (if mx < (3 : Int32) then (1 : Int32) else (0 : Int32))), .val (.int (Int32.ofNat (pres [c0, c1, c2] kk).length))] [(.ref b270), (.int (Int32.ofNat (pres [c0, c1, c2] kk).length)), (.int (Int32.ofNat kk)), (.int (4 : Int32)), (.ref r_295)])) rfl (by rw [hml]; rfl) (argsL := [(.ref r_295), (.int (4 : Int32)), (.int (Int32.ofNat kk)), (.int (Int32.ofNat (pres [c0, c1, c2] kk).length)), (.ref b270)]) (rest := []) (lenOf pd__28_Ljava_2f_lang_2f_String_3b_III_5b_C_29_Z rfl) rfl (by show 2 * 0 + _ ≤ _; exact Nat.le_of_eq rfl) (hb hby at_286) (fun _ _ => ⟨rfl, eq314, (Nat.le_of_ble_eq_true rfl), (Nat.le_of_ble_eq_true rfl)⟩)
    dsimp only [Pt.U, Pt.locs, Pt.cells, Pt.slots] at X315 l315 y315 z315 st315 hQ315
    subst l315 y315 z315
    obtain ⟨rfl, Nq315, eq315⟩ := hQ315
    have N315 := Fr.app N314 Nq315
    obtain ⟨_, _, ⟨T316, L316, k316, n316⟩, -, X316, ⟨Lc316, hQ316, l316, y316, z316⟩, st316⟩ := Jvm.LawKit.callS X315 hx (y := yn43) hown294 (mvT hZ294 (w192 hw)) (mvT hZ294 (w193 hw)) (mvT hZ294 (w5 hw)) (mvT hZ294 (w194 hw)) (by decide) (backOf (W := 0) (rm_okay l Z a0 hw [] r_295 b270 5 kk (pres [c0, c1, c2] kk).length k270 [pr c0, pr c1, pr c2, pr c3] t2_296 kb2_297 (pres [c0, c1, c2] kk) cS fm T294.heap n0 (Nat.le_trans Z0 (Nat.le_trans (Nat.le_trans (Nat.le_trans (Nat.le_trans (Nat.le_trans (Nat.le_trans (Nat.le_trans (Nat.le_trans (Nat.le_trans (Nat.le_trans (Nat.le_trans K262.1 K264.1) K266.1) K268.1) K270.1) K273.1) K276.1) K279.1) K282.1) K284.1) K288.1) K294.1)) O308 S_cs hcS S_fm hfm S_ad S_hi S_lo P294_2 F310 rfl (pres_at hkl hes) (Nat.le_trans hkl (Nat.le_of_ble_eq_true rfl)) (Nat.le_of_ble_eq_true rfl) (Nat.le_of_ble_eq_true rfl)) hZ294 (w194 hw) (w5 hw) (by decide) (by decide)) (g := (mkF m 301 #[.val (.int a), .val (.int b_), .val (.int n), .val (.int m_), .val (.int (3 : Int32)), .val (.int mx), .val (.int c0), .val (.int c1), .val (.int c2), .val (.int c3), .val (.ref b262), .val (.ref b270), .val (.ref r_295), .val (.int (Int32.ofNat kk)), .val (.int (if mx < (3 : Int32) then (1 : Int32) else (0 : Int32))), .val (.int (Int32.ofNat (pres [c0, c1, c2] kk).length))] [(.ref b270), (.int (Int32.ofNat (pres [c0, c1, c2] kk).length)), (.int (Int32.ofNat kk)), (.int (5 : Int32)), (.ref r_295)])) rfl (by rw [hml]; rfl) (argsL := [(.ref r_295), (.int (5 : Int32)), (.int (Int32.ofNat kk)), (.int (Int32.ofNat (pres [c0, c1, c2] kk).length)), (.ref b270)]) (rest := []) (lenOf pd__28_Ljava_2f_lang_2f_String_3b_III_5b_C_29_Z rfl) rfl (by show 2 * 0 + _ ≤ _; exact Nat.le_of_eq rfl) (hb hby at_301) (fun _ _ => ⟨rfl, eq315, (Nat.le_of_ble_eq_true rfl), (Nat.le_of_ble_eq_true rfl)⟩)
    dsimp only [Pt.U, Pt.locs, Pt.cells, Pt.slots] at X316 l316 y316 z316 st316 hQ316
    subst l316 y316 z316
    obtain ⟨rfl, Nq316, eq316⟩ := hQ316
    have N316 := Fr.app N315 Nq316
    obtain ⟨_, _, ⟨T317, L317, k317, n317⟩, -, X317, ⟨Lc317, hQ317, l317, y317, z317⟩, st317⟩ := Jvm.LawKit.callS X316 hx (y := yn43) hown294 (mvT hZ294 (w192 hw)) (mvT hZ294 (w193 hw)) (mvT hZ294 (w5 hw)) (mvT hZ294 (w194 hw)) (by decide) (backOf (W := 0) (rm_okay l Z a0 hw [] r_295 b270 6 kk (pres [c0, c1, c2] kk).length k270 [pr c0, pr c1, pr c2, pr c3] t2_296 kb2_297 (pres [c0, c1, c2] kk) cS fm T294.heap n0 (Nat.le_trans Z0 (Nat.le_trans (Nat.le_trans (Nat.le_trans (Nat.le_trans (Nat.le_trans (Nat.le_trans (Nat.le_trans (Nat.le_trans (Nat.le_trans (Nat.le_trans (Nat.le_trans K262.1 K264.1) K266.1) K268.1) K270.1) K273.1) K276.1) K279.1) K282.1) K284.1) K288.1) K294.1)) O308 S_cs hcS S_fm hfm S_ad S_hi S_lo P294_2 F310 rfl (pres_at hkl hes) (Nat.le_trans hkl (Nat.le_of_ble_eq_true rfl)) (Nat.le_of_ble_eq_true rfl) (Nat.le_of_ble_eq_true rfl)) hZ294 (w194 hw) (w5 hw) (by decide) (by decide)) (g := (mkF m 317 #[.val (.int a), .val (.int b_), .val (.int n), .val (.int m_), .val (.int (3 : Int32)), .val (.int mx), .val (.int c0), .val (.int c1), .val (.int c2), .val (.int c3), .val (.ref b262), .val (.ref b270), .val (.ref r_295), .val (.int (Int32.ofNat kk)), .val (.int (if mx < (3 : Int32) then (1 : Int32) else (0 : Int32))), .val (.int (Int32.ofNat (pres [c0, c1, c2] kk).length))] [(.ref b270), (.int (Int32.ofNat (pres [c0, c1, c2] kk).length)), (.int (Int32.ofNat kk)), (.int (6 : Int32)), (.ref r_295)])) rfl (by rw [hml]; rfl) (argsL := [(.ref r_295), (.int (6 : Int32)), (.int (Int32.ofNat kk)), (.int (Int32.ofNat (pres [c0, c1, c2] kk).length)), (.ref b270)]) (rest := []) (lenOf pd__28_Ljava_2f_lang_2f_String_3b_III_5b_C_29_Z rfl) rfl (by show 2 * 0 + _ ≤ _; exact Nat.le_of_eq rfl) (hb hby at_317) (fun _ _ => ⟨rfl, eq316, (Nat.le_of_ble_eq_true rfl), (Nat.le_of_ble_eq_true rfl)⟩)
    dsimp only [Pt.U, Pt.locs, Pt.cells, Pt.slots] at X317 l317 y317 z317 st317 hQ317
    subst l317 y317 z317
    obtain ⟨rfl, Nq317, eq317⟩ := hQ317
    have N317 := Fr.app N316 Nq317
    have W318 : ∀ zQ, SS p e below T317 m 328 #[.val (.int a), .val (.int b_), .val (.int n), .val (.int m_), .val (.int (3 : Int32)), .val (.int mx), .val (.int c0), .val (.int c1), .val (.int c2), .val (.int c3), .val (.ref b262), .val (.ref b270), .val (.ref r_295), .val (.int (Int32.ofNat kk)), .val (.int (if mx < (3 : Int32) then (1 : Int32) else (0 : Int32))), .val (.int (Int32.ofNat (pres [c0, c1, c2] kk).length))] [(.int (1 : Int32))] zQ → Steps p.tables e below (s₁.setTop (entryFrame m #[(.int a), (.int b_), (.int n), (.int m_)] maxLocals)) zQ := by
      intro tt kt
      refine W307 tt ?_
      refine XS.iadd X294.here hx rfl (hb hby at_202) rfl ?_
      show SS p e below T294 m 203 #[.val (.int a), .val (.int b_), .val (.int n), .val (.int m_), .val (.int (3 : Int32)), .val (.int mx), .val (.int c0), .val (.int c1), .val (.int c2), .val (.int c3), .val (.ref b262), .val (.ref b270), .val (.ref r_295), .val (.int (Int32.ofNat kk)), .val (.int (if mx < (3 : Int32) then (1 : Int32) else (0 : Int32))), .unset] [(.int ((Int32.ofNat kk) + (if (if mx < (3 : Int32) then (1 : Int32) else (0 : Int32)) = (0 : Int32) then (0 : Int32) else (3 : Int32))))] _
      rw [show ((Int32.ofNat kk) + (if (if mx < (3 : Int32) then (1 : Int32) else (0 : Int32)) = (0 : Int32) then (0 : Int32) else (3 : Int32))) = (Int32.ofNat (pres [c0, c1, c2] kk).length) from (own_want (cs := [c0, c1, c2]) (kk := kk) (mx := mx) hkl hcut)]
      refine XS.istore X294.here hx rfl (hb hby at_203) rfl (l' := #[.val (.int a), .val (.int b_), .val (.int n), .val (.int m_), .val (.int (3 : Int32)), .val (.int mx), .val (.int c0), .val (.int c1), .val (.int c2), .val (.int c3), .val (.ref b262), .val (.ref b270), .val (.ref r_295), .val (.int (Int32.ofNat kk)), .val (.int (if mx < (3 : Int32) then (1 : Int32) else (0 : Int32))), .val (.int (Int32.ofNat (pres [c0, c1, c2] kk).length))]) rfl ?_
      refine XS.aload X294.here hx rfl (hb hby at_205) rfl rfl ?_
      refine st309.trans ?_
      refine XS.iload X309.here hx rfl (hb hby at_210) rfl ?_
      refine XS.icmpYes X309.here hx rfl (pc0 := 212) (pc' := 217) rfl (hb hby at_212) rfl (teq rfl).1 (by decide) (by decide) ?_
      refine XS.aload X309.here hx rfl (hb hby at_217) rfl rfl ?_
      refine XS.iconst X309.here hx rfl (hb hby at_219) ?_
      show SS p e below T309 m 220 #[.val (.int a), .val (.int b_), .val (.int n), .val (.int m_), .val (.int (3 : Int32)), .val (.int mx), .val (.int c0), .val (.int c1), .val (.int c2), .val (.int c3), .val (.ref b262), .val (.ref b270), .val (.ref r_295), .val (.int (Int32.ofNat kk)), .val (.int (if mx < (3 : Int32) then (1 : Int32) else (0 : Int32))), .val (.int (Int32.ofNat (pres [c0, c1, c2] kk).length))] [(.int (0 : Int32)), (.ref r_295)] _
      refine XS.iload X309.here hx rfl (hb hby at_220) rfl ?_
      refine XS.iload X309.here hx rfl (hb hby at_222) rfl ?_
      refine XS.aload X309.here hx rfl (hb hby at_224) rfl rfl ?_
      refine st311 _ ?_
      refine XS.ifNo X311.here hx rfl (hb hby at_229) rfl ((if0 _ _).trans (feq (by decide)).1) ?_
      refine XS.aload X311.here hx rfl (hb hby at_232) rfl rfl ?_
      refine XS.iconst X311.here hx rfl (hb hby at_234) ?_
      refine XS.iload X311.here hx rfl (hb hby at_235) rfl ?_
      show SS p e below T311 m 237 #[.val (.int a), .val (.int b_), .val (.int n), .val (.int m_), .val (.int (3 : Int32)), .val (.int mx), .val (.int c0), .val (.int c1), .val (.int c2), .val (.int c3), .val (.ref b262), .val (.ref b270), .val (.ref r_295), .val (.int (Int32.ofNat kk)), .val (.int (if mx < (3 : Int32) then (1 : Int32) else (0 : Int32))), .val (.int (Int32.ofNat (pres [c0, c1, c2] kk).length))] [(.int (Int32.ofNat kk)), (.int (1 : Int32)), (.ref r_295)] _
      refine XS.iload X311.here hx rfl (hb hby at_237) rfl ?_
      refine XS.aload X311.here hx rfl (hb hby at_239) rfl rfl ?_
      refine st312 _ ?_
      refine XS.ifNo X312.here hx rfl (hb hby at_244) rfl ((if0 _ _).trans (feq (by decide)).1) ?_
      refine XS.aload X312.here hx rfl (hb hby at_247) rfl rfl ?_
      refine XS.iconst X312.here hx rfl (hb hby at_249) ?_
      refine XS.iload X312.here hx rfl (hb hby at_250) rfl ?_
      refine XS.iload X312.here hx rfl (hb hby at_252) rfl ?_
      show SS p e below T312 m 254 #[.val (.int a), .val (.int b_), .val (.int n), .val (.int m_), .val (.int (3 : Int32)), .val (.int mx), .val (.int c0), .val (.int c1), .val (.int c2), .val (.int c3), .val (.ref b262), .val (.ref b270), .val (.ref r_295), .val (.int (Int32.ofNat kk)), .val (.int (if mx < (3 : Int32) then (1 : Int32) else (0 : Int32))), .val (.int (Int32.ofNat (pres [c0, c1, c2] kk).length))] [(.int (Int32.ofNat (pres [c0, c1, c2] kk).length)), (.int (Int32.ofNat kk)), (.int (2 : Int32)), (.ref r_295)] _
      refine XS.aload X312.here hx rfl (hb hby at_254) rfl rfl ?_
      refine st313 _ ?_
      refine XS.ifNo X313.here hx rfl (hb hby at_259) rfl ((if0 _ _).trans (feq (by decide)).1) ?_
      refine XS.aload X313.here hx rfl (hb hby at_262) rfl rfl ?_
      refine XS.iconst X313.here hx rfl (hb hby at_264) ?_
      refine XS.iload X313.here hx rfl (hb hby at_265) rfl ?_
      refine XS.iload X313.here hx rfl (hb hby at_267) rfl ?_
      refine XS.aload X313.here hx rfl (hb hby at_269) rfl rfl ?_
      show SS p e below T313 m 271 #[.val (.int a), .val (.int b_), .val (.int n), .val (.int m_), .val (.int (3 : Int32)), .val (.int mx), .val (.int c0), .val (.int c1), .val (.int c2), .val (.int c3), .val (.ref b262), .val (.ref b270), .val (.ref r_295), .val (.int (Int32.ofNat kk)), .val (.int (if mx < (3 : Int32) then (1 : Int32) else (0 : Int32))), .val (.int (Int32.ofNat (pres [c0, c1, c2] kk).length))] [(.ref b270), (.int (Int32.ofNat (pres [c0, c1, c2] kk).length)), (.int (Int32.ofNat kk)), (.int (3 : Int32)), (.ref r_295)] _
      refine st314 _ ?_
      refine XS.ifNo X314.here hx rfl (hb hby at_274) rfl ((if0 _ _).trans (feq (by decide)).1) ?_
      refine XS.aload X314.here hx rfl (hb hby at_277) rfl rfl ?_
      refine XS.iconst X314.here hx rfl (hb hby at_279) ?_
      refine XS.iload X314.here hx rfl (hb hby at_280) rfl ?_
      refine XS.iload X314.here hx rfl (hb hby at_282) rfl ?_
      refine XS.aload X314.here hx rfl (hb hby at_284) rfl rfl ?_
      refine st315 _ ?_
      show SS p e below T315 m 289 #[.val (.int a), .val (.int b_), .val (.int n), .val (.int m_), .val (.int (3 : Int32)), .val (.int mx), .val (.int c0), .val (.int c1), .val (.int c2), .val (.int c3), .val (.ref b262), .val (.ref b270), .val (.ref r_295), .val (.int (Int32.ofNat kk)), .val (.int (if mx < (3 : Int32) then (1 : Int32) else (0 : Int32))), .val (.int (Int32.ofNat (pres [c0, c1, c2] kk).length))] [(.int (1 : Int32))] _
      refine XS.ifNo X315.here hx rfl (hb hby at_289) rfl ((if0 _ _).trans (feq (by decide)).1) ?_
      refine XS.aload X315.here hx rfl (hb hby at_292) rfl rfl ?_
      refine XS.iconst X315.here hx rfl (hb hby at_294) ?_
      refine XS.iload X315.here hx rfl (hb hby at_295) rfl ?_
      refine XS.iload X315.here hx rfl (hb hby at_297) rfl ?_
      refine XS.aload X315.here hx rfl (hb hby at_299) rfl rfl ?_
      refine st316 _ ?_
      refine XS.ifNo X316.here hx rfl (hb hby at_304) rfl ((if0 _ _).trans (feq (by decide)).1) ?_
      show SS p e below T316 m 307 #[.val (.int a), .val (.int b_), .val (.int n), .val (.int m_), .val (.int (3 : Int32)), .val (.int mx), .val (.int c0), .val (.int c1), .val (.int c2), .val (.int c3), .val (.ref b262), .val (.ref b270), .val (.ref r_295), .val (.int (Int32.ofNat kk)), .val (.int (if mx < (3 : Int32) then (1 : Int32) else (0 : Int32))), .val (.int (Int32.ofNat (pres [c0, c1, c2] kk).length))] [] _
      refine XS.aload X316.here hx rfl (hb hby at_307) rfl rfl ?_
      refine XS.bipush X316.here hx rfl (hb hby at_309) ?_
      refine XS.iload X316.here hx rfl (hb hby at_311) rfl ?_
      refine XS.iload X316.here hx rfl (hb hby at_313) rfl ?_
      refine XS.aload X316.here hx rfl (hb hby at_315) rfl rfl ?_
      refine st317 _ ?_
      refine XS.ifNo X317.here hx rfl (hb hby at_320) rfl ((if0 _ _).trans (feq (by decide)).1) ?_
      refine XS.iconst X317.here hx rfl (hb hby at_323) ?_
      show SS p e below T317 m 324 #[.val (.int a), .val (.int b_), .val (.int n), .val (.int m_), .val (.int (3 : Int32)), .val (.int mx), .val (.int c0), .val (.int c1), .val (.int c2), .val (.int c3), .val (.ref b262), .val (.ref b270), .val (.ref r_295), .val (.int (Int32.ofNat kk)), .val (.int (if mx < (3 : Int32) then (1 : Int32) else (0 : Int32))), .val (.int (Int32.ofNat (pres [c0, c1, c2] kk).length))] [(.int (1 : Int32))] _
      refine XS.goto X317.here hx rfl (pc0 := 324) (pc' := 328) rfl (hb hby at_324) (by decide) (by decide) ?_
      exact kt
    obtain ⟨fs, hr, hrun, hended, hRW⟩ := Jvm.Stand.leaveW X317 hS294 (by rw [eq317]; exact hk294) (v := some (.int (nar .boolean (1 : Int32)))) (fun h => by rw [Bd.returns] at h; cases h) (BodyLoose.notSynchronized Bd)
    refine ⟨_, _, W318 _ (retN X317 hx (t := .boolean) Bd.returns (by simp) (hb hby at_328) hr), hrun, hended, _, _, rfl, ?_, own_chr (T := T317) R298 (CHv.at X317 hZ294 hEL R298.1) hh.symm eq317, own_rw hRW (by decide) (by decide)⟩
    show Q_law Z a b_ n m_ cS fm h0 n0 _ T317.heap _
    rw [eq317]
    exact ⟨rfl, N317, (Keep.trans (Keep.trans (Keep.trans (Keep.trans (Keep.trans (Keep.trans (Keep.trans (Keep.trans (Keep.trans (Keep.trans (Keep.trans (Keep.trans (Keep.refl h0 []) K262 all0) K264 (allS (Or.inr (Nat.le_of_eq g262.symm)) all0)) K266 (allS (Or.inr (Nat.le_of_eq g262.symm)) all0)) K268 (allS (Or.inr (Nat.le_of_eq g262.symm)) all0)) K270 all0) K273 (allS (Or.inr (Nat.le_trans (Nat.le_trans (Nat.le_trans (Nat.le_trans K262.1 K264.1) K266.1) K268.1) (Nat.le_of_eq g270.symm))) all0)) K276 (allS (Or.inr (Nat.le_trans (Nat.le_trans (Nat.le_trans (Nat.le_trans K262.1 K264.1) K266.1) K268.1) (Nat.le_of_eq g270.symm))) all0)) K279 (allS (Or.inr (Nat.le_trans (Nat.le_trans (Nat.le_trans (Nat.le_trans K262.1 K264.1) K266.1) K268.1) (Nat.le_of_eq g270.symm))) all0)) K282 (allS (Or.inr (Nat.le_trans (Nat.le_trans (Nat.le_trans (Nat.le_trans K262.1 K264.1) K266.1) K268.1) (Nat.le_of_eq g270.symm))) all0)) K284 all0) K288 (allS (Or.inr (Nat.le_trans (Nat.le_trans (Nat.le_trans (Nat.le_trans (Nat.le_trans (Nat.le_trans (Nat.le_trans (Nat.le_trans (Nat.le_trans K262.1 K264.1) K266.1) K268.1) K270.1) K273.1) K276.1) K279.1) K282.1) (Nat.le_of_eq g284.symm))) all0)) K294 all0)⟩
  ·
    obtain ⟨T319, h319, k319, X319, e319, E319, A319, st319⟩ := newP X0 hx hZ0 (aty := .char) (w2 hw) e0 (g := (mkF m 52 #[.val (.int a), .val (.int b_), .val (.int n), .val (.int m_), .val (.int (4 : Int32)), .val (.int mx), .val (.int c0), .val (.int c1), .val (.int c2), .val (.int c3), .unset, .unset, .unset, .unset, .unset, .unset] [(.int (4 : Int32))])) rfl (hb hby at_52) (n := (4 : Int32)) rfl (by decide) (cap := 4) (by decide) (by decide) (by decide) (by decide)
    obtain ⟨b319, g319⟩ : ∃ z, z = h0.size := ⟨_, rfl⟩
    rw [← g319] at A319 st319
    have K319 := (Keep.refl h0 []).ext E319
    have R320 : CHr Z EL_1 s.vm h0 s.vm h319 := R0.trans (CHr.keep K319 sf0 R0.1)
    have G319 : Arv Z h319 b319 k319 .char (4 : Int32) [(.int (0 : Int32)), (.int (0 : Int32)), (.int (0 : Int32)), (.int (0 : Int32))] (.int (0 : Int32)) := (Arv.new A319 (by decide)).pad (pad_rep [] (.int (0 : Int32)) 4)
    obtain ⟨cl321, Ar321, q321, S321, M321, H321, F321g⟩ := id G319
    have hin321 : ¬ ((0 : Int32) < 0 ∨ cl321.slots.size ≤ ((0 : Int32)).toNatClampNeg) := inb_of S321 ⟨by decide, by decide⟩
    obtain ⟨T321, h321, X321, e321, Wr321, st321⟩ := stC X319 hx hZ0 e319 Ar321 (j := (0 : Int32)) hin321 (g := (mkF m 66 #[.val (.int a), .val (.int b_), .val (.int n), .val (.int m_), .val (.int (4 : Int32)), .val (.int mx), .val (.int c0), .val (.int c1), .val (.int c2), .val (.int c3), .val (.ref b319), .unset, .unset, .unset, .unset, .unset] [(.int c0), (.int (0 : Int32)), (.ref b319)])) rfl rfl (hb hby at_66)
    have G321 : Arv Z h321 b319 k319 .char (4 : Int32) [(.int (nar .char c0)), (.int (0 : Int32)), (.int (0 : Int32)), (.int (0 : Int32))] (.int (0 : Int32)) := Arv.set Ar321 q321 S321 M321 H321 F321g (fits_nar_char _) Wr321 0 rfl (Nat.le_of_ble_eq_true rfl)
    have K321 := Keep.of_wr Wr321
    have N321 := Fr.snoc X321 N0 (Nat.le_trans Z0 (Nat.le_of_eq g319.symm))
    have R322 : CHr Z EL_1 s.vm h0 s.vm h321 := R320.trans (CHr.keep K321 (sfS (Safe.arv hZ0.alike G319 (by intro q; cases q)) sf0) R320.1)
    have J321 : Arv Z h321 b319 k319 .char (4 : Int32) [(.int c0), (.int (0 : Int32)), (.int (0 : Int32)), (.int (0 : Int32))] (.int (0 : Int32)) := by rw [show nar .char c0 = c0 from by rw [h_c0]; exact own_narc (own_i2cr _).1 (own_i2cr _).2] at G321; exact G321
    obtain ⟨cl323, Ar323, q323, S323, M323, H323, F323g⟩ := id J321
    have hin323 : ¬ ((1 : Int32) < 0 ∨ cl323.slots.size ≤ ((1 : Int32)).toNatClampNeg) := inb_of S323 ⟨by decide, by decide⟩
    obtain ⟨T323, h323, X323, e323, Wr323, st323⟩ := stC X321 hx hZ0 e321 Ar323 (j := (1 : Int32)) hin323 (g := (mkF m 78 #[.val (.int a), .val (.int b_), .val (.int n), .val (.int m_), .val (.int (4 : Int32)), .val (.int mx), .val (.int c0), .val (.int c1), .val (.int c2), .val (.int c3), .val (.ref b319), .unset, .unset, .unset, .unset, .unset] [(.int c1), (.int (1 : Int32)), (.ref b319)])) rfl rfl (hb hby at_78)
    have G323 : Arv Z h323 b319 k319 .char (4 : Int32) [(.int c0), (.int (nar .char c1)), (.int (0 : Int32)), (.int (0 : Int32))] (.int (0 : Int32)) := Arv.set Ar323 q323 S323 M323 H323 F323g (fits_nar_char _) Wr323 1 rfl (Nat.le_of_ble_eq_true rfl)
    have K323 := Keep.of_wr Wr323
    have N323 := Fr.snoc X323 N321 (Nat.le_trans Z0 (Nat.le_of_eq g319.symm))
    have R324 : CHr Z EL_1 s.vm h0 s.vm h323 := R322.trans (CHr.keep K323 (sfS (Safe.arv hZ0.alike J321 (by intro q; cases q)) sf0) R322.1)
    have J323 : Arv Z h323 b319 k319 .char (4 : Int32) [(.int c0), (.int c1), (.int (0 : Int32)), (.int (0 : Int32))] (.int (0 : Int32)) := by rw [show nar .char c1 = c1 from by rw [h_c1]; exact own_narc (own_i2cr _).1 (own_i2cr _).2] at G323; exact G323
    obtain ⟨cl325, Ar325, q325, S325, M325, H325, F325g⟩ := id J323
    have hin325 : ¬ ((2 : Int32) < 0 ∨ cl325.slots.size ≤ ((2 : Int32)).toNatClampNeg) := inb_of S325 ⟨by decide, by decide⟩
    obtain ⟨T325, h325, X325, e325, Wr325, st325⟩ := stC X323 hx hZ0 e323 Ar325 (j := (2 : Int32)) hin325 (g := (mkF m 90 #[.val (.int a), .val (.int b_), .val (.int n), .val (.int m_), .val (.int (4 : Int32)), .val (.int mx), .val (.int c0), .val (.int c1), .val (.int c2), .val (.int c3), .val (.ref b319), .unset, .unset, .unset, .unset, .unset] [(.int c2), (.int (2 : Int32)), (.ref b319)])) rfl rfl (hb hby at_90)
    have G325 : Arv Z h325 b319 k319 .char (4 : Int32) [(.int c0), (.int c1), (.int (nar .char c2)), (.int (0 : Int32))] (.int (0 : Int32)) := Arv.set Ar325 q325 S325 M325 H325 F325g (fits_nar_char _) Wr325 2 rfl (Nat.le_of_ble_eq_true rfl)
    have K325 := Keep.of_wr Wr325
    have N325 := Fr.snoc X325 N323 (Nat.le_trans Z0 (Nat.le_of_eq g319.symm))
    have R326 : CHr Z EL_1 s.vm h0 s.vm h325 := R324.trans (CHr.keep K325 (sfS (Safe.arv hZ0.alike J323 (by intro q; cases q)) sf0) R324.1)
    have J325 : Arv Z h325 b319 k319 .char (4 : Int32) [(.int c0), (.int c1), (.int c2), (.int (0 : Int32))] (.int (0 : Int32)) := by rw [show nar .char c2 = c2 from by rw [h_c2]; exact own_narc (own_i2cr _).1 (own_i2cr _).2] at G325; exact G325
    obtain ⟨cl327, Ar327, q327, S327, M327, H327, F327g⟩ := id J325
    have hin327 : ¬ ((3 : Int32) < 0 ∨ cl327.slots.size ≤ ((3 : Int32)).toNatClampNeg) := inb_of S327 ⟨by decide, by decide⟩
    obtain ⟨T327, h327, X327, e327, Wr327, st327⟩ := stC X325 hx hZ0 e325 Ar327 (j := (3 : Int32)) hin327 (g := (mkF m 102 #[.val (.int a), .val (.int b_), .val (.int n), .val (.int m_), .val (.int (4 : Int32)), .val (.int mx), .val (.int c0), .val (.int c1), .val (.int c2), .val (.int c3), .val (.ref b319), .unset, .unset, .unset, .unset, .unset] [(.int c3), (.int (3 : Int32)), (.ref b319)])) rfl rfl (hb hby at_102)
    have G327 : Arv Z h327 b319 k319 .char (4 : Int32) [(.int c0), (.int c1), (.int c2), (.int (nar .char c3))] (.int (0 : Int32)) := Arv.set Ar327 q327 S327 M327 H327 F327g (fits_nar_char _) Wr327 3 rfl (Nat.le_of_ble_eq_true rfl)
    have K327 := Keep.of_wr Wr327
    have N327 := Fr.snoc X327 N325 (Nat.le_trans Z0 (Nat.le_of_eq g319.symm))
    have R328 : CHr Z EL_1 s.vm h0 s.vm h327 := R326.trans (CHr.keep K327 (sfS (Safe.arv hZ0.alike J325 (by intro q; cases q)) sf0) R326.1)
    have J327 : Arv Z h327 b319 k319 .char (4 : Int32) [(.int c0), (.int c1), (.int c2), (.int c3)] (.int (0 : Int32)) := by rw [show nar .char c3 = c3 from by rw [h_c3]; exact own_narc (own_i2cr _).1 (own_i2cr _).2] at G327; exact G327
    obtain ⟨T329, h329, k329, X329, e329, E329, A329, st329⟩ := newP X327 hx hZ0 (aty := .char) (w2 hw) e327 (g := (mkF m 104 #[.val (.int a), .val (.int b_), .val (.int n), .val (.int m_), .val (.int (4 : Int32)), .val (.int mx), .val (.int c0), .val (.int c1), .val (.int c2), .val (.int c3), .val (.ref b319), .unset, .unset, .unset, .unset, .unset] [(.int (4 : Int32))])) rfl (hb hby at_104) (n := (4 : Int32)) rfl (by decide) (cap := 4) (by decide) (by decide) (by decide) (by decide)
    obtain ⟨b329, g329⟩ : ∃ z, z = h327.size := ⟨_, rfl⟩
    rw [← g329] at A329 st329
    have K329 := (Keep.refl h327 []).ext E329
    have R330 : CHr Z EL_1 s.vm h0 s.vm h329 := R328.trans (CHr.keep K329 sf0 R328.1)
    have G329 : Arv Z h329 b329 k329 .char (4 : Int32) [(.int (0 : Int32)), (.int (0 : Int32)), (.int (0 : Int32)), (.int (0 : Int32))] (.int (0 : Int32)) := (Arv.new A329 (by decide)).pad (pad_rep [] (.int (0 : Int32)) 4)
    obtain ⟨_, _, ⟨T331, L331, k331, n331⟩, -, X331, ⟨Lc331, hQ331, l331, y331, z331⟩, st331⟩ := Jvm.LawKit.callS X329 hx (y := yn42) hown0 (mvT hZ0 (w3 hw)) (mvT hZ0 (w4 hw)) (mvT hZ0 (w5 hw)) (mvT hZ0 (w6 hw)) (by decide) (backOf (W := 2) (rm_safe l Z a0 hw [] c0 h329 n0 (Nat.le_trans Z0 (Nat.le_trans (Nat.le_trans (Nat.le_trans (Nat.le_trans (Nat.le_trans K319.1 K321.1) K323.1) K325.1) K327.1) K329.1)) (by rw [h_c0]; exact (own_i2cr _).1) (by rw [h_c0]; exact (own_i2cr _).2)) hZ0 (w6 hw) (w5 hw) (by decide) (by decide)) (g := (mkF m 113 #[.val (.int a), .val (.int b_), .val (.int n), .val (.int m_), .val (.int (4 : Int32)), .val (.int mx), .val (.int c0), .val (.int c1), .val (.int c2), .val (.int c3), .val (.ref b319), .val (.ref b329), .unset, .unset, .unset, .unset] [(.int c0), (.int (0 : Int32)), (.ref b329)])) rfl (by rw [hml]; rfl) (argsL := [(.int c0)]) (rest := [(.int (0 : Int32)), (.ref b329)]) (lenOf pd__28_C_29_C rfl) rfl (by show 2 * 0 + _ ≤ _; exact Nat.le_of_eq rfl) (hb hby at_113) (fun _ _ => ⟨rfl, e329, (Nat.le_of_ble_eq_true rfl), (Nat.le_of_ble_eq_true rfl)⟩)
    dsimp only [Pt.U, Pt.locs, Pt.cells, Pt.slots] at X331 l331 y331 z331 st331 hQ331
    subst l331 y331 z331
    obtain ⟨rfl, Nq331, eq331⟩ := hQ331
    have N331 := Fr.app N327 Nq331
    obtain ⟨cl332, Ar332, q332, S332, M332, H332, F332g⟩ := id G329
    have hin332 : ¬ ((0 : Int32) < 0 ∨ cl332.slots.size ≤ ((0 : Int32)).toNatClampNeg) := inb_of S332 ⟨by decide, by decide⟩
    obtain ⟨T332, h332, X332, e332, Wr332, st332⟩ := stC X331 hx hZ0 eq331 Ar332 (j := (0 : Int32)) hin332 (g := (mkF m 116 #[.val (.int a), .val (.int b_), .val (.int n), .val (.int m_), .val (.int (4 : Int32)), .val (.int mx), .val (.int c0), .val (.int c1), .val (.int c2), .val (.int c3), .val (.ref b319), .val (.ref b329), .unset, .unset, .unset, .unset] [(.int (pr c0)), (.int (0 : Int32)), (.ref b329)])) rfl rfl (hb hby at_116)
    have G332 : Arv Z h332 b329 k329 .char (4 : Int32) [(.int (nar .char (pr c0))), (.int (0 : Int32)), (.int (0 : Int32)), (.int (0 : Int32))] (.int (0 : Int32)) := Arv.set Ar332 q332 S332 M332 H332 F332g (fits_nar_char _) Wr332 0 rfl (Nat.le_of_ble_eq_true rfl)
    have K332 := Keep.of_wr Wr332
    have N332 := Fr.snoc X332 N331 (Nat.le_trans Z0 (Nat.le_trans (Nat.le_trans (Nat.le_trans (Nat.le_trans (Nat.le_trans K319.1 K321.1) K323.1) K325.1) K327.1) (Nat.le_of_eq g329.symm)))
    have R333 : CHr Z EL_1 s.vm h0 s.vm h332 := R330.trans (CHr.keep K332 (sfS (Safe.arv hZ0.alike G329 (by intro q; cases q)) sf0) R330.1)
    have J332 : Arv Z h332 b329 k329 .char (4 : Int32) [(.int (pr c0)), (.int (0 : Int32)), (.int (0 : Int32)), (.int (0 : Int32))] (.int (0 : Int32)) := by rw [own_narpr] at G332; exact G332
    obtain ⟨_, _, ⟨T334, L334, k334, n334⟩, -, X334, ⟨Lc334, hQ334, l334, y334, z334⟩, st334⟩ := Jvm.LawKit.callS X332 hx (y := yn42) hown0 (mvT hZ0 (w3 hw)) (mvT hZ0 (w4 hw)) (mvT hZ0 (w5 hw)) (mvT hZ0 (w6 hw)) (by decide) (backOf (W := 2) (rm_safe l Z a0 hw [] c1 h332 n0 (Nat.le_trans Z0 (Nat.le_trans (Nat.le_trans (Nat.le_trans (Nat.le_trans (Nat.le_trans (Nat.le_trans K319.1 K321.1) K323.1) K325.1) K327.1) K329.1) K332.1)) (by rw [h_c1]; exact (own_i2cr _).1) (by rw [h_c1]; exact (own_i2cr _).2)) hZ0 (w6 hw) (w5 hw) (by decide) (by decide)) (g := (mkF m 122 #[.val (.int a), .val (.int b_), .val (.int n), .val (.int m_), .val (.int (4 : Int32)), .val (.int mx), .val (.int c0), .val (.int c1), .val (.int c2), .val (.int c3), .val (.ref b319), .val (.ref b329), .unset, .unset, .unset, .unset] [(.int c1), (.int (1 : Int32)), (.ref b329)])) rfl (by rw [hml]; rfl) (argsL := [(.int c1)]) (rest := [(.int (1 : Int32)), (.ref b329)]) (lenOf pd__28_C_29_C rfl) rfl (by show 2 * 0 + _ ≤ _; exact Nat.le_of_eq rfl) (hb hby at_122) (fun _ _ => ⟨rfl, e332, (Nat.le_of_ble_eq_true rfl), (Nat.le_of_ble_eq_true rfl)⟩)
    dsimp only [Pt.U, Pt.locs, Pt.cells, Pt.slots] at X334 l334 y334 z334 st334 hQ334
    subst l334 y334 z334
    obtain ⟨rfl, Nq334, eq334⟩ := hQ334
    have N334 := Fr.app N332 Nq334
    obtain ⟨cl335, Ar335, q335, S335, M335, H335, F335g⟩ := id J332
    have hin335 : ¬ ((1 : Int32) < 0 ∨ cl335.slots.size ≤ ((1 : Int32)).toNatClampNeg) := inb_of S335 ⟨by decide, by decide⟩
    obtain ⟨T335, h335, X335, e335, Wr335, st335⟩ := stC X334 hx hZ0 eq334 Ar335 (j := (1 : Int32)) hin335 (g := (mkF m 125 #[.val (.int a), .val (.int b_), .val (.int n), .val (.int m_), .val (.int (4 : Int32)), .val (.int mx), .val (.int c0), .val (.int c1), .val (.int c2), .val (.int c3), .val (.ref b319), .val (.ref b329), .unset, .unset, .unset, .unset] [(.int (pr c1)), (.int (1 : Int32)), (.ref b329)])) rfl rfl (hb hby at_125)
    have G335 : Arv Z h335 b329 k329 .char (4 : Int32) [(.int (pr c0)), (.int (nar .char (pr c1))), (.int (0 : Int32)), (.int (0 : Int32))] (.int (0 : Int32)) := Arv.set Ar335 q335 S335 M335 H335 F335g (fits_nar_char _) Wr335 1 rfl (Nat.le_of_ble_eq_true rfl)
    have K335 := Keep.of_wr Wr335
    have N335 := Fr.snoc X335 N334 (Nat.le_trans Z0 (Nat.le_trans (Nat.le_trans (Nat.le_trans (Nat.le_trans (Nat.le_trans K319.1 K321.1) K323.1) K325.1) K327.1) (Nat.le_of_eq g329.symm)))
    have R336 : CHr Z EL_1 s.vm h0 s.vm h335 := R333.trans (CHr.keep K335 (sfS (Safe.arv hZ0.alike J332 (by intro q; cases q)) sf0) R333.1)
    have J335 : Arv Z h335 b329 k329 .char (4 : Int32) [(.int (pr c0)), (.int (pr c1)), (.int (0 : Int32)), (.int (0 : Int32))] (.int (0 : Int32)) := by rw [own_narpr] at G335; exact G335
    obtain ⟨_, _, ⟨T337, L337, k337, n337⟩, -, X337, ⟨Lc337, hQ337, l337, y337, z337⟩, st337⟩ := Jvm.LawKit.callS X335 hx (y := yn42) hown0 (mvT hZ0 (w3 hw)) (mvT hZ0 (w4 hw)) (mvT hZ0 (w5 hw)) (mvT hZ0 (w6 hw)) (by decide) (backOf (W := 2) (rm_safe l Z a0 hw [] c2 h335 n0 (Nat.le_trans Z0 (Nat.le_trans (Nat.le_trans (Nat.le_trans (Nat.le_trans (Nat.le_trans (Nat.le_trans (Nat.le_trans K319.1 K321.1) K323.1) K325.1) K327.1) K329.1) K332.1) K335.1)) (by rw [h_c2]; exact (own_i2cr _).1) (by rw [h_c2]; exact (own_i2cr _).2)) hZ0 (w6 hw) (w5 hw) (by decide) (by decide)) (g := (mkF m 131 #[.val (.int a), .val (.int b_), .val (.int n), .val (.int m_), .val (.int (4 : Int32)), .val (.int mx), .val (.int c0), .val (.int c1), .val (.int c2), .val (.int c3), .val (.ref b319), .val (.ref b329), .unset, .unset, .unset, .unset] [(.int c2), (.int (2 : Int32)), (.ref b329)])) rfl (by rw [hml]; rfl) (argsL := [(.int c2)]) (rest := [(.int (2 : Int32)), (.ref b329)]) (lenOf pd__28_C_29_C rfl) rfl (by show 2 * 0 + _ ≤ _; exact Nat.le_of_eq rfl) (hb hby at_131) (fun _ _ => ⟨rfl, e335, (Nat.le_of_ble_eq_true rfl), (Nat.le_of_ble_eq_true rfl)⟩)
    dsimp only [Pt.U, Pt.locs, Pt.cells, Pt.slots] at X337 l337 y337 z337 st337 hQ337
    subst l337 y337 z337
    obtain ⟨rfl, Nq337, eq337⟩ := hQ337
    have N337 := Fr.app N335 Nq337
    obtain ⟨cl338, Ar338, q338, S338, M338, H338, F338g⟩ := id J335
    have hin338 : ¬ ((2 : Int32) < 0 ∨ cl338.slots.size ≤ ((2 : Int32)).toNatClampNeg) := inb_of S338 ⟨by decide, by decide⟩
    obtain ⟨T338, h338, X338, e338, Wr338, st338⟩ := stC X337 hx hZ0 eq337 Ar338 (j := (2 : Int32)) hin338 (g := (mkF m 134 #[.val (.int a), .val (.int b_), .val (.int n), .val (.int m_), .val (.int (4 : Int32)), .val (.int mx), .val (.int c0), .val (.int c1), .val (.int c2), .val (.int c3), .val (.ref b319), .val (.ref b329), .unset, .unset, .unset, .unset] [(.int (pr c2)), (.int (2 : Int32)), (.ref b329)])) rfl rfl (hb hby at_134)
    have G338 : Arv Z h338 b329 k329 .char (4 : Int32) [(.int (pr c0)), (.int (pr c1)), (.int (nar .char (pr c2))), (.int (0 : Int32))] (.int (0 : Int32)) := Arv.set Ar338 q338 S338 M338 H338 F338g (fits_nar_char _) Wr338 2 rfl (Nat.le_of_ble_eq_true rfl)
    have K338 := Keep.of_wr Wr338
    have N338 := Fr.snoc X338 N337 (Nat.le_trans Z0 (Nat.le_trans (Nat.le_trans (Nat.le_trans (Nat.le_trans (Nat.le_trans K319.1 K321.1) K323.1) K325.1) K327.1) (Nat.le_of_eq g329.symm)))
    have R339 : CHr Z EL_1 s.vm h0 s.vm h338 := R336.trans (CHr.keep K338 (sfS (Safe.arv hZ0.alike J335 (by intro q; cases q)) sf0) R336.1)
    have J338 : Arv Z h338 b329 k329 .char (4 : Int32) [(.int (pr c0)), (.int (pr c1)), (.int (pr c2)), (.int (0 : Int32))] (.int (0 : Int32)) := by rw [own_narpr] at G338; exact G338
    obtain ⟨_, _, ⟨T340, L340, k340, n340⟩, -, X340, ⟨Lc340, hQ340, l340, y340, z340⟩, st340⟩ := Jvm.LawKit.callS X338 hx (y := yn42) hown0 (mvT hZ0 (w3 hw)) (mvT hZ0 (w4 hw)) (mvT hZ0 (w5 hw)) (mvT hZ0 (w6 hw)) (by decide) (backOf (W := 2) (rm_safe l Z a0 hw [] c3 h338 n0 (Nat.le_trans Z0 (Nat.le_trans (Nat.le_trans (Nat.le_trans (Nat.le_trans (Nat.le_trans (Nat.le_trans (Nat.le_trans (Nat.le_trans K319.1 K321.1) K323.1) K325.1) K327.1) K329.1) K332.1) K335.1) K338.1)) (by rw [h_c3]; exact (own_i2cr _).1) (by rw [h_c3]; exact (own_i2cr _).2)) hZ0 (w6 hw) (w5 hw) (by decide) (by decide)) (g := (mkF m 140 #[.val (.int a), .val (.int b_), .val (.int n), .val (.int m_), .val (.int (4 : Int32)), .val (.int mx), .val (.int c0), .val (.int c1), .val (.int c2), .val (.int c3), .val (.ref b319), .val (.ref b329), .unset, .unset, .unset, .unset] [(.int c3), (.int (3 : Int32)), (.ref b329)])) rfl (by rw [hml]; rfl) (argsL := [(.int c3)]) (rest := [(.int (3 : Int32)), (.ref b329)]) (lenOf pd__28_C_29_C rfl) rfl (by show 2 * 0 + _ ≤ _; exact Nat.le_of_eq rfl) (hb hby at_140) (fun _ _ => ⟨rfl, e338, (Nat.le_of_ble_eq_true rfl), (Nat.le_of_ble_eq_true rfl)⟩)
    dsimp only [Pt.U, Pt.locs, Pt.cells, Pt.slots] at X340 l340 y340 z340 st340 hQ340
    subst l340 y340 z340
    obtain ⟨rfl, Nq340, eq340⟩ := hQ340
    have N340 := Fr.app N338 Nq340
    obtain ⟨cl341, Ar341, q341, S341, M341, H341, F341g⟩ := id J338
    have hin341 : ¬ ((3 : Int32) < 0 ∨ cl341.slots.size ≤ ((3 : Int32)).toNatClampNeg) := inb_of S341 ⟨by decide, by decide⟩
    obtain ⟨T341, h341, X341, e341, Wr341, st341⟩ := stC X340 hx hZ0 eq340 Ar341 (j := (3 : Int32)) hin341 (g := (mkF m 143 #[.val (.int a), .val (.int b_), .val (.int n), .val (.int m_), .val (.int (4 : Int32)), .val (.int mx), .val (.int c0), .val (.int c1), .val (.int c2), .val (.int c3), .val (.ref b319), .val (.ref b329), .unset, .unset, .unset, .unset] [(.int (pr c3)), (.int (3 : Int32)), (.ref b329)])) rfl rfl (hb hby at_143)
    have G341 : Arv Z h341 b329 k329 .char (4 : Int32) [(.int (pr c0)), (.int (pr c1)), (.int (pr c2)), (.int (nar .char (pr c3)))] (.int (0 : Int32)) := Arv.set Ar341 q341 S341 M341 H341 F341g (fits_nar_char _) Wr341 3 rfl (Nat.le_of_ble_eq_true rfl)
    have K341 := Keep.of_wr Wr341
    have N341 := Fr.snoc X341 N340 (Nat.le_trans Z0 (Nat.le_trans (Nat.le_trans (Nat.le_trans (Nat.le_trans (Nat.le_trans K319.1 K321.1) K323.1) K325.1) K327.1) (Nat.le_of_eq g329.symm)))
    have R342 : CHr Z EL_1 s.vm h0 s.vm h341 := R339.trans (CHr.keep K341 (sfS (Safe.arv hZ0.alike J338 (by intro q; cases q)) sf0) R339.1)
    have J341 : Arv Z h341 b329 k329 .char (4 : Int32) [(.int (pr c0)), (.int (pr c1)), (.int (pr c2)), (.int (pr c3))] (.int (0 : Int32)) := by rw [own_narpr] at G341; exact G341
    obtain ⟨T343, h343, X343, e343, E343, A343, D343, U343, st343⟩ := newO X341 hx hZ0 hown0 (w7 hw) (w8 hw) (w9 hw) e341 (g := (mkF m 144 #[.val (.int a), .val (.int b_), .val (.int n), .val (.int m_), .val (.int (4 : Int32)), .val (.int mx), .val (.int c0), .val (.int c1), .val (.int c2), .val (.int c3), .val (.ref b319), .val (.ref b329), .unset, .unset, .unset, .unset] [])) rfl (hb hby at_144) (by decide) (by decide)
    obtain ⟨b343, g343⟩ : ∃ z, z = h341.size := ⟨_, rfl⟩
    rw [← g343] at A343 D343 U343 st343
    have K343 := (Keep.refl h341 []).ext E343
    have R344 : CHr Z EL_1 s.vm h0 s.vm h343 := R342.trans (CHr.keep K343 sf0 R342.1)
    have G343_coder : Fld Z h343 b343 "java/lang/String" "coder" "B" (.int (0 : Int32)) := D343 (Or.inr (w33 hw)) (ty := .byte) (by decide)
    have G343_value : Fld Z h343 b343 "java/lang/String" "value" "[B" .null := D343 (Or.inr (w35 hw)) (ty := (.array .byte)) (by decide)
    have hokc : ∀ x ∈ [c0, c1, c2, c3], ¬ (x < (0 : Int32)) ∧ ¬ ((65535 : Int32) < x) := by
      intro x hx
      simp only [List.mem_cons, List.not_mem_nil, or_false] at hx
      rcases hx with hx | hx | hx | hx
      · rw [hx, h_c0]; exact own_i2cr _
      · rw [hx, h_c1]; exact own_i2cr _
      · rw [hx, h_c2]; exact own_i2cr _
      · rw [hx, h_c3]; exact own_i2cr _
    have F345 : Arv Z h343 b319 k319 .char (4 : Int32) [(.int c0), (.int c1), (.int c2), (.int c3)] (.int (0 : Int32)) := ((((((J327.keep K329 nin0).keep K332 (ninS (Nat.ne_of_lt (Nat.lt_of_lt_of_le (Nat.lt_of_lt_of_le G319.lt (Nat.le_trans (Nat.le_trans (Nat.le_trans K321.1 K323.1) K325.1) K327.1)) (Nat.le_of_eq g329.symm))) nin0)).keep K335 (ninS (Nat.ne_of_lt (Nat.lt_of_lt_of_le (Nat.lt_of_lt_of_le G319.lt (Nat.le_trans (Nat.le_trans (Nat.le_trans K321.1 K323.1) K325.1) K327.1)) (Nat.le_of_eq g329.symm))) nin0)).keep K338 (ninS (Nat.ne_of_lt (Nat.lt_of_lt_of_le (Nat.lt_of_lt_of_le G319.lt (Nat.le_trans (Nat.le_trans (Nat.le_trans K321.1 K323.1) K325.1) K327.1)) (Nat.le_of_eq g329.symm))) nin0)).keep K341 (ninS (Nat.ne_of_lt (Nat.lt_of_lt_of_le (Nat.lt_of_lt_of_le G319.lt (Nat.le_trans (Nat.le_trans (Nat.le_trans K321.1 K323.1) K325.1) K327.1)) (Nat.le_of_eq g329.symm))) nin0)).keep K343 nin0)
    have O346 : Old Z n0 h343 := (((((((((((O0.keep K319 all0).keep K321 (allS (Nat.le_trans Z0 (Nat.le_of_eq g319.symm)) all0)).keep K323 (allS (Nat.le_trans Z0 (Nat.le_of_eq g319.symm)) all0)).keep K325 (allS (Nat.le_trans Z0 (Nat.le_of_eq g319.symm)) all0)).keep K327 (allS (Nat.le_trans Z0 (Nat.le_of_eq g319.symm)) all0)).keep K329 all0).keep K332 (allS (Nat.le_trans Z0 (Nat.le_trans (Nat.le_trans (Nat.le_trans (Nat.le_trans (Nat.le_trans K319.1 K321.1) K323.1) K325.1) K327.1) (Nat.le_of_eq g329.symm))) all0)).keep K335 (allS (Nat.le_trans Z0 (Nat.le_trans (Nat.le_trans (Nat.le_trans (Nat.le_trans (Nat.le_trans K319.1 K321.1) K323.1) K325.1) K327.1) (Nat.le_of_eq g329.symm))) all0)).keep K338 (allS (Nat.le_trans Z0 (Nat.le_trans (Nat.le_trans (Nat.le_trans (Nat.le_trans (Nat.le_trans K319.1 K321.1) K323.1) K325.1) K327.1) (Nat.le_of_eq g329.symm))) all0)).keep K341 (allS (Nat.le_trans Z0 (Nat.le_trans (Nat.le_trans (Nat.le_trans (Nat.le_trans (Nat.le_trans K319.1 K321.1) K323.1) K325.1) K327.1) (Nat.le_of_eq g329.symm))) all0)).keep K343 all0)
    obtain ⟨_, _, ⟨T347, L347, k347, n347⟩, -, X347, ⟨Lc347, hQ347, l347, y347, z347⟩, st347⟩ := X343.specialBack hx (y := yn19) rfl hown0 (mvT hZ0 (w10 hw)) (mvT hZ0 (w11 hw)) (mvT hZ0 (w12 hw)) (by decide) (backOf (W := 1) (rm_sinit l Z a0 hw [] b343 b319 k319 [c0, c1, c2, c3] cS h343 n0 (Nat.le_trans Z0 (Nat.le_trans (Nat.le_trans (Nat.le_trans (Nat.le_trans (Nat.le_trans (Nat.le_trans (Nat.le_trans (Nat.le_trans (Nat.le_trans (Nat.le_trans K319.1 K321.1) K323.1) K325.1) K327.1) K329.1) K332.1) K335.1) K338.1) K341.1) K343.1)) O346 S_cs hcS S_ad S_hi S_lo A343 G343_value G343_coder (Nat.le_trans Z0 (Nat.le_trans (Nat.le_trans (Nat.le_trans (Nat.le_trans (Nat.le_trans (Nat.le_trans (Nat.le_trans (Nat.le_trans (Nat.le_trans (Nat.le_trans K319.1 K321.1) K323.1) K325.1) K327.1) K329.1) K332.1) K335.1) K338.1) K341.1) (Nat.le_of_eq g343.symm))) F345 ⟨hokc, (Nat.le_of_ble_eq_true rfl)⟩ (Nat.le_of_ble_eq_true rfl) (Nat.le_of_ble_eq_true rfl) (Ne.symm (Nat.ne_of_lt (Nat.lt_of_lt_of_le (Nat.lt_of_lt_of_le G319.lt (Nat.le_trans (Nat.le_trans (Nat.le_trans (Nat.le_trans (Nat.le_trans (Nat.le_trans (Nat.le_trans (Nat.le_trans K321.1 K323.1) K325.1) K327.1) K329.1) K332.1) K335.1) K338.1) K341.1)) (Nat.le_of_eq g343.symm))))) hZ0 (w12 hw) (w9 hw) (by decide) (by decide)) (g := (mkF m 150 #[.val (.int a), .val (.int b_), .val (.int n), .val (.int m_), .val (.int (4 : Int32)), .val (.int mx), .val (.int c0), .val (.int c1), .val (.int c2), .val (.int c3), .val (.ref b319), .val (.ref b329), .unset, .unset, .unset, .unset] [(.ref b319), (.ref b343), (.ref b343)])) rfl (by rw [hml]; rfl) (Steps.refl _) (a := b343) (argsL := [(.ref b319)]) (rest := [(.ref b343)]) (lenOf pd__28__5b_C_29_V rfl) rfl (by show 2 * 0 + _ ≤ _; exact Nat.le_of_eq rfl) (hb hby at_150) (fun _ _ => ⟨rfl, e343, (Nat.le_of_ble_eq_true rfl), (Nat.le_of_ble_eq_true rfl)⟩)
    dsimp only [Pt.U, Pt.locs, Pt.cells, Pt.slots] at X347 l347 y347 z347 st347 hQ347
    subst l347 y347 z347
    obtain ⟨t_348, kb_349, rfl, Nq347, K347, P347_0, P347_1⟩ := hQ347
    have N347 := Fr.app N341 Nq347
    have Sf350 : Safe Z EL_1 s.vm h343 b343 := (Safe.keep K343 sf0 R342.1 (Safe.new (Nat.le_of_eq g343.symm)))
    have R351 : CHr Z EL_1 s.vm h0 s.vm T347.heap := R344.trans (CHr.keep K347 (sfS Sf350 sf0) R344.1)
    obtain ⟨kk, hkl, hmin, hkept, hcut⟩ := own_kk [c0, c1, c2, c3].length mx hmx (Nat.le_of_ble_eq_true rfl)
    have hes : ∀ i, i < [c0, c1, c2, c3].length → ([pr c0, pr c1, pr c2, pr c3] : List Int32).getD i 0 = pr (([c0, c1, c2, c3] : List Int32).getD i 0) := fun i hi => match i, hi with | 0, _ => rfl | 1, _ => rfl | 2, _ => rfl | 3, _ => rfl | n_ + 4, h => absurd h (by simp only [List.length_cons, List.length_nil]; omega)
    have O352 : Old Z n0 T347.heap := (O346.keep K347 (allS (Nat.le_trans Z0 (Nat.le_trans (Nat.le_trans (Nat.le_trans (Nat.le_trans (Nat.le_trans (Nat.le_trans (Nat.le_trans (Nat.le_trans (Nat.le_trans (Nat.le_trans K319.1 K321.1) K323.1) K325.1) K327.1) K329.1) K332.1) K335.1) K338.1) K341.1) (Nat.le_of_eq g343.symm))) all0))
    obtain ⟨_, _, ⟨T353, L353, k353, n353⟩, -, X353', hS353', hgr353, ⟨Lc353, hQ353, l353, y353, z353, A353⟩, st353⟩ := callSS X347 hx (y := yn44) hown0 (mvT hZ0 (w36 hw)) (mvT hZ0 (w37 hw)) (mvT hZ0 (w38 hw)) (mvT hZ0 (w39 hw)) (by decide) (backOfSH (W := 0) (rm_printable l Z a0 hw [] b343 mx kk t_348 kb_349 [c0, c1, c2, c3] cS fm T347.heap n0 (Nat.le_trans Z0 (Nat.le_trans (Nat.le_trans (Nat.le_trans (Nat.le_trans (Nat.le_trans (Nat.le_trans (Nat.le_trans (Nat.le_trans (Nat.le_trans (Nat.le_trans (Nat.le_trans K319.1 K321.1) K323.1) K325.1) K327.1) K329.1) K332.1) K335.1) K338.1) K341.1) K343.1) K347.1)) O352 S_cs hcS S_fm hfm S_ad S_hi S_lo P347_1 hkl (Nat.le_of_ble_eq_true rfl) hmin) hZ0 (w39 hw) (w38 hw) (by decide) (by decide) hEL R351.1) (g := (mkF m 155 #[.val (.int a), .val (.int b_), .val (.int n), .val (.int m_), .val (.int (4 : Int32)), .val (.int mx), .val (.int c0), .val (.int c1), .val (.int c2), .val (.int c3), .val (.ref b319), .val (.ref b329), .unset, .unset, .unset, .unset] [(.int mx), (.ref b343)])) rfl (by rw [hml]; rfl) (argsL := [(.ref b343), (.int mx)]) (rest := []) (lenOf pd__28_Ljava_2f_lang_2f_String_3b_I_29_Ljava_2f_lang_2f_String_3b_ rfl) rfl (by show 2 * 0 + _ ≤ _; exact Nat.le_of_eq rfl) (hb hby at_155) (fun _ _ => ⟨rfl, rfl, (Nat.le_of_ble_eq_true rfl), (Nat.le_of_ble_eq_true rfl)⟩)
    dsimp only [Pt.U, Pt.locs, Pt.cells, Pt.slots] at X353' hS353' hgr353 l353 y353 z353 st353 hQ353 A353
    subst l353 y353 z353
    obtain ⟨X353, hS353, hZ353, hown353⟩ := rebS hS0 (Nat.le_trans hk0 (Nat.le_trans (Nat.le_trans (Nat.le_trans (Nat.le_trans (Nat.le_trans (Nat.le_trans (Nat.le_trans (Nat.le_trans (Nat.le_trans (Nat.le_trans (Nat.le_trans K319.1 K321.1) K323.1) K325.1) K327.1) K329.1) K332.1) K335.1) K338.1) K341.1) K343.1) K347.1)) X353' hS353' hgr353 hZ0 hown0
    obtain ⟨r_354, t2_355, kb2_356, rfl, Nq353, K353, P353_0, P353_1, P353_2⟩ := hQ353
    have N353 := Fr.app N347 Nq353
    have R357 : CHr Z EL_1 s.vm h0 T353.vm T353.heap := R351.trans A353
    have hk353 : T353.heap.size ≤ T353.heap.size := Nat.le_refl _
    have W358 : ∀ zQ, SS p e below T353 m 164 #[.val (.int a), .val (.int b_), .val (.int n), .val (.int m_), .val (.int (4 : Int32)), .val (.int mx), .val (.int c0), .val (.int c1), .val (.int c2), .val (.int c3), .val (.ref b319), .val (.ref b329), .val (.ref r_354), .unset, .unset, .unset] [(.int mx), (.int (4 : Int32))] zQ → Steps p.tables e below (s₁.setTop (entryFrame m #[(.int a), (.int b_), (.int n), (.int m_)] maxLocals)) zQ := by
      intro tt kt
      refine W104 tt ?_
      refine XS.iload X0.here hx rfl (hb hby at_50) rfl ?_
      refine st319 _ ?_
      refine XS.astore X319.here hx rfl (hb hby at_54) rfl rfl (l' := #[.val (.int a), .val (.int b_), .val (.int n), .val (.int m_), .val (.int (4 : Int32)), .val (.int mx), .val (.int c0), .val (.int c1), .val (.int c2), .val (.int c3), .val (.ref b319), .unset, .unset, .unset, .unset, .unset]) rfl ?_
      refine XS.iload X319.here hx rfl (hb hby at_56) rfl ?_
      refine XS.ifNo X319.here hx rfl (hb hby at_58) rfl ((if0 _ _).trans (tlt (by decide)).2.2.2) ?_
      refine XS.aload X319.here hx rfl (hb hby at_61) rfl rfl ?_
      refine XS.iconst X319.here hx rfl (hb hby at_63) ?_
      refine XS.iload X319.here hx rfl (hb hby at_64) rfl ?_
      show SS p e below T319 m 66 #[.val (.int a), .val (.int b_), .val (.int n), .val (.int m_), .val (.int (4 : Int32)), .val (.int mx), .val (.int c0), .val (.int c1), .val (.int c2), .val (.int c3), .val (.ref b319), .unset, .unset, .unset, .unset, .unset] [(.int c0), (.int (0 : Int32)), (.ref b319)] _
      refine st321 _ ?_
      refine XS.iload X321.here hx rfl (hb hby at_67) rfl ?_
      refine XS.iconst X321.here hx rfl (hb hby at_69) ?_
      refine XS.icmpNo X321.here hx rfl (hb hby at_70) rfl (tlt (by decide)).2.2.2 ?_
      refine XS.aload X321.here hx rfl (hb hby at_73) rfl rfl ?_
      refine XS.iconst X321.here hx rfl (hb hby at_75) ?_
      refine XS.iload X321.here hx rfl (hb hby at_76) rfl ?_
      refine st323 _ ?_
      show SS p e below T323 m 79 #[.val (.int a), .val (.int b_), .val (.int n), .val (.int m_), .val (.int (4 : Int32)), .val (.int mx), .val (.int c0), .val (.int c1), .val (.int c2), .val (.int c3), .val (.ref b319), .unset, .unset, .unset, .unset, .unset] [] _
      refine XS.iload X323.here hx rfl (hb hby at_79) rfl ?_
      refine XS.iconst X323.here hx rfl (hb hby at_81) ?_
      refine XS.icmpNo X323.here hx rfl (hb hby at_82) rfl (tlt (by decide)).2.2.2 ?_
      refine XS.aload X323.here hx rfl (hb hby at_85) rfl rfl ?_
      refine XS.iconst X323.here hx rfl (hb hby at_87) ?_
      refine XS.iload X323.here hx rfl (hb hby at_88) rfl ?_
      refine st325 _ ?_
      refine XS.iload X325.here hx rfl (hb hby at_91) rfl ?_
      show SS p e below T325 m 93 #[.val (.int a), .val (.int b_), .val (.int n), .val (.int m_), .val (.int (4 : Int32)), .val (.int mx), .val (.int c0), .val (.int c1), .val (.int c2), .val (.int c3), .val (.ref b319), .unset, .unset, .unset, .unset, .unset] [(.int (4 : Int32))] _
      refine XS.iconst X325.here hx rfl (hb hby at_93) ?_
      refine XS.icmpNo X325.here hx rfl (hb hby at_94) rfl (tlt (by decide)).2.2.2 ?_
      refine XS.aload X325.here hx rfl (hb hby at_97) rfl rfl ?_
      refine XS.iconst X325.here hx rfl (hb hby at_99) ?_
      refine XS.iload X325.here hx rfl (hb hby at_100) rfl ?_
      refine st327 _ ?_
      refine XS.iconst X327.here hx rfl (hb hby at_103) ?_
      refine st329 _ ?_
      show SS p e below T329 m 106 #[.val (.int a), .val (.int b_), .val (.int n), .val (.int m_), .val (.int (4 : Int32)), .val (.int mx), .val (.int c0), .val (.int c1), .val (.int c2), .val (.int c3), .val (.ref b319), .unset, .unset, .unset, .unset, .unset] [(.ref b329)] _
      refine XS.astore X329.here hx rfl (hb hby at_106) rfl rfl (l' := #[.val (.int a), .val (.int b_), .val (.int n), .val (.int m_), .val (.int (4 : Int32)), .val (.int mx), .val (.int c0), .val (.int c1), .val (.int c2), .val (.int c3), .val (.ref b319), .val (.ref b329), .unset, .unset, .unset, .unset]) rfl ?_
      refine XS.aload X329.here hx rfl (hb hby at_108) rfl rfl ?_
      refine XS.iconst X329.here hx rfl (hb hby at_110) ?_
      refine XS.iload X329.here hx rfl (hb hby at_111) rfl ?_
      refine st331 _ ?_
      refine st332 _ ?_
      refine XS.aload X332.here hx rfl (hb hby at_117) rfl rfl ?_
      refine XS.iconst X332.here hx rfl (hb hby at_119) ?_
      show SS p e below T332 m 120 #[.val (.int a), .val (.int b_), .val (.int n), .val (.int m_), .val (.int (4 : Int32)), .val (.int mx), .val (.int c0), .val (.int c1), .val (.int c2), .val (.int c3), .val (.ref b319), .val (.ref b329), .unset, .unset, .unset, .unset] [(.int (1 : Int32)), (.ref b329)] _
      refine XS.iload X332.here hx rfl (hb hby at_120) rfl ?_
      refine st334 _ ?_
      refine st335 _ ?_
      refine XS.aload X335.here hx rfl (hb hby at_126) rfl rfl ?_
      refine XS.iconst X335.here hx rfl (hb hby at_128) ?_
      refine XS.iload X335.here hx rfl (hb hby at_129) rfl ?_
      refine st337 _ ?_
      refine st338 _ ?_
      show SS p e below T338 m 135 #[.val (.int a), .val (.int b_), .val (.int n), .val (.int m_), .val (.int (4 : Int32)), .val (.int mx), .val (.int c0), .val (.int c1), .val (.int c2), .val (.int c3), .val (.ref b319), .val (.ref b329), .unset, .unset, .unset, .unset] [] _
      refine XS.aload X338.here hx rfl (hb hby at_135) rfl rfl ?_
      refine XS.iconst X338.here hx rfl (hb hby at_137) ?_
      refine XS.iload X338.here hx rfl (hb hby at_138) rfl ?_
      refine st340 _ ?_
      refine st341 _ ?_
      refine st343 _ ?_
      refine XS.dup X343.here hx rfl (hb hby at_147) rfl rfl ?_
      refine XS.aload X343.here hx rfl (hb hby at_148) rfl rfl ?_
      show SS p e below T343 m 150 #[.val (.int a), .val (.int b_), .val (.int n), .val (.int m_), .val (.int (4 : Int32)), .val (.int mx), .val (.int c0), .val (.int c1), .val (.int c2), .val (.int c3), .val (.ref b319), .val (.ref b329), .unset, .unset, .unset, .unset] [(.ref b319), (.ref b343), (.ref b343)] _
      refine st347.trans ?_
      refine XS.iload X347.here hx rfl (hb hby at_153) rfl ?_
      refine st353.trans ?_
      refine XS.astore X353.here hx rfl (hb hby at_158) rfl rfl (l' := #[.val (.int a), .val (.int b_), .val (.int n), .val (.int m_), .val (.int (4 : Int32)), .val (.int mx), .val (.int c0), .val (.int c1), .val (.int c2), .val (.int c3), .val (.ref b319), .val (.ref b329), .val (.ref r_354), .unset, .unset, .unset]) rfl ?_
      refine XS.iload X353.here hx rfl (hb hby at_160) rfl ?_
      refine XS.iload X353.here hx rfl (hb hby at_162) rfl ?_
      exact kt
    have W360 : ∀ zQ, SS p e below T353 m 174 #[.val (.int a), .val (.int b_), .val (.int n), .val (.int m_), .val (.int (4 : Int32)), .val (.int mx), .val (.int c0), .val (.int c1), .val (.int c2), .val (.int c3), .val (.ref b319), .val (.ref b329), .val (.ref r_354), .unset, .unset, .unset] [(.int (if (4 : Int32) < mx then (4 : Int32) else mx))] zQ → Steps p.tables e below (s₁.setTop (entryFrame m #[(.int a), (.int b_), (.int n), (.int m_)] maxLocals)) zQ := by
      intro tt kt
      refine W358 tt ?_
      by_cases hj359 : (4 : Int32) < mx
      ·
        refine XS.icmpNo X353.here hx rfl (hb hby at_164) rfl (tlt hj359).2.1 ?_
        refine XS.iload X353.here hx rfl (hb hby at_167) rfl ?_
        refine XS.goto X353.here hx rfl (pc0 := 169) (pc' := 174) rfl (hb hby at_169) (by decide) (by decide) ?_
        exact castTop (by first | rfl | (simp only [if_pos hj359]; first | done | rfl)) kt
      ·
        refine XS.icmpYes X353.here hx rfl (pc0 := 164) (pc' := 172) rfl (hb hby at_164) rfl (flt hj359).2.1 (by decide) (by decide) ?_
        refine XS.iload X353.here hx rfl (hb hby at_172) rfl ?_
        exact castTop (by first | rfl | (simp only [if_neg hj359]; first | done | rfl)) kt
    have W361 : ∀ zQ, SS p e below T353 m 180 #[.val (.int a), .val (.int b_), .val (.int n), .val (.int m_), .val (.int (4 : Int32)), .val (.int mx), .val (.int c0), .val (.int c1), .val (.int c2), .val (.int c3), .val (.ref b319), .val (.ref b329), .val (.ref r_354), .val (.int (Int32.ofNat kk)), .unset, .unset] [(.int mx), (.int (4 : Int32))] zQ → Steps p.tables e below (s₁.setTop (entryFrame m #[(.int a), (.int b_), (.int n), (.int m_)] maxLocals)) zQ := by
      intro tt kt
      refine W360 tt ?_
      rw [show (if (4 : Int32) < mx then (4 : Int32) else mx) = (Int32.ofNat kk) from hkept]
      refine XS.istore X353.here hx rfl (hb hby at_174) rfl (l' := #[.val (.int a), .val (.int b_), .val (.int n), .val (.int m_), .val (.int (4 : Int32)), .val (.int mx), .val (.int c0), .val (.int c1), .val (.int c2), .val (.int c3), .val (.ref b319), .val (.ref b329), .val (.ref r_354), .val (.int (Int32.ofNat kk)), .unset, .unset]) rfl ?_
      refine XS.iload X353.here hx rfl (hb hby at_176) rfl ?_
      refine XS.iload X353.here hx rfl (hb hby at_178) rfl ?_
      exact kt
    have W363 : ∀ zQ, SS p e below T353 m 188 #[.val (.int a), .val (.int b_), .val (.int n), .val (.int m_), .val (.int (4 : Int32)), .val (.int mx), .val (.int c0), .val (.int c1), .val (.int c2), .val (.int c3), .val (.ref b319), .val (.ref b329), .val (.ref r_354), .val (.int (Int32.ofNat kk)), .unset, .unset] [(.int (if mx < (4 : Int32) then (1 : Int32) else (0 : Int32)))] zQ → Steps p.tables e below (s₁.setTop (entryFrame m #[(.int a), (.int b_), (.int n), (.int m_)] maxLocals)) zQ := by
      intro tt kt
      refine W361 tt ?_
      by_cases hj362 : mx < (4 : Int32)
      ·
        refine XS.icmpNo X353.here hx rfl (hb hby at_180) rfl (tlt hj362).2.2.2 ?_
        refine XS.iconst X353.here hx rfl (hb hby at_183) ?_
        refine XS.goto X353.here hx rfl (pc0 := 184) (pc' := 188) rfl (hb hby at_184) (by decide) (by decide) ?_
        exact castTop (by first | rfl | (simp only [if_pos hj362]; first | done | rfl)) kt
      ·
        refine XS.icmpYes X353.here hx rfl (pc0 := 180) (pc' := 187) rfl (hb hby at_180) rfl (flt hj362).2.2.2 (by decide) (by decide) ?_
        refine XS.iconst X353.here hx rfl (hb hby at_187) ?_
        exact castTop (by first | rfl | (simp only [if_neg hj362]; first | done | rfl)) kt
    have W364 : ∀ zQ, SS p e below T353 m 194 #[.val (.int a), .val (.int b_), .val (.int n), .val (.int m_), .val (.int (4 : Int32)), .val (.int mx), .val (.int c0), .val (.int c1), .val (.int c2), .val (.int c3), .val (.ref b319), .val (.ref b329), .val (.ref r_354), .val (.int (Int32.ofNat kk)), .val (.int (if mx < (4 : Int32) then (1 : Int32) else (0 : Int32))), .unset] [(.int (if mx < (4 : Int32) then (1 : Int32) else (0 : Int32))), (.int (Int32.ofNat kk))] zQ → Steps p.tables e below (s₁.setTop (entryFrame m #[(.int a), (.int b_), (.int n), (.int m_)] maxLocals)) zQ := by
      intro tt kt
      refine W363 tt ?_
      refine XS.istore X353.here hx rfl (hb hby at_188) rfl (l' := #[.val (.int a), .val (.int b_), .val (.int n), .val (.int m_), .val (.int (4 : Int32)), .val (.int mx), .val (.int c0), .val (.int c1), .val (.int c2), .val (.int c3), .val (.ref b319), .val (.ref b329), .val (.ref r_354), .val (.int (Int32.ofNat kk)), .val (.int (if mx < (4 : Int32) then (1 : Int32) else (0 : Int32))), .unset]) rfl ?_
      refine XS.iload X353.here hx rfl (hb hby at_190) rfl ?_
      refine XS.iload X353.here hx rfl (hb hby at_192) rfl ?_
      exact kt
    have W366 : ∀ zQ, SS p e below T353 m 202 #[.val (.int a), .val (.int b_), .val (.int n), .val (.int m_), .val (.int (4 : Int32)), .val (.int mx), .val (.int c0), .val (.int c1), .val (.int c2), .val (.int c3), .val (.ref b319), .val (.ref b329), .val (.ref r_354), .val (.int (Int32.ofNat kk)), .val (.int (if mx < (4 : Int32) then (1 : Int32) else (0 : Int32))), .unset] [(.int (if (if mx < (4 : Int32) then (1 : Int32) else (0 : Int32)) = (0 : Int32) then (0 : Int32) else (3 : Int32))), (.int (Int32.ofNat kk))] zQ → Steps p.tables e below (s₁.setTop (entryFrame m #[(.int a), (.int b_), (.int n), (.int m_)] maxLocals)) zQ := by
      intro tt kt
      refine W364 tt ?_
      by_cases hj365 : (if mx < (4 : Int32) then (1 : Int32) else (0 : Int32)) = (0 : Int32)
      ·
        refine XS.ifYes X353.here hx rfl (pc0 := 194) (pc' := 201) rfl (hb hby at_194) rfl ((if0 _ _).trans (teq hj365).1) (by decide) (by decide) ?_
        refine XS.iconst X353.here hx rfl (hb hby at_201) ?_
        exact castTop (by first | rfl | (simp only [if_pos hj365]; first | done | rfl)) kt
      ·
        refine XS.ifNo X353.here hx rfl (hb hby at_194) rfl ((if0 _ _).trans (feq hj365).1) ?_
        refine XS.iconst X353.here hx rfl (hb hby at_197) ?_
        refine XS.goto X353.here hx rfl (pc0 := 198) (pc' := 202) rfl (hb hby at_198) (by decide) (by decide) ?_
        exact castTop (by first | rfl | (simp only [if_neg hj365]; first | done | rfl)) kt
    have O367 : Old Z n0 T353.heap := (O352.keep K353 all0)
    obtain ⟨cq368, kq368, q368a, q368b, q368c⟩ := isOf hZ353 rfl P353_2.1
    obtain ⟨_, _, ⟨T368, L368, k368, n368⟩, -, X368, ⟨Lc368, hQ368, l368, y368, z368⟩, st368⟩ := X353.virtualBack hx (y := yn10) (z := yn10) hown353 (mvT hZ353 (w191 hw)) (mvT hZ353 (w41 hw)) (notFace_of_selects (args := #[]) (mvT hZ353 (w43 hw))) (mvT hZ353 (w43 hw)) (mvT hZ353 (w42 hw)) (by decide) (backOf (W := 0) (rm_length l Z a0 hw [] r_354 t2_355 kb2_356 (pres [c0, c1, c2, c3] kk) cS T353.heap n0 (Nat.le_trans Z0 (Nat.le_trans (Nat.le_trans (Nat.le_trans (Nat.le_trans (Nat.le_trans (Nat.le_trans (Nat.le_trans (Nat.le_trans (Nat.le_trans (Nat.le_trans (Nat.le_trans (Nat.le_trans K319.1 K321.1) K323.1) K325.1) K327.1) K329.1) K332.1) K335.1) K338.1) K341.1) K343.1) K347.1) K353.1)) O367 S_cs hcS P353_2) hZ353 (w44 hw) (w9 hw) (by decide) (by decide)) q368a q368c (g := (mkF m 207 #[.val (.int a), .val (.int b_), .val (.int n), .val (.int m_), .val (.int (4 : Int32)), .val (.int mx), .val (.int c0), .val (.int c1), .val (.int c2), .val (.int c3), .val (.ref b319), .val (.ref b329), .val (.ref r_354), .val (.int (Int32.ofNat kk)), .val (.int (if mx < (4 : Int32) then (1 : Int32) else (0 : Int32))), .val (.int (Int32.ofNat (pres [c0, c1, c2, c3] kk).length))] [(.ref r_354)])) rfl (by rw [hml]; rfl) (Steps.refl _) (argsL := []) (rest := []) (lenOf pd__28__29_I rfl) rfl (by show 2 * 0 + _ ≤ _; exact Nat.le_of_eq rfl) (hb hby at_207) (fun _ _ => ⟨rfl, rfl, (Nat.le_of_ble_eq_true rfl), (Nat.le_of_ble_eq_true rfl)⟩)
    dsimp only [Pt.U, Pt.locs, Pt.cells, Pt.slots] at X368 l368 y368 z368 st368 hQ368
    subst l368 y368 z368
    obtain ⟨rfl, Nq368, eq368⟩ := hQ368
    have N368 := Fr.app N353 Nq368
    have F369 : Arv Z T353.heap b329 k329 .char (4 : Int32) [(.int (pr c0)), (.int (pr c1)), (.int (pr c2)), (.int (pr c3))] (.int (0 : Int32)) := (((J341.keep K343 nin0).keep K347 (ninS (Nat.ne_of_lt (Nat.lt_of_lt_of_le (Nat.lt_of_lt_of_le G329.lt (Nat.le_trans (Nat.le_trans (Nat.le_trans K332.1 K335.1) K338.1) K341.1)) (Nat.le_of_eq g343.symm))) nin0)).keep K353 nin0)
    obtain ⟨_, _, ⟨T370, L370, k370, n370⟩, -, X370, ⟨Lc370, hQ370, l370, y370, z370⟩, st370⟩ := Jvm.LawKit.callS X368 hx (y := yn43) hown353 (mvT hZ353 (w192 hw)) (mvT hZ353 (w193 hw)) (mvT hZ353 (w5 hw)) (mvT hZ353 (w194 hw)) (by decide) (backOf (W := 0) (rm_okay l Z a0 hw [] r_354 b329 0 kk (pres [c0, c1, c2, c3] kk).length k329 [pr c0, pr c1, pr c2, pr c3] t2_355 kb2_356 (pres [c0, c1, c2, c3] kk) cS fm T353.heap n0 (Nat.le_trans Z0 (Nat.le_trans (Nat.le_trans (Nat.le_trans (Nat.le_trans (Nat.le_trans (Nat.le_trans (Nat.le_trans (Nat.le_trans (Nat.le_trans (Nat.le_trans (Nat.le_trans (Nat.le_trans K319.1 K321.1) K323.1) K325.1) K327.1) K329.1) K332.1) K335.1) K338.1) K341.1) K343.1) K347.1) K353.1)) O367 S_cs hcS S_fm hfm S_ad S_hi S_lo P353_2 F369 rfl (pres_at hkl hes) (Nat.le_trans hkl (Nat.le_of_ble_eq_true rfl)) (Nat.le_of_ble_eq_true rfl) (Nat.le_of_ble_eq_true rfl)) hZ353 (w194 hw) (w5 hw) (by decide) (by decide)) (g := (mkF m 226 #[.val (.int a), .val (.int b_), .val (.int n), .val (.int m_), .val (.int (4 : Int32)), .val (.int mx), .val (.int c0), .val (.int c1), .val (.int c2), .val (.int c3), .val (.ref b319), .val (.ref b329), .val (.ref r_354), .val (.int (Int32.ofNat kk)), .val (.int (if mx < (4 : Int32) then (1 : Int32) else (0 : Int32))), .val (.int (Int32.ofNat (pres [c0, c1, c2, c3] kk).length))] [(.ref b329), (.int (Int32.ofNat (pres [c0, c1, c2, c3] kk).length)), (.int (Int32.ofNat kk)), (.int (0 : Int32)), (.ref r_354)])) rfl (by rw [hml]; rfl) (argsL := [(.ref r_354), (.int (0 : Int32)), (.int (Int32.ofNat kk)), (.int (Int32.ofNat (pres [c0, c1, c2, c3] kk).length)), (.ref b329)]) (rest := []) (lenOf pd__28_Ljava_2f_lang_2f_String_3b_III_5b_C_29_Z rfl) rfl (by show 2 * 0 + _ ≤ _; exact Nat.le_of_eq rfl) (hb hby at_226) (fun _ _ => ⟨rfl, eq368, (Nat.le_of_ble_eq_true rfl), (Nat.le_of_ble_eq_true rfl)⟩)
    dsimp only [Pt.U, Pt.locs, Pt.cells, Pt.slots] at X370 l370 y370 z370 st370 hQ370
    subst l370 y370 z370
    obtain ⟨rfl, Nq370, eq370⟩ := hQ370
    have N370 := Fr.app N368 Nq370
    obtain ⟨_, _, ⟨T371, L371, k371, n371⟩, -, X371, ⟨Lc371, hQ371, l371, y371, z371⟩, st371⟩ := Jvm.LawKit.callS X370 hx (y := yn43) hown353 (mvT hZ353 (w192 hw)) (mvT hZ353 (w193 hw)) (mvT hZ353 (w5 hw)) (mvT hZ353 (w194 hw)) (by decide) (backOf (W := 0) (rm_okay l Z a0 hw [] r_354 b329 1 kk (pres [c0, c1, c2, c3] kk).length k329 [pr c0, pr c1, pr c2, pr c3] t2_355 kb2_356 (pres [c0, c1, c2, c3] kk) cS fm T353.heap n0 (Nat.le_trans Z0 (Nat.le_trans (Nat.le_trans (Nat.le_trans (Nat.le_trans (Nat.le_trans (Nat.le_trans (Nat.le_trans (Nat.le_trans (Nat.le_trans (Nat.le_trans (Nat.le_trans (Nat.le_trans K319.1 K321.1) K323.1) K325.1) K327.1) K329.1) K332.1) K335.1) K338.1) K341.1) K343.1) K347.1) K353.1)) O367 S_cs hcS S_fm hfm S_ad S_hi S_lo P353_2 F369 rfl (pres_at hkl hes) (Nat.le_trans hkl (Nat.le_of_ble_eq_true rfl)) (Nat.le_of_ble_eq_true rfl) (Nat.le_of_ble_eq_true rfl)) hZ353 (w194 hw) (w5 hw) (by decide) (by decide)) (g := (mkF m 241 #[.val (.int a), .val (.int b_), .val (.int n), .val (.int m_), .val (.int (4 : Int32)), .val (.int mx), .val (.int c0), .val (.int c1), .val (.int c2), .val (.int c3), .val (.ref b319), .val (.ref b329), .val (.ref r_354), .val (.int (Int32.ofNat kk)), .val (.int (if mx < (4 : Int32) then (1 : Int32) else (0 : Int32))), .val (.int (Int32.ofNat (pres [c0, c1, c2, c3] kk).length))] [(.ref b329), (.int (Int32.ofNat (pres [c0, c1, c2, c3] kk).length)), (.int (Int32.ofNat kk)), (.int (1 : Int32)), (.ref r_354)])) rfl (by rw [hml]; rfl) (argsL := [(.ref r_354), (.int (1 : Int32)), (.int (Int32.ofNat kk)), (.int (Int32.ofNat (pres [c0, c1, c2, c3] kk).length)), (.ref b329)]) (rest := []) (lenOf pd__28_Ljava_2f_lang_2f_String_3b_III_5b_C_29_Z rfl) rfl (by show 2 * 0 + _ ≤ _; exact Nat.le_of_eq rfl) (hb hby at_241) (fun _ _ => ⟨rfl, eq370, (Nat.le_of_ble_eq_true rfl), (Nat.le_of_ble_eq_true rfl)⟩)
    dsimp only [Pt.U, Pt.locs, Pt.cells, Pt.slots] at X371 l371 y371 z371 st371 hQ371
    subst l371 y371 z371
    obtain ⟨rfl, Nq371, eq371⟩ := hQ371
    have N371 := Fr.app N370 Nq371
    obtain ⟨_, _, ⟨T372, L372, k372, n372⟩, -, X372, ⟨Lc372, hQ372, l372, y372, z372⟩, st372⟩ := Jvm.LawKit.callS X371 hx (y := yn43) hown353 (mvT hZ353 (w192 hw)) (mvT hZ353 (w193 hw)) (mvT hZ353 (w5 hw)) (mvT hZ353 (w194 hw)) (by decide) (backOf (W := 0) (rm_okay l Z a0 hw [] r_354 b329 2 kk (pres [c0, c1, c2, c3] kk).length k329 [pr c0, pr c1, pr c2, pr c3] t2_355 kb2_356 (pres [c0, c1, c2, c3] kk) cS fm T353.heap n0 (Nat.le_trans Z0 (Nat.le_trans (Nat.le_trans (Nat.le_trans (Nat.le_trans (Nat.le_trans (Nat.le_trans (Nat.le_trans (Nat.le_trans (Nat.le_trans (Nat.le_trans (Nat.le_trans (Nat.le_trans K319.1 K321.1) K323.1) K325.1) K327.1) K329.1) K332.1) K335.1) K338.1) K341.1) K343.1) K347.1) K353.1)) O367 S_cs hcS S_fm hfm S_ad S_hi S_lo P353_2 F369 rfl (pres_at hkl hes) (Nat.le_trans hkl (Nat.le_of_ble_eq_true rfl)) (Nat.le_of_ble_eq_true rfl) (Nat.le_of_ble_eq_true rfl)) hZ353 (w194 hw) (w5 hw) (by decide) (by decide)) (g := (mkF m 256 #[.val (.int a), .val (.int b_), .val (.int n), .val (.int m_), .val (.int (4 : Int32)), .val (.int mx), .val (.int c0), .val (.int c1), .val (.int c2), .val (.int c3), .val (.ref b319), .val (.ref b329), .val (.ref r_354), .val (.int (Int32.ofNat kk)), .val (.int (if mx < (4 : Int32) then (1 : Int32) else (0 : Int32))), .val (.int (Int32.ofNat (pres [c0, c1, c2, c3] kk).length))] [(.ref b329), (.int (Int32.ofNat (pres [c0, c1, c2, c3] kk).length)), (.int (Int32.ofNat kk)), (.int (2 : Int32)), (.ref r_354)])) rfl (by rw [hml]; rfl) (argsL := [(.ref r_354), (.int (2 : Int32)), (.int (Int32.ofNat kk)), (.int (Int32.ofNat (pres [c0, c1, c2, c3] kk).length)), (.ref b329)]) (rest := []) (lenOf pd__28_Ljava_2f_lang_2f_String_3b_III_5b_C_29_Z rfl) rfl (by show 2 * 0 + _ ≤ _; exact Nat.le_of_eq rfl) (hb hby at_256) (fun _ _ => ⟨rfl, eq371, (Nat.le_of_ble_eq_true rfl), (Nat.le_of_ble_eq_true rfl)⟩)
    dsimp only [Pt.U, Pt.locs, Pt.cells, Pt.slots] at X372 l372 y372 z372 st372 hQ372
    subst l372 y372 z372
    obtain ⟨rfl, Nq372, eq372⟩ := hQ372
    have N372 := Fr.app N371 Nq372
    obtain ⟨_, _, ⟨T373, L373, k373, n373⟩, -, X373, ⟨Lc373, hQ373, l373, y373, z373⟩, st373⟩ := Jvm.LawKit.callS X372 hx (y := yn43) hown353 (mvT hZ353 (w192 hw)) (mvT hZ353 (w193 hw)) (mvT hZ353 (w5 hw)) (mvT hZ353 (w194 hw)) (by decide) (backOf (W := 0) (rm_okay l Z a0 hw [] r_354 b329 3 kk (pres [c0, c1, c2, c3] kk).length k329 [pr c0, pr c1, pr c2, pr c3] t2_355 kb2_356 (pres [c0, c1, c2, c3] kk) cS fm T353.heap n0 (Nat.le_trans Z0 (Nat.le_trans (Nat.le_trans (Nat.le_trans (Nat.le_trans (Nat.le_trans (Nat.le_trans (Nat.le_trans (Nat.le_trans (Nat.le_trans (Nat.le_trans (Nat.le_trans (Nat.le_trans K319.1 K321.1) K323.1) K325.1) K327.1) K329.1) K332.1) K335.1) K338.1) K341.1) K343.1) K347.1) K353.1)) O367 S_cs hcS S_fm hfm S_ad S_hi S_lo P353_2 F369 rfl (pres_at hkl hes) (Nat.le_trans hkl (Nat.le_of_ble_eq_true rfl)) (Nat.le_of_ble_eq_true rfl) (Nat.le_of_ble_eq_true rfl)) hZ353 (w194 hw) (w5 hw) (by decide) (by decide)) (g := (mkF m 271 #[.val (.int a), .val (.int b_), .val (.int n), .val (.int m_), .val (.int (4 : Int32)), .val (.int mx), .val (.int c0), .val (.int c1), .val (.int c2), .val (.int c3), .val (.ref b319), .val (.ref b329), .val (.ref r_354), .val (.int (Int32.ofNat kk)), .val (.int (if mx < (4 : Int32) then (1 : Int32) else (0 : Int32))), .val (.int (Int32.ofNat (pres [c0, c1, c2, c3] kk).length))] [(.ref b329), (.int (Int32.ofNat (pres [c0, c1, c2, c3] kk).length)), (.int (Int32.ofNat kk)), (.int (3 : Int32)), (.ref r_354)])) rfl (by rw [hml]; rfl) (argsL := [(.ref r_354), (.int (3 : Int32)), (.int (Int32.ofNat kk)), (.int (Int32.ofNat (pres [c0, c1, c2, c3] kk).length)), (.ref b329)]) (rest := []) (lenOf pd__28_Ljava_2f_lang_2f_String_3b_III_5b_C_29_Z rfl) rfl (by show 2 * 0 + _ ≤ _; exact Nat.le_of_eq rfl) (hb hby at_271) (fun _ _ => ⟨rfl, eq372, (Nat.le_of_ble_eq_true rfl), (Nat.le_of_ble_eq_true rfl)⟩)
    dsimp only [Pt.U, Pt.locs, Pt.cells, Pt.slots] at X373 l373 y373 z373 st373 hQ373
    subst l373 y373 z373
    obtain ⟨rfl, Nq373, eq373⟩ := hQ373
    have N373 := Fr.app N372 Nq373
    obtain ⟨_, _, ⟨T374, L374, k374, n374⟩, -, X374, ⟨Lc374, hQ374, l374, y374, z374⟩, st374⟩ := Jvm.LawKit.callS X373 hx (y := yn43) hown353 (mvT hZ353 (w192 hw)) (mvT hZ353 (w193 hw)) (mvT hZ353 (w5 hw)) (mvT hZ353 (w194 hw)) (by decide) (backOf (W := 0) (rm_okay l Z a0 hw [] r_354 b329 4 kk (pres [c0, c1, c2, c3] kk).length k329 [pr c0, pr c1, pr c2, pr c3] t2_355 kb2_356 (pres [c0, c1, c2, c3] kk) cS fm T353.heap n0 (Nat.le_trans Z0 (Nat.le_trans (Nat.le_trans (Nat.le_trans (Nat.le_trans (Nat.le_trans (Nat.le_trans (Nat.le_trans (Nat.le_trans (Nat.le_trans (Nat.le_trans (Nat.le_trans (Nat.le_trans K319.1 K321.1) K323.1) K325.1) K327.1) K329.1) K332.1) K335.1) K338.1) K341.1) K343.1) K347.1) K353.1)) O367 S_cs hcS S_fm hfm S_ad S_hi S_lo P353_2 F369 rfl (pres_at hkl hes) (Nat.le_trans hkl (Nat.le_of_ble_eq_true rfl)) (Nat.le_of_ble_eq_true rfl) (Nat.le_of_ble_eq_true rfl)) hZ353 (w194 hw) (w5 hw) (by decide) (by decide)) (g := (mkF m 286 #[.val (.int a), .val (.int b_), .val (.int n), .val (.int m_), .val (.int (4 : Int32)), .val (.int mx), .val (.int c0), .val (.int c1), .val (.int c2), .val (.int c3), .val (.ref b319), .val (.ref b329), .val (.ref r_354), .val (.int (Int32.ofNat kk)), .val (.int (if mx < (4 : Int32) then (1 : Int32) else (0 : Int32))), .val (.int (Int32.ofNat (pres [c0, c1, c2, c3] kk).length))] [(.ref b329), (.int (Int32.ofNat (pres [c0, c1, c2, c3] kk).length)), (.int (Int32.ofNat kk)), (.int (4 : Int32)), (.ref r_354)])) rfl (by rw [hml]; rfl) (argsL := [(.ref r_354), (.int (4 : Int32)), (.int (Int32.ofNat kk)), (.int (Int32.ofNat (pres [c0, c1, c2, c3] kk).length)), (.ref b329)]) (rest := []) (lenOf pd__28_Ljava_2f_lang_2f_String_3b_III_5b_C_29_Z rfl) rfl (by show 2 * 0 + _ ≤ _; exact Nat.le_of_eq rfl) (hb hby at_286) (fun _ _ => ⟨rfl, eq373, (Nat.le_of_ble_eq_true rfl), (Nat.le_of_ble_eq_true rfl)⟩)
    dsimp only [Pt.U, Pt.locs, Pt.cells, Pt.slots] at X374 l374 y374 z374 st374 hQ374
    subst l374 y374 z374
    obtain ⟨rfl, Nq374, eq374⟩ := hQ374
    have N374 := Fr.app N373 Nq374
    obtain ⟨_, _, ⟨T375, L375, k375, n375⟩, -, X375, ⟨Lc375, hQ375, l375, y375, z375⟩, st375⟩ := Jvm.LawKit.callS X374 hx (y := yn43) hown353 (mvT hZ353 (w192 hw)) (mvT hZ353 (w193 hw)) (mvT hZ353 (w5 hw)) (mvT hZ353 (w194 hw)) (by decide) (backOf (W := 0) (rm_okay l Z a0 hw [] r_354 b329 5 kk (pres [c0, c1, c2, c3] kk).length k329 [pr c0, pr c1, pr c2, pr c3] t2_355 kb2_356 (pres [c0, c1, c2, c3] kk) cS fm T353.heap n0 (Nat.le_trans Z0 (Nat.le_trans (Nat.le_trans (Nat.le_trans (Nat.le_trans (Nat.le_trans (Nat.le_trans (Nat.le_trans (Nat.le_trans (Nat.le_trans (Nat.le_trans (Nat.le_trans (Nat.le_trans K319.1 K321.1) K323.1) K325.1) K327.1) K329.1) K332.1) K335.1) K338.1) K341.1) K343.1) K347.1) K353.1)) O367 S_cs hcS S_fm hfm S_ad S_hi S_lo P353_2 F369 rfl (pres_at hkl hes) (Nat.le_trans hkl (Nat.le_of_ble_eq_true rfl)) (Nat.le_of_ble_eq_true rfl) (Nat.le_of_ble_eq_true rfl)) hZ353 (w194 hw) (w5 hw) (by decide) (by decide)) (g := (mkF m 301 #[.val (.int a), .val (.int b_), .val (.int n), .val (.int m_), .val (.int (4 : Int32)), .val (.int mx), .val (.int c0), .val (.int c1), .val (.int c2), .val (.int c3), .val (.ref b319), .val (.ref b329), .val (.ref r_354), .val (.int (Int32.ofNat kk)), .val (.int (if mx < (4 : Int32) then (1 : Int32) else (0 : Int32))), .val (.int (Int32.ofNat (pres [c0, c1, c2, c3] kk).length))] [(.ref b329), (.int (Int32.ofNat (pres [c0, c1, c2, c3] kk).length)), (.int (Int32.ofNat kk)), (.int (5 : Int32)), (.ref r_354)])) rfl (by rw [hml]; rfl) (argsL := [(.ref r_354), (.int (5 : Int32)), (.int (Int32.ofNat kk)), (.int (Int32.ofNat (pres [c0, c1, c2, c3] kk).length)), (.ref b329)]) (rest := []) (lenOf pd__28_Ljava_2f_lang_2f_String_3b_III_5b_C_29_Z rfl) rfl (by show 2 * 0 + _ ≤ _; exact Nat.le_of_eq rfl) (hb hby at_301) (fun _ _ => ⟨rfl, eq374, (Nat.le_of_ble_eq_true rfl), (Nat.le_of_ble_eq_true rfl)⟩)
    dsimp only [Pt.U, Pt.locs, Pt.cells, Pt.slots] at X375 l375 y375 z375 st375 hQ375
    subst l375 y375 z375
    obtain ⟨rfl, Nq375, eq375⟩ := hQ375
    have N375 := Fr.app N374 Nq375
    obtain ⟨_, _, ⟨T376, L376, k376, n376⟩, -, X376, ⟨Lc376, hQ376, l376, y376, z376⟩, st376⟩ := Jvm.LawKit.callS X375 hx (y := yn43) hown353 (mvT hZ353 (w192 hw)) (mvT hZ353 (w193 hw)) (mvT hZ353 (w5 hw)) (mvT hZ353 (w194 hw)) (by decide) (backOf (W := 0) (rm_okay l Z a0 hw [] r_354 b329 6 kk (pres [c0, c1, c2, c3] kk).length k329 [pr c0, pr c1, pr c2, pr c3] t2_355 kb2_356 (pres [c0, c1, c2, c3] kk) cS fm T353.heap n0 (Nat.le_trans Z0 (Nat.le_trans (Nat.le_trans (Nat.le_trans (Nat.le_trans (Nat.le_trans (Nat.le_trans (Nat.le_trans (Nat.le_trans (Nat.le_trans (Nat.le_trans (Nat.le_trans (Nat.le_trans K319.1 K321.1) K323.1) K325.1) K327.1) K329.1) K332.1) K335.1) K338.1) K341.1) K343.1) K347.1) K353.1)) O367 S_cs hcS S_fm hfm S_ad S_hi S_lo P353_2 F369 rfl (pres_at hkl hes) (Nat.le_trans hkl (Nat.le_of_ble_eq_true rfl)) (Nat.le_of_ble_eq_true rfl) (Nat.le_of_ble_eq_true rfl)) hZ353 (w194 hw) (w5 hw) (by decide) (by decide)) (g := (mkF m 317 #[.val (.int a), .val (.int b_), .val (.int n), .val (.int m_), .val (.int (4 : Int32)), .val (.int mx), .val (.int c0), .val (.int c1), .val (.int c2), .val (.int c3), .val (.ref b319), .val (.ref b329), .val (.ref r_354), .val (.int (Int32.ofNat kk)), .val (.int (if mx < (4 : Int32) then (1 : Int32) else (0 : Int32))), .val (.int (Int32.ofNat (pres [c0, c1, c2, c3] kk).length))] [(.ref b329), (.int (Int32.ofNat (pres [c0, c1, c2, c3] kk).length)), (.int (Int32.ofNat kk)), (.int (6 : Int32)), (.ref r_354)])) rfl (by rw [hml]; rfl) (argsL := [(.ref r_354), (.int (6 : Int32)), (.int (Int32.ofNat kk)), (.int (Int32.ofNat (pres [c0, c1, c2, c3] kk).length)), (.ref b329)]) (rest := []) (lenOf pd__28_Ljava_2f_lang_2f_String_3b_III_5b_C_29_Z rfl) rfl (by show 2 * 0 + _ ≤ _; exact Nat.le_of_eq rfl) (hb hby at_317) (fun _ _ => ⟨rfl, eq375, (Nat.le_of_ble_eq_true rfl), (Nat.le_of_ble_eq_true rfl)⟩)
    dsimp only [Pt.U, Pt.locs, Pt.cells, Pt.slots] at X376 l376 y376 z376 st376 hQ376
    subst l376 y376 z376
    obtain ⟨rfl, Nq376, eq376⟩ := hQ376
    have N376 := Fr.app N375 Nq376
    have W377 : ∀ zQ, SS p e below T376 m 328 #[.val (.int a), .val (.int b_), .val (.int n), .val (.int m_), .val (.int (4 : Int32)), .val (.int mx), .val (.int c0), .val (.int c1), .val (.int c2), .val (.int c3), .val (.ref b319), .val (.ref b329), .val (.ref r_354), .val (.int (Int32.ofNat kk)), .val (.int (if mx < (4 : Int32) then (1 : Int32) else (0 : Int32))), .val (.int (Int32.ofNat (pres [c0, c1, c2, c3] kk).length))] [(.int (1 : Int32))] zQ → Steps p.tables e below (s₁.setTop (entryFrame m #[(.int a), (.int b_), (.int n), (.int m_)] maxLocals)) zQ := by
      intro tt kt
      refine W366 tt ?_
      refine XS.iadd X353.here hx rfl (hb hby at_202) rfl ?_
      show SS p e below T353 m 203 #[.val (.int a), .val (.int b_), .val (.int n), .val (.int m_), .val (.int (4 : Int32)), .val (.int mx), .val (.int c0), .val (.int c1), .val (.int c2), .val (.int c3), .val (.ref b319), .val (.ref b329), .val (.ref r_354), .val (.int (Int32.ofNat kk)), .val (.int (if mx < (4 : Int32) then (1 : Int32) else (0 : Int32))), .unset] [(.int ((Int32.ofNat kk) + (if (if mx < (4 : Int32) then (1 : Int32) else (0 : Int32)) = (0 : Int32) then (0 : Int32) else (3 : Int32))))] _
      rw [show ((Int32.ofNat kk) + (if (if mx < (4 : Int32) then (1 : Int32) else (0 : Int32)) = (0 : Int32) then (0 : Int32) else (3 : Int32))) = (Int32.ofNat (pres [c0, c1, c2, c3] kk).length) from (own_want (cs := [c0, c1, c2, c3]) (kk := kk) (mx := mx) hkl hcut)]
      refine XS.istore X353.here hx rfl (hb hby at_203) rfl (l' := #[.val (.int a), .val (.int b_), .val (.int n), .val (.int m_), .val (.int (4 : Int32)), .val (.int mx), .val (.int c0), .val (.int c1), .val (.int c2), .val (.int c3), .val (.ref b319), .val (.ref b329), .val (.ref r_354), .val (.int (Int32.ofNat kk)), .val (.int (if mx < (4 : Int32) then (1 : Int32) else (0 : Int32))), .val (.int (Int32.ofNat (pres [c0, c1, c2, c3] kk).length))]) rfl ?_
      refine XS.aload X353.here hx rfl (hb hby at_205) rfl rfl ?_
      refine st368.trans ?_
      refine XS.iload X368.here hx rfl (hb hby at_210) rfl ?_
      refine XS.icmpYes X368.here hx rfl (pc0 := 212) (pc' := 217) rfl (hb hby at_212) rfl (teq rfl).1 (by decide) (by decide) ?_
      refine XS.aload X368.here hx rfl (hb hby at_217) rfl rfl ?_
      refine XS.iconst X368.here hx rfl (hb hby at_219) ?_
      show SS p e below T368 m 220 #[.val (.int a), .val (.int b_), .val (.int n), .val (.int m_), .val (.int (4 : Int32)), .val (.int mx), .val (.int c0), .val (.int c1), .val (.int c2), .val (.int c3), .val (.ref b319), .val (.ref b329), .val (.ref r_354), .val (.int (Int32.ofNat kk)), .val (.int (if mx < (4 : Int32) then (1 : Int32) else (0 : Int32))), .val (.int (Int32.ofNat (pres [c0, c1, c2, c3] kk).length))] [(.int (0 : Int32)), (.ref r_354)] _
      refine XS.iload X368.here hx rfl (hb hby at_220) rfl ?_
      refine XS.iload X368.here hx rfl (hb hby at_222) rfl ?_
      refine XS.aload X368.here hx rfl (hb hby at_224) rfl rfl ?_
      refine st370 _ ?_
      refine XS.ifNo X370.here hx rfl (hb hby at_229) rfl ((if0 _ _).trans (feq (by decide)).1) ?_
      refine XS.aload X370.here hx rfl (hb hby at_232) rfl rfl ?_
      refine XS.iconst X370.here hx rfl (hb hby at_234) ?_
      refine XS.iload X370.here hx rfl (hb hby at_235) rfl ?_
      show SS p e below T370 m 237 #[.val (.int a), .val (.int b_), .val (.int n), .val (.int m_), .val (.int (4 : Int32)), .val (.int mx), .val (.int c0), .val (.int c1), .val (.int c2), .val (.int c3), .val (.ref b319), .val (.ref b329), .val (.ref r_354), .val (.int (Int32.ofNat kk)), .val (.int (if mx < (4 : Int32) then (1 : Int32) else (0 : Int32))), .val (.int (Int32.ofNat (pres [c0, c1, c2, c3] kk).length))] [(.int (Int32.ofNat kk)), (.int (1 : Int32)), (.ref r_354)] _
      refine XS.iload X370.here hx rfl (hb hby at_237) rfl ?_
      refine XS.aload X370.here hx rfl (hb hby at_239) rfl rfl ?_
      refine st371 _ ?_
      refine XS.ifNo X371.here hx rfl (hb hby at_244) rfl ((if0 _ _).trans (feq (by decide)).1) ?_
      refine XS.aload X371.here hx rfl (hb hby at_247) rfl rfl ?_
      refine XS.iconst X371.here hx rfl (hb hby at_249) ?_
      refine XS.iload X371.here hx rfl (hb hby at_250) rfl ?_
      refine XS.iload X371.here hx rfl (hb hby at_252) rfl ?_
      show SS p e below T371 m 254 #[.val (.int a), .val (.int b_), .val (.int n), .val (.int m_), .val (.int (4 : Int32)), .val (.int mx), .val (.int c0), .val (.int c1), .val (.int c2), .val (.int c3), .val (.ref b319), .val (.ref b329), .val (.ref r_354), .val (.int (Int32.ofNat kk)), .val (.int (if mx < (4 : Int32) then (1 : Int32) else (0 : Int32))), .val (.int (Int32.ofNat (pres [c0, c1, c2, c3] kk).length))] [(.int (Int32.ofNat (pres [c0, c1, c2, c3] kk).length)), (.int (Int32.ofNat kk)), (.int (2 : Int32)), (.ref r_354)] _
      refine XS.aload X371.here hx rfl (hb hby at_254) rfl rfl ?_
      refine st372 _ ?_
      refine XS.ifNo X372.here hx rfl (hb hby at_259) rfl ((if0 _ _).trans (feq (by decide)).1) ?_
      refine XS.aload X372.here hx rfl (hb hby at_262) rfl rfl ?_
      refine XS.iconst X372.here hx rfl (hb hby at_264) ?_
      refine XS.iload X372.here hx rfl (hb hby at_265) rfl ?_
      refine XS.iload X372.here hx rfl (hb hby at_267) rfl ?_
      refine XS.aload X372.here hx rfl (hb hby at_269) rfl rfl ?_
      show SS p e below T372 m 271 #[.val (.int a), .val (.int b_), .val (.int n), .val (.int m_), .val (.int (4 : Int32)), .val (.int mx), .val (.int c0), .val (.int c1), .val (.int c2), .val (.int c3), .val (.ref b319), .val (.ref b329), .val (.ref r_354), .val (.int (Int32.ofNat kk)), .val (.int (if mx < (4 : Int32) then (1 : Int32) else (0 : Int32))), .val (.int (Int32.ofNat (pres [c0, c1, c2, c3] kk).length))] [(.ref b329), (.int (Int32.ofNat (pres [c0, c1, c2, c3] kk).length)), (.int (Int32.ofNat kk)), (.int (3 : Int32)), (.ref r_354)] _
      refine st373 _ ?_
      refine XS.ifNo X373.here hx rfl (hb hby at_274) rfl ((if0 _ _).trans (feq (by decide)).1) ?_
      refine XS.aload X373.here hx rfl (hb hby at_277) rfl rfl ?_
      refine XS.iconst X373.here hx rfl (hb hby at_279) ?_
      refine XS.iload X373.here hx rfl (hb hby at_280) rfl ?_
      refine XS.iload X373.here hx rfl (hb hby at_282) rfl ?_
      refine XS.aload X373.here hx rfl (hb hby at_284) rfl rfl ?_
      refine st374 _ ?_
      show SS p e below T374 m 289 #[.val (.int a), .val (.int b_), .val (.int n), .val (.int m_), .val (.int (4 : Int32)), .val (.int mx), .val (.int c0), .val (.int c1), .val (.int c2), .val (.int c3), .val (.ref b319), .val (.ref b329), .val (.ref r_354), .val (.int (Int32.ofNat kk)), .val (.int (if mx < (4 : Int32) then (1 : Int32) else (0 : Int32))), .val (.int (Int32.ofNat (pres [c0, c1, c2, c3] kk).length))] [(.int (1 : Int32))] _
      refine XS.ifNo X374.here hx rfl (hb hby at_289) rfl ((if0 _ _).trans (feq (by decide)).1) ?_
      refine XS.aload X374.here hx rfl (hb hby at_292) rfl rfl ?_
      refine XS.iconst X374.here hx rfl (hb hby at_294) ?_
      refine XS.iload X374.here hx rfl (hb hby at_295) rfl ?_
      refine XS.iload X374.here hx rfl (hb hby at_297) rfl ?_
      refine XS.aload X374.here hx rfl (hb hby at_299) rfl rfl ?_
      refine st375 _ ?_
      refine XS.ifNo X375.here hx rfl (hb hby at_304) rfl ((if0 _ _).trans (feq (by decide)).1) ?_
      show SS p e below T375 m 307 #[.val (.int a), .val (.int b_), .val (.int n), .val (.int m_), .val (.int (4 : Int32)), .val (.int mx), .val (.int c0), .val (.int c1), .val (.int c2), .val (.int c3), .val (.ref b319), .val (.ref b329), .val (.ref r_354), .val (.int (Int32.ofNat kk)), .val (.int (if mx < (4 : Int32) then (1 : Int32) else (0 : Int32))), .val (.int (Int32.ofNat (pres [c0, c1, c2, c3] kk).length))] [] _
      refine XS.aload X375.here hx rfl (hb hby at_307) rfl rfl ?_
      refine XS.bipush X375.here hx rfl (hb hby at_309) ?_
      refine XS.iload X375.here hx rfl (hb hby at_311) rfl ?_
      refine XS.iload X375.here hx rfl (hb hby at_313) rfl ?_
      refine XS.aload X375.here hx rfl (hb hby at_315) rfl rfl ?_
      refine st376 _ ?_
      refine XS.ifNo X376.here hx rfl (hb hby at_320) rfl ((if0 _ _).trans (feq (by decide)).1) ?_
      refine XS.iconst X376.here hx rfl (hb hby at_323) ?_
      show SS p e below T376 m 324 #[.val (.int a), .val (.int b_), .val (.int n), .val (.int m_), .val (.int (4 : Int32)), .val (.int mx), .val (.int c0), .val (.int c1), .val (.int c2), .val (.int c3), .val (.ref b319), .val (.ref b329), .val (.ref r_354), .val (.int (Int32.ofNat kk)), .val (.int (if mx < (4 : Int32) then (1 : Int32) else (0 : Int32))), .val (.int (Int32.ofNat (pres [c0, c1, c2, c3] kk).length))] [(.int (1 : Int32))] _
      refine XS.goto X376.here hx rfl (pc0 := 324) (pc' := 328) rfl (hb hby at_324) (by decide) (by decide) ?_
      exact kt
    obtain ⟨fs, hr, hrun, hended, hRW⟩ := Jvm.Stand.leaveW X376 hS353 (by rw [eq376]; exact hk353) (v := some (.int (nar .boolean (1 : Int32)))) (fun h => by rw [Bd.returns] at h; cases h) (BodyLoose.notSynchronized Bd)
    refine ⟨_, _, W377 _ (retN X376 hx (t := .boolean) Bd.returns (by simp) (hb hby at_328) hr), hrun, hended, _, _, rfl, ?_, own_chr (T := T376) R357 (CHv.at X376 hZ353 hEL R357.1) hh.symm eq376, own_rw hRW (by decide) (by decide)⟩
    show Q_law Z a b_ n m_ cS fm h0 n0 _ T376.heap _
    rw [eq376]
    exact ⟨rfl, N376, (Keep.trans (Keep.trans (Keep.trans (Keep.trans (Keep.trans (Keep.trans (Keep.trans (Keep.trans (Keep.trans (Keep.trans (Keep.trans (Keep.trans (Keep.trans (Keep.refl h0 []) K319 all0) K321 (allS (Or.inr (Nat.le_of_eq g319.symm)) all0)) K323 (allS (Or.inr (Nat.le_of_eq g319.symm)) all0)) K325 (allS (Or.inr (Nat.le_of_eq g319.symm)) all0)) K327 (allS (Or.inr (Nat.le_of_eq g319.symm)) all0)) K329 all0) K332 (allS (Or.inr (Nat.le_trans (Nat.le_trans (Nat.le_trans (Nat.le_trans (Nat.le_trans K319.1 K321.1) K323.1) K325.1) K327.1) (Nat.le_of_eq g329.symm))) all0)) K335 (allS (Or.inr (Nat.le_trans (Nat.le_trans (Nat.le_trans (Nat.le_trans (Nat.le_trans K319.1 K321.1) K323.1) K325.1) K327.1) (Nat.le_of_eq g329.symm))) all0)) K338 (allS (Or.inr (Nat.le_trans (Nat.le_trans (Nat.le_trans (Nat.le_trans (Nat.le_trans K319.1 K321.1) K323.1) K325.1) K327.1) (Nat.le_of_eq g329.symm))) all0)) K341 (allS (Or.inr (Nat.le_trans (Nat.le_trans (Nat.le_trans (Nat.le_trans (Nat.le_trans K319.1 K321.1) K323.1) K325.1) K327.1) (Nat.le_of_eq g329.symm))) all0)) K343 all0) K347 (allS (Or.inr (Nat.le_trans (Nat.le_trans (Nat.le_trans (Nat.le_trans (Nat.le_trans (Nat.le_trans (Nat.le_trans (Nat.le_trans (Nat.le_trans (Nat.le_trans K319.1 K321.1) K323.1) K325.1) K327.1) K329.1) K332.1) K335.1) K338.1) K341.1) (Nat.le_of_eq g343.symm))) all0)) K353 all0)⟩
theorem own_eqint {args : Array Value} {s : State} {t : Term} {n : Int32} (h : (Jvm.Cond.eq t (Jvm.Term.int n)).value args s none s [] = some true) : t.eval args s none [] s = some (.int n) := by
  simp only [Cond.value, Term.eval] at h
  cases ht : t.eval args s none [] s with
  | none => simp [ht] at h
  | some x => cases x <;> simp [ht] at h ⊢; exact h
theorem own_eqlong {args : Array Value} {s : State} {t : Term} {n : Int64} (h : (Jvm.Cond.eq t (Jvm.Term.long n)).value args s none s [] = some true) : t.eval args s none [] s = some (.long n) := by
  simp only [Cond.value, Term.eval] at h
  cases ht : t.eval args s none [] s with
  | none => simp [ht] at h
  | some x => cases x <;> simp [ht] at h ⊢; exact h
theorem own_neint {args : Array Value} {s : State} {t : Term} {n x : Int32} (h : (Jvm.Cond.not (Jvm.Cond.eq t (Jvm.Term.int n))).value args s none s [] = some true) (e : t.eval args s none [] s = some (.int x)) : ¬ (x = n) := by
  simpa [Cond.value, Term.eval, e] using h
theorem own_eqref {args : Array Value} {s : State} {t u : Term} {b : Addr} (h : (Jvm.Cond.eq t u).value args s none s [] = some true) (hu : u.eval args s none [] s = some (.ref b)) : t.eval args s none [] s = some (.ref b) := by
  simp only [Cond.value, hu] at h
  cases ht : t.eval args s none [] s with
  | none => simp [ht] at h
  | some x => cases x <;> simp [ht] at h ⊢; exact h
theorem own_arrlen {args : Array Value} {s : State} {t : Term} {a : Addr} {cl : Cell} {ty : FieldType} {z : Int32} (ev : t.eval args s none [] s = some (.ref a)) (A : Arr s s.heap a cl ty) (h : (Term.length t).eval args s none [] s = some (.int z)) : cl.slots.size < 2 ^ 31 ∧ cl.slots.size.toInt32 = z := by
  have e := Arr.fin (U := s) (Vm.Alike.refl _) A
  simp only [Term.eval, ev, Option.bind_eq_bind, Option.bind_some, e] at h
  by_cases q : cl.slots.size < 2 ^ 31
  · simp [q] at h; exact ⟨q, h⟩
  · simp [q] at h
set_option maxRecDepth 65536 in
set_option maxHeartbeats 40000000 in
theorem comes_1 {Post : Tables → Env → Array Value → State → Outcome → State → Prop} (hpost : ∀ tb e args s v u, (limb_1_1.after args s (.returned v) u = true ∧ limb_1_2.after args s (.returned v) u = true ∧ True) → ReturnedEndW s (.returned v) u (Jvm.fieldLocs frame_1_writes args s ++ Jvm.arrayLocs frame_1_arrays args s ++ Jvm.staticLocs frame_1_statics s) 32 2240 → Post tb e args s (.returned v) u) :
    ArmFor flags0 classFile x code maxLocals ret World_1 tables_1 room_1 Calls_1 rest_1 Pre_1 Post := by
  intro l hfl _ _ p e ha hc hk s m args below hf hA hF happ hP
  obtain ⟨hcalls, hrest, hpre⟩ := hP
  obtain ⟨-, -, -, hnamed, -, -, -, hat⟩ := (Spec.applies_iff hf).mp happ
  obtain ⟨hg, hn⟩ := and_e (Cond.before_iff.mp (show (Jvm.Cond.and given_1 narrow_1).before args s = true from hpre))
  obtain ⟨g1, g2⟩ := and_e hg
  obtain ⟨g3, g4⟩ := and_e g2
  obtain ⟨g5, g6⟩ := and_e g4
  obtain ⟨g7, g8⟩ := and_e g6
  obtain ⟨w0, w1, w2, w3, rfl⟩ : ∃ w0 w1 w2 w3 : Value, args = #[w0, w1, w2, w3] := by
    have hs : args.size = 4 := by simpa [Cond.value, given_1] using g1
    obtain ⟨L⟩ := args
    match L, hs with
    | [w0, w1, w2, w3], _ => exact ⟨w0, w1, w2, w3, rfl⟩
  have hw := fun d (hd : d ∈ tables_1) => atoms_spec (ws := Jvm.Cond.code x code maxLocals ret :: tables_1) hat d (List.mem_cons_of_mem _ hd)
  have hfit : Fit s := fun {y c} hc i hi => by
    obtain ⟨ha, rfl⟩ := Array.getElem?_eq_some_iff.mp hc
    have q := List.all_eq_true.mp ((Array.all_eq_true_iff_forall_mem.mp hF) _ (Array.getElem_mem ha)) i (List.mem_range.mpr hi)
    simpa [Array.getElem?_eq_getElem hi] using q
  obtain ⟨hsets, hown0⟩ := atoms_of _ (rest_1_c_eq ▸ (show rest_1_c.before _ s = true from hrest))
  obtain ⟨i0, ei0⟩ := is_v g3
  obtain rfl : w0 = (.int i0) := Option.some.inj ei0
  obtain ⟨i1, ei1⟩ := is_v g5
  obtain rfl : w1 = (.int i1) := Option.some.inj ei1
  obtain ⟨i2, ei2⟩ := is_v g7
  obtain rfl : w2 = (.int i2) := Option.some.inj ei2
  obtain ⟨i3, ei3⟩ := is_v g8
  obtain rfl : w3 = (.int i3) := Option.some.inj ei3
  obtain ⟨A_cS, e9⟩ := is_v (Cond.before_iff.mp (hsets _ (List.mem_of_getElem? (i := 1) rfl)))
  have B10 : Sta s s.heap "java/lang/String" "COMPACT_STRINGS" "Z" (.int A_cS) := Sta.start e9 (Or.inl (hsets _ (List.mem_of_getElem? (i := 0) rfl)))
  have B11 : ¬ (A_cS = (0 : Int32)) := own_neint (Cond.before_iff.mp (hsets _ (List.mem_of_getElem? (i := 2) rfl))) e9
  obtain ⟨A_fm, e12, e12'⟩ := isR_v (Cond.before_iff.mp (hsets _ (List.mem_of_getElem? (i := 8) rfl)))
  have B13 : Sta s s.heap "jdk/internal/util/Preconditions" "SIOOBE_FORMATTER" "Ljava/util/function/BiFunction;" A_fm := Sta.start e12 (Or.inl (hsets _ (List.mem_of_getElem? (i := 7) rfl)))
  have B14 : A_fm.isRef = true := e12'
  have e15 := own_eqint (Cond.before_iff.mp (hsets _ (List.mem_of_getElem? (i := 12) rfl)))
  have B16 : Sta s s.heap "java/lang/StringUTF16" "$assertionsDisabled" "Z" (.int (1 : Int32)) := Sta.start e15 (Or.inl (hsets _ (List.mem_of_getElem? (i := 11) rfl)))
  have e17 := own_eqint (Cond.before_iff.mp (hsets _ (List.mem_of_getElem? (i := 15) rfl)))
  have B18 : Sta s s.heap "java/lang/StringUTF16" "HI_BYTE_SHIFT" "I" (.int (0 : Int32)) := Sta.start e17 (Or.inl (hsets _ (List.mem_of_getElem? (i := 14) rfl)))
  have e19 := own_eqint (Cond.before_iff.mp (hsets _ (List.mem_of_getElem? (i := 18) rfl)))
  have B20 : Sta s s.heap "java/lang/StringUTF16" "LO_BYTE_SHIFT" "I" (.int (8 : Int32)) := Sta.start e19 (Or.inl (hsets _ (List.mem_of_getElem? (i := 17) rfl)))
  obtain ⟨n, o, h1, h2, h3, _, L, rfl, ⟨rfl, N, _⟩, -, hq⟩ := rm_law l s _ hw tables_1 i0 i1 i2 i3 A_cS A_fm s.heap s.heap.size (Nat.le_refl _) (Old.start s) B10 B11 B13 B14 B16 B18 B20 p e ha hc hk s m _ below hf ((Spec.applies_iff_loose hf).mp happ).1 ⟨rfl, State.Warmed39.refl s, rfl, own_chv hw hcalls.1 (Cond.before_iff.mpr (Cond.before_iff.mp (hsets _ (List.mem_of_getElem? (i := 2) rfl))))⟩ trivial
  refine ⟨n, _, h1, h2, h3, hpost _ _ _ _ _ _ ⟨Cond.after_iff.mpr rfl, Cond.after_iff.mpr (eq_i res_at (Term.int_eval (1)) rfl), trivial⟩ ⟨hq.1, hq.2.1, hq.2.2.1, (hq.2.2.2.sift fun y hy => Or.inr (N y hy)).mono (by decide) (by decide)⟩⟩
theorem main_1_1 : Claimed_1_1 := comes_1 fun _ _ _ _ _ _ h hF => ⟨h.1, hF⟩
theorem main_1_2 : Claimed_1_2 := comes_1 fun _ _ _ _ _ _ h hF => ⟨h.2.1, hF⟩

end Jvm.Pilot.@@N@@
namespace Jvm.Pilot.@@N@@
open Jvm Jvm.ClassFile Sem Op Lib Jvm.Free Jvm.Stand Jvm.Pilot.@@N@@.Jvm.D
/-! MADE BY PROGRAM (witnessworld.py) out of the Statement's table words and the real class files: 26 classes; the members and pool entries that the words name. The judged class is class 1, her method 3. -/
namespace start1
open Jvm.ClassFile
def u (s : String) : CpInfo := .utf8 (stringToUtf16 s)
/-- a pool by its gaps: so many unusable entries, then the entry; so many at the end -/
def gap : Nat → List CpInfo → List CpInfo
  | 0, r => r
  | n + 1, r => .unusable :: gap n r
def poolList (es : List (Nat × CpInfo)) (last : Nat) : List CpInfo := es.foldr (fun e r => gap e.1 (e.2 :: r)) (gap last [])
def pool (es : List (Nat × CpInfo)) (last : Nat) : Array CpInfo := ⟨poolList es last⟩
def fileOf (pool : Array CpInfo) (this : Nat) (attrs : Array Attribute := #[]) (ms : Array MethodInfo := #[]) (fl : Nat := 33) (sup : Nat := 0) (ifs : Array Nat := #[]) (fds : Array FieldInfo := #[]) : ClassFile where
  minorVersion := 0
  majorVersion := 65
  constantPool := pool
  accessFlags := fl
  thisClass := this
  superClass := sup
  interfaces := ifs
  fields := fds
  methods := ms
  attributes := attrs
def plain (name : String) (sup : Option ClassId) : Class where
  name := name
  kind := .ordinary
  loader := none
  accessFlags := 33
  super := sup
  interfaces := #[]
  cf := none
  fields := #[]
  methods := #[]
  instanceTypes := #[]
  staticTypes := #[]
  resolved := #[]
  callSites := []
  init := .initialized
  statics := none
  mirror := none

def pool0 : Array CpInfo := pool [(5, u "<init>"), (0, u "()V"), (1, .class_ 10), (1, u "java/lang/Object"), (85, u "clone"), (0, u "()Ljava/lang/Object;")] 26

def k0c0 : Code := { maxStack := 0, maxLocals := 1, code := object_method_1_code, exceptionTable := #[], attributes := #[] }
def k0m0 : Method := { name := "<init>", desc := "()V", sig := { parameters := [], returnType := none }, accessFlags := 1, code := some k0c0 }
def k0m1 : Method := { name := "clone", desc := "()Ljava/lang/Object;", sig := { parameters := [], returnType := some (.object "java/lang/Object") }, accessFlags := 260, code := none }
/-- java/lang/Object -/
def k0 : Class := { plain "java/lang/Object" none with
  accessFlags := 33
  interfaces := #[]
  cf := some (fileOf pool0 8 #[] #[{ accessFlags := 1, nameIndex := 5, descriptorIndex := 6, attributes := #[] }, { accessFlags := 260, nameIndex := 96, descriptorIndex := 97, attributes := #[] }] 33 0 #[] #[])
  fields := #[]
  methods := #[k0m0, k0m1]
  instanceTypes := #[]
  staticTypes := #[]
  resolved := Array.replicate 124 none
  statics := none }

def pool1 : Array CpInfo := pool [(2, .class_ 4), (1, u "java/lang/Object"), (0, u "<init>"), (0, u "()V"), (0, .methodref 8 9), (0, .class_ 10), (0, .nameAndType 11 12), (0, u "java/lang/String"), (0, u "charAt"), (0, u "(I)C"), (0, .integer 2147483647), (0, .integer 65535), (0, .methodref 16 17), (0, .class_ 18), (0, .nameAndType 19 20), (0, u "com/example/patents_via_api/patentsviaapi/errors/UntrustedTextPrintablePinLaw"), (0, u "safe"), (0, u "(C)C"), (0, .methodref 8 22), (0, .nameAndType 5 23), (0, u "([C)V"), (0, .methodref 25 26), (0, .class_ 27), (0, .nameAndType 28 29), (0, u "com/example/patents_via_api/patentsviaapi/errors/UntrustedText"), (0, u "printable"), (0, u "(Ljava/lang/String;I)Ljava/lang/String;"), (0, .methodref 8 31), (0, .nameAndType 32 33), (0, u "length"), (0, u "()I"), (0, .methodref 16 35), (0, .nameAndType 36 37), (0, u "ok"), (0, u "(Ljava/lang/String;III[C)Z"), (3, u "law"), (0, u "(IIII)Z")] 4

def k1m0 : Method := { name := "<init>", desc := "()V", sig := { parameters := [], returnType := none }, accessFlags := 2, code := none }
def k1c1 : Code := { maxStack := 2, maxLocals := 1, code := method_2_code, exceptionTable := #[], attributes := #[] }
def k1m1 : Method := { name := "safe", desc := "(C)C", sig := { parameters := [.char], returnType := some .char }, accessFlags := 10, code := some k1c1 }
def k1c2 : Code := { maxStack := 2, maxLocals := 6, code := method_3_code, exceptionTable := #[], attributes := #[] }
def k1m2 : Method := { name := "ok", desc := "(Ljava/lang/String;III[C)Z", sig := { parameters := [(.object "java/lang/String"), .int, .int, .int, (.array .char)], returnType := some .boolean }, accessFlags := 10, code := some k1c2 }
def k1c3 : Code := { maxStack := 5, maxLocals := 16, code := code, exceptionTable := #[], attributes := #[] }
def k1m3 : Method := { name := "law", desc := "(IIII)Z", sig := { parameters := [.int, .int, .int, .int], returnType := some .boolean }, accessFlags := 9, code := some k1c3 }
/-- com/example/patents_via_api/patentsviaapi/errors/UntrustedTextPrintablePinLaw -/
def k1 : Class := { plain "com/example/patents_via_api/patentsviaapi/errors/UntrustedTextPrintablePinLaw" (some 0) with
  accessFlags := 49
  interfaces := #[]
  cf := some (fileOf pool1 16 #[] #[{ accessFlags := 2, nameIndex := 5, descriptorIndex := 6, attributes := #[] }, { accessFlags := 10, nameIndex := 19, descriptorIndex := 20, attributes := #[] }, { accessFlags := 10, nameIndex := 36, descriptorIndex := 37, attributes := #[] }, { accessFlags := 9, nameIndex := 41, descriptorIndex := 42, attributes := #[] }] 49 2 #[] #[])
  fields := #[]
  methods := #[k1m0, k1m1, k1m2, k1m3]
  instanceTypes := #[]
  staticTypes := #[]
  resolved := Array.replicate 47 none
  statics := none }

def pool2 : Array CpInfo := pool [(1, .class_ 2), (0, u "java/io/Serializable"), (0, .class_ 4), (0, u "java/lang/Object")] 2

/-- java/io/Serializable -/
def k2 : Class := { plain "java/io/Serializable" (some 0) with
  accessFlags := 1537
  interfaces := #[]
  cf := some (fileOf pool2 1 #[] #[] 1537 3 #[] #[])
  fields := #[]
  methods := #[]
  instanceTypes := #[]
  staticTypes := #[]
  resolved := Array.replicate 7 none
  statics := none }

def pool3 : Array CpInfo := pool [(1, .class_ 2), (0, u "java/lang/Comparable"), (0, .class_ 4), (0, u "java/lang/Object")] 7

/-- java/lang/Comparable -/
def k3 : Class := { plain "java/lang/Comparable" (some 0) with
  accessFlags := 1537
  interfaces := #[]
  cf := some (fileOf pool3 1 #[] #[] 1537 3 #[] #[])
  fields := #[]
  methods := #[]
  instanceTypes := #[]
  staticTypes := #[]
  resolved := Array.replicate 12 none
  statics := none }

def pool4 : Array CpInfo := pool [(2, .class_ 4), (1, u "java/lang/CharSequence"), (42, .class_ 48), (0, u "java/lang/CharSequence$1CodePointIterator"), (10, .class_ 60), (0, u "java/lang/CharSequence$1CharIterator"), (5, .class_ 67), (0, u "java/lang/Object")] 63

/-- java/lang/CharSequence -/
def k4 : Class := { plain "java/lang/CharSequence" (some 0) with
  accessFlags := 1537
  interfaces := #[]
  cf := some (fileOf pool4 2 #[.nestMembers #[47, 59]] #[] 1537 66 #[] #[])
  fields := #[]
  methods := #[]
  instanceTypes := #[]
  staticTypes := #[]
  resolved := Array.replicate 131 none
  statics := none }

def pool5 : Array CpInfo := pool [(1, .class_ 2), (0, u "java/lang/constant/Constable"), (0, .class_ 4), (0, u "java/lang/Object")] 6

/-- java/lang/constant/Constable -/
def k5 : Class := { plain "java/lang/constant/Constable" (some 0) with
  accessFlags := 1537
  interfaces := #[]
  cf := some (fileOf pool5 1 #[] #[] 1537 3 #[] #[])
  fields := #[]
  methods := #[]
  instanceTypes := #[]
  staticTypes := #[]
  resolved := Array.replicate 11 none
  statics := none }

def pool6 : Array CpInfo := pool [(1, .class_ 2), (0, u "java/lang/constant/ConstantDesc"), (0, .class_ 4), (0, u "java/lang/Object")] 32

/-- java/lang/constant/ConstantDesc -/
def k6 : Class := { plain "java/lang/constant/ConstantDesc" (some 0) with
  accessFlags := 1537
  interfaces := #[]
  cf := some (fileOf pool6 1 #[] #[] 1537 3 #[] #[])
  fields := #[]
  methods := #[]
  instanceTypes := #[]
  staticTypes := #[]
  resolved := Array.replicate 37 none
  statics := none }

def pool7 : Array CpInfo := pool [(1, .methodref 2 3), (0, .class_ 4), (0, .nameAndType 5 6), (0, u "java/lang/Object"), (0, u "<init>"), (0, u "()V"), (0, .string 8), (0, u ""), (0, .fieldref 10 11), (0, .class_ 12), (0, .nameAndType 13 14), (0, u "java/lang/String"), (0, u "value"), (0, u "[B"), (0, .fieldref 10 16), (0, .nameAndType 17 18), (0, u "coder"), (0, u "B"), (2, u "hash"), (0, u "I"), (2, u "hashIsZero"), (0, u "Z"), (0, .methodref 10 28), (0, .nameAndType 5 29), (0, u "([CIILjava/lang/Void;)V"), (8, .fieldref 10 39), (0, .nameAndType 40 26), (0, u "COMPACT_STRINGS"), (1, .class_ 44), (1, u "java/lang/StringUTF16"), (0, u "compress"), (1, .methodref 42 48), (0, .nameAndType 49 50), (0, u "coderFromArrayLen"), (0, u "([BI)B"), (3, .methodref 55 56), (0, .class_ 57), (0, .nameAndType 58 59), (0, u "java/util/Arrays"), (0, u "copyOfRange"), (0, u "([BII)[B"), (47, .class_ 109), (1, u "java/lang/StringLatin1"), (32, u "()Z"), (34, .methodref 42 178), (0, .nameAndType 45 179), (0, u "([CII)[B"), (13, .class_ 195), (1, u "java/lang/System"), (16, .methodref 193 213), (0, .nameAndType 214 215), (0, u "arraycopy"), (0, u "(Ljava/lang/Object;ILjava/lang/Object;II)V"), (118, u "()I"), (0, .methodref 10 336), (0, .nameAndType 17 337), (0, u "()B"), (2, u "()[B"), (22, u "([BI)C"), (27, u "(II)V"), (35, u "(I)C"), (61, .methodref 10 490), (0, .nameAndType 5 491), (0, u "(Ljava/lang/AbstractStringBuilder;Ljava/lang/Void;)V"), (0, .methodref 10 493), (0, .nameAndType 494 142), (0, u "isLatin1"), (0, .methodref 107 496), (0, .nameAndType 497 363), (0, u "charAt"), (0, .methodref 42 496), (2, u "checkIndex"), (4, .nameAndType 507 334), (0, u "length"), (24, u "getBytes"), (16, .methodref 550 506), (0, .class_ 551), (0, u "java/lang/AbstractStringBuilder"), (0, .methodref 550 553), (0, .nameAndType 554 340), (0, u "getValue"), (20, .class_ 576), (0, u "java/lang/CharSequence"), (22, u "CASE_INSENSITIVE_ORDER"), (0, u "Ljava/util/Comparator;"), (220, u "([BIB)V"), (188, u "([C)V"), (36, .methodref 550 493), (5, .fieldref 1054 1055), (0, .class_ 1056), (0, .nameAndType 1057 1058), (0, u "jdk/internal/util/Preconditions"), (0, u "SIOOBE_FORMATTER"), (0, u "Ljava/util/function/BiFunction;"), (0, .methodref 1054 1060), (0, .nameAndType 501 1061), (0, u "(IILjava/util/function/BiFunction;)I"), (39, u "serialPersistentFields"), (0, u "[Ljava/io/ObjectStreamField;"), (0, .class_ 1104), (0, u "java/lang/String$CaseInsensitiveComparator"), (1, .class_ 1107), (0, u "java/io/Serializable"), (0, .class_ 1109), (0, u "java/lang/Comparable"), (0, .class_ 1111), (0, u "java/lang/constant/Constable"), (0, .class_ 1113), (0, u "java/lang/constant/ConstantDesc"), (2, u "serialVersionUID"), (0, u "J"), (3, u "REPL"), (0, u "C"), (2, u "LATIN1"), (1, u "UTF16"), (105, u "(Ljava/lang/StringBuilder;)V")] 217

def k7m0 : Method := { name := "<init>", desc := "()V", sig := { parameters := [], returnType := none }, accessFlags := 1, code := none }
def k7c1 : Code := { maxStack := 5, maxLocals := 2, code := jdk_42_method_3_code, exceptionTable := #[], attributes := #[] }
def k7m1 : Method := { name := "<init>", desc := "([C)V", sig := { parameters := [(.array .char)], returnType := none }, accessFlags := 1, code := some k7c1 }
def k7c2 : Code := { maxStack := 3, maxLocals := 2, code := jdk_42_method_53_code, exceptionTable := #[], attributes := #[] }
def k7m2 : Method := { name := "<init>", desc := "(Ljava/lang/StringBuilder;)V", sig := { parameters := [(.object "java/lang/StringBuilder")], returnType := none }, accessFlags := 1, code := some k7c2 }
def k7c3 : Code := { maxStack := 2, maxLocals := 1, code := jdk_42_method_54_code, exceptionTable := #[], attributes := #[] }
def k7m3 : Method := { name := "length", desc := "()I", sig := { parameters := [], returnType := some .int }, accessFlags := 1, code := some k7c3 }
def k7c4 : Code := { maxStack := 2, maxLocals := 2, code := jdk_42_method_56_code, exceptionTable := #[], attributes := #[] }
def k7m4 : Method := { name := "charAt", desc := "(I)C", sig := { parameters := [.int], returnType := some .char }, accessFlags := 1, code := some k7c4 }
def k7c5 : Code := { maxStack := 5, maxLocals := 4, code := jdk_42_method_147_code, exceptionTable := #[], attributes := #[] }
def k7m5 : Method := { name := "getBytes", desc := "([BIB)V", sig := { parameters := [(.array .byte), .int, .byte], returnType := none }, accessFlags := 0, code := some k7c5 }
def k7c6 : Code := { maxStack := 4, maxLocals := 6, code := jdk_42_method_149_code, exceptionTable := #[], attributes := #[] }
def k7m6 : Method := { name := "<init>", desc := "([CIILjava/lang/Void;)V", sig := { parameters := [(.array .char), .int, .int, (.object "java/lang/Void")], returnType := none }, accessFlags := 2, code := some k7c6 }
def k7c7 : Code := { maxStack := 5, maxLocals := 5, code := jdk_42_method_150_code, exceptionTable := #[], attributes := #[] }
def k7m7 : Method := { name := "<init>", desc := "(Ljava/lang/AbstractStringBuilder;Ljava/lang/Void;)V", sig := { parameters := [(.object "java/lang/AbstractStringBuilder"), (.object "java/lang/Void")], returnType := none }, accessFlags := 0, code := some k7c7 }
def k7c8 : Code := { maxStack := 1, maxLocals := 1, code := jdk_42_method_152_code, exceptionTable := #[], attributes := #[] }
def k7m8 : Method := { name := "coder", desc := "()B", sig := { parameters := [], returnType := some .byte }, accessFlags := 0, code := some k7c8 }
def k7c9 : Code := { maxStack := 1, maxLocals := 1, code := jdk_42_method_154_code, exceptionTable := #[], attributes := #[] }
def k7m9 : Method := { name := "isLatin1", desc := "()Z", sig := { parameters := [], returnType := some .boolean }, accessFlags := 0, code := some k7c9 }
def k7c10 : Code := { maxStack := 3, maxLocals := 2, code := jdk_42_method_155_code, exceptionTable := #[], attributes := #[] }
def k7m10 : Method := { name := "checkIndex", desc := "(II)V", sig := { parameters := [.int, .int], returnType := none }, accessFlags := 8, code := some k7c10 }
/-- java/lang/String -/
def k7 : Class := { plain "java/lang/String" (some 0) with
  accessFlags := 49
  interfaces := #[2, 3, 4, 5, 6]
  cf := some (fileOf pool7 10 #[.nestMembers #[1103]] #[{ accessFlags := 1, nameIndex := 5, descriptorIndex := 6, attributes := #[] }, { accessFlags := 1, nameIndex := 5, descriptorIndex := 1010, attributes := #[] }, { accessFlags := 1, nameIndex := 5, descriptorIndex := 1233, attributes := #[] }, { accessFlags := 1, nameIndex := 507, descriptorIndex := 334, attributes := #[] }, { accessFlags := 1, nameIndex := 497, descriptorIndex := 427, attributes := #[] }, { accessFlags := 0, nameIndex := 532, descriptorIndex := 821, attributes := #[] }, { accessFlags := 2, nameIndex := 5, descriptorIndex := 29, attributes := #[] }, { accessFlags := 0, nameIndex := 5, descriptorIndex := 491, attributes := #[] }, { accessFlags := 0, nameIndex := 17, descriptorIndex := 337, attributes := #[] }, { accessFlags := 0, nameIndex := 494, descriptorIndex := 142, attributes := #[] }, { accessFlags := 8, nameIndex := 501, descriptorIndex := 391, attributes := #[] }] 49 2 #[1106, 1108, 575, 1110, 1112] #[{ accessFlags := 18, nameIndex := 13, descriptorIndex := 14, attributes := #[] }, { accessFlags := 18, nameIndex := 17, descriptorIndex := 18, attributes := #[] }, { accessFlags := 2, nameIndex := 21, descriptorIndex := 22, attributes := #[] }, { accessFlags := 2, nameIndex := 25, descriptorIndex := 26, attributes := #[] }, { accessFlags := 26, nameIndex := 1116, descriptorIndex := 1117, attributes := #[] }, { accessFlags := 24, nameIndex := 40, descriptorIndex := 26, attributes := #[] }, { accessFlags := 26, nameIndex := 1101, descriptorIndex := 1102, attributes := #[] }, { accessFlags := 26, nameIndex := 1121, descriptorIndex := 1122, attributes := #[] }, { accessFlags := 25, nameIndex := 599, descriptorIndex := 600, attributes := #[] }, { accessFlags := 24, nameIndex := 1125, descriptorIndex := 18, attributes := #[] }, { accessFlags := 24, nameIndex := 1127, descriptorIndex := 18, attributes := #[] }])
  fields := #[{ name := "value", type := (.array .byte), accessFlags := 18, slot := 0, constantValue := 0 }, { name := "coder", type := .byte, accessFlags := 18, slot := 1, constantValue := 0 }, { name := "hash", type := .int, accessFlags := 2, slot := 2, constantValue := 0 }, { name := "hashIsZero", type := .boolean, accessFlags := 2, slot := 3, constantValue := 0 }, { name := "serialVersionUID", type := .long, accessFlags := 26, slot := 0, constantValue := 0 }, { name := "COMPACT_STRINGS", type := .boolean, accessFlags := 24, slot := 1, constantValue := 0 }, { name := "serialPersistentFields", type := (.array (.object "java/io/ObjectStreamField")), accessFlags := 26, slot := 2, constantValue := 0 }, { name := "REPL", type := .char, accessFlags := 26, slot := 3, constantValue := 0 }, { name := "CASE_INSENSITIVE_ORDER", type := (.object "java/util/Comparator"), accessFlags := 25, slot := 4, constantValue := 0 }, { name := "LATIN1", type := .byte, accessFlags := 24, slot := 5, constantValue := 0 }, { name := "UTF16", type := .byte, accessFlags := 24, slot := 6, constantValue := 0 }]
  methods := #[k7m0, k7m1, k7m2, k7m3, k7m4, k7m5, k7m6, k7m7, k7m8, k7m9, k7m10]
  instanceTypes := #[(.array .byte), .byte, .int, .boolean]
  staticTypes := #[.long, .boolean, (.array (.object "java/io/ObjectStreamField")), .char, (.object "java/util/Comparator"), .byte, .byte]
  resolved := Array.replicate 1451 none
  statics := some 0 }

def pool8 : Array CpInfo := pool [(3, .class_ 4), (0, u "java/lang/String"), (1, .class_ 8), (1, u "java/lang/Object"), (0, u "<init>"), (0, u "()V"), (0, .methodref 12 13), (0, .class_ 14), (0, .nameAndType 15 16), (0, u "java/lang/StringUTF16"), (0, u "newBytesLength"), (0, u "(I)I"), (3, .integer 1073741823), (23, .fieldref 12 45), (0, .nameAndType 46 47), (0, u "$assertionsDisabled"), (0, u "Z"), (0, .methodref 12 49), (0, .nameAndType 50 51), (0, u "length"), (0, u "([B)I"), (7, .fieldref 12 60), (0, .nameAndType 61 62), (0, u "HI_BYTE_SHIFT"), (0, u "I"), (0, .fieldref 12 64), (0, .nameAndType 65 62), (0, u "LO_BYTE_SHIFT"), (1, .methodref 12 68), (0, .nameAndType 69 70), (0, u "checkIndex"), (0, u "(I[B)V"), (0, .methodref 12 72), (0, .nameAndType 73 74), (0, u "getChar"), (0, u "([BI)C"), (32, .methodref 12 108), (0, .nameAndType 109 110), (0, u "newBytesFor"), (0, u "(I)[B"), (0, .methodref 12 112), (0, .nameAndType 113 114), (0, u "putChar"), (0, u "([BII)V"), (0, .methodref 12 116), (0, .nameAndType 117 118), (0, u "compress"), (0, u "([CI[BII)I"), (0, .methodref 12 120), (0, .nameAndType 121 122), (0, u "toBytes"), (0, u "([CII)[B"), (138, u "coderFromArrayLen"), (0, u "([BI)B"), (106, .class_ 371), (1, u "java/lang/StringUTF16$LinesSpliterator"), (20, u "charAt"), (21, .methodref 3 415), (0, .nameAndType 69 416), (0, u "(II)V"), (13, u "MAX_LENGTH"), (196, .class_ 628), (0, u "java/lang/StringUTF16$CodePointsSpliterator"), (0, .class_ 630), (0, u "java/lang/StringUTF16$CharsSpliterator")] 4

def k8m0 : Method := { name := "<init>", desc := "()V", sig := { parameters := [], returnType := none }, accessFlags := 0, code := none }
def k8c1 : Code := { maxStack := 1, maxLocals := 1, code := jdk_52_method_2_code, exceptionTable := #[], attributes := #[] }
def k8m1 : Method := { name := "newBytesFor", desc := "(I)[B", sig := { parameters := [.int], returnType := some (.array .byte) }, accessFlags := 9, code := some k8c1 }
def k8c2 : Code := { maxStack := 4, maxLocals := 1, code := jdk_52_method_3_code, exceptionTable := #[], attributes := #[] }
def k8m2 : Method := { name := "newBytesLength", desc := "(I)I", sig := { parameters := [.int], returnType := some .int }, accessFlags := 9, code := some k8c2 }
def k8c3 : Code := { maxStack := 4, maxLocals := 3, code := jdk_52_method_4_code, exceptionTable := #[], attributes := #[] }
def k8m3 : Method := { name := "putChar", desc := "([BII)V", sig := { parameters := [(.array .byte), .int, .int], returnType := none }, accessFlags := 8, code := some k8c3 }
def k8c4 : Code := { maxStack := 3, maxLocals := 2, code := jdk_52_method_5_code, exceptionTable := #[], attributes := #[] }
def k8m4 : Method := { name := "getChar", desc := "([BI)C", sig := { parameters := [(.array .byte), .int], returnType := some .char }, accessFlags := 8, code := some k8c4 }
def k8c5 : Code := { maxStack := 2, maxLocals := 1, code := jdk_52_method_6_code, exceptionTable := #[], attributes := #[] }
def k8m5 : Method := { name := "length", desc := "([B)I", sig := { parameters := [(.array .byte)], returnType := some .int }, accessFlags := 9, code := some k8c5 }
def k8c6 : Code := { maxStack := 4, maxLocals := 5, code := jdk_52_method_14_code, exceptionTable := #[], attributes := #[] }
def k8m6 : Method := { name := "toBytes", desc := "([CII)[B", sig := { parameters := [(.array .char), .int, .int], returnType := some (.array .byte) }, accessFlags := 9, code := some k8c6 }
def k8c7 : Code := { maxStack := 2, maxLocals := 2, code := jdk_52_method_15_code, exceptionTable := #[], attributes := #[] }
def k8m7 : Method := { name := "coderFromArrayLen", desc := "([BI)B", sig := { parameters := [(.array .byte), .int], returnType := some .byte }, accessFlags := 8, code := some k8c7 }
def k8c8 : Code := { maxStack := 5, maxLocals := 6, code := jdk_52_method_16_code, exceptionTable := #[], attributes := #[] }
def k8m8 : Method := { name := "compress", desc := "([CII)[B", sig := { parameters := [(.array .char), .int, .int], returnType := some (.array .byte) }, accessFlags := 9, code := some k8c8 }
def k8c9 : Code := { maxStack := 3, maxLocals := 7, code := jdk_52_method_21_code, exceptionTable := #[], attributes := #[] }
def k8m9 : Method := { name := "compress", desc := "([CI[BII)I", sig := { parameters := [(.array .char), .int, (.array .byte), .int, .int], returnType := some .int }, accessFlags := 9, code := some k8c9 }
def k8c10 : Code := { maxStack := 2, maxLocals := 2, code := jdk_52_method_83_code, exceptionTable := #[], attributes := #[] }
def k8m10 : Method := { name := "charAt", desc := "([BI)C", sig := { parameters := [(.array .byte), .int], returnType := some .char }, accessFlags := 9, code := some k8c10 }
def k8c11 : Code := { maxStack := 2, maxLocals := 2, code := jdk_52_method_91_code, exceptionTable := #[], attributes := #[] }
def k8m11 : Method := { name := "checkIndex", desc := "(I[B)V", sig := { parameters := [.int, (.array .byte)], returnType := none }, accessFlags := 9, code := some k8c11 }
/-- java/lang/StringUTF16 -/
def k8 : Class := { plain "java/lang/StringUTF16" (some 0) with
  accessFlags := 48
  interfaces := #[]
  cf := some (fileOf pool8 12 #[.nestMembers #[627, 629, 369]] #[{ accessFlags := 0, nameIndex := 9, descriptorIndex := 10, attributes := #[] }, { accessFlags := 9, nameIndex := 109, descriptorIndex := 110, attributes := #[] }, { accessFlags := 9, nameIndex := 15, descriptorIndex := 16, attributes := #[] }, { accessFlags := 8, nameIndex := 113, descriptorIndex := 114, attributes := #[] }, { accessFlags := 8, nameIndex := 73, descriptorIndex := 74, attributes := #[] }, { accessFlags := 9, nameIndex := 50, descriptorIndex := 51, attributes := #[] }, { accessFlags := 9, nameIndex := 121, descriptorIndex := 122, attributes := #[] }, { accessFlags := 8, nameIndex := 261, descriptorIndex := 262, attributes := #[] }, { accessFlags := 9, nameIndex := 117, descriptorIndex := 122, attributes := #[] }, { accessFlags := 9, nameIndex := 117, descriptorIndex := 118, attributes := #[] }, { accessFlags := 9, nameIndex := 392, descriptorIndex := 74, attributes := #[] }, { accessFlags := 9, nameIndex := 69, descriptorIndex := 70, attributes := #[] }] 48 6 #[] #[{ accessFlags := 26, nameIndex := 61, descriptorIndex := 62, attributes := #[] }, { accessFlags := 26, nameIndex := 65, descriptorIndex := 62, attributes := #[] }, { accessFlags := 24, nameIndex := 430, descriptorIndex := 62, attributes := #[] }, { accessFlags := 4120, nameIndex := 46, descriptorIndex := 47, attributes := #[] }])
  fields := #[{ name := "HI_BYTE_SHIFT", type := .int, accessFlags := 26, slot := 0, constantValue := 0 }, { name := "LO_BYTE_SHIFT", type := .int, accessFlags := 26, slot := 1, constantValue := 0 }, { name := "MAX_LENGTH", type := .int, accessFlags := 24, slot := 2, constantValue := 0 }, { name := "$assertionsDisabled", type := .boolean, accessFlags := 4120, slot := 3, constantValue := 0 }]
  methods := #[k8m0, k8m1, k8m2, k8m3, k8m4, k8m5, k8m6, k8m7, k8m8, k8m9, k8m10, k8m11]
  instanceTypes := #[]
  staticTypes := #[.int, .int, .int, .boolean]
  resolved := Array.replicate 635 none
  statics := some 1 }

def pool9 : Array CpInfo := pool [(2, .class_ 4), (1, u "java/lang/Object"), (0, u "<init>"), (0, u "()V"), (0, .methodref 8 9), (0, .class_ 10), (0, .nameAndType 11 12), (0, u "java/lang/String"), (0, u "length"), (0, u "()I"), (0, .methodref 14 15), (0, .class_ 16), (0, .nameAndType 17 18), (0, u "java/lang/Math"), (0, u "min"), (0, u "(II)I"), (0, .class_ 20), (0, u "java/lang/StringBuilder"), (0, .methodref 19 22), (0, .nameAndType 5 23), (0, u "(I)V"), (0, .methodref 8 25), (0, .nameAndType 26 27), (0, u "charAt"), (0, u "(I)C"), (0, .methodref 19 29), (0, .nameAndType 30 31), (0, u "append"), (0, u "(C)Ljava/lang/StringBuilder;"), (0, .string 33), (0, u "..."), (0, .methodref 19 35), (0, .nameAndType 30 36), (0, u "(Ljava/lang/String;)Ljava/lang/StringBuilder;"), (0, .methodref 19 38), (0, .nameAndType 39 40), (0, u "toString"), (0, u "()Ljava/lang/String;"), (0, .class_ 42), (0, u "com/example/patents_via_api/patentsviaapi/errors/UntrustedText"), (2, u "printable"), (0, u "(Ljava/lang/String;I)Ljava/lang/String;")] 3

def k9m0 : Method := { name := "<init>", desc := "()V", sig := { parameters := [], returnType := none }, accessFlags := 2, code := none }
def k9c1 : Code := { maxStack := 4, maxLocals := 6, code := prog_12_method_2_code, exceptionTable := #[], attributes := #[] }
def k9m1 : Method := { name := "printable", desc := "(Ljava/lang/String;I)Ljava/lang/String;", sig := { parameters := [(.object "java/lang/String"), .int], returnType := some (.object "java/lang/String") }, accessFlags := 9, code := some k9c1 }
/-- com/example/patents_via_api/patentsviaapi/errors/UntrustedText -/
def k9 : Class := { plain "com/example/patents_via_api/patentsviaapi/errors/UntrustedText" (some 0) with
  accessFlags := 33
  interfaces := #[]
  cf := some (fileOf pool9 41 #[] #[{ accessFlags := 2, nameIndex := 5, descriptorIndex := 6, attributes := #[] }, { accessFlags := 9, nameIndex := 45, descriptorIndex := 46, attributes := #[] }] 33 2 #[] #[])
  fields := #[]
  methods := #[k9m0, k9m1]
  instanceTypes := #[]
  staticTypes := #[]
  resolved := Array.replicate 50 none
  statics := none }

def pool10 : Array CpInfo := pool [(1, .class_ 2), (0, u "java/lang/Math"), (1, .class_ 6), (1, u "java/lang/Object"), (0, u "<init>"), (0, u "()V"), (89, .class_ 100), (1, u "java/lang/Math$RandomNumberGeneratorHolder"), (71, u "negativeZeroFloatBits"), (0, u "J"), (2, u "negativeZeroDoubleBits"), (24, u "min"), (43, u "$assertionsDisabled"), (0, u "Z"), (88, u "(II)I"), (2, u "twoToTheDoubleScaleDown"), (0, u "D"), (4, u "twoToTheDoubleScaleUp"), (9, u "E"), (3, u "PI"), (2, u "TAU"), (2, u "DEGREES_TO_RADIANS"), (0, u "RADIANS_TO_DEGREES")] 94

def k10m0 : Method := { name := "<init>", desc := "()V", sig := { parameters := [], returnType := none }, accessFlags := 2, code := none }
def k10c1 : Code := { maxStack := 2, maxLocals := 2, code := jdk_29_method_69_code, exceptionTable := #[], attributes := #[] }
def k10m1 : Method := { name := "min", desc := "(II)I", sig := { parameters := [.int, .int], returnType := some .int }, accessFlags := 9, code := some k10c1 }
/-- java/lang/Math -/
def k10 : Class := { plain "java/lang/Math" (some 0) with
  accessFlags := 49
  interfaces := #[]
  cf := some (fileOf pool10 1 #[.nestMembers #[98]] #[{ accessFlags := 2, nameIndex := 7, descriptorIndex := 8, attributes := #[] }, { accessFlags := 9, nameIndex := 201, descriptorIndex := 335, attributes := #[] }] 49 4 #[] #[{ accessFlags := 25, nameIndex := 354, descriptorIndex := 339, attributes := #[] }, { accessFlags := 25, nameIndex := 358, descriptorIndex := 339, attributes := #[] }, { accessFlags := 25, nameIndex := 361, descriptorIndex := 339, attributes := #[] }, { accessFlags := 26, nameIndex := 364, descriptorIndex := 339, attributes := #[] }, { accessFlags := 26, nameIndex := 365, descriptorIndex := 339, attributes := #[] }, { accessFlags := 26, nameIndex := 172, descriptorIndex := 173, attributes := #[] }, { accessFlags := 26, nameIndex := 176, descriptorIndex := 173, attributes := #[] }, { accessFlags := 8, nameIndex := 344, descriptorIndex := 339, attributes := #[] }, { accessFlags := 8, nameIndex := 338, descriptorIndex := 339, attributes := #[] }, { accessFlags := 4120, nameIndex := 245, descriptorIndex := 246, attributes := #[] }])
  fields := #[{ name := "E", type := .double, accessFlags := 25, slot := 0, constantValue := 0 }, { name := "PI", type := .double, accessFlags := 25, slot := 1, constantValue := 0 }, { name := "TAU", type := .double, accessFlags := 25, slot := 2, constantValue := 0 }, { name := "DEGREES_TO_RADIANS", type := .double, accessFlags := 26, slot := 3, constantValue := 0 }, { name := "RADIANS_TO_DEGREES", type := .double, accessFlags := 26, slot := 4, constantValue := 0 }, { name := "negativeZeroFloatBits", type := .long, accessFlags := 26, slot := 5, constantValue := 0 }, { name := "negativeZeroDoubleBits", type := .long, accessFlags := 26, slot := 6, constantValue := 0 }, { name := "twoToTheDoubleScaleUp", type := .double, accessFlags := 8, slot := 7, constantValue := 0 }, { name := "twoToTheDoubleScaleDown", type := .double, accessFlags := 8, slot := 8, constantValue := 0 }, { name := "$assertionsDisabled", type := .boolean, accessFlags := 4120, slot := 9, constantValue := 0 }]
  methods := #[k10m0, k10m1]
  instanceTypes := #[]
  staticTypes := #[.double, .double, .double, .double, .double, .long, .long, .double, .double, .boolean]
  resolved := Array.replicate 460 none
  statics := none }

def pool11 : Array CpInfo := pool [(1, .class_ 2), (0, u "java/lang/Appendable"), (0, .class_ 4), (0, u "java/lang/Object")] 9

/-- java/lang/Appendable -/
def k11 : Class := { plain "java/lang/Appendable" (some 0) with
  accessFlags := 1537
  interfaces := #[]
  cf := some (fileOf pool11 1 #[] #[] 1537 3 #[] #[])
  fields := #[]
  methods := #[]
  instanceTypes := #[]
  staticTypes := #[]
  resolved := Array.replicate 14 none
  statics := none }

def pool12 : Array CpInfo := pool [(1, .class_ 2), (0, u "java/lang/String"), (0, .methodref 4 5), (0, .class_ 6), (0, .nameAndType 7 8), (0, u "java/lang/Object"), (0, u "<init>"), (0, u "()V"), (1, .class_ 12), (1, u "java/lang/AbstractStringBuilder"), (0, u "EMPTYVALUE"), (0, u "[B"), (0, .fieldref 10 16), (0, .nameAndType 17 14), (0, u "value"), (0, .fieldref 1 19), (0, .nameAndType 20 21), (0, u "COMPACT_STRINGS"), (0, u "Z"), (0, .fieldref 10 23), (0, .nameAndType 24 25), (0, u "coder"), (0, u "B"), (6, .methodref 1 33), (0, .nameAndType 34 35), (0, u "length"), (0, u "()I"), (4, .methodref 1 41), (0, .nameAndType 24 42), (0, u "()B"), (2, u "append"), (0, u "(Ljava/lang/String;)Ljava/lang/AbstractStringBuilder;"), (1, .class_ 49), (0, u "java/lang/CharSequence"), (19, u "(Ljava/lang/String;)V"), (5, u "maybeLatin1"), (3, .fieldref 10 80), (0, .nameAndType 81 82), (0, u "count"), (0, u "I"), (0, .methodref 10 84), (0, .nameAndType 85 86), (0, u "isLatin1"), (0, u "()Z"), (1, .class_ 90), (1, u "java/lang/StringLatin1"), (9, .methodref 10 101), (0, .nameAndType 102 103), (0, u "ensureCapacityInternal"), (0, u "(I)V"), (87, .methodref 88 192), (0, .nameAndType 193 194), (0, u "canEncode"), (0, u "(C)Z"), (13, .methodref 10 209), (0, .nameAndType 210 211), (0, u "putStringAt"), (0, u "(ILjava/lang/String;)V"), (5, u "inflateIfNeededFor"), (2, .nameAndType 221 222), (0, u "getBytes"), (0, u "([BIB)V"), (69, u "(C)Ljava/lang/AbstractStringBuilder;"), (104, .methodref 10 398), (0, .nameAndType 217 69), (0, .methodref 1 220), (3, u "()[B"), (40, .class_ 445), (0, u "java/lang/Appendable"), (106, u "getValue")] 56

def k12m0 : Method := { name := "<init>", desc := "()V", sig := { parameters := [], returnType := none }, accessFlags := 0, code := none }
def k12c1 : Code := { maxStack := 2, maxLocals := 2, code := jdk_68_method_2_code, exceptionTable := #[], attributes := #[] }
def k12m1 : Method := { name := "<init>", desc := "(I)V", sig := { parameters := [.int], returnType := none }, accessFlags := 0, code := some k12c1 }
def k12c2 : Code := { maxStack := 1, maxLocals := 1, code := jdk_68_method_6_code, exceptionTable := #[], attributes := #[] }
def k12m2 : Method := { name := "length", desc := "()I", sig := { parameters := [], returnType := some .int }, accessFlags := 1, code := some k12c2 }
def k12c3 : Code := { maxStack := 4, maxLocals := 3, code := jdk_68_method_9_code, exceptionTable := #[], attributes := #[] }
def k12m3 : Method := { name := "ensureCapacityInternal", desc := "(I)V", sig := { parameters := [.int], returnType := none }, accessFlags := 2, code := some k12c3 }
def k12c4 : Code := { maxStack := 3, maxLocals := 3, code := jdk_68_method_22_code, exceptionTable := #[], attributes := #[] }
def k12m4 : Method := { name := "append", desc := "(Ljava/lang/String;)Ljava/lang/AbstractStringBuilder;", sig := { parameters := [(.object "java/lang/String")], returnType := some (.object "java/lang/AbstractStringBuilder") }, accessFlags := 1, code := some k12c4 }
def k12c5 : Code := { maxStack := 5, maxLocals := 2, code := jdk_68_method_31_code, exceptionTable := #[], attributes := #[] }
def k12m5 : Method := { name := "append", desc := "(C)Ljava/lang/AbstractStringBuilder;", sig := { parameters := [.char], returnType := some (.object "java/lang/AbstractStringBuilder") }, accessFlags := 1, code := some k12c5 }
def k12c6 : Code := { maxStack := 1, maxLocals := 1, code := jdk_68_method_64_code, exceptionTable := #[], attributes := #[] }
def k12m6 : Method := { name := "getValue", desc := "()[B", sig := { parameters := [], returnType := some (.array .byte) }, accessFlags := 16, code := some k12c6 }
def k12c7 : Code := { maxStack := 1, maxLocals := 1, code := jdk_68_method_68_code, exceptionTable := #[], attributes := #[] }
def k12m7 : Method := { name := "isLatin1", desc := "()Z", sig := { parameters := [], returnType := some .boolean }, accessFlags := 16, code := some k12c7 }
def k12c8 : Code := { maxStack := 2, maxLocals := 2, code := jdk_68_method_71_code, exceptionTable := #[], attributes := #[] }
def k12m8 : Method := { name := "inflateIfNeededFor", desc := "(Ljava/lang/String;)V", sig := { parameters := [(.object "java/lang/String")], returnType := none }, accessFlags := 2, code := some k12c8 }
def k12c9 : Code := { maxStack := 4, maxLocals := 3, code := jdk_68_method_73_code, exceptionTable := #[], attributes := #[] }
def k12m9 : Method := { name := "putStringAt", desc := "(ILjava/lang/String;)V", sig := { parameters := [.int, (.object "java/lang/String")], returnType := none }, accessFlags := 2, code := some k12c9 }
/-- java/lang/AbstractStringBuilder -/
def k12 : Class := { plain "java/lang/AbstractStringBuilder" (some 0) with
  accessFlags := 1056
  interfaces := #[11, 4]
  cf := some (fileOf pool12 10 #[] #[{ accessFlags := 0, nameIndex := 7, descriptorIndex := 8, attributes := #[] }, { accessFlags := 0, nameIndex := 7, descriptorIndex := 103, attributes := #[] }, { accessFlags := 1, nameIndex := 34, descriptorIndex := 35, attributes := #[] }, { accessFlags := 2, nameIndex := 102, descriptorIndex := 103, attributes := #[] }, { accessFlags := 1, nameIndex := 45, descriptorIndex := 46, attributes := #[] }, { accessFlags := 1, nameIndex := 45, descriptorIndex := 292, attributes := #[] }, { accessFlags := 16, nameIndex := 552, descriptorIndex := 403, attributes := #[] }, { accessFlags := 16, nameIndex := 85, descriptorIndex := 86, attributes := #[] }, { accessFlags := 2, nameIndex := 217, descriptorIndex := 69, attributes := #[] }, { accessFlags := 2, nameIndex := 210, descriptorIndex := 211, attributes := #[] }] 1056 4 #[444, 48] #[{ accessFlags := 0, nameIndex := 17, descriptorIndex := 14, attributes := #[] }, { accessFlags := 0, nameIndex := 24, descriptorIndex := 25, attributes := #[] }, { accessFlags := 0, nameIndex := 75, descriptorIndex := 21, attributes := #[] }, { accessFlags := 0, nameIndex := 81, descriptorIndex := 82, attributes := #[] }, { accessFlags := 26, nameIndex := 13, descriptorIndex := 14, attributes := #[] }])
  fields := #[{ name := "value", type := (.array .byte), accessFlags := 0, slot := 0, constantValue := 0 }, { name := "coder", type := .byte, accessFlags := 0, slot := 1, constantValue := 0 }, { name := "maybeLatin1", type := .boolean, accessFlags := 0, slot := 2, constantValue := 0 }, { name := "count", type := .int, accessFlags := 0, slot := 3, constantValue := 0 }, { name := "EMPTYVALUE", type := (.array .byte), accessFlags := 26, slot := 0, constantValue := 0 }]
  methods := #[k12m0, k12m1, k12m2, k12m3, k12m4, k12m5, k12m6, k12m7, k12m8, k12m9]
  instanceTypes := #[(.array .byte), .byte, .boolean, .int]
  staticTypes := #[(.array .byte)]
  resolved := Array.replicate 609 none
  statics := none }

def pool13 : Array CpInfo := pool [(1, .methodref 2 3), (0, .class_ 4), (0, .nameAndType 5 6), (0, u "java/lang/AbstractStringBuilder"), (0, u "<init>"), (0, u "(I)V"), (11, .class_ 20), (1, u "java/lang/String"), (3, .class_ 26), (1, u "java/lang/StringBuilder"), (0, u "append"), (0, u "(Ljava/lang/String;)Ljava/lang/StringBuilder;"), (0, .methodref 2 30), (0, .nameAndType 27 31), (0, u "(Ljava/lang/String;)Ljava/lang/AbstractStringBuilder;"), (18, .methodref 2 51), (0, .nameAndType 27 52), (0, u "(C)Ljava/lang/AbstractStringBuilder;"), (84, .methodref 18 138), (0, .nameAndType 5 139), (0, u "(Ljava/lang/StringBuilder;)V"), (5, u "()V"), (10, u "()I"), (129, u "(C)Ljava/lang/StringBuilder;"), (56, .methodref 2 344), (0, .nameAndType 345 156), (0, u "length"), (3, .class_ 350), (0, u "java/lang/Appendable"), (0, .class_ 352), (0, u "java/io/Serializable"), (0, .class_ 354), (0, u "java/lang/Comparable"), (0, .class_ 356), (0, u "java/lang/CharSequence"), (0, u "serialVersionUID"), (0, u "J"), (40, u "toString"), (0, u "()Ljava/lang/String;")] 21

def k13m0 : Method := { name := "<init>", desc := "()V", sig := { parameters := [], returnType := none }, accessFlags := 1, code := none }
def k13c1 : Code := { maxStack := 2, maxLocals := 2, code := jdk_67_method_2_code, exceptionTable := #[], attributes := #[] }
def k13m1 : Method := { name := "<init>", desc := "(I)V", sig := { parameters := [.int], returnType := none }, accessFlags := 1, code := some k13c1 }
def k13c2 : Code := { maxStack := 2, maxLocals := 2, code := jdk_67_method_7_code, exceptionTable := #[], attributes := #[] }
def k13m2 : Method := { name := "append", desc := "(Ljava/lang/String;)Ljava/lang/StringBuilder;", sig := { parameters := [(.object "java/lang/String")], returnType := some (.object "java/lang/StringBuilder") }, accessFlags := 1, code := some k13c2 }
def k13c3 : Code := { maxStack := 2, maxLocals := 2, code := jdk_67_method_14_code, exceptionTable := #[], attributes := #[] }
def k13m3 : Method := { name := "append", desc := "(C)Ljava/lang/StringBuilder;", sig := { parameters := [.char], returnType := some (.object "java/lang/StringBuilder") }, accessFlags := 1, code := some k13c3 }
def k13c4 : Code := { maxStack := 3, maxLocals := 1, code := jdk_67_method_42_code, exceptionTable := #[], attributes := #[] }
def k13m4 : Method := { name := "toString", desc := "()Ljava/lang/String;", sig := { parameters := [], returnType := some (.object "java/lang/String") }, accessFlags := 1, code := some k13c4 }
def k13c5 : Code := { maxStack := 1, maxLocals := 1, code := jdk_67_method_93_code, exceptionTable := #[], attributes := #[] }
def k13m5 : Method := { name := "length", desc := "()I", sig := { parameters := [], returnType := some .int }, accessFlags := 4161, code := some k13c5 }
/-- java/lang/StringBuilder -/
def k13 : Class := { plain "java/lang/StringBuilder" (some 12) with
  accessFlags := 49
  interfaces := #[11, 2, 3, 4]
  cf := some (fileOf pool13 24 #[] #[{ accessFlags := 1, nameIndex := 5, descriptorIndex := 145, attributes := #[] }, { accessFlags := 1, nameIndex := 5, descriptorIndex := 6, attributes := #[] }, { accessFlags := 1, nameIndex := 27, descriptorIndex := 28, attributes := #[] }, { accessFlags := 1, nameIndex := 27, descriptorIndex := 286, attributes := #[] }, { accessFlags := 1, nameIndex := 399, descriptorIndex := 400, attributes := #[] }, { accessFlags := 4161, nameIndex := 345, descriptorIndex := 156, attributes := #[] }] 49 2 #[349, 351, 353, 355] #[{ accessFlags := 24, nameIndex := 357, descriptorIndex := 358, attributes := #[] }])
  fields := #[{ name := "serialVersionUID", type := .long, accessFlags := 24, slot := 0, constantValue := 0 }]
  methods := #[k13m0, k13m1, k13m2, k13m3, k13m4, k13m5]
  instanceTypes := #[(.array .byte), .byte, .boolean, .int]
  staticTypes := #[.long]
  resolved := Array.replicate 422 none
  statics := none }

def pool14 : Array CpInfo := pool [(1, .class_ 2), (0, u "java/lang/String"), (1, .class_ 6), (1, u "java/lang/Object"), (0, u "<init>"), (0, u "()V"), (0, .methodref 1 10), (0, .nameAndType 11 12), (0, u "checkIndex"), (0, u "(II)V"), (1, .class_ 16), (1, u "java/lang/StringLatin1"), (36, u "([BI)C"), (36, u "canEncode"), (14, u "(C)Z"), (15, u "$assertionsDisabled"), (0, u "Z"), (98, .class_ 223), (1, u "java/lang/StringLatin1$LinesSpliterator"), (28, u "charAt"), (137, .class_ 391), (0, u "java/lang/StringLatin1$CharsSpliterator")] 3

def k14m0 : Method := { name := "<init>", desc := "()V", sig := { parameters := [], returnType := none }, accessFlags := 0, code := none }
def k14c1 : Code := { maxStack := 2, maxLocals := 2, code := jdk_43_method_2_code, exceptionTable := #[], attributes := #[] }
def k14m1 : Method := { name := "charAt", desc := "([BI)C", sig := { parameters := [(.array .byte), .int], returnType := some .char }, accessFlags := 9, code := some k14c1 }
def k14c2 : Code := { maxStack := 2, maxLocals := 1, code := jdk_43_method_3_code, exceptionTable := #[], attributes := #[] }
def k14m2 : Method := { name := "canEncode", desc := "(C)Z", sig := { parameters := [.char], returnType := some .boolean }, accessFlags := 9, code := some k14c2 }
/-- java/lang/StringLatin1 -/
def k14 : Class := { plain "java/lang/StringLatin1" (some 0) with
  accessFlags := 48
  interfaces := #[]
  cf := some (fileOf pool14 14 #[.nestMembers #[390, 221]] #[{ accessFlags := 0, nameIndex := 7, descriptorIndex := 8, attributes := #[] }, { accessFlags := 9, nameIndex := 252, descriptorIndex := 53, attributes := #[] }, { accessFlags := 9, nameIndex := 90, descriptorIndex := 105, attributes := #[] }] 48 4 #[] #[{ accessFlags := 4120, nameIndex := 121, descriptorIndex := 122, attributes := #[] }])
  fields := #[{ name := "$assertionsDisabled", type := .boolean, accessFlags := 4120, slot := 0, constantValue := 0 }]
  methods := #[k14m0, k14m1, k14m2]
  instanceTypes := #[]
  staticTypes := #[.boolean]
  resolved := Array.replicate 395 none
  statics := none }

def pool15 : Array CpInfo := pool [(2, .class_ 4), (1, u "java/lang/Object"), (0, u "<init>"), (0, u "()V"), (17, .class_ 26), (1, u "jdk/internal/util/Preconditions"), (6, u "checkIndex"), (21, .class_ 56), (0, u "jdk/internal/util/Preconditions$4"), (57, .class_ 115), (0, u "jdk/internal/util/Preconditions$1"), (7, u "SIOOBE_FORMATTER"), (0, u "Ljava/util/function/BiFunction;"), (0, .class_ 126), (0, u "jdk/internal/util/Preconditions$2"), (3, u "AIOOBE_FORMATTER"), (0, .class_ 132), (0, u "jdk/internal/util/Preconditions$3"), (3, u "IOOBE_FORMATTER"), (41, u "(IILjava/util/function/BiFunction;)I")] 15

def k15m0 : Method := { name := "<init>", desc := "()V", sig := { parameters := [], returnType := none }, accessFlags := 1, code := none }
def k15c1 : Code := { maxStack := 3, maxLocals := 3, code := jdk_41_method_11_code, exceptionTable := #[], attributes := #[] }
def k15m1 : Method := { name := "checkIndex", desc := "(IILjava/util/function/BiFunction;)I", sig := { parameters := [.int, .int, (.object "java/util/function/BiFunction")], returnType := some .int }, accessFlags := 9, code := some k15c1 }
/-- jdk/internal/util/Preconditions -/
def k15 : Class := { plain "jdk/internal/util/Preconditions" (some 0) with
  accessFlags := 33
  interfaces := #[]
  cf := some (fileOf pool15 24 #[.nestMembers #[55, 131, 125, 114]] #[{ accessFlags := 1, nameIndex := 5, descriptorIndex := 6, attributes := #[] }, { accessFlags := 9, nameIndex := 33, descriptorIndex := 178, attributes := #[] }] 33 2 #[] #[{ accessFlags := 25, nameIndex := 123, descriptorIndex := 124, attributes := #[] }, { accessFlags := 25, nameIndex := 130, descriptorIndex := 124, attributes := #[] }, { accessFlags := 25, nameIndex := 136, descriptorIndex := 124, attributes := #[] }])
  fields := #[{ name := "SIOOBE_FORMATTER", type := (.object "java/util/function/BiFunction"), accessFlags := 25, slot := 0, constantValue := 0 }, { name := "AIOOBE_FORMATTER", type := (.object "java/util/function/BiFunction"), accessFlags := 25, slot := 1, constantValue := 0 }, { name := "IOOBE_FORMATTER", type := (.object "java/util/function/BiFunction"), accessFlags := 25, slot := 2, constantValue := 0 }]
  methods := #[k15m0, k15m1]
  instanceTypes := #[]
  staticTypes := #[(.object "java/util/function/BiFunction"), (.object "java/util/function/BiFunction"), (.object "java/util/function/BiFunction")]
  resolved := Array.replicate 194 none
  statics := some 2 }

def pool16 : Array CpInfo := pool [(2, .class_ 4), (1, u "java/lang/Object"), (0, u "<init>"), (0, u "()V"), (1, .class_ 10), (1, u "java/lang/System"), (0, u "allowSecurityManager"), (0, u "I"), (16, u "cons"), (0, u "Ljava/io/Console;"), (77, .class_ 110), (1, u "java/lang/System$CallersHolder"), (43, u "initialErrStream"), (0, u "Ljava/io/PrintStream;"), (19, u "security"), (0, u "Ljava/lang/SecurityManager;"), (31, .class_ 209), (0, u "java/lang/System$1"), (7, u "props"), (0, u "Ljava/util/Properties;"), (2, u "lineSeparator"), (0, u "Ljava/lang/String;"), (96, .class_ 321), (1, u "java/lang/System$LoggerFinder"), (5, .class_ 328), (0, u "java/lang/System$Logger"), (67, u "err"), (2, u "out"), (91, u "notSupportedJnuEncoding"), (15, u "in"), (17, u "initialIn"), (0, u "Ljava/io/InputStream;"), (35, u "bootLayer"), (0, u "Ljava/lang/ModuleLayer;"), (99, .class_ 664), (0, u "java/lang/System$2"), (9, u "NEVER"), (2, u "MAYBE"), (49, u "arraycopy"), (0, u "(Ljava/lang/Object;ILjava/lang/Object;II)V"), (72, .class_ 802), (0, u "java/lang/System$Logger$Level")] 31

def k16m0 : Method := { name := "<init>", desc := "()V", sig := { parameters := [], returnType := none }, accessFlags := 2, code := none }
def k16m1 : Method := { name := "arraycopy", desc := "(Ljava/lang/Object;ILjava/lang/Object;II)V", sig := { parameters := [(.object "java/lang/Object"), .int, (.object "java/lang/Object"), .int, .int], returnType := none }, accessFlags := 265, code := none }
/-- java/lang/System -/
def k16 : Class := { plain "java/lang/System" (some 0) with
  accessFlags := 49
  interfaces := #[]
  cf := some (fileOf pool16 8 #[.nestMembers #[319, 327, 801, 108, 663, 208]] #[{ accessFlags := 2, nameIndex := 5, descriptorIndex := 6, attributes := #[] }, { accessFlags := 265, nameIndex := 727, descriptorIndex := 728, attributes := #[] }] 49 2 #[] #[{ accessFlags := 25, nameIndex := 507, descriptorIndex := 526, attributes := #[] }, { accessFlags := 25, nameIndex := 399, descriptorIndex := 155, attributes := #[] }, { accessFlags := 25, nameIndex := 396, descriptorIndex := 155, attributes := #[] }, { accessFlags := 10, nameIndex := 525, descriptorIndex := 526, attributes := #[] }, { accessFlags := 26, nameIndex := 674, descriptorIndex := 12, attributes := #[] }, { accessFlags := 26, nameIndex := 677, descriptorIndex := 12, attributes := #[] }, { accessFlags := 10, nameIndex := 11, descriptorIndex := 12, attributes := #[] }, { accessFlags := 74, nameIndex := 175, descriptorIndex := 176, attributes := #[] }, { accessFlags := 10, nameIndex := 491, descriptorIndex := 222, attributes := #[] }, { accessFlags := 74, nameIndex := 29, descriptorIndex := 30, attributes := #[] }, { accessFlags := 74, nameIndex := 154, descriptorIndex := 155, attributes := #[] }, { accessFlags := 10, nameIndex := 217, descriptorIndex := 218, attributes := #[] }, { accessFlags := 10, nameIndex := 221, descriptorIndex := 222, attributes := #[] }, { accessFlags := 8, nameIndex := 562, descriptorIndex := 563, attributes := #[] }])
  fields := #[{ name := "in", type := (.object "java/io/InputStream"), accessFlags := 25, slot := 0, constantValue := 0 }, { name := "out", type := (.object "java/io/PrintStream"), accessFlags := 25, slot := 1, constantValue := 0 }, { name := "err", type := (.object "java/io/PrintStream"), accessFlags := 25, slot := 2, constantValue := 0 }, { name := "initialIn", type := (.object "java/io/InputStream"), accessFlags := 10, slot := 3, constantValue := 0 }, { name := "NEVER", type := .int, accessFlags := 26, slot := 4, constantValue := 0 }, { name := "MAYBE", type := .int, accessFlags := 26, slot := 5, constantValue := 0 }, { name := "allowSecurityManager", type := .int, accessFlags := 10, slot := 6, constantValue := 0 }, { name := "security", type := (.object "java/lang/SecurityManager"), accessFlags := 74, slot := 7, constantValue := 0 }, { name := "notSupportedJnuEncoding", type := (.object "java/lang/String"), accessFlags := 10, slot := 8, constantValue := 0 }, { name := "cons", type := (.object "java/io/Console"), accessFlags := 74, slot := 9, constantValue := 0 }, { name := "initialErrStream", type := (.object "java/io/PrintStream"), accessFlags := 74, slot := 10, constantValue := 0 }, { name := "props", type := (.object "java/util/Properties"), accessFlags := 10, slot := 11, constantValue := 0 }, { name := "lineSeparator", type := (.object "java/lang/String"), accessFlags := 10, slot := 12, constantValue := 0 }, { name := "bootLayer", type := (.object "java/lang/ModuleLayer"), accessFlags := 8, slot := 13, constantValue := 0 }]
  methods := #[k16m0, k16m1]
  instanceTypes := #[]
  staticTypes := #[(.object "java/io/InputStream"), (.object "java/io/PrintStream"), (.object "java/io/PrintStream"), (.object "java/io/InputStream"), .int, .int, .int, (.object "java/lang/SecurityManager"), (.object "java/lang/String"), (.object "java/io/Console"), (.object "java/io/PrintStream"), (.object "java/util/Properties"), (.object "java/lang/String"), (.object "java/lang/ModuleLayer")]
  resolved := Array.replicate 834 none
  statics := none }

def pool17 : Array CpInfo := pool [(2, .class_ 4), (1, u "java/lang/Object"), (0, u "<init>"), (0, u "()V"), (7, .class_ 16), (1, u "java/util/Arrays"), (57, .class_ 76), (1, u "java/util/Arrays$NaturalOrder"), (32, u "()Ljava/lang/Object;"), (3, .class_ 115), (1, u "java/util/Arrays$LegacyMergeSort"), (1, u "Z"), (10, .nameAndType 129 109), (0, u "clone"), (9, u "copyOfRange"), (10, .methodref 151 152), (0, .class_ 153), (0, .nameAndType 154 155), (0, u "java/lang/System"), (0, u "arraycopy"), (0, u "(Ljava/lang/Object;ILjava/lang/Object;II)V"), (148, .methodref 305 306), (0, .class_ 307), (0, .nameAndType 308 309), (0, u "java/lang/Math"), (0, u "min"), (0, u "(II)I"), (0, .methodref 311 128), (0, .class_ 312), (0, u "[B"), (26, .methodref 14 340), (0, .nameAndType 341 342), (0, u "copyOfRangeByte"), (0, u "([BII)[B"), (0, .methodref 14 344), (0, .nameAndType 345 346), (0, u "checkLength"), (0, u "(II)V"), (28, .class_ 376), (0, u "java/util/Arrays$ArrayList"), (68, u "$assertionsDisabled"), (269, u "MIN_ARRAY_SORT_GRAN"), (0, u "I"), (2, u "INSERTIONSORT_THRESHOLD"), (255, .class_ 976), (0, u "java/util/Arrays$ArrayItr")] 52

def k17m0 : Method := { name := "<init>", desc := "()V", sig := { parameters := [], returnType := none }, accessFlags := 2, code := none }
def k17c1 : Code := { maxStack := 4, maxLocals := 2, code := jdk_65_method_131_code, exceptionTable := #[], attributes := #[] }
def k17m1 : Method := { name := "checkLength", desc := "(II)V", sig := { parameters := [.int, .int], returnType := none }, accessFlags := 10, code := some k17c1 }
def k17c2 : Code := { maxStack := 3, maxLocals := 3, code := jdk_65_method_132_code, exceptionTable := #[], attributes := #[] }
def k17m2 : Method := { name := "copyOfRange", desc := "([BII)[B", sig := { parameters := [(.array .byte), .int, .int], returnType := some (.array .byte) }, accessFlags := 9, code := some k17c2 }
def k17c3 : Code := { maxStack := 6, maxLocals := 5, code := jdk_65_method_133_code, exceptionTable := #[], attributes := #[] }
def k17m3 : Method := { name := "copyOfRangeByte", desc := "([BII)[B", sig := { parameters := [(.array .byte), .int, .int], returnType := some (.array .byte) }, accessFlags := 10, code := some k17c3 }
/-- java/util/Arrays -/
def k17 : Class := { plain "java/util/Arrays" (some 0) with
  accessFlags := 49
  interfaces := #[]
  cf := some (fileOf pool17 14 #[.nestMembers #[975, 375, 113, 74]] #[{ accessFlags := 2, nameIndex := 5, descriptorIndex := 6, attributes := #[] }, { accessFlags := 10, nameIndex := 345, descriptorIndex := 346, attributes := #[] }, { accessFlags := 9, nameIndex := 139, descriptorIndex := 342, attributes := #[] }, { accessFlags := 10, nameIndex := 341, descriptorIndex := 342, attributes := #[] }] 49 2 #[] #[{ accessFlags := 26, nameIndex := 715, descriptorIndex := 716, attributes := #[] }, { accessFlags := 26, nameIndex := 719, descriptorIndex := 716, attributes := #[] }, { accessFlags := 4120, nameIndex := 445, descriptorIndex := 117, attributes := #[] }])
  fields := #[{ name := "MIN_ARRAY_SORT_GRAN", type := .int, accessFlags := 26, slot := 0, constantValue := 0 }, { name := "INSERTIONSORT_THRESHOLD", type := .int, accessFlags := 26, slot := 1, constantValue := 0 }, { name := "$assertionsDisabled", type := .boolean, accessFlags := 4120, slot := 2, constantValue := 0 }]
  methods := #[k17m0, k17m1, k17m2, k17m3]
  instanceTypes := #[]
  staticTypes := #[.int, .int, .boolean]
  resolved := Array.replicate 1029 none
  statics := none }

def pool18 : Array CpInfo := pool [(1, .class_ 2), (0, u "java/lang/Cloneable"), (0, .class_ 4), (0, u "java/lang/Object")] 2

/-- java/lang/Cloneable -/
def k18 : Class := { plain "java/lang/Cloneable" (some 0) with
  accessFlags := 1537
  interfaces := #[]
  cf := some (fileOf pool18 1 #[] #[] 1537 3 #[] #[])
  fields := #[]
  methods := #[]
  instanceTypes := #[]
  staticTypes := #[]
  resolved := Array.replicate 7 none
  statics := none }

def pool19 : Array CpInfo := pool [(9, u "<init>"), (6, .class_ 18), (1, u "java/lang/Object"), (0, u "()V"), (1, .class_ 23), (1, u "jdk/internal/util/ArraysSupport"), (0, u "LOG2_ARRAY_LONG_INDEX_SCALE"), (0, u "I"), (2, u "U"), (0, u "Ljdk/internal/misc/Unsafe;"), (8, u "BIG_ENDIAN"), (0, u "Z"), (8, u "LOG2_BYTE_BIT_SIZE"), (4, u "LOG2_ARRAY_INT_INDEX_SCALE"), (54, u "JLA"), (0, u "Ljdk/internal/access/JavaLangAccess;"), (11, u "LOG2_ARRAY_BOOLEAN_INDEX_SCALE"), (9, u "LOG2_ARRAY_BYTE_INDEX_SCALE"), (5, u "LOG2_ARRAY_CHAR_INDEX_SCALE"), (5, u "LOG2_ARRAY_SHORT_INDEX_SCALE"), (18, u "LOG2_ARRAY_FLOAT_INDEX_SCALE"), (24, u "LOG2_ARRAY_DOUBLE_INDEX_SCALE"), (89, u "T_BOOLEAN"), (2, u "T_CHAR"), (1, u "T_FLOAT"), (1, u "T_DOUBLE"), (1, u "T_BYTE"), (1, u "T_SHORT"), (1, u "T_INT"), (1, u "T_LONG"), (1, u "SOFT_MAX_ARRAY_LENGTH")] 83

def k19m0 : Method := { name := "<init>", desc := "()V", sig := { parameters := [], returnType := none }, accessFlags := 2, code := none }
/-- jdk/internal/util/ArraysSupport -/
def k19 : Class := { plain "jdk/internal/util/ArraysSupport" (some 0) with
  accessFlags := 33
  interfaces := #[]
  cf := some (fileOf pool19 21 #[] #[{ accessFlags := 2, nameIndex := 9, descriptorIndex := 19, attributes := #[] }] 33 16 #[] #[{ accessFlags := 24, nameIndex := 28, descriptorIndex := 29, attributes := #[] }, { accessFlags := 26, nameIndex := 38, descriptorIndex := 39, attributes := #[] }, { accessFlags := 25, nameIndex := 121, descriptorIndex := 25, attributes := #[] }, { accessFlags := 25, nameIndex := 131, descriptorIndex := 25, attributes := #[] }, { accessFlags := 25, nameIndex := 137, descriptorIndex := 25, attributes := #[] }, { accessFlags := 25, nameIndex := 143, descriptorIndex := 25, attributes := #[] }, { accessFlags := 25, nameIndex := 53, descriptorIndex := 25, attributes := #[] }, { accessFlags := 25, nameIndex := 24, descriptorIndex := 25, attributes := #[] }, { accessFlags := 25, nameIndex := 162, descriptorIndex := 25, attributes := #[] }, { accessFlags := 25, nameIndex := 187, descriptorIndex := 25, attributes := #[] }, { accessFlags := 26, nameIndex := 48, descriptorIndex := 25, attributes := #[] }, { accessFlags := 25, nameIndex := 277, descriptorIndex := 25, attributes := #[] }, { accessFlags := 25, nameIndex := 280, descriptorIndex := 25, attributes := #[] }, { accessFlags := 25, nameIndex := 282, descriptorIndex := 25, attributes := #[] }, { accessFlags := 25, nameIndex := 284, descriptorIndex := 25, attributes := #[] }, { accessFlags := 25, nameIndex := 286, descriptorIndex := 25, attributes := #[] }, { accessFlags := 25, nameIndex := 288, descriptorIndex := 25, attributes := #[] }, { accessFlags := 25, nameIndex := 290, descriptorIndex := 25, attributes := #[] }, { accessFlags := 25, nameIndex := 292, descriptorIndex := 25, attributes := #[] }, { accessFlags := 26, nameIndex := 108, descriptorIndex := 109, attributes := #[] }, { accessFlags := 25, nameIndex := 294, descriptorIndex := 25, attributes := #[] }])
  fields := #[{ name := "U", type := (.object "jdk/internal/misc/Unsafe"), accessFlags := 24, slot := 0, constantValue := 0 }, { name := "BIG_ENDIAN", type := .boolean, accessFlags := 26, slot := 1, constantValue := 0 }, { name := "LOG2_ARRAY_BOOLEAN_INDEX_SCALE", type := .int, accessFlags := 25, slot := 2, constantValue := 0 }, { name := "LOG2_ARRAY_BYTE_INDEX_SCALE", type := .int, accessFlags := 25, slot := 3, constantValue := 0 }, { name := "LOG2_ARRAY_CHAR_INDEX_SCALE", type := .int, accessFlags := 25, slot := 4, constantValue := 0 }, { name := "LOG2_ARRAY_SHORT_INDEX_SCALE", type := .int, accessFlags := 25, slot := 5, constantValue := 0 }, { name := "LOG2_ARRAY_INT_INDEX_SCALE", type := .int, accessFlags := 25, slot := 6, constantValue := 0 }, { name := "LOG2_ARRAY_LONG_INDEX_SCALE", type := .int, accessFlags := 25, slot := 7, constantValue := 0 }, { name := "LOG2_ARRAY_FLOAT_INDEX_SCALE", type := .int, accessFlags := 25, slot := 8, constantValue := 0 }, { name := "LOG2_ARRAY_DOUBLE_INDEX_SCALE", type := .int, accessFlags := 25, slot := 9, constantValue := 0 }, { name := "LOG2_BYTE_BIT_SIZE", type := .int, accessFlags := 26, slot := 10, constantValue := 0 }, { name := "T_BOOLEAN", type := .int, accessFlags := 25, slot := 11, constantValue := 0 }, { name := "T_CHAR", type := .int, accessFlags := 25, slot := 12, constantValue := 0 }, { name := "T_FLOAT", type := .int, accessFlags := 25, slot := 13, constantValue := 0 }, { name := "T_DOUBLE", type := .int, accessFlags := 25, slot := 14, constantValue := 0 }, { name := "T_BYTE", type := .int, accessFlags := 25, slot := 15, constantValue := 0 }, { name := "T_SHORT", type := .int, accessFlags := 25, slot := 16, constantValue := 0 }, { name := "T_INT", type := .int, accessFlags := 25, slot := 17, constantValue := 0 }, { name := "T_LONG", type := .int, accessFlags := 25, slot := 18, constantValue := 0 }, { name := "JLA", type := (.object "jdk/internal/access/JavaLangAccess"), accessFlags := 26, slot := 19, constantValue := 0 }, { name := "SOFT_MAX_ARRAY_LENGTH", type := .int, accessFlags := 25, slot := 20, constantValue := 0 }]
  methods := #[k19m0]
  instanceTypes := #[]
  staticTypes := #[(.object "jdk/internal/misc/Unsafe"), .boolean, .int, .int, .int, .int, .int, .int, .int, .int, .int, .int, .int, .int, .int, .int, .int, .int, .int, (.object "jdk/internal/access/JavaLangAccess"), .int]
  resolved := Array.replicate 378 none
  statics := none }

/-- the primitive byte -/
def k20 : Class := { plain "byte" none with kind := .primitive 'B', accessFlags := 0x411 }
/-- [B -/
def k21 : Class := { plain "[B" (some 0) with kind := .array 20 .byte, interfaces := #[18, 2], accessFlags := 1041 }

/-- the primitive char -/
def k22 : Class := { plain "char" none with kind := .primitive 'C', accessFlags := 0x411 }
/-- [C -/
def k23 : Class := { plain "[C" (some 0) with kind := .array 22 .char, interfaces := #[18, 2], accessFlags := 1041 }

/-- the primitive int -/
def k24 : Class := { plain "int" none with kind := .primitive 'I', accessFlags := 0x411 }
/-- [I -/
def k25 : Class := { plain "[I" (some 0) with kind := .array 24 .int, interfaces := #[18, 2], accessFlags := 1041 }

def heap : Heap := #[{ cls := 7, slots := #[.long 0, .int 1, .null, .int 0, .null, .int 0, .int 0], vm := .statics 7 },
  { cls := 8, slots := #[.int 0, .int 8, .int 0, .int 1], vm := .statics 8 },
  { cls := 15, slots := #[.null, .null, .null], vm := .statics 15 }]
def classes : Array Class := #[k0, k1, k2, k3, k4, k5, k6, k7, k8, k9, k10, k11, k12, k13, k14, k15, k16, k17, k18, k19, k20, k21, k22, k23, k24, k25]
def interned : List (Array UInt16 × Addr) := []
def slotsUsed : Nat := 14
def theMethod : MethodId := ⟨1, 3⟩
def args0 : Array Value := #[.int 5, .int 5, .int 5, .int 5]
def aboutOver (below : List Frame) : State where
  vm := { classes := classes, interned := interned.toArray }
  heap := heap
  slotsUsed := slotsUsed
  threads := #[{ frames := .invoking theMethod args0 :: below }]
def below0 : List Frame := [.native { method := ⟨0, 0⟩, args := #[] }]
def about1 : State := aboutOver below0
def p0 : Program := .bare "" "" ""
def e0 : Env := launch0.env 0 0 0
theorem w_frames : about1.frames = Frame.invoking theMethod args0 :: below0 := rfl
set_option maxRecDepth 65536 in
theorem w_args : argsFit about1.vm theMethod args0 = true := by decide +kernel
set_option maxRecDepth 65536 in
theorem w_heap : heapFits about1 = true := by decide +kernel
set_option maxRecDepth 65536 in
theorem w_runnable : about1.curStatus? = some .runnable := by decide +kernel
set_option maxRecDepth 65536 in
theorem w_alone : about1.alone = true := by decide +kernel
set_option maxRecDepth 65536 in
theorem w_named : about1.methodNamed? x = some theMethod := by decide +kernel
set_option maxRecDepth 65536 in
theorem w_hears : about1.hears theMethod below0 = true := by decide +kernel
set_option maxRecDepth 65536 in
theorem w_ripe : about1.ripe theMethod args0 below0 = true := by decide +kernel
theorem w_running : about1.status = .running := rfl
set_option maxRecDepth 65536 in
theorem w_room : about1.hasRoom e0.platform room_1 = true :=
  launch0.hasRoom_least _ room_1 (by decide +kernel) (by decide +kernel) (by decide +kernel) (by decide +kernel) (by decide +kernel) (by decide +kernel)
theorem allAtoms_all (ts : List Jvm.Cond) (a : Array Jvm.Value) (st : Jvm.State) : (allAtoms ts).before a st = ts.all (fun c => c.before a st) := by
  induction ts with
  | nil => rfl
  | cons c t ih =>
    show (Jvm.Cond.and c (allAtoms t)).before a st = _
    rw [Jvm.Cond.before_and, ih, List.all_cons]
def words1 : List Jvm.Cond := Jvm.Cond.code x code maxLocals ret :: tables_1
/-- a 'code' word, met by the world's own term for the bytes: nothing is compared byte by byte -/
theorem code_word {y : MethodName} {bytes : ByteArray} {mx : Nat} {rt : Option FieldType} {a : Array Value} {s : State} {m : MethodId} {meth : Method} {c : Code} (h1 : s.methodNamed? y = some m) (h2 : s.vm.method? m = some meth) (h3 : meth.code = some c) (h4 : c.code = bytes)
    (h5 : (c.maxLocals == mx && c.exceptionTable.isEmpty && decide (c.maxStack ≤ mostOperands) && decide (meth.sig.returnType = rt) && !meth.locks && decide (parseMethodDescriptor y.desc = some meth.sig)) = true) : (Jvm.Cond.code y bytes mx rt).before a s = true := by
  simp only [Bool.and_eq_true, beq_iff_eq, Bool.not_eq_true', decide_eq_true_eq] at h5
  obtain ⟨⟨⟨⟨⟨g1, g2⟩, g3⟩, g4⟩, g5⟩, g6⟩ := h5
  simp [Cond.before, Cond.holds, Cond.value, h1, h2, h3, h4, g1, g2, g3, g4, g5, g6]
def isCode : Jvm.Cond → Bool
  | .code _ _ _ _ => true
  | _ => false
theorem all_split {L : List Jvm.Cond} {P : Jvm.Cond → Bool} (h1 : L.all (fun c => isCode c || P c) = true) (h2 : ∀ c ∈ L.filter isCode, P c = true) : L.all P = true := by
  refine List.all_eq_true.mpr fun c hc => ?_
  have h := List.all_eq_true.mp h1 c hc
  rcases Bool.eq_false_or_eq_true (isCode c) with hi | hi
  · exact h2 c (List.mem_filter.mpr ⟨hc, hi⟩)
  · simpa [hi] using h
set_option maxRecDepth 65536 in
theorem w_c0 : (Jvm.Cond.code x code maxLocals ret).before args0 about1 = true := code_word (m := ⟨1, 3⟩) (meth := k1m3) (c := k1c3) (by decide +kernel) rfl rfl rfl (by decide +kernel)
set_option maxRecDepth 65536 in
theorem w_c1 : (Jvm.Cond.code ({ cls := "com/example/patents_via_api/patentsviaapi/errors/UntrustedTextPrintablePinLaw", name := "safe", desc := "(C)C" } : Jvm.MethodName) method_2_code (1 : Nat) (Option.some Jvm.ClassFile.FieldType.char)).before args0 about1 = true := code_word (m := ⟨1, 1⟩) (meth := k1m1) (c := k1c1) (by decide +kernel) rfl rfl rfl (by decide +kernel)
set_option maxRecDepth 65536 in
theorem w_c2 : (Jvm.Cond.code ({ cls := "java/lang/String", name := "<init>", desc := "([C)V" } : Jvm.MethodName) jdk_42_method_3_code (2 : Nat) (Option.none : Option Jvm.ClassFile.FieldType)).before args0 about1 = true := code_word (m := ⟨7, 1⟩) (meth := k7m1) (c := k7c1) (by decide +kernel) rfl rfl rfl (by decide +kernel)
set_option maxRecDepth 65536 in
theorem w_c3 : (Jvm.Cond.code ({ cls := "java/lang/String", name := "<init>", desc := "([CIILjava/lang/Void;)V" } : Jvm.MethodName) jdk_42_method_149_code (6 : Nat) (Option.none : Option Jvm.ClassFile.FieldType)).before args0 about1 = true := code_word (m := ⟨7, 6⟩) (meth := k7m6) (c := k7c6) (by decide +kernel) rfl rfl rfl (by decide +kernel)
set_option maxRecDepth 65536 in
theorem w_c4 : (Jvm.Cond.code ({ cls := "java/lang/Object", name := "<init>", desc := "()V" } : Jvm.MethodName) object_method_1_code (1 : Nat) (Option.none : Option Jvm.ClassFile.FieldType)).before args0 about1 = true := code_word (m := ⟨0, 0⟩) (meth := k0m0) (c := k0c0) (by decide +kernel) rfl rfl rfl (by decide +kernel)
set_option maxRecDepth 65536 in
theorem w_c5 : (Jvm.Cond.code ({ cls := "java/lang/StringUTF16", name := "compress", desc := "([CII)[B" } : Jvm.MethodName) jdk_52_method_16_code (6 : Nat) (Option.some (Jvm.ClassFile.FieldType.array Jvm.ClassFile.FieldType.byte))).before args0 about1 = true := code_word (m := ⟨8, 8⟩) (meth := k8m8) (c := k8c8) (by decide +kernel) rfl rfl rfl (by decide +kernel)
set_option maxRecDepth 65536 in
theorem w_c6 : (Jvm.Cond.code ({ cls := "java/lang/StringUTF16", name := "compress", desc := "([CI[BII)I" } : Jvm.MethodName) jdk_52_method_21_code (7 : Nat) (Option.some Jvm.ClassFile.FieldType.int)).before args0 about1 = true := code_word (m := ⟨8, 9⟩) (meth := k8m9) (c := k8c9) (by decide +kernel) rfl rfl rfl (by decide +kernel)
set_option maxRecDepth 65536 in
theorem w_c7 : (Jvm.Cond.code ({ cls := "java/lang/StringUTF16", name := "coderFromArrayLen", desc := "([BI)B" } : Jvm.MethodName) jdk_52_method_15_code (2 : Nat) (Option.some Jvm.ClassFile.FieldType.byte)).before args0 about1 = true := code_word (m := ⟨8, 7⟩) (meth := k8m7) (c := k8c7) (by decide +kernel) rfl rfl rfl (by decide +kernel)
set_option maxRecDepth 65536 in
theorem w_c8 : (Jvm.Cond.code ({ cls := "com/example/patents_via_api/patentsviaapi/errors/UntrustedText", name := "printable", desc := "(Ljava/lang/String;I)Ljava/lang/String;" } : Jvm.MethodName) prog_12_method_2_code (6 : Nat) (Option.some (Jvm.ClassFile.FieldType.object "java/lang/String"))).before args0 about1 = true := code_word (m := ⟨9, 1⟩) (meth := k9m1) (c := k9c1) (by decide +kernel) rfl rfl rfl (by decide +kernel)
set_option maxRecDepth 65536 in
theorem w_c9 : (Jvm.Cond.code ({ cls := "java/lang/String", name := "length", desc := "()I" } : Jvm.MethodName) jdk_42_method_54_code (1 : Nat) (Option.some Jvm.ClassFile.FieldType.int)).before args0 about1 = true := code_word (m := ⟨7, 3⟩) (meth := k7m3) (c := k7c3) (by decide +kernel) rfl rfl rfl (by decide +kernel)
set_option maxRecDepth 65536 in
theorem w_c10 : (Jvm.Cond.code ({ cls := "java/lang/String", name := "coder", desc := "()B" } : Jvm.MethodName) jdk_42_method_152_code (1 : Nat) (Option.some Jvm.ClassFile.FieldType.byte)).before args0 about1 = true := code_word (m := ⟨7, 8⟩) (meth := k7m8) (c := k7c8) (by decide +kernel) rfl rfl rfl (by decide +kernel)
set_option maxRecDepth 65536 in
theorem w_c11 : (Jvm.Cond.code ({ cls := "java/lang/Math", name := "min", desc := "(II)I" } : Jvm.MethodName) jdk_29_method_69_code (2 : Nat) (Option.some Jvm.ClassFile.FieldType.int)).before args0 about1 = true := code_word (m := ⟨10, 1⟩) (meth := k10m1) (c := k10c1) (by decide +kernel) rfl rfl rfl (by decide +kernel)
set_option maxRecDepth 65536 in
theorem w_c12 : (Jvm.Cond.code ({ cls := "java/lang/StringBuilder", name := "<init>", desc := "(I)V" } : Jvm.MethodName) jdk_67_method_2_code (2 : Nat) (Option.none : Option Jvm.ClassFile.FieldType)).before args0 about1 = true := code_word (m := ⟨13, 1⟩) (meth := k13m1) (c := k13c1) (by decide +kernel) rfl rfl rfl (by decide +kernel)
set_option maxRecDepth 65536 in
theorem w_c13 : (Jvm.Cond.code ({ cls := "java/lang/AbstractStringBuilder", name := "<init>", desc := "(I)V" } : Jvm.MethodName) jdk_68_method_2_code (2 : Nat) (Option.none : Option Jvm.ClassFile.FieldType)).before args0 about1 = true := code_word (m := ⟨12, 1⟩) (meth := k12m1) (c := k12c1) (by decide +kernel) rfl rfl rfl (by decide +kernel)
set_option maxRecDepth 65536 in
theorem w_c14 : (Jvm.Cond.code ({ cls := "java/lang/String", name := "charAt", desc := "(I)C" } : Jvm.MethodName) jdk_42_method_56_code (2 : Nat) (Option.some Jvm.ClassFile.FieldType.char)).before args0 about1 = true := code_word (m := ⟨7, 4⟩) (meth := k7m4) (c := k7c4) (by decide +kernel) rfl rfl rfl (by decide +kernel)
set_option maxRecDepth 65536 in
theorem w_c15 : (Jvm.Cond.code ({ cls := "java/lang/String", name := "isLatin1", desc := "()Z" } : Jvm.MethodName) jdk_42_method_154_code (1 : Nat) (Option.some Jvm.ClassFile.FieldType.boolean)).before args0 about1 = true := code_word (m := ⟨7, 9⟩) (meth := k7m9) (c := k7c9) (by decide +kernel) rfl rfl rfl (by decide +kernel)
set_option maxRecDepth 65536 in
theorem w_c16 : (Jvm.Cond.code ({ cls := "java/lang/StringLatin1", name := "charAt", desc := "([BI)C" } : Jvm.MethodName) jdk_43_method_2_code (2 : Nat) (Option.some Jvm.ClassFile.FieldType.char)).before args0 about1 = true := code_word (m := ⟨14, 1⟩) (meth := k14m1) (c := k14c1) (by decide +kernel) rfl rfl rfl (by decide +kernel)
set_option maxRecDepth 65536 in
theorem w_c17 : (Jvm.Cond.code ({ cls := "java/lang/String", name := "checkIndex", desc := "(II)V" } : Jvm.MethodName) jdk_42_method_155_code (2 : Nat) (Option.none : Option Jvm.ClassFile.FieldType)).before args0 about1 = true := code_word (m := ⟨7, 10⟩) (meth := k7m10) (c := k7c10) (by decide +kernel) rfl rfl rfl (by decide +kernel)
set_option maxRecDepth 65536 in
theorem w_c18 : (Jvm.Cond.code ({ cls := "jdk/internal/util/Preconditions", name := "checkIndex", desc := "(IILjava/util/function/BiFunction;)I" } : Jvm.MethodName) jdk_41_method_11_code (3 : Nat) (Option.some Jvm.ClassFile.FieldType.int)).before args0 about1 = true := code_word (m := ⟨15, 1⟩) (meth := k15m1) (c := k15c1) (by decide +kernel) rfl rfl rfl (by decide +kernel)
set_option maxRecDepth 65536 in
theorem w_c19 : (Jvm.Cond.code ({ cls := "java/lang/StringBuilder", name := "append", desc := "(C)Ljava/lang/StringBuilder;" } : Jvm.MethodName) jdk_67_method_14_code (2 : Nat) (Option.some (Jvm.ClassFile.FieldType.object "java/lang/StringBuilder"))).before args0 about1 = true := code_word (m := ⟨13, 3⟩) (meth := k13m3) (c := k13c3) (by decide +kernel) rfl rfl rfl (by decide +kernel)
set_option maxRecDepth 65536 in
theorem w_c20 : (Jvm.Cond.code ({ cls := "java/lang/AbstractStringBuilder", name := "append", desc := "(C)Ljava/lang/AbstractStringBuilder;" } : Jvm.MethodName) jdk_68_method_31_code (2 : Nat) (Option.some (Jvm.ClassFile.FieldType.object "java/lang/AbstractStringBuilder"))).before args0 about1 = true := code_word (m := ⟨12, 5⟩) (meth := k12m5) (c := k12c5) (by decide +kernel) rfl rfl rfl (by decide +kernel)
set_option maxRecDepth 65536 in
theorem w_c21 : (Jvm.Cond.code ({ cls := "java/lang/AbstractStringBuilder", name := "ensureCapacityInternal", desc := "(I)V" } : Jvm.MethodName) jdk_68_method_9_code (3 : Nat) (Option.none : Option Jvm.ClassFile.FieldType)).before args0 about1 = true := code_word (m := ⟨12, 3⟩) (meth := k12m3) (c := k12c3) (by decide +kernel) rfl rfl rfl (by decide +kernel)
set_option maxRecDepth 65536 in
theorem w_c22 : (Jvm.Cond.code ({ cls := "java/lang/AbstractStringBuilder", name := "isLatin1", desc := "()Z" } : Jvm.MethodName) jdk_68_method_68_code (1 : Nat) (Option.some Jvm.ClassFile.FieldType.boolean)).before args0 about1 = true := code_word (m := ⟨12, 7⟩) (meth := k12m7) (c := k12c7) (by decide +kernel) rfl rfl rfl (by decide +kernel)
set_option maxRecDepth 65536 in
theorem w_c23 : (Jvm.Cond.code ({ cls := "java/lang/StringLatin1", name := "canEncode", desc := "(C)Z" } : Jvm.MethodName) jdk_43_method_3_code (1 : Nat) (Option.some Jvm.ClassFile.FieldType.boolean)).before args0 about1 = true := code_word (m := ⟨14, 2⟩) (meth := k14m2) (c := k14c2) (by decide +kernel) rfl rfl rfl (by decide +kernel)
set_option maxRecDepth 65536 in
theorem w_c24 : (Jvm.Cond.code ({ cls := "java/lang/StringBuilder", name := "append", desc := "(Ljava/lang/String;)Ljava/lang/StringBuilder;" } : Jvm.MethodName) jdk_67_method_7_code (2 : Nat) (Option.some (Jvm.ClassFile.FieldType.object "java/lang/StringBuilder"))).before args0 about1 = true := code_word (m := ⟨13, 2⟩) (meth := k13m2) (c := k13c2) (by decide +kernel) rfl rfl rfl (by decide +kernel)
set_option maxRecDepth 65536 in
theorem w_c25 : (Jvm.Cond.code ({ cls := "java/lang/AbstractStringBuilder", name := "append", desc := "(Ljava/lang/String;)Ljava/lang/AbstractStringBuilder;" } : Jvm.MethodName) jdk_68_method_22_code (3 : Nat) (Option.some (Jvm.ClassFile.FieldType.object "java/lang/AbstractStringBuilder"))).before args0 about1 = true := code_word (m := ⟨12, 4⟩) (meth := k12m4) (c := k12c4) (by decide +kernel) rfl rfl rfl (by decide +kernel)
set_option maxRecDepth 65536 in
theorem w_c26 : (Jvm.Cond.code ({ cls := "java/lang/AbstractStringBuilder", name := "putStringAt", desc := "(ILjava/lang/String;)V" } : Jvm.MethodName) jdk_68_method_73_code (3 : Nat) (Option.none : Option Jvm.ClassFile.FieldType)).before args0 about1 = true := code_word (m := ⟨12, 9⟩) (meth := k12m9) (c := k12c9) (by decide +kernel) rfl rfl rfl (by decide +kernel)
set_option maxRecDepth 65536 in
theorem w_c27 : (Jvm.Cond.code ({ cls := "java/lang/AbstractStringBuilder", name := "inflateIfNeededFor", desc := "(Ljava/lang/String;)V" } : Jvm.MethodName) jdk_68_method_71_code (2 : Nat) (Option.none : Option Jvm.ClassFile.FieldType)).before args0 about1 = true := code_word (m := ⟨12, 8⟩) (meth := k12m8) (c := k12c8) (by decide +kernel) rfl rfl rfl (by decide +kernel)
set_option maxRecDepth 65536 in
theorem w_c28 : (Jvm.Cond.code ({ cls := "java/lang/String", name := "getBytes", desc := "([BIB)V" } : Jvm.MethodName) jdk_42_method_147_code (4 : Nat) (Option.none : Option Jvm.ClassFile.FieldType)).before args0 about1 = true := code_word (m := ⟨7, 5⟩) (meth := k7m5) (c := k7c5) (by decide +kernel) rfl rfl rfl (by decide +kernel)
set_option maxRecDepth 65536 in
theorem w_c29 : (Jvm.Cond.code ({ cls := "java/lang/StringBuilder", name := "toString", desc := "()Ljava/lang/String;" } : Jvm.MethodName) jdk_67_method_42_code (1 : Nat) (Option.some (Jvm.ClassFile.FieldType.object "java/lang/String"))).before args0 about1 = true := code_word (m := ⟨13, 4⟩) (meth := k13m4) (c := k13c4) (by decide +kernel) rfl rfl rfl (by decide +kernel)
set_option maxRecDepth 65536 in
theorem w_c30 : (Jvm.Cond.code ({ cls := "java/lang/String", name := "<init>", desc := "(Ljava/lang/StringBuilder;)V" } : Jvm.MethodName) jdk_42_method_53_code (2 : Nat) (Option.none : Option Jvm.ClassFile.FieldType)).before args0 about1 = true := code_word (m := ⟨7, 2⟩) (meth := k7m2) (c := k7c2) (by decide +kernel) rfl rfl rfl (by decide +kernel)
set_option maxRecDepth 65536 in
theorem w_c31 : (Jvm.Cond.code ({ cls := "java/lang/String", name := "<init>", desc := "(Ljava/lang/AbstractStringBuilder;Ljava/lang/Void;)V" } : Jvm.MethodName) jdk_42_method_150_code (5 : Nat) (Option.none : Option Jvm.ClassFile.FieldType)).before args0 about1 = true := code_word (m := ⟨7, 7⟩) (meth := k7m7) (c := k7c7) (by decide +kernel) rfl rfl rfl (by decide +kernel)
set_option maxRecDepth 65536 in
theorem w_c32 : (Jvm.Cond.code ({ cls := "java/lang/AbstractStringBuilder", name := "getValue", desc := "()[B" } : Jvm.MethodName) jdk_68_method_64_code (1 : Nat) (Option.some (Jvm.ClassFile.FieldType.array Jvm.ClassFile.FieldType.byte))).before args0 about1 = true := code_word (m := ⟨12, 6⟩) (meth := k12m6) (c := k12c6) (by decide +kernel) rfl rfl rfl (by decide +kernel)
set_option maxRecDepth 65536 in
theorem w_c33 : (Jvm.Cond.code ({ cls := "java/lang/StringBuilder", name := "length", desc := "()I" } : Jvm.MethodName) jdk_67_method_93_code (1 : Nat) (Option.some Jvm.ClassFile.FieldType.int)).before args0 about1 = true := code_word (m := ⟨13, 5⟩) (meth := k13m5) (c := k13c5) (by decide +kernel) rfl rfl rfl (by decide +kernel)
set_option maxRecDepth 65536 in
theorem w_c34 : (Jvm.Cond.code ({ cls := "java/lang/AbstractStringBuilder", name := "length", desc := "()I" } : Jvm.MethodName) jdk_68_method_6_code (1 : Nat) (Option.some Jvm.ClassFile.FieldType.int)).before args0 about1 = true := code_word (m := ⟨12, 2⟩) (meth := k12m2) (c := k12c2) (by decide +kernel) rfl rfl rfl (by decide +kernel)
set_option maxRecDepth 65536 in
theorem w_c35 : (Jvm.Cond.code ({ cls := "java/util/Arrays", name := "copyOfRange", desc := "([BII)[B" } : Jvm.MethodName) jdk_65_method_132_code (3 : Nat) (Option.some (Jvm.ClassFile.FieldType.array Jvm.ClassFile.FieldType.byte))).before args0 about1 = true := code_word (m := ⟨17, 2⟩) (meth := k17m2) (c := k17c2) (by decide +kernel) rfl rfl rfl (by decide +kernel)
set_option maxRecDepth 65536 in
theorem w_c36 : (Jvm.Cond.code ({ cls := "com/example/patents_via_api/patentsviaapi/errors/UntrustedTextPrintablePinLaw", name := "ok", desc := "(Ljava/lang/String;III[C)Z" } : Jvm.MethodName) method_3_code (6 : Nat) (Option.some Jvm.ClassFile.FieldType.boolean)).before args0 about1 = true := code_word (m := ⟨1, 2⟩) (meth := k1m2) (c := k1c2) (by decide +kernel) rfl rfl rfl (by decide +kernel)
set_option maxRecDepth 65536 in
theorem w_c37 : (Jvm.Cond.code ({ cls := "java/util/Arrays", name := "copyOfRangeByte", desc := "([BII)[B" } : Jvm.MethodName) jdk_65_method_133_code (5 : Nat) (Option.some (Jvm.ClassFile.FieldType.array Jvm.ClassFile.FieldType.byte))).before args0 about1 = true := code_word (m := ⟨17, 3⟩) (meth := k17m3) (c := k17c3) (by decide +kernel) rfl rfl rfl (by decide +kernel)
set_option maxRecDepth 65536 in
theorem w_c38 : (Jvm.Cond.code ({ cls := "java/util/Arrays", name := "checkLength", desc := "(II)V" } : Jvm.MethodName) jdk_65_method_131_code (2 : Nat) (Option.none : Option Jvm.ClassFile.FieldType)).before args0 about1 = true := code_word (m := ⟨17, 1⟩) (meth := k17m1) (c := k17c1) (by decide +kernel) rfl rfl rfl (by decide +kernel)
set_option maxRecDepth 65536 in
theorem w_c39 : (Jvm.Cond.code ({ cls := "java/lang/StringUTF16", name := "toBytes", desc := "([CII)[B" } : Jvm.MethodName) jdk_52_method_14_code (5 : Nat) (Option.some (Jvm.ClassFile.FieldType.array Jvm.ClassFile.FieldType.byte))).before args0 about1 = true := code_word (m := ⟨8, 6⟩) (meth := k8m6) (c := k8c6) (by decide +kernel) rfl rfl rfl (by decide +kernel)
set_option maxRecDepth 65536 in
theorem w_c40 : (Jvm.Cond.code ({ cls := "java/lang/StringUTF16", name := "newBytesFor", desc := "(I)[B" } : Jvm.MethodName) jdk_52_method_2_code (1 : Nat) (Option.some (Jvm.ClassFile.FieldType.array Jvm.ClassFile.FieldType.byte))).before args0 about1 = true := code_word (m := ⟨8, 1⟩) (meth := k8m1) (c := k8c1) (by decide +kernel) rfl rfl rfl (by decide +kernel)
set_option maxRecDepth 65536 in
theorem w_c41 : (Jvm.Cond.code ({ cls := "java/lang/StringUTF16", name := "newBytesLength", desc := "(I)I" } : Jvm.MethodName) jdk_52_method_3_code (1 : Nat) (Option.some Jvm.ClassFile.FieldType.int)).before args0 about1 = true := code_word (m := ⟨8, 2⟩) (meth := k8m2) (c := k8c2) (by decide +kernel) rfl rfl rfl (by decide +kernel)
set_option maxRecDepth 65536 in
theorem w_c42 : (Jvm.Cond.code ({ cls := "java/lang/StringUTF16", name := "putChar", desc := "([BII)V" } : Jvm.MethodName) jdk_52_method_4_code (3 : Nat) (Option.none : Option Jvm.ClassFile.FieldType)).before args0 about1 = true := code_word (m := ⟨8, 3⟩) (meth := k8m3) (c := k8c3) (by decide +kernel) rfl rfl rfl (by decide +kernel)
set_option maxRecDepth 65536 in
theorem w_c43 : (Jvm.Cond.code ({ cls := "java/lang/StringUTF16", name := "getChar", desc := "([BI)C" } : Jvm.MethodName) jdk_52_method_5_code (2 : Nat) (Option.some Jvm.ClassFile.FieldType.char)).before args0 about1 = true := code_word (m := ⟨8, 4⟩) (meth := k8m4) (c := k8c4) (by decide +kernel) rfl rfl rfl (by decide +kernel)
set_option maxRecDepth 65536 in
theorem w_c44 : (Jvm.Cond.code ({ cls := "java/lang/StringUTF16", name := "charAt", desc := "([BI)C" } : Jvm.MethodName) jdk_52_method_83_code (2 : Nat) (Option.some Jvm.ClassFile.FieldType.char)).before args0 about1 = true := code_word (m := ⟨8, 10⟩) (meth := k8m10) (c := k8c10) (by decide +kernel) rfl rfl rfl (by decide +kernel)
set_option maxRecDepth 65536 in
theorem w_c45 : (Jvm.Cond.code ({ cls := "java/lang/StringUTF16", name := "checkIndex", desc := "(I[B)V" } : Jvm.MethodName) jdk_52_method_91_code (2 : Nat) (Option.none : Option Jvm.ClassFile.FieldType)).before args0 about1 = true := code_word (m := ⟨8, 11⟩) (meth := k8m11) (c := k8c11) (by decide +kernel) rfl rfl rfl (by decide +kernel)
set_option maxRecDepth 65536 in
theorem w_c46 : (Jvm.Cond.code ({ cls := "java/lang/StringUTF16", name := "length", desc := "([B)I" } : Jvm.MethodName) jdk_52_method_6_code (1 : Nat) (Option.some Jvm.ClassFile.FieldType.int)).before args0 about1 = true := code_word (m := ⟨8, 5⟩) (meth := k8m5) (c := k8c5) (by decide +kernel) rfl rfl rfl (by decide +kernel)
def codes1 : List Jvm.Cond := [Jvm.Cond.code x code maxLocals ret, Jvm.Cond.code ({ cls := "com/example/patents_via_api/patentsviaapi/errors/UntrustedTextPrintablePinLaw", name := "safe", desc := "(C)C" } : Jvm.MethodName) method_2_code (1 : Nat) (Option.some Jvm.ClassFile.FieldType.char), Jvm.Cond.code ({ cls := "java/lang/String", name := "<init>", desc := "([C)V" } : Jvm.MethodName) jdk_42_method_3_code (2 : Nat) (Option.none : Option Jvm.ClassFile.FieldType), Jvm.Cond.code ({ cls := "java/lang/String", name := "<init>", desc := "([CIILjava/lang/Void;)V" } : Jvm.MethodName) jdk_42_method_149_code (6 : Nat) (Option.none : Option Jvm.ClassFile.FieldType), Jvm.Cond.code ({ cls := "java/lang/Object", name := "<init>", desc := "()V" } : Jvm.MethodName) object_method_1_code (1 : Nat) (Option.none : Option Jvm.ClassFile.FieldType), Jvm.Cond.code ({ cls := "java/lang/StringUTF16", name := "compress", desc := "([CII)[B" } : Jvm.MethodName) jdk_52_method_16_code (6 : Nat) (Option.some (Jvm.ClassFile.FieldType.array Jvm.ClassFile.FieldType.byte)), Jvm.Cond.code ({ cls := "java/lang/StringUTF16", name := "compress", desc := "([CI[BII)I" } : Jvm.MethodName) jdk_52_method_21_code (7 : Nat) (Option.some Jvm.ClassFile.FieldType.int), Jvm.Cond.code ({ cls := "java/lang/StringUTF16", name := "coderFromArrayLen", desc := "([BI)B" } : Jvm.MethodName) jdk_52_method_15_code (2 : Nat) (Option.some Jvm.ClassFile.FieldType.byte), Jvm.Cond.code ({ cls := "com/example/patents_via_api/patentsviaapi/errors/UntrustedText", name := "printable", desc := "(Ljava/lang/String;I)Ljava/lang/String;" } : Jvm.MethodName) prog_12_method_2_code (6 : Nat) (Option.some (Jvm.ClassFile.FieldType.object "java/lang/String")), Jvm.Cond.code ({ cls := "java/lang/String", name := "length", desc := "()I" } : Jvm.MethodName) jdk_42_method_54_code (1 : Nat) (Option.some Jvm.ClassFile.FieldType.int), Jvm.Cond.code ({ cls := "java/lang/String", name := "coder", desc := "()B" } : Jvm.MethodName) jdk_42_method_152_code (1 : Nat) (Option.some Jvm.ClassFile.FieldType.byte), Jvm.Cond.code ({ cls := "java/lang/Math", name := "min", desc := "(II)I" } : Jvm.MethodName) jdk_29_method_69_code (2 : Nat) (Option.some Jvm.ClassFile.FieldType.int), Jvm.Cond.code ({ cls := "java/lang/StringBuilder", name := "<init>", desc := "(I)V" } : Jvm.MethodName) jdk_67_method_2_code (2 : Nat) (Option.none : Option Jvm.ClassFile.FieldType), Jvm.Cond.code ({ cls := "java/lang/AbstractStringBuilder", name := "<init>", desc := "(I)V" } : Jvm.MethodName) jdk_68_method_2_code (2 : Nat) (Option.none : Option Jvm.ClassFile.FieldType), Jvm.Cond.code ({ cls := "java/lang/String", name := "charAt", desc := "(I)C" } : Jvm.MethodName) jdk_42_method_56_code (2 : Nat) (Option.some Jvm.ClassFile.FieldType.char), Jvm.Cond.code ({ cls := "java/lang/String", name := "isLatin1", desc := "()Z" } : Jvm.MethodName) jdk_42_method_154_code (1 : Nat) (Option.some Jvm.ClassFile.FieldType.boolean), Jvm.Cond.code ({ cls := "java/lang/StringLatin1", name := "charAt", desc := "([BI)C" } : Jvm.MethodName) jdk_43_method_2_code (2 : Nat) (Option.some Jvm.ClassFile.FieldType.char), Jvm.Cond.code ({ cls := "java/lang/String", name := "checkIndex", desc := "(II)V" } : Jvm.MethodName) jdk_42_method_155_code (2 : Nat) (Option.none : Option Jvm.ClassFile.FieldType), Jvm.Cond.code ({ cls := "jdk/internal/util/Preconditions", name := "checkIndex", desc := "(IILjava/util/function/BiFunction;)I" } : Jvm.MethodName) jdk_41_method_11_code (3 : Nat) (Option.some Jvm.ClassFile.FieldType.int), Jvm.Cond.code ({ cls := "java/lang/StringBuilder", name := "append", desc := "(C)Ljava/lang/StringBuilder;" } : Jvm.MethodName) jdk_67_method_14_code (2 : Nat) (Option.some (Jvm.ClassFile.FieldType.object "java/lang/StringBuilder")), Jvm.Cond.code ({ cls := "java/lang/AbstractStringBuilder", name := "append", desc := "(C)Ljava/lang/AbstractStringBuilder;" } : Jvm.MethodName) jdk_68_method_31_code (2 : Nat) (Option.some (Jvm.ClassFile.FieldType.object "java/lang/AbstractStringBuilder")), Jvm.Cond.code ({ cls := "java/lang/AbstractStringBuilder", name := "ensureCapacityInternal", desc := "(I)V" } : Jvm.MethodName) jdk_68_method_9_code (3 : Nat) (Option.none : Option Jvm.ClassFile.FieldType), Jvm.Cond.code ({ cls := "java/lang/AbstractStringBuilder", name := "isLatin1", desc := "()Z" } : Jvm.MethodName) jdk_68_method_68_code (1 : Nat) (Option.some Jvm.ClassFile.FieldType.boolean), Jvm.Cond.code ({ cls := "java/lang/StringLatin1", name := "canEncode", desc := "(C)Z" } : Jvm.MethodName) jdk_43_method_3_code (1 : Nat) (Option.some Jvm.ClassFile.FieldType.boolean), Jvm.Cond.code ({ cls := "java/lang/StringBuilder", name := "append", desc := "(Ljava/lang/String;)Ljava/lang/StringBuilder;" } : Jvm.MethodName) jdk_67_method_7_code (2 : Nat) (Option.some (Jvm.ClassFile.FieldType.object "java/lang/StringBuilder")), Jvm.Cond.code ({ cls := "java/lang/AbstractStringBuilder", name := "append", desc := "(Ljava/lang/String;)Ljava/lang/AbstractStringBuilder;" } : Jvm.MethodName) jdk_68_method_22_code (3 : Nat) (Option.some (Jvm.ClassFile.FieldType.object "java/lang/AbstractStringBuilder")), Jvm.Cond.code ({ cls := "java/lang/AbstractStringBuilder", name := "putStringAt", desc := "(ILjava/lang/String;)V" } : Jvm.MethodName) jdk_68_method_73_code (3 : Nat) (Option.none : Option Jvm.ClassFile.FieldType), Jvm.Cond.code ({ cls := "java/lang/AbstractStringBuilder", name := "inflateIfNeededFor", desc := "(Ljava/lang/String;)V" } : Jvm.MethodName) jdk_68_method_71_code (2 : Nat) (Option.none : Option Jvm.ClassFile.FieldType), Jvm.Cond.code ({ cls := "java/lang/String", name := "getBytes", desc := "([BIB)V" } : Jvm.MethodName) jdk_42_method_147_code (4 : Nat) (Option.none : Option Jvm.ClassFile.FieldType), Jvm.Cond.code ({ cls := "java/lang/StringBuilder", name := "toString", desc := "()Ljava/lang/String;" } : Jvm.MethodName) jdk_67_method_42_code (1 : Nat) (Option.some (Jvm.ClassFile.FieldType.object "java/lang/String")), Jvm.Cond.code ({ cls := "java/lang/String", name := "<init>", desc := "(Ljava/lang/StringBuilder;)V" } : Jvm.MethodName) jdk_42_method_53_code (2 : Nat) (Option.none : Option Jvm.ClassFile.FieldType), Jvm.Cond.code ({ cls := "java/lang/String", name := "<init>", desc := "(Ljava/lang/AbstractStringBuilder;Ljava/lang/Void;)V" } : Jvm.MethodName) jdk_42_method_150_code (5 : Nat) (Option.none : Option Jvm.ClassFile.FieldType), Jvm.Cond.code ({ cls := "java/lang/AbstractStringBuilder", name := "getValue", desc := "()[B" } : Jvm.MethodName) jdk_68_method_64_code (1 : Nat) (Option.some (Jvm.ClassFile.FieldType.array Jvm.ClassFile.FieldType.byte)), Jvm.Cond.code ({ cls := "java/lang/StringBuilder", name := "length", desc := "()I" } : Jvm.MethodName) jdk_67_method_93_code (1 : Nat) (Option.some Jvm.ClassFile.FieldType.int), Jvm.Cond.code ({ cls := "java/lang/AbstractStringBuilder", name := "length", desc := "()I" } : Jvm.MethodName) jdk_68_method_6_code (1 : Nat) (Option.some Jvm.ClassFile.FieldType.int), Jvm.Cond.code ({ cls := "java/util/Arrays", name := "copyOfRange", desc := "([BII)[B" } : Jvm.MethodName) jdk_65_method_132_code (3 : Nat) (Option.some (Jvm.ClassFile.FieldType.array Jvm.ClassFile.FieldType.byte)), Jvm.Cond.code ({ cls := "com/example/patents_via_api/patentsviaapi/errors/UntrustedTextPrintablePinLaw", name := "ok", desc := "(Ljava/lang/String;III[C)Z" } : Jvm.MethodName) method_3_code (6 : Nat) (Option.some Jvm.ClassFile.FieldType.boolean), Jvm.Cond.code ({ cls := "java/util/Arrays", name := "copyOfRangeByte", desc := "([BII)[B" } : Jvm.MethodName) jdk_65_method_133_code (5 : Nat) (Option.some (Jvm.ClassFile.FieldType.array Jvm.ClassFile.FieldType.byte)), Jvm.Cond.code ({ cls := "java/util/Arrays", name := "checkLength", desc := "(II)V" } : Jvm.MethodName) jdk_65_method_131_code (2 : Nat) (Option.none : Option Jvm.ClassFile.FieldType), Jvm.Cond.code ({ cls := "java/lang/StringUTF16", name := "toBytes", desc := "([CII)[B" } : Jvm.MethodName) jdk_52_method_14_code (5 : Nat) (Option.some (Jvm.ClassFile.FieldType.array Jvm.ClassFile.FieldType.byte)), Jvm.Cond.code ({ cls := "java/lang/StringUTF16", name := "newBytesFor", desc := "(I)[B" } : Jvm.MethodName) jdk_52_method_2_code (1 : Nat) (Option.some (Jvm.ClassFile.FieldType.array Jvm.ClassFile.FieldType.byte)), Jvm.Cond.code ({ cls := "java/lang/StringUTF16", name := "newBytesLength", desc := "(I)I" } : Jvm.MethodName) jdk_52_method_3_code (1 : Nat) (Option.some Jvm.ClassFile.FieldType.int), Jvm.Cond.code ({ cls := "java/lang/StringUTF16", name := "putChar", desc := "([BII)V" } : Jvm.MethodName) jdk_52_method_4_code (3 : Nat) (Option.none : Option Jvm.ClassFile.FieldType), Jvm.Cond.code ({ cls := "java/lang/StringUTF16", name := "getChar", desc := "([BI)C" } : Jvm.MethodName) jdk_52_method_5_code (2 : Nat) (Option.some Jvm.ClassFile.FieldType.char), Jvm.Cond.code ({ cls := "java/lang/StringUTF16", name := "charAt", desc := "([BI)C" } : Jvm.MethodName) jdk_52_method_83_code (2 : Nat) (Option.some Jvm.ClassFile.FieldType.char), Jvm.Cond.code ({ cls := "java/lang/StringUTF16", name := "checkIndex", desc := "(I[B)V" } : Jvm.MethodName) jdk_52_method_91_code (2 : Nat) (Option.none : Option Jvm.ClassFile.FieldType), Jvm.Cond.code ({ cls := "java/lang/StringUTF16", name := "length", desc := "([B)I" } : Jvm.MethodName) jdk_52_method_6_code (1 : Nat) (Option.some Jvm.ClassFile.FieldType.int)]
set_option maxRecDepth 65536 in
theorem codes_eq : words1.filter isCode = codes1 := rfl
theorem w_codes : ∀ c ∈ words1.filter isCode, c.before args0 about1 = true := by
  rw [codes_eq]
  intro c hc
  simp only [codes1, List.mem_cons, List.not_mem_nil, or_false] at hc
  rcases hc with rfl | rfl | rfl | rfl | rfl | rfl | rfl | rfl | rfl | rfl | rfl | rfl | rfl | rfl | rfl | rfl | rfl | rfl | rfl | rfl | rfl | rfl | rfl | rfl | rfl | rfl | rfl | rfl | rfl | rfl | rfl | rfl | rfl | rfl | rfl | rfl | rfl | rfl | rfl | rfl | rfl | rfl | rfl | rfl | rfl | rfl | rfl
  · exact w_c0
  · exact w_c1
  · exact w_c2
  · exact w_c3
  · exact w_c4
  · exact w_c5
  · exact w_c6
  · exact w_c7
  · exact w_c8
  · exact w_c9
  · exact w_c10
  · exact w_c11
  · exact w_c12
  · exact w_c13
  · exact w_c14
  · exact w_c15
  · exact w_c16
  · exact w_c17
  · exact w_c18
  · exact w_c19
  · exact w_c20
  · exact w_c21
  · exact w_c22
  · exact w_c23
  · exact w_c24
  · exact w_c25
  · exact w_c26
  · exact w_c27
  · exact w_c28
  · exact w_c29
  · exact w_c30
  · exact w_c31
  · exact w_c32
  · exact w_c33
  · exact w_c34
  · exact w_c35
  · exact w_c36
  · exact w_c37
  · exact w_c38
  · exact w_c39
  · exact w_c40
  · exact w_c41
  · exact w_c42
  · exact w_c43
  · exact w_c44
  · exact w_c45
  · exact w_c46
set_option maxRecDepth 65536 in
theorem w_t1 : (words1.take 24).all (fun c => isCode c || c.before args0 about1) = true := by decide +kernel
set_option maxRecDepth 65536 in
theorem w_t2 : ((words1.drop 24).take 24).all (fun c => isCode c || c.before args0 about1) = true := by decide +kernel
set_option maxRecDepth 65536 in
theorem w_t3 : (((words1.drop 24).drop 24).take 24).all (fun c => isCode c || c.before args0 about1) = true := by decide +kernel
set_option maxRecDepth 65536 in
theorem w_t4 : ((((words1.drop 24).drop 24).drop 24).take 24).all (fun c => isCode c || c.before args0 about1) = true := by decide +kernel
set_option maxRecDepth 65536 in
theorem w_t5 : (((((words1.drop 24).drop 24).drop 24).drop 24).take 24).all (fun c => isCode c || c.before args0 about1) = true := by decide +kernel
set_option maxRecDepth 65536 in
theorem w_t6 : ((((((words1.drop 24).drop 24).drop 24).drop 24).drop 24).take 24).all (fun c => isCode c || c.before args0 about1) = true := by decide +kernel
set_option maxRecDepth 65536 in
theorem w_t7 : (((((((words1.drop 24).drop 24).drop 24).drop 24).drop 24).drop 24).take 24).all (fun c => isCode c || c.before args0 about1) = true := by decide +kernel
set_option maxRecDepth 65536 in
theorem w_t8 : ((((((((words1.drop 24).drop 24).drop 24).drop 24).drop 24).drop 24).drop 24).take 24).all (fun c => isCode c || c.before args0 about1) = true := by decide +kernel
set_option maxRecDepth 65536 in
theorem w_t9 : (((((((((words1.drop 24).drop 24).drop 24).drop 24).drop 24).drop 24).drop 24).drop 24).take 24).all (fun c => isCode c || c.before args0 about1) = true := by decide +kernel
set_option maxRecDepth 65536 in
theorem w_t10 : (((((((((words1.drop 24).drop 24).drop 24).drop 24).drop 24).drop 24).drop 24).drop 24).drop 24).all (fun c => isCode c || c.before args0 about1) = true := by decide +kernel
theorem w_tables : (allAtoms (Jvm.Cond.code x code maxLocals ret :: tables_1)).before args0 about1 = true := by
  rw [allAtoms_all]
  show words1.all (fun c => c.before args0 about1) = true
  refine all_split ?_ w_codes
  rw [← List.take_append_drop 24 words1, List.all_append, w_t1, ← List.take_append_drop 24 (words1.drop 24), List.all_append, w_t2, ← List.take_append_drop 24 ((words1.drop 24).drop 24), List.all_append, w_t3, ← List.take_append_drop 24 (((words1.drop 24).drop 24).drop 24), List.all_append, w_t4, ← List.take_append_drop 24 ((((words1.drop 24).drop 24).drop 24).drop 24), List.all_append, w_t5, ← List.take_append_drop 24 (((((words1.drop 24).drop 24).drop 24).drop 24).drop 24), List.all_append, w_t6, ← List.take_append_drop 24 ((((((words1.drop 24).drop 24).drop 24).drop 24).drop 24).drop 24), List.all_append, w_t7, ← List.take_append_drop 24 (((((((words1.drop 24).drop 24).drop 24).drop 24).drop 24).drop 24).drop 24), List.all_append, w_t8, ← List.take_append_drop 24 ((((((((words1.drop 24).drop 24).drop 24).drop 24).drop 24).drop 24).drop 24).drop 24), List.all_append, w_t9, w_t10]
  rfl
set_option maxRecDepth 65536 in
theorem w_rest : rest_1_c.before args0 about1 = true := by decide +kernel
set_option maxRecDepth 65536 in
theorem w_case : (Jvm.Cond.and given_1 narrow_1).before args0 about1 = true := by decide +kernel
set_option maxRecDepth 65536 in
theorem w_consts : constsHeld consts_1 about1 := Jvm.Lit.constsHeldB_iff.mp (by decide +kernel)
theorem w_applies : (headSpec (Jvm.Cond.code x code maxLocals ret :: tables_1) room_1).applies x e0.platform about1 = true :=
  (Spec.applies_iff w_frames).mpr ⟨w_running, w_runnable, w_alone, w_named, w_hears, w_ripe, w_room, w_tables⟩
theorem atStart : AtStart classFile x code maxLocals ret World_1 tables_1 room_1 Calls_1 rest_1 Pre_1 launch0 p0 e0 about1 theMethod args0 below0 :=
  ⟨lists_1, trivial, launch0.admits_env _ _ _, launch0.least_env, fairChoices_fair.cas, fairChoices_fair.clock, w_frames, w_args, w_heap, w_applies, ⟨w_consts, trivial⟩, w_rest, w_case⟩
end start1
theorem witness_1 : WitnessClaimed_1 := ⟨start1.p0, start1.e0, start1.about1, start1.theMethod, start1.args0, start1.below0, start1.atStart⟩
end Jvm.Pilot.@@N@@
