import JvmDerived
import JvmDerived.Pilot.@@N@@Statement
import JvmDerived.Pilot.@@N@@Code
set_option linter.unusedVariables false
set_option linter.unusedSimpArgs false
namespace Jvm.RoadKit
open Sem ClassFile Op Lib Jvm.Stand Jvm.Free Jvm.LawKit
section New
variable {p : Program} {l : Launch} {e : Env} {R : Room} {s : State} {m : MethodId} {args : Array Value} {below : List Frame} {meth : Method} {c : Code} {T : State} {locs : List Loc} {cells slots : Nat}
theorem retI (X : Stand p l e R s m args below meth c T locs cells slots) (hx : p.tables.exec = Jvm.exec) {pc : Nat} {Ls : Array Slot} {z : Int32} {rest : List Value} (hret : meth.sig.returnType = some .int) (hd : decode c.code pc = .ok (.ireturn, 1)) {fs : List Frame}
    (hl : ∀ (f : JFrame) (acts : List Action), f.method = m → f.locked = none → f.entered = [] → (doReturn e (T.setTop f) acts (some (.int z))).1 = T.setFrames fs) : Steps p.tables e below (T.setTop (mkF m pc Ls (.int z :: rest))) (T.setFrames fs) := by
  have hm' : T.vm.method? m = some meth := X.method'
  have hn : narrow .int (.int z) = .int z := rfl
  show Steps p.tables e below (T.setTop { method := m, pc := pc, locals := Ls, stack := _ :: rest, locked := none }) _
  jvm_step X.here [X.here.top, hx, hd, hm', hret, hn]
  first | (intro acts; rw [hl _ acts rfl rfl rfl]) | rw [hl _ _ rfl rfl rfl]
  exact Steps.refl _
theorem own_retJ (X : Stand p l e R s m args below meth c T locs cells slots) (hx : p.tables.exec = Jvm.exec) {pc : Nat} {Ls : Array Slot} {z : Int64} {rest : List Value} (hret : meth.sig.returnType = some .long) (hd : decode c.code pc = .ok (.lreturn, 1)) {fs : List Frame}
    (hl : ∀ (f : JFrame) (acts : List Action), f.method = m → f.locked = none → f.entered = [] → (doReturn e (T.setTop f) acts (some (.long z))).1 = T.setFrames fs) : Steps p.tables e below (T.setTop (mkF m pc Ls (.long z :: rest))) (T.setFrames fs) := by
  have hm' : T.vm.method? m = some meth := X.method'
  have hn : narrow .long (.long z) = .long z := rfl
  show Steps p.tables e below (T.setTop { method := m, pc := pc, locals := Ls, stack := _ :: rest, locked := none }) _
  jvm_step X.here [X.here.top, hx, hd, hm', hret, hn]
  first | (intro acts; rw [hl _ acts rfl rfl rfl]) | rw [hl _ _ rfl rfl rfl]
  exact Steps.refl _
theorem own_retD (X : Stand p l e R s m args below meth c T locs cells slots) (hx : p.tables.exec = Jvm.exec) {pc : Nat} {Ls : Array Slot} {z : UInt64} {rest : List Value} (hret : meth.sig.returnType = some .double) (hd : decode c.code pc = .ok (.dreturn, 1)) {fs : List Frame}
    (hl : ∀ (f : JFrame) (acts : List Action), f.method = m → f.locked = none → f.entered = [] → (doReturn e (T.setTop f) acts (some (.double z))).1 = T.setFrames fs) : Steps p.tables e below (T.setTop (mkF m pc Ls (.double z :: rest))) (T.setFrames fs) := by
  have hm' : T.vm.method? m = some meth := X.method'
  have hn : narrow .double (.double z) = .double z := rfl
  show Steps p.tables e below (T.setTop { method := m, pc := pc, locals := Ls, stack := _ :: rest, locked := none }) _
  jvm_step X.here [X.here.top, hx, hd, hm', hret, hn]
  first | (intro acts; rw [hl _ acts rfl rfl rfl]) | rw [hl _ _ rfl rfl rfl]
  exact Steps.refl _
theorem own_retR (X : Stand p l e R s m args below meth c T locs cells slots) (hx : p.tables.exec = Jvm.exec) {pc : Nat} {Ls : Array Slot} {w : Value} {t : FieldType} {rest : List Value} (hret : meth.sig.returnType = some t) (ht : t.isReference = true) (hw : w.isRef = true) (hd : decode c.code pc = .ok (.areturn, 1)) {fs : List Frame}
    (hl : ∀ (f : JFrame) (acts : List Action), f.method = m → f.locked = none → f.entered = [] → (doReturn e (T.setTop f) acts (some w)).1 = T.setFrames fs) : Steps p.tables e below (T.setTop (mkF m pc Ls (w :: rest))) (T.setFrames fs) := by
  have hm' : T.vm.method? m = some meth := X.method'
  rcases ref_cases hw with rfl | ⟨a, rfl⟩
  all_goals
    show Steps p.tables e below (T.setTop { method := m, pc := pc, locals := Ls, stack := _ :: rest, locked := none }) _
    jvm_step X.here [X.here.top, hx, hd, hm', hret, ht, Value.isRef]
    first | (intro acts; rw [hl _ acts rfl rfl rfl]) | rw [hl _ _ rfl rfl rfl]
    exact Steps.refl _
end New
end Jvm.RoadKit
namespace Jvm.Pilot.@@N@@
open Jvm Jvm.ClassFile Sem Op Lib Jvm.Free Jvm.Stand Jvm.LawKit Jvm.RoadKit Bundle Jvm.Pilot.@@N@@.Jvm.D
abbrev SS (p : Program) (e : Env) (below : List Frame) (T : State) (m : MethodId) (pc : Nat) (ls : Array Slot) (st : List Value) (t : State) : Prop := Steps p.tables e below (T.setTop (mkF m pc ls st)) t
theorem own_bool {P : Prop} [Decidable P] : nar .boolean (if P then (1 : Int32) else (0 : Int32)) = if P then (1 : Int32) else (0 : Int32) := by split <;> decide
abbrev HW (a0 : Array Value) (Z : State) : Prop := ∀ d ∈ tables_1, d.before a0 Z = true
section
variable {a0 : Array Value} {Z : State}
theorem mw (hw : HW a0 Z) {d : Jvm.Cond} (i : Nat) (h : tables_1[i]? = some d) : d.before a0 Z = true := hw d (List.mem_of_getElem? h)
theorem w0 (hw : HW a0 Z) : (Jvm.Cond.constant "com/example/composition/composition/definition/ObjectFormatOfTypePinLaw" (40 : Nat) (2147483647 : Int32)).before a0 Z = true := mw hw 0 rfl
theorem w1 (hw : HW a0 Z) : (Jvm.Cond.arrayClass Jvm.ClassFile.FieldType.char).before a0 Z = true := mw hw 1 rfl
theorem w2 (hw : HW a0 Z) : (Jvm.Cond.methodLink "com/example/composition/composition/definition/ObjectFormatOfTypePinLaw" (51 : Nat) ({ cls := "com/example/composition/composition/definition/ObjectFormatOfTypePinLaw", name := "lit", desc := "(I)Ljava/lang/String;" } : Jvm.MethodName)).before a0 Z = true := mw hw 2 rfl
theorem w3 (hw : HW a0 Z) : (Jvm.Cond.static ({ cls := "com/example/composition/composition/definition/ObjectFormatOfTypePinLaw", name := "lit", desc := "(I)Ljava/lang/String;" } : Jvm.MethodName)).before a0 Z = true := mw hw 3 rfl
theorem w4 (hw : HW a0 Z) : (Jvm.Cond.initialized "com/example/composition/composition/definition/ObjectFormatOfTypePinLaw").before a0 Z = true := mw hw 4 rfl
theorem w5 (hw : HW a0 Z) : (Jvm.Cond.code ({ cls := "com/example/composition/composition/definition/ObjectFormatOfTypePinLaw", name := "lit", desc := "(I)Ljava/lang/String;" } : Jvm.MethodName) method_2_code (1 : Nat) (Option.some (Jvm.ClassFile.FieldType.object "java/lang/String"))).before a0 Z = true := mw hw 5 rfl
theorem w6 (hw : HW a0 Z) : (Jvm.Cond.stringLink "com/example/composition/composition/definition/ObjectFormatOfTypePinLaw" (7 : Nat) "tabl").before a0 Z = true := mw hw 6 rfl
theorem w7 (hw : HW a0 Z) : (Jvm.Cond.initialized "java/lang/String").before a0 Z = true := mw hw 7 rfl
theorem w8 (hw : HW a0 Z) : (Jvm.Cond.instantiable "java/lang/String" (4 : Nat)).before a0 Z = true := mw hw 8 rfl
theorem w9 (hw : HW a0 Z) : (Jvm.Cond.arrayClass Jvm.ClassFile.FieldType.byte).before a0 Z = true := mw hw 9 rfl
theorem w10 (hw : HW a0 Z) : (Jvm.Cond.laysFinal "java/lang/String" "java/lang/String" "value" "[B").before a0 Z = true := mw hw 10 rfl
theorem w11 (hw : HW a0 Z) : (Jvm.Cond.laysFinal "java/lang/String" "java/lang/String" "coder" "B").before a0 Z = true := mw hw 11 rfl
theorem w12 (hw : HW a0 Z) : (Jvm.Cond.soleField "java/lang/String" "value").before a0 Z = true := mw hw 12 rfl
theorem w13 (hw : HW a0 Z) : (Jvm.Cond.soleField "java/lang/String" "coder").before a0 Z = true := mw hw 13 rfl
theorem w14 (hw : HW a0 Z) : (Jvm.Cond.methodLink "com/example/composition/composition/definition/ObjectFormatOfTypePinLaw" (57 : Nat) ({ cls := "java/lang/String", name := "charAt", desc := "(I)C" } : Jvm.MethodName)).before a0 Z = true := mw hw 14 rfl
theorem w15 (hw : HW a0 Z) : (Jvm.Cond.declares ({ cls := "java/lang/String", name := "charAt", desc := "(I)C" } : Jvm.MethodName)).before a0 Z = true := mw hw 15 rfl
theorem w16 (hw : HW a0 Z) : (Jvm.Cond.instanceMethod ({ cls := "java/lang/String", name := "charAt", desc := "(I)C" } : Jvm.MethodName)).before a0 Z = true := mw hw 16 rfl
theorem w17 (hw : HW a0 Z) : (Jvm.Cond.selects "java/lang/String" ({ cls := "java/lang/String", name := "charAt", desc := "(I)C" } : Jvm.MethodName) ({ cls := "java/lang/String", name := "charAt", desc := "(I)C" } : Jvm.MethodName)).before a0 Z = true := mw hw 17 rfl
theorem w18 (hw : HW a0 Z) : (Jvm.Cond.code ({ cls := "java/lang/String", name := "charAt", desc := "(I)C" } : Jvm.MethodName) jdk_42_method_56_code (2 : Nat) (Option.some Jvm.ClassFile.FieldType.char)).before a0 Z = true := mw hw 18 rfl
theorem w19 (hw : HW a0 Z) : (Jvm.Cond.methodLink "java/lang/String" (492 : Nat) ({ cls := "java/lang/String", name := "isLatin1", desc := "()Z" } : Jvm.MethodName)).before a0 Z = true := mw hw 19 rfl
theorem w20 (hw : HW a0 Z) : (Jvm.Cond.declares ({ cls := "java/lang/String", name := "isLatin1", desc := "()Z" } : Jvm.MethodName)).before a0 Z = true := mw hw 20 rfl
theorem w21 (hw : HW a0 Z) : (Jvm.Cond.instanceMethod ({ cls := "java/lang/String", name := "isLatin1", desc := "()Z" } : Jvm.MethodName)).before a0 Z = true := mw hw 21 rfl
theorem w22 (hw : HW a0 Z) : (Jvm.Cond.selects "java/lang/String" ({ cls := "java/lang/String", name := "isLatin1", desc := "()Z" } : Jvm.MethodName) ({ cls := "java/lang/String", name := "isLatin1", desc := "()Z" } : Jvm.MethodName)).before a0 Z = true := mw hw 22 rfl
theorem w23 (hw : HW a0 Z) : (Jvm.Cond.code ({ cls := "java/lang/String", name := "isLatin1", desc := "()Z" } : Jvm.MethodName) jdk_42_method_154_code (1 : Nat) (Option.some Jvm.ClassFile.FieldType.boolean)).before a0 Z = true := mw hw 23 rfl
theorem w24 (hw : HW a0 Z) : (Jvm.Cond.fieldLink "java/lang/String" (38 : Nat) "java/lang/String" "COMPACT_STRINGS" "Z").before a0 Z = true := mw hw 24 rfl
theorem w25 (hw : HW a0 Z) : (Jvm.Cond.fieldLink "java/lang/String" (15 : Nat) "java/lang/String" "coder" "B").before a0 Z = true := mw hw 25 rfl
theorem w26 (hw : HW a0 Z) : (Jvm.Cond.fieldLink "java/lang/String" (9 : Nat) "java/lang/String" "value" "[B").before a0 Z = true := mw hw 26 rfl
theorem w27 (hw : HW a0 Z) : (Jvm.Cond.methodLink "java/lang/String" (495 : Nat) ({ cls := "java/lang/StringLatin1", name := "charAt", desc := "([BI)C" } : Jvm.MethodName)).before a0 Z = true := mw hw 27 rfl
theorem w28 (hw : HW a0 Z) : (Jvm.Cond.static ({ cls := "java/lang/StringLatin1", name := "charAt", desc := "([BI)C" } : Jvm.MethodName)).before a0 Z = true := mw hw 28 rfl
theorem w29 (hw : HW a0 Z) : (Jvm.Cond.initialized "java/lang/StringLatin1").before a0 Z = true := mw hw 29 rfl
theorem w30 (hw : HW a0 Z) : (Jvm.Cond.code ({ cls := "java/lang/StringLatin1", name := "charAt", desc := "([BI)C" } : Jvm.MethodName) jdk_43_method_2_code (2 : Nat) (Option.some Jvm.ClassFile.FieldType.char)).before a0 Z = true := mw hw 30 rfl
theorem w31 (hw : HW a0 Z) : (Jvm.Cond.methodLink "java/lang/StringLatin1" (9 : Nat) ({ cls := "java/lang/String", name := "checkIndex", desc := "(II)V" } : Jvm.MethodName)).before a0 Z = true := mw hw 31 rfl
theorem w32 (hw : HW a0 Z) : (Jvm.Cond.static ({ cls := "java/lang/String", name := "checkIndex", desc := "(II)V" } : Jvm.MethodName)).before a0 Z = true := mw hw 32 rfl
theorem w33 (hw : HW a0 Z) : (Jvm.Cond.code ({ cls := "java/lang/String", name := "checkIndex", desc := "(II)V" } : Jvm.MethodName) jdk_42_method_155_code (2 : Nat) (Option.none : Option Jvm.ClassFile.FieldType)).before a0 Z = true := mw hw 33 rfl
theorem w34 (hw : HW a0 Z) : (Jvm.Cond.fieldLink "java/lang/String" (1053 : Nat) "jdk/internal/util/Preconditions" "SIOOBE_FORMATTER" "Ljava/util/function/BiFunction;").before a0 Z = true := mw hw 34 rfl
theorem w35 (hw : HW a0 Z) : (Jvm.Cond.initialized "jdk/internal/util/Preconditions").before a0 Z = true := mw hw 35 rfl
theorem w36 (hw : HW a0 Z) : (Jvm.Cond.methodLink "java/lang/String" (1059 : Nat) ({ cls := "jdk/internal/util/Preconditions", name := "checkIndex", desc := "(IILjava/util/function/BiFunction;)I" } : Jvm.MethodName)).before a0 Z = true := mw hw 36 rfl
theorem w37 (hw : HW a0 Z) : (Jvm.Cond.static ({ cls := "jdk/internal/util/Preconditions", name := "checkIndex", desc := "(IILjava/util/function/BiFunction;)I" } : Jvm.MethodName)).before a0 Z = true := mw hw 37 rfl
theorem w38 (hw : HW a0 Z) : (Jvm.Cond.code ({ cls := "jdk/internal/util/Preconditions", name := "checkIndex", desc := "(IILjava/util/function/BiFunction;)I" } : Jvm.MethodName) jdk_41_method_11_code (3 : Nat) (Option.some Jvm.ClassFile.FieldType.int)).before a0 Z = true := mw hw 38 rfl
theorem w39 (hw : HW a0 Z) : (Jvm.Cond.methodLink "com/example/composition/composition/definition/ObjectFormatOfTypePinLaw" (61 : Nat) ({ cls := "com/example/composition/composition/definition/ObjectFormatOfTypePinLaw", name := "make", desc := "([CI)Ljava/lang/String;" } : Jvm.MethodName)).before a0 Z = true := mw hw 39 rfl
theorem w40 (hw : HW a0 Z) : (Jvm.Cond.static ({ cls := "com/example/composition/composition/definition/ObjectFormatOfTypePinLaw", name := "make", desc := "([CI)Ljava/lang/String;" } : Jvm.MethodName)).before a0 Z = true := mw hw 40 rfl
theorem w41 (hw : HW a0 Z) : (Jvm.Cond.code ({ cls := "com/example/composition/composition/definition/ObjectFormatOfTypePinLaw", name := "make", desc := "([CI)Ljava/lang/String;" } : Jvm.MethodName) method_3_code (2 : Nat) (Option.some (Jvm.ClassFile.FieldType.object "java/lang/String"))).before a0 Z = true := mw hw 41 rfl
theorem w42 (hw : HW a0 Z) : (Jvm.Cond.classLink "com/example/composition/composition/definition/ObjectFormatOfTypePinLaw" (17 : Nat) "java/lang/String").before a0 Z = true := mw hw 42 rfl
theorem w43 (hw : HW a0 Z) : (Jvm.Cond.methodLink "com/example/composition/composition/definition/ObjectFormatOfTypePinLaw" (19 : Nat) ({ cls := "java/lang/String", name := "<init>", desc := "([C)V" } : Jvm.MethodName)).before a0 Z = true := mw hw 43 rfl
theorem w44 (hw : HW a0 Z) : (Jvm.Cond.instanceMethod ({ cls := "java/lang/String", name := "<init>", desc := "([C)V" } : Jvm.MethodName)).before a0 Z = true := mw hw 44 rfl
theorem w45 (hw : HW a0 Z) : (Jvm.Cond.code ({ cls := "java/lang/String", name := "<init>", desc := "([C)V" } : Jvm.MethodName) jdk_42_method_3_code (2 : Nat) (Option.none : Option Jvm.ClassFile.FieldType)).before a0 Z = true := mw hw 45 rfl
theorem w46 (hw : HW a0 Z) : (Jvm.Cond.methodLink "java/lang/String" (27 : Nat) ({ cls := "java/lang/String", name := "<init>", desc := "([CIILjava/lang/Void;)V" } : Jvm.MethodName)).before a0 Z = true := mw hw 46 rfl
theorem w47 (hw : HW a0 Z) : (Jvm.Cond.instanceMethod ({ cls := "java/lang/String", name := "<init>", desc := "([CIILjava/lang/Void;)V" } : Jvm.MethodName)).before a0 Z = true := mw hw 47 rfl
theorem w49 (hw : HW a0 Z) : (Jvm.Cond.code ({ cls := "java/lang/String", name := "<init>", desc := "([CIILjava/lang/Void;)V" } : Jvm.MethodName) jdk_42_method_149_code (6 : Nat) (Option.none : Option Jvm.ClassFile.FieldType)).before a0 Z = true := mw hw 49 rfl
theorem w50 (hw : HW a0 Z) : (Jvm.Cond.methodLink "java/lang/String" (1 : Nat) ({ cls := "java/lang/Object", name := "<init>", desc := "()V" } : Jvm.MethodName)).before a0 Z = true := mw hw 50 rfl
theorem w51 (hw : HW a0 Z) : (Jvm.Cond.instanceMethod ({ cls := "java/lang/Object", name := "<init>", desc := "()V" } : Jvm.MethodName)).before a0 Z = true := mw hw 51 rfl
theorem w52 (hw : HW a0 Z) : (Jvm.Cond.code ({ cls := "java/lang/Object", name := "<init>", desc := "()V" } : Jvm.MethodName) object_method_1_code (1 : Nat) (Option.none : Option Jvm.ClassFile.FieldType)).before a0 Z = true := mw hw 52 rfl
theorem w53 (hw : HW a0 Z) : (Jvm.Cond.methodLink "java/lang/String" (177 : Nat) ({ cls := "java/lang/StringUTF16", name := "compress", desc := "([CII)[B" } : Jvm.MethodName)).before a0 Z = true := mw hw 53 rfl
theorem w54 (hw : HW a0 Z) : (Jvm.Cond.static ({ cls := "java/lang/StringUTF16", name := "compress", desc := "([CII)[B" } : Jvm.MethodName)).before a0 Z = true := mw hw 54 rfl
theorem w55 (hw : HW a0 Z) : (Jvm.Cond.initialized "java/lang/StringUTF16").before a0 Z = true := mw hw 55 rfl
theorem w56 (hw : HW a0 Z) : (Jvm.Cond.code ({ cls := "java/lang/StringUTF16", name := "compress", desc := "([CII)[B" } : Jvm.MethodName) jdk_52_method_16_code (6 : Nat) (Option.some (Jvm.ClassFile.FieldType.array Jvm.ClassFile.FieldType.byte))).before a0 Z = true := mw hw 56 rfl
theorem w57 (hw : HW a0 Z) : (Jvm.Cond.methodLink "java/lang/StringUTF16" (115 : Nat) ({ cls := "java/lang/StringUTF16", name := "compress", desc := "([CI[BII)I" } : Jvm.MethodName)).before a0 Z = true := mw hw 57 rfl
theorem w58 (hw : HW a0 Z) : (Jvm.Cond.static ({ cls := "java/lang/StringUTF16", name := "compress", desc := "([CI[BII)I" } : Jvm.MethodName)).before a0 Z = true := mw hw 58 rfl
theorem w59 (hw : HW a0 Z) : (Jvm.Cond.code ({ cls := "java/lang/StringUTF16", name := "compress", desc := "([CI[BII)I" } : Jvm.MethodName) jdk_52_method_21_code (7 : Nat) (Option.some Jvm.ClassFile.FieldType.int)).before a0 Z = true := mw hw 59 rfl
theorem w60 (hw : HW a0 Z) : (Jvm.Cond.methodLink "java/lang/String" (47 : Nat) ({ cls := "java/lang/StringUTF16", name := "coderFromArrayLen", desc := "([BI)B" } : Jvm.MethodName)).before a0 Z = true := mw hw 60 rfl
theorem w61 (hw : HW a0 Z) : (Jvm.Cond.static ({ cls := "java/lang/StringUTF16", name := "coderFromArrayLen", desc := "([BI)B" } : Jvm.MethodName)).before a0 Z = true := mw hw 61 rfl
theorem w62 (hw : HW a0 Z) : (Jvm.Cond.code ({ cls := "java/lang/StringUTF16", name := "coderFromArrayLen", desc := "([BI)B" } : Jvm.MethodName) jdk_52_method_15_code (2 : Nat) (Option.some Jvm.ClassFile.FieldType.byte)).before a0 Z = true := mw hw 62 rfl
theorem w63 (hw : HW a0 Z) : (Jvm.Cond.methodLink "com/example/composition/composition/definition/ObjectFormatOfTypePinLaw" (65 : Nat) ({ cls := "com/example/composition/composition/definition/ObjectFormatOfTypePinLaw", name := "expect", desc := "([CI)Lcom/example/composition/composition/definition/ObjectFormat;" } : Jvm.MethodName)).before a0 Z = true := mw hw 63 rfl
theorem w64 (hw : HW a0 Z) : (Jvm.Cond.static ({ cls := "com/example/composition/composition/definition/ObjectFormatOfTypePinLaw", name := "expect", desc := "([CI)Lcom/example/composition/composition/definition/ObjectFormat;" } : Jvm.MethodName)).before a0 Z = true := mw hw 64 rfl
theorem w65 (hw : HW a0 Z) : (Jvm.Cond.code ({ cls := "com/example/composition/composition/definition/ObjectFormatOfTypePinLaw", name := "expect", desc := "([CI)Lcom/example/composition/composition/definition/ObjectFormat;" } : Jvm.MethodName) method_4_code (6 : Nat) (Option.some (Jvm.ClassFile.FieldType.object "com/example/composition/composition/definition/ObjectFormat"))).before a0 Z = true := mw hw 65 rfl
theorem w66 (hw : HW a0 Z) : (Jvm.Cond.methodLink "com/example/composition/composition/definition/ObjectFormatOfTypePinLaw" (41 : Nat) ({ cls := "com/example/composition/composition/definition/ObjectFormat", name := "ofType", desc := "(Ljava/lang/String;)Ljava/util/Optional;" } : Jvm.MethodName)).before a0 Z = true := mw hw 66 rfl
theorem w67 (hw : HW a0 Z) : (Jvm.Cond.static ({ cls := "com/example/composition/composition/definition/ObjectFormat", name := "ofType", desc := "(Ljava/lang/String;)Ljava/util/Optional;" } : Jvm.MethodName)).before a0 Z = true := mw hw 67 rfl
theorem w68 (hw : HW a0 Z) : (Jvm.Cond.initialized "com/example/composition/composition/definition/ObjectFormat").before a0 Z = true := mw hw 68 rfl
theorem w69 (hw : HW a0 Z) : (Jvm.Cond.code ({ cls := "com/example/composition/composition/definition/ObjectFormat", name := "ofType", desc := "(Ljava/lang/String;)Ljava/util/Optional;" } : Jvm.MethodName) prog_14_method_7_code (5 : Nat) (Option.some (Jvm.ClassFile.FieldType.object "java/util/Optional"))).before a0 Z = true := mw hw 69 rfl
theorem w70 (hw : HW a0 Z) : (Jvm.Cond.methodLink "com/example/composition/composition/definition/ObjectFormat" (54 : Nat) ({ cls := "com/example/composition/composition/definition/ObjectFormat", name := "values", desc := "()[Lcom/example/composition/composition/definition/ObjectFormat;" } : Jvm.MethodName)).before a0 Z = true := mw hw 70 rfl
theorem w71 (hw : HW a0 Z) : (Jvm.Cond.static ({ cls := "com/example/composition/composition/definition/ObjectFormat", name := "values", desc := "()[Lcom/example/composition/composition/definition/ObjectFormat;" } : Jvm.MethodName)).before a0 Z = true := mw hw 71 rfl
theorem w72 (hw : HW a0 Z) : (Jvm.Cond.code ({ cls := "com/example/composition/composition/definition/ObjectFormat", name := "values", desc := "()[Lcom/example/composition/composition/definition/ObjectFormat;" } : Jvm.MethodName) prog_14_method_1_code (0 : Nat) (Option.some (Jvm.ClassFile.FieldType.array (Jvm.ClassFile.FieldType.object "com/example/composition/composition/definition/ObjectFormat")))).before a0 Z = true := mw hw 72 rfl
theorem w73 (hw : HW a0 Z) : (Jvm.Cond.fieldLink "com/example/composition/composition/definition/ObjectFormat" (19 : Nat) "com/example/composition/composition/definition/ObjectFormat" "$VALUES" "[Lcom/example/composition/composition/definition/ObjectFormat;").before a0 Z = true := mw hw 73 rfl
theorem w75 (hw : HW a0 Z) : (Jvm.Cond.methodLink "com/example/composition/composition/definition/ObjectFormat" (23 : Nat) ({ cls := "[Lcom/example/composition/composition/definition/ObjectFormat;", name := "clone", desc := "()Ljava/lang/Object;" } : Jvm.MethodName)).before a0 Z = true := mw hw 75 rfl
theorem w76 (hw : HW a0 Z) : (Jvm.Cond.sameMethod "[Lcom/example/composition/composition/definition/ObjectFormat;" "java/lang/Object" "clone" "()Ljava/lang/Object;").before a0 Z = true := mw hw 76 rfl
theorem w78 (hw : HW a0 Z) : (Jvm.Cond.instanceMethod ({ cls := "java/lang/Object", name := "clone", desc := "()Ljava/lang/Object;" } : Jvm.MethodName)).before a0 Z = true := mw hw 78 rfl
theorem w79 (hw : HW a0 Z) : (Jvm.Cond.selects "[Lcom/example/composition/composition/definition/ObjectFormat;" ({ cls := "[Lcom/example/composition/composition/definition/ObjectFormat;", name := "clone", desc := "()Ljava/lang/Object;" } : Jvm.MethodName) ({ cls := "java/lang/Object", name := "clone", desc := "()Ljava/lang/Object;" } : Jvm.MethodName)).before a0 Z = true := mw hw 79 rfl
theorem w80 (hw : HW a0 Z) : (Jvm.Cond.native ({ cls := "java/lang/Object", name := "clone", desc := "()Ljava/lang/Object;" } : Jvm.MethodName)).before a0 Z = true := mw hw 80 rfl
theorem w81 (hw : HW a0 Z) : (Jvm.Cond.castable "[Lcom/example/composition/composition/definition/ObjectFormat;" "java/lang/Cloneable").before a0 Z = true := mw hw 81 rfl
theorem w82 (hw : HW a0 Z) : (Jvm.Cond.laysStatic "com/example/composition/composition/definition/ObjectFormat" "TABLE" "Lcom/example/composition/composition/definition/ObjectFormat;").before a0 Z = true := mw hw 82 rfl
theorem w83 (hw : HW a0 Z) : (Jvm.Cond.laysStatic "com/example/composition/composition/definition/ObjectFormat" "DATA_DEFINITION" "Lcom/example/composition/composition/definition/ObjectFormat;").before a0 Z = true := mw hw 83 rfl
theorem w84 (hw : HW a0 Z) : (Jvm.Cond.laysStatic "com/example/composition/composition/definition/ObjectFormat" "BEHAVIOUR_DEFINITION" "Lcom/example/composition/composition/definition/ObjectFormat;").before a0 Z = true := mw hw 84 rfl
theorem w85 (hw : HW a0 Z) : (Jvm.Cond.laysStatic "com/example/composition/composition/definition/ObjectFormat" "SERVICE_DEFINITION" "Lcom/example/composition/composition/definition/ObjectFormat;").before a0 Z = true := mw hw 85 rfl
theorem w86 (hw : HW a0 Z) : (Jvm.Cond.laysStatic "com/example/composition/composition/definition/ObjectFormat" "SERVICE_BINDING" "Lcom/example/composition/composition/definition/ObjectFormat;").before a0 Z = true := mw hw 86 rfl
theorem w87 (hw : HW a0 Z) : (Jvm.Cond.initializedFor "com/example/composition/composition/definition/ObjectFormat" "$VALUES" "[Lcom/example/composition/composition/definition/ObjectFormat;").before a0 Z = true := mw hw 87 rfl
theorem w88 (hw : HW a0 Z) : (Jvm.Cond.classLink "com/example/composition/composition/definition/ObjectFormat" (24 : Nat) "[Lcom/example/composition/composition/definition/ObjectFormat;").before a0 Z = true := mw hw 88 rfl
theorem w90 (hw : HW a0 Z) : (Jvm.Cond.fieldLink "com/example/composition/composition/definition/ObjectFormat" (38 : Nat) "com/example/composition/composition/definition/ObjectFormat" "type" "Ljava/lang/String;").before a0 Z = true := mw hw 90 rfl
theorem w92 (hw : HW a0 Z) : (Jvm.Cond.methodLink "com/example/composition/composition/definition/ObjectFormat" (58 : Nat) ({ cls := "java/lang/String", name := "equals", desc := "(Ljava/lang/Object;)Z" } : Jvm.MethodName)).before a0 Z = true := mw hw 92 rfl
theorem w93 (hw : HW a0 Z) : (Jvm.Cond.declares ({ cls := "java/lang/String", name := "equals", desc := "(Ljava/lang/Object;)Z" } : Jvm.MethodName)).before a0 Z = true := mw hw 93 rfl
theorem w94 (hw : HW a0 Z) : (Jvm.Cond.instanceMethod ({ cls := "java/lang/String", name := "equals", desc := "(Ljava/lang/Object;)Z" } : Jvm.MethodName)).before a0 Z = true := mw hw 94 rfl
theorem w95 (hw : HW a0 Z) : (Jvm.Cond.selects "java/lang/String" ({ cls := "java/lang/String", name := "equals", desc := "(Ljava/lang/Object;)Z" } : Jvm.MethodName) ({ cls := "java/lang/String", name := "equals", desc := "(Ljava/lang/Object;)Z" } : Jvm.MethodName)).before a0 Z = true := mw hw 95 rfl
theorem w96 (hw : HW a0 Z) : (Jvm.Cond.code ({ cls := "java/lang/String", name := "equals", desc := "(Ljava/lang/Object;)Z" } : Jvm.MethodName) jdk_42_method_66_code (3 : Nat) (Option.some Jvm.ClassFile.FieldType.boolean)).before a0 Z = true := mw hw 96 rfl
theorem w97 (hw : HW a0 Z) : (Jvm.Cond.classLink "java/lang/String" (10 : Nat) "java/lang/String").before a0 Z = true := mw hw 97 rfl
theorem w98 (hw : HW a0 Z) : (Jvm.Cond.methodLink "java/lang/String" (541 : Nat) ({ cls := "java/lang/StringLatin1", name := "equals", desc := "([B[B)Z" } : Jvm.MethodName)).before a0 Z = true := mw hw 98 rfl
theorem w99 (hw : HW a0 Z) : (Jvm.Cond.static ({ cls := "java/lang/StringLatin1", name := "equals", desc := "([B[B)Z" } : Jvm.MethodName)).before a0 Z = true := mw hw 99 rfl
theorem w100 (hw : HW a0 Z) : (Jvm.Cond.code ({ cls := "java/lang/StringLatin1", name := "equals", desc := "([B[B)Z" } : Jvm.MethodName) jdk_43_method_13_code (3 : Nat) (Option.some Jvm.ClassFile.FieldType.boolean)).before a0 Z = true := mw hw 100 rfl
theorem w101 (hw : HW a0 Z) : (Jvm.Cond.methodLink "com/example/composition/composition/definition/ObjectFormat" (67 : Nat) ({ cls := "java/util/Optional", name := "empty", desc := "()Ljava/util/Optional;" } : Jvm.MethodName)).before a0 Z = true := mw hw 101 rfl
theorem w102 (hw : HW a0 Z) : (Jvm.Cond.static ({ cls := "java/util/Optional", name := "empty", desc := "()Ljava/util/Optional;" } : Jvm.MethodName)).before a0 Z = true := mw hw 102 rfl
theorem w103 (hw : HW a0 Z) : (Jvm.Cond.initialized "java/util/Optional").before a0 Z = true := mw hw 103 rfl
theorem w104 (hw : HW a0 Z) : (Jvm.Cond.code ({ cls := "java/util/Optional", name := "empty", desc := "()Ljava/util/Optional;" } : Jvm.MethodName) jdk_32_method_1_code (1 : Nat) (Option.some (Jvm.ClassFile.FieldType.object "java/util/Optional"))).before a0 Z = true := mw hw 104 rfl
theorem w105 (hw : HW a0 Z) : (Jvm.Cond.fieldLink "java/util/Optional" (1 : Nat) "java/util/Optional" "EMPTY" "Ljava/util/Optional;").before a0 Z = true := mw hw 105 rfl
theorem w106 (hw : HW a0 Z) : (Jvm.Cond.methodLink "com/example/composition/composition/definition/ObjectFormatOfTypePinLaw" (45 : Nat) ({ cls := "java/util/Optional", name := "orElse", desc := "(Ljava/lang/Object;)Ljava/lang/Object;" } : Jvm.MethodName)).before a0 Z = true := mw hw 106 rfl
theorem w107 (hw : HW a0 Z) : (Jvm.Cond.declares ({ cls := "java/util/Optional", name := "orElse", desc := "(Ljava/lang/Object;)Ljava/lang/Object;" } : Jvm.MethodName)).before a0 Z = true := mw hw 107 rfl
theorem w108 (hw : HW a0 Z) : (Jvm.Cond.instanceMethod ({ cls := "java/util/Optional", name := "orElse", desc := "(Ljava/lang/Object;)Ljava/lang/Object;" } : Jvm.MethodName)).before a0 Z = true := mw hw 108 rfl
theorem w109 (hw : HW a0 Z) : (Jvm.Cond.selects "java/util/Optional" ({ cls := "java/util/Optional", name := "orElse", desc := "(Ljava/lang/Object;)Ljava/lang/Object;" } : Jvm.MethodName) ({ cls := "java/util/Optional", name := "orElse", desc := "(Ljava/lang/Object;)Ljava/lang/Object;" } : Jvm.MethodName)).before a0 Z = true := mw hw 109 rfl
theorem w110 (hw : HW a0 Z) : (Jvm.Cond.code ({ cls := "java/util/Optional", name := "orElse", desc := "(Ljava/lang/Object;)Ljava/lang/Object;" } : Jvm.MethodName) jdk_32_method_15_code (2 : Nat) (Option.some (Jvm.ClassFile.FieldType.object "java/lang/Object"))).before a0 Z = true := mw hw 110 rfl
theorem w111 (hw : HW a0 Z) : (Jvm.Cond.fieldLink "java/util/Optional" (13 : Nat) "java/util/Optional" "value" "Ljava/lang/Object;").before a0 Z = true := mw hw 111 rfl
theorem w112 (hw : HW a0 Z) : (Jvm.Cond.laysFinal "java/util/Optional" "java/util/Optional" "value" "Ljava/lang/Object;").before a0 Z = true := mw hw 112 rfl
theorem w113 (hw : HW a0 Z) : (Jvm.Cond.stringLink "com/example/composition/composition/definition/ObjectFormatOfTypePinLaw" (15 : Nat) "srvb").before a0 Z = true := mw hw 113 rfl
theorem w114 (hw : HW a0 Z) : (Jvm.Cond.stringLink "com/example/composition/composition/definition/ObjectFormatOfTypePinLaw" (11 : Nat) "bdef").before a0 Z = true := mw hw 114 rfl
theorem w115 (hw : HW a0 Z) : (Jvm.Cond.stringLink "java/lang/String" (7 : Nat) "").before a0 Z = true := mw hw 115 rfl
theorem w116 (hw : HW a0 Z) : (Jvm.Cond.stringLink "com/example/composition/composition/definition/ObjectFormatOfTypePinLaw" (9 : Nat) "ddls").before a0 Z = true := mw hw 116 rfl
theorem w117 (hw : HW a0 Z) : (Jvm.Cond.stringLink "com/example/composition/composition/definition/ObjectFormatOfTypePinLaw" (13 : Nat) "srvd").before a0 Z = true := mw hw 117 rfl
theorem w118 (hw : HW a0 Z) : (Jvm.Cond.fieldLink "com/example/composition/composition/definition/ObjectFormatOfTypePinLaw" (34 : Nat) "com/example/composition/composition/definition/ObjectFormat" "SERVICE_DEFINITION" "Lcom/example/composition/composition/definition/ObjectFormat;").before a0 Z = true := mw hw 118 rfl
theorem w119 (hw : HW a0 Z) : (Jvm.Cond.methodLink "com/example/composition/composition/definition/ObjectFormat" (64 : Nat) ({ cls := "java/util/Optional", name := "of", desc := "(Ljava/lang/Object;)Ljava/util/Optional;" } : Jvm.MethodName)).before a0 Z = true := mw hw 119 rfl
theorem w120 (hw : HW a0 Z) : (Jvm.Cond.static ({ cls := "java/util/Optional", name := "of", desc := "(Ljava/lang/Object;)Ljava/util/Optional;" } : Jvm.MethodName)).before a0 Z = true := mw hw 120 rfl
theorem w121 (hw : HW a0 Z) : (Jvm.Cond.code ({ cls := "java/util/Optional", name := "of", desc := "(Ljava/lang/Object;)Ljava/util/Optional;" } : Jvm.MethodName) jdk_32_method_3_code (1 : Nat) (Option.some (Jvm.ClassFile.FieldType.object "java/util/Optional"))).before a0 Z = true := mw hw 121 rfl
theorem w122 (hw : HW a0 Z) : (Jvm.Cond.classLink "java/util/Optional" (2 : Nat) "java/util/Optional").before a0 Z = true := mw hw 122 rfl
theorem w123 (hw : HW a0 Z) : (Jvm.Cond.instantiable "java/util/Optional" (1 : Nat)).before a0 Z = true := mw hw 123 rfl
theorem w124 (hw : HW a0 Z) : (Jvm.Cond.methodLink "java/util/Optional" (17 : Nat) ({ cls := "java/util/Objects", name := "requireNonNull", desc := "(Ljava/lang/Object;)Ljava/lang/Object;" } : Jvm.MethodName)).before a0 Z = true := mw hw 124 rfl
theorem w125 (hw : HW a0 Z) : (Jvm.Cond.static ({ cls := "java/util/Objects", name := "requireNonNull", desc := "(Ljava/lang/Object;)Ljava/lang/Object;" } : Jvm.MethodName)).before a0 Z = true := mw hw 125 rfl
theorem w126 (hw : HW a0 Z) : (Jvm.Cond.initialized "java/util/Objects").before a0 Z = true := mw hw 126 rfl
theorem w127 (hw : HW a0 Z) : (Jvm.Cond.code ({ cls := "java/util/Objects", name := "requireNonNull", desc := "(Ljava/lang/Object;)Ljava/lang/Object;" } : Jvm.MethodName) jdk_31_method_10_code (1 : Nat) (Option.some (Jvm.ClassFile.FieldType.object "java/lang/Object"))).before a0 Z = true := mw hw 127 rfl
theorem w128 (hw : HW a0 Z) : (Jvm.Cond.methodLink "java/util/Optional" (23 : Nat) ({ cls := "java/util/Optional", name := "<init>", desc := "(Ljava/lang/Object;)V" } : Jvm.MethodName)).before a0 Z = true := mw hw 128 rfl
theorem w129 (hw : HW a0 Z) : (Jvm.Cond.instanceMethod ({ cls := "java/util/Optional", name := "<init>", desc := "(Ljava/lang/Object;)V" } : Jvm.MethodName)).before a0 Z = true := mw hw 129 rfl
theorem w131 (hw : HW a0 Z) : (Jvm.Cond.code ({ cls := "java/util/Optional", name := "<init>", desc := "(Ljava/lang/Object;)V" } : Jvm.MethodName) jdk_32_method_2_code (2 : Nat) (Option.none : Option Jvm.ClassFile.FieldType)).before a0 Z = true := mw hw 131 rfl
theorem w132 (hw : HW a0 Z) : (Jvm.Cond.methodLink "java/util/Optional" (7 : Nat) ({ cls := "java/lang/Object", name := "<init>", desc := "()V" } : Jvm.MethodName)).before a0 Z = true := mw hw 132 rfl
theorem w133 (hw : HW a0 Z) : (Jvm.Cond.fieldLink "com/example/composition/composition/definition/ObjectFormatOfTypePinLaw" (22 : Nat) "com/example/composition/composition/definition/ObjectFormat" "TABLE" "Lcom/example/composition/composition/definition/ObjectFormat;").before a0 Z = true := mw hw 133 rfl
theorem w134 (hw : HW a0 Z) : (Jvm.Cond.fieldLink "com/example/composition/composition/definition/ObjectFormatOfTypePinLaw" (31 : Nat) "com/example/composition/composition/definition/ObjectFormat" "BEHAVIOUR_DEFINITION" "Lcom/example/composition/composition/definition/ObjectFormat;").before a0 Z = true := mw hw 134 rfl
theorem w135 (hw : HW a0 Z) : (Jvm.Cond.fieldLink "com/example/composition/composition/definition/ObjectFormatOfTypePinLaw" (37 : Nat) "com/example/composition/composition/definition/ObjectFormat" "SERVICE_BINDING" "Lcom/example/composition/composition/definition/ObjectFormat;").before a0 Z = true := mw hw 135 rfl
theorem w136 (hw : HW a0 Z) : (Jvm.Cond.fieldLink "com/example/composition/composition/definition/ObjectFormatOfTypePinLaw" (28 : Nat) "com/example/composition/composition/definition/ObjectFormat" "DATA_DEFINITION" "Lcom/example/composition/composition/definition/ObjectFormat;").before a0 Z = true := mw hw 136 rfl
end
theorem ef_pcheck (m : MethodId) (x0 : Int32) (x1 : Int32) (x2 : Value) (hx2 : x2.category = 1) : entryFrame m #[(.int x0), (.int x1), x2] 3 = mkF m 0 #[.val (.int x0), .val (.int x1), .val x2] [] := by first | (simp [entryFrame, mkF, argsToLocals, Value.category, hx2]; done) | rfl | (cases x2 <;> first | rfl | (simp [Value.category] at hx2))
theorem pn_jdk_internal_util_Preconditions : plainName "jdk/internal/util/Preconditions" = true := by first | (simp [plainName, overriddenIn]; done) | decide +kernel
theorem d_jdk_41_method_11_0 : decode jdk_41_method_11_code 0 = .ok (.iload_n 0, 1) := by decide +kernel
theorem d_jdk_41_method_11_1 : decode jdk_41_method_11_code 1 = .ok (.ifCond .lt 8, 3) := by decide +kernel
theorem d_jdk_41_method_11_4 : decode jdk_41_method_11_code 4 = .ok (.iload_n 0, 1) := by decide +kernel
theorem d_jdk_41_method_11_5 : decode jdk_41_method_11_code 5 = .ok (.iload_n 1, 1) := by decide +kernel
theorem d_jdk_41_method_11_6 : decode jdk_41_method_11_code 6 = .ok (.if_icmp .lt 10, 3) := by decide +kernel
theorem d_jdk_41_method_11_16 : decode jdk_41_method_11_code 16 = .ok (.iload_n 0, 1) := by decide +kernel
theorem d_jdk_41_method_11_17 : decode jdk_41_method_11_code 17 = .ok (.ireturn, 1) := by decide +kernel
abbrev yn0 : MethodName := ⟨"jdk/internal/util/Preconditions", "checkIndex", "(IILjava/util/function/BiFunction;)I"⟩
theorem ef_scheck (m : MethodId) (x0 : Int32) (x1 : Int32) : entryFrame m #[(.int x0), (.int x1)] 2 = mkF m 0 #[.val (.int x0), .val (.int x1)] [] := by first | (simp [entryFrame, mkF, argsToLocals, Value.category]; done) | rfl
theorem pn_java_lang_String : plainName "java/lang/String" = true := by first | (simp [plainName, overriddenIn]; done) | decide +kernel
theorem d_jdk_42_method_155_0 : decode jdk_42_method_155_code 0 = .ok (.iload_n 0, 1) := by decide +kernel
theorem d_jdk_42_method_155_1 : decode jdk_42_method_155_code 1 = .ok (.iload_n 1, 1) := by decide +kernel
theorem d_jdk_42_method_155_2 : decode jdk_42_method_155_code 2 = .ok (.getstatic 1053, 3) := by decide +kernel
theorem d_jdk_42_method_155_5 : decode jdk_42_method_155_code 5 = .ok (.invokestatic 1059, 3) := by decide +kernel
theorem pd__28_IILjava_2f_util_2f_function_2f_BiFunction_3b__29_I : parseMethodDescriptor "(IILjava/util/function/BiFunction;)I" = some ⟨[.int, .int, (.object "java/util/function/BiFunction")], some .int⟩ := by decide +kernel
theorem d_jdk_42_method_155_8 : decode jdk_42_method_155_code 8 = .ok (.pop, 1) := by decide +kernel
theorem d_jdk_42_method_155_9 : decode jdk_42_method_155_code 9 = .ok (.return_, 1) := by decide +kernel
abbrev yn1 : MethodName := ⟨"java/lang/String", "checkIndex", "(II)V"⟩
theorem ef_l1charAt (m : MethodId) (x0 : Addr) (x1 : Int32) : entryFrame m #[(.ref x0), (.int x1)] 2 = mkF m 0 #[.val (.ref x0), .val (.int x1)] [] := by first | (simp [entryFrame, mkF, argsToLocals, Value.category]; done) | rfl
theorem pn_java_lang_StringLatin1 : plainName "java/lang/StringLatin1" = true := by first | (simp [plainName, overriddenIn]; done) | decide +kernel
theorem d_jdk_43_method_2_0 : decode jdk_43_method_2_code 0 = .ok (.iload_n 1, 1) := by decide +kernel
theorem d_jdk_43_method_2_1 : decode jdk_43_method_2_code 1 = .ok (.aload_n 0, 1) := by decide +kernel
theorem d_jdk_43_method_2_2 : decode jdk_43_method_2_code 2 = .ok (.arraylength, 1) := by decide +kernel
theorem d_jdk_43_method_2_3 : decode jdk_43_method_2_code 3 = .ok (.invokestatic 9, 3) := by decide +kernel
theorem pd__28_II_29_V : parseMethodDescriptor "(II)V" = some ⟨[.int, .int], none⟩ := by decide +kernel
theorem d_jdk_43_method_2_6 : decode jdk_43_method_2_code 6 = .ok (.aload_n 0, 1) := by decide +kernel
theorem d_jdk_43_method_2_7 : decode jdk_43_method_2_code 7 = .ok (.iload_n 1, 1) := by decide +kernel
theorem d_jdk_43_method_2_8 : decode jdk_43_method_2_code 8 = .ok (.baload, 1) := by decide +kernel
theorem d_jdk_43_method_2_9 : decode jdk_43_method_2_code 9 = .ok (.sipush 255, 3) := by decide +kernel
theorem d_jdk_43_method_2_12 : decode jdk_43_method_2_code 12 = .ok (.iand, 1) := by decide +kernel
theorem d_jdk_43_method_2_13 : decode jdk_43_method_2_code 13 = .ok (.i2c, 1) := by decide +kernel
theorem d_jdk_43_method_2_14 : decode jdk_43_method_2_code 14 = .ok (.ireturn, 1) := by decide +kernel
abbrev yn2 : MethodName := ⟨"java/lang/StringLatin1", "charAt", "([BI)C"⟩
theorem ef_isLatin1 (m : MethodId) (x0 : Addr) : entryFrame m #[(.ref x0)] 1 = mkF m 0 #[.val (.ref x0)] [] := by first | (simp [entryFrame, mkF, argsToLocals, Value.category]; done) | rfl
theorem d_jdk_42_method_154_0 : decode jdk_42_method_154_code 0 = .ok (.getstatic 38, 3) := by decide +kernel
theorem d_jdk_42_method_154_3 : decode jdk_42_method_154_code 3 = .ok (.ifCond .eq 14, 3) := by decide +kernel
theorem d_jdk_42_method_154_6 : decode jdk_42_method_154_code 6 = .ok (.aload_n 0, 1) := by decide +kernel
theorem d_jdk_42_method_154_7 : decode jdk_42_method_154_code 7 = .ok (.getfield 15, 3) := by decide +kernel
theorem d_jdk_42_method_154_10 : decode jdk_42_method_154_code 10 = .ok (.ifCond .ne 7, 3) := by decide +kernel
theorem d_jdk_42_method_154_13 : decode jdk_42_method_154_code 13 = .ok (.iconst 1, 1) := by decide +kernel
theorem d_jdk_42_method_154_14 : decode jdk_42_method_154_code 14 = .ok (.goto 4, 3) := by decide +kernel
theorem d_jdk_42_method_154_17 : decode jdk_42_method_154_code 17 = .ok (.iconst 0, 1) := by decide +kernel
theorem d_jdk_42_method_154_18 : decode jdk_42_method_154_code 18 = .ok (.ireturn, 1) := by decide +kernel
abbrev yn3 : MethodName := ⟨"java/lang/String", "isLatin1", "()Z"⟩
theorem ef_charAt (m : MethodId) (x0 : Addr) (x1 : Int32) : entryFrame m #[(.ref x0), (.int x1)] 2 = mkF m 0 #[.val (.ref x0), .val (.int x1)] [] := by first | (simp [entryFrame, mkF, argsToLocals, Value.category]; done) | rfl
theorem d_jdk_42_method_56_0 : decode jdk_42_method_56_code 0 = .ok (.aload_n 0, 1) := by decide +kernel
theorem d_jdk_42_method_56_1 : decode jdk_42_method_56_code 1 = .ok (.invokevirtual 492, 3) := by decide +kernel
theorem pd__28__29_Z : parseMethodDescriptor "()Z" = some ⟨[], some .boolean⟩ := by decide +kernel
theorem d_jdk_42_method_56_4 : decode jdk_42_method_56_code 4 = .ok (.ifCond .eq 12, 3) := by decide +kernel
theorem d_jdk_42_method_56_7 : decode jdk_42_method_56_code 7 = .ok (.aload_n 0, 1) := by decide +kernel
theorem d_jdk_42_method_56_8 : decode jdk_42_method_56_code 8 = .ok (.getfield 9, 3) := by decide +kernel
theorem d_jdk_42_method_56_11 : decode jdk_42_method_56_code 11 = .ok (.iload_n 1, 1) := by decide +kernel
theorem d_jdk_42_method_56_12 : decode jdk_42_method_56_code 12 = .ok (.invokestatic 495, 3) := by decide +kernel
theorem pd__28__5b_BI_29_C : parseMethodDescriptor "([BI)C" = some ⟨[(.array .byte), .int], some .char⟩ := by decide +kernel
theorem d_jdk_42_method_56_15 : decode jdk_42_method_56_code 15 = .ok (.ireturn, 1) := by decide +kernel
abbrev yn4 : MethodName := ⟨"java/lang/String", "charAt", "(I)C"⟩
theorem d_jdk_52_method_21_3 : decode jdk_52_method_21_code 3 = .ok (.iload 5, 2) := by decide +kernel
theorem d_jdk_52_method_21_5 : decode jdk_52_method_21_code 5 = .ok (.iload 4, 2) := by decide +kernel
theorem d_jdk_52_method_21_7 : decode jdk_52_method_21_code 7 = .ok (.if_icmp .ge 37, 3) := by decide +kernel
theorem d_jdk_52_method_21_44 : decode jdk_52_method_21_code 44 = .ok (.iload 4, 2) := by decide +kernel
theorem d_jdk_52_method_21_46 : decode jdk_52_method_21_code 46 = .ok (.ireturn, 1) := by decide +kernel
theorem d_jdk_52_method_21_10 : decode jdk_52_method_21_code 10 = .ok (.aload_n 0, 1) := by decide +kernel
theorem d_jdk_52_method_21_11 : decode jdk_52_method_21_code 11 = .ok (.iload_n 1, 1) := by decide +kernel
theorem d_jdk_52_method_21_12 : decode jdk_52_method_21_code 12 = .ok (.caload, 1) := by decide +kernel
theorem d_jdk_52_method_21_13 : decode jdk_52_method_21_code 13 = .ok (.istore 6, 2) := by decide +kernel
theorem d_jdk_52_method_21_15 : decode jdk_52_method_21_code 15 = .ok (.iload 6, 2) := by decide +kernel
theorem d_jdk_52_method_21_17 : decode jdk_52_method_21_code 17 = .ok (.sipush 255, 3) := by decide +kernel
theorem d_jdk_52_method_21_20 : decode jdk_52_method_21_code 20 = .ok (.if_icmp .le 6, 3) := by decide +kernel
theorem d_jdk_52_method_21_23 : decode jdk_52_method_21_code 23 = .ok (.iload 5, 2) := by decide +kernel
theorem d_jdk_52_method_21_25 : decode jdk_52_method_21_code 25 = .ok (.ireturn, 1) := by decide +kernel
theorem d_jdk_52_method_21_26 : decode jdk_52_method_21_code 26 = .ok (.aload_n 2, 1) := by decide +kernel
theorem d_jdk_52_method_21_27 : decode jdk_52_method_21_code 27 = .ok (.iload_n 3, 1) := by decide +kernel
theorem d_jdk_52_method_21_28 : decode jdk_52_method_21_code 28 = .ok (.iload 6, 2) := by decide +kernel
theorem d_jdk_52_method_21_30 : decode jdk_52_method_21_code 30 = .ok (.i2b, 1) := by decide +kernel
theorem d_jdk_52_method_21_31 : decode jdk_52_method_21_code 31 = .ok (.bastore, 1) := by decide +kernel
theorem d_jdk_52_method_21_32 : decode jdk_52_method_21_code 32 = .ok (.iinc 1 1, 3) := by decide +kernel
theorem d_jdk_52_method_21_35 : decode jdk_52_method_21_code 35 = .ok (.iinc 3 1, 3) := by decide +kernel
theorem d_jdk_52_method_21_38 : decode jdk_52_method_21_code 38 = .ok (.iinc 5 1, 3) := by decide +kernel
theorem d_jdk_52_method_21_41 : decode jdk_52_method_21_code 41 = .ok (.goto (-38), 3) := by decide +kernel
theorem ef_compress21 (m : MethodId) (x0 : Addr) (x1 : Int32) (x2 : Addr) (x3 : Int32) (x4 : Int32) : entryFrame m #[(.ref x0), (.int x3), (.ref x2), (.int x3), (.int x4)] 7 = mkF m 0 #[.val (.ref x0), .val (.int x3), .val (.ref x2), .val (.int x3), .val (.int x4), .unset, .unset] [] := by first | (simp [entryFrame, mkF, argsToLocals, Value.category]; done) | rfl
theorem pn_java_lang_StringUTF16 : plainName "java/lang/StringUTF16" = true := by first | (simp [plainName, overriddenIn]; done) | decide +kernel
theorem d_jdk_52_method_21_0 : decode jdk_52_method_21_code 0 = .ok (.iconst 0, 1) := by decide +kernel
theorem d_jdk_52_method_21_1 : decode jdk_52_method_21_code 1 = .ok (.istore 5, 2) := by decide +kernel
abbrev yn5 : MethodName := ⟨"java/lang/StringUTF16", "compress", "([CI[BII)I"⟩
theorem ef_coderOf (m : MethodId) (x0 : Addr) (x1 : Int32) : entryFrame m #[(.ref x0), (.int x1)] 2 = mkF m 0 #[.val (.ref x0), .val (.int x1)] [] := by first | (simp [entryFrame, mkF, argsToLocals, Value.category]; done) | rfl
theorem d_jdk_52_method_15_0 : decode jdk_52_method_15_code 0 = .ok (.iload_n 1, 1) := by decide +kernel
theorem d_jdk_52_method_15_1 : decode jdk_52_method_15_code 1 = .ok (.aload_n 0, 1) := by decide +kernel
theorem d_jdk_52_method_15_2 : decode jdk_52_method_15_code 2 = .ok (.arraylength, 1) := by decide +kernel
theorem d_jdk_52_method_15_3 : decode jdk_52_method_15_code 3 = .ok (.isub, 1) := by decide +kernel
theorem d_jdk_52_method_15_4 : decode jdk_52_method_15_code 4 = .ok (.bipush 31, 2) := by decide +kernel
theorem d_jdk_52_method_15_6 : decode jdk_52_method_15_code 6 = .ok (.iushr, 1) := by decide +kernel
theorem d_jdk_52_method_15_7 : decode jdk_52_method_15_code 7 = .ok (.i2b, 1) := by decide +kernel
theorem d_jdk_52_method_15_8 : decode jdk_52_method_15_code 8 = .ok (.ireturn, 1) := by decide +kernel
abbrev yn6 : MethodName := ⟨"java/lang/StringUTF16", "coderFromArrayLen", "([BI)B"⟩
theorem ef_compress16 (m : MethodId) (x0 : Addr) (x1 : Int32) (x2 : Int32) : entryFrame m #[(.ref x0), (.int x1), (.int x2)] 6 = mkF m 0 #[.val (.ref x0), .val (.int x1), .val (.int x2), .unset, .unset, .unset] [] := by first | (simp [entryFrame, mkF, argsToLocals, Value.category]; done) | rfl
theorem d_jdk_52_method_16_0 : decode jdk_52_method_16_code 0 = .ok (.iload_n 2, 1) := by decide +kernel
theorem d_jdk_52_method_16_1 : decode jdk_52_method_16_code 1 = .ok (.newarray .byte, 2) := by decide +kernel
theorem d_jdk_52_method_16_3 : decode jdk_52_method_16_code 3 = .ok (.astore_n 3, 1) := by decide +kernel
theorem d_jdk_52_method_16_4 : decode jdk_52_method_16_code 4 = .ok (.aload_n 0, 1) := by decide +kernel
theorem d_jdk_52_method_16_5 : decode jdk_52_method_16_code 5 = .ok (.iload_n 1, 1) := by decide +kernel
theorem d_jdk_52_method_16_6 : decode jdk_52_method_16_code 6 = .ok (.aload_n 3, 1) := by decide +kernel
theorem d_jdk_52_method_16_7 : decode jdk_52_method_16_code 7 = .ok (.iconst 0, 1) := by decide +kernel
theorem d_jdk_52_method_16_8 : decode jdk_52_method_16_code 8 = .ok (.iload_n 2, 1) := by decide +kernel
theorem d_jdk_52_method_16_9 : decode jdk_52_method_16_code 9 = .ok (.invokestatic 115, 3) := by decide +kernel
theorem pd__28__5b_CI_5b_BII_29_I : parseMethodDescriptor "([CI[BII)I" = some ⟨[(.array .char), .int, (.array .byte), .int, .int], some .int⟩ := by decide +kernel
theorem d_jdk_52_method_16_12 : decode jdk_52_method_16_code 12 = .ok (.istore 4, 2) := by decide +kernel
theorem d_jdk_52_method_16_14 : decode jdk_52_method_16_code 14 = .ok (.iload 4, 2) := by decide +kernel
theorem d_jdk_52_method_16_16 : decode jdk_52_method_16_code 16 = .ok (.iload_n 2, 1) := by decide +kernel
theorem d_jdk_52_method_16_17 : decode jdk_52_method_16_code 17 = .ok (.if_icmp .eq 40, 3) := by decide +kernel
theorem d_jdk_52_method_16_57 : decode jdk_52_method_16_code 57 = .ok (.aload_n 3, 1) := by decide +kernel
theorem d_jdk_52_method_16_58 : decode jdk_52_method_16_code 58 = .ok (.areturn, 1) := by decide +kernel
abbrev yn7 : MethodName := ⟨"java/lang/StringUTF16", "compress", "([CII)[B"⟩
theorem ef_sinitV (m : MethodId) (x0 : Addr) (x1 : Addr) (x2 : Int32) (x3 : Int32) : entryFrame m #[(.ref x0), (.ref x1), (.int x2), (.int x3), .null] 6 = mkF m 0 #[.val (.ref x0), .val (.ref x1), .val (.int x2), .val (.int x3), .val .null, .unset] [] := by first | (simp [entryFrame, mkF, argsToLocals, Value.category]; done) | rfl
theorem d_jdk_42_method_149_0 : decode jdk_42_method_149_code 0 = .ok (.aload_n 0, 1) := by decide +kernel
theorem d_jdk_42_method_149_1 : decode jdk_42_method_149_code 1 = .ok (.invokespecial 1, 3) := by decide +kernel
theorem d_jdk_42_method_149_4 : decode jdk_42_method_149_code 4 = .ok (.iload_n 3, 1) := by decide +kernel
theorem d_jdk_42_method_149_5 : decode jdk_42_method_149_code 5 = .ok (.ifCond .ne 22, 3) := by decide +kernel
theorem d_jdk_42_method_149_27 : decode jdk_42_method_149_code 27 = .ok (.getstatic 38, 3) := by decide +kernel
theorem d_jdk_42_method_149_30 : decode jdk_42_method_149_code 30 = .ok (.ifCond .eq 28, 3) := by decide +kernel
theorem d_jdk_42_method_149_33 : decode jdk_42_method_149_code 33 = .ok (.aload_n 1, 1) := by decide +kernel
theorem d_jdk_42_method_149_34 : decode jdk_42_method_149_code 34 = .ok (.iload_n 2, 1) := by decide +kernel
theorem d_jdk_42_method_149_35 : decode jdk_42_method_149_code 35 = .ok (.iload_n 3, 1) := by decide +kernel
theorem d_jdk_42_method_149_36 : decode jdk_42_method_149_code 36 = .ok (.invokestatic 177, 3) := by decide +kernel
theorem pd__28__5b_CII_29__5b_B : parseMethodDescriptor "([CII)[B" = some ⟨[(.array .char), .int, .int], some (.array .byte)⟩ := by decide +kernel
theorem d_jdk_42_method_149_39 : decode jdk_42_method_149_code 39 = .ok (.astore 5, 2) := by decide +kernel
theorem d_jdk_42_method_149_41 : decode jdk_42_method_149_code 41 = .ok (.aload_n 0, 1) := by decide +kernel
theorem d_jdk_42_method_149_42 : decode jdk_42_method_149_code 42 = .ok (.aload 5, 2) := by decide +kernel
theorem d_jdk_42_method_149_44 : decode jdk_42_method_149_code 44 = .ok (.iload_n 3, 1) := by decide +kernel
theorem d_jdk_42_method_149_45 : decode jdk_42_method_149_code 45 = .ok (.invokestatic 47, 3) := by decide +kernel
theorem pd__28__5b_BI_29_B : parseMethodDescriptor "([BI)B" = some ⟨[(.array .byte), .int], some .byte⟩ := by decide +kernel
theorem d_jdk_42_method_149_48 : decode jdk_42_method_149_code 48 = .ok (.putfield 15, 3) := by decide +kernel
theorem d_jdk_42_method_149_51 : decode jdk_42_method_149_code 51 = .ok (.aload_n 0, 1) := by decide +kernel
theorem d_jdk_42_method_149_52 : decode jdk_42_method_149_code 52 = .ok (.aload 5, 2) := by decide +kernel
theorem d_jdk_42_method_149_54 : decode jdk_42_method_149_code 54 = .ok (.putfield 9, 3) := by decide +kernel
theorem d_jdk_42_method_149_57 : decode jdk_42_method_149_code 57 = .ok (.return_, 1) := by decide +kernel
abbrev yn8 : MethodName := ⟨"java/lang/String", "<init>", "([CIILjava/lang/Void;)V"⟩
theorem ef_sinit (m : MethodId) (x0 : Addr) (x1 : Addr) : entryFrame m #[(.ref x0), (.ref x1)] 2 = mkF m 0 #[.val (.ref x0), .val (.ref x1)] [] := by first | (simp [entryFrame, mkF, argsToLocals, Value.category]; done) | rfl
theorem d_jdk_42_method_3_0 : decode jdk_42_method_3_code 0 = .ok (.aload_n 0, 1) := by decide +kernel
theorem d_jdk_42_method_3_1 : decode jdk_42_method_3_code 1 = .ok (.aload_n 1, 1) := by decide +kernel
theorem d_jdk_42_method_3_2 : decode jdk_42_method_3_code 2 = .ok (.iconst 0, 1) := by decide +kernel
theorem d_jdk_42_method_3_3 : decode jdk_42_method_3_code 3 = .ok (.aload_n 1, 1) := by decide +kernel
theorem d_jdk_42_method_3_4 : decode jdk_42_method_3_code 4 = .ok (.arraylength, 1) := by decide +kernel
theorem d_jdk_42_method_3_5 : decode jdk_42_method_3_code 5 = .ok (.aconst_null, 1) := by decide +kernel
theorem d_jdk_42_method_3_6 : decode jdk_42_method_3_code 6 = .ok (.invokespecial 27, 3) := by decide +kernel
theorem pd__28__5b_CIILjava_2f_lang_2f_Void_3b__29_V : parseMethodDescriptor "([CIILjava/lang/Void;)V" = some ⟨[(.array .char), .int, .int, (.object "java/lang/Void")], none⟩ := by decide +kernel
theorem d_jdk_42_method_3_9 : decode jdk_42_method_3_code 9 = .ok (.return_, 1) := by decide +kernel
abbrev yn9 : MethodName := ⟨"java/lang/String", "<init>", "([C)V"⟩
theorem ef_sinitV0 (m : MethodId) (x0 : Addr) (x1 : Addr) (x2 : Int32) (x3 : Int32) : entryFrame m #[(.ref x0), (.ref x1), (.int x3), (.int x3), .null] 6 = mkF m 0 #[.val (.ref x0), .val (.ref x1), .val (.int x3), .val (.int x3), .val .null, .unset] [] := by first | (simp [entryFrame, mkF, argsToLocals, Value.category]; done) | rfl
theorem d_jdk_42_method_149_8 : decode jdk_42_method_149_code 8 = .ok (.aload_n 0, 1) := by decide +kernel
theorem d_jdk_42_method_149_9 : decode jdk_42_method_149_code 9 = .ok (.ldc 7, 2) := by decide +kernel
theorem d_jdk_42_method_149_11 : decode jdk_42_method_149_code 11 = .ok (.getfield 9, 3) := by decide +kernel
theorem d_jdk_42_method_149_14 : decode jdk_42_method_149_code 14 = .ok (.putfield 9, 3) := by decide +kernel
theorem d_jdk_42_method_149_17 : decode jdk_42_method_149_code 17 = .ok (.aload_n 0, 1) := by decide +kernel
theorem d_jdk_42_method_149_18 : decode jdk_42_method_149_code 18 = .ok (.ldc 7, 2) := by decide +kernel
theorem d_jdk_42_method_149_20 : decode jdk_42_method_149_code 20 = .ok (.getfield 15, 3) := by decide +kernel
theorem d_jdk_42_method_149_23 : decode jdk_42_method_149_code 23 = .ok (.putfield 15, 3) := by decide +kernel
theorem d_jdk_42_method_149_26 : decode jdk_42_method_149_code 26 = .ok (.return_, 1) := by decide +kernel
theorem ef_sinit0 (m : MethodId) (x0 : Addr) (x1 : Addr) : entryFrame m #[(.ref x0), (.ref x1)] 2 = mkF m 0 #[.val (.ref x0), .val (.ref x1)] [] := by first | (simp [entryFrame, mkF, argsToLocals, Value.category]; done) | rfl
theorem d_jdk_43_method_13_9 : decode jdk_43_method_13_code 9 = .ok (.iload_n 2, 1) := by decide +kernel
theorem d_jdk_43_method_13_10 : decode jdk_43_method_13_code 10 = .ok (.aload_n 0, 1) := by decide +kernel
theorem d_jdk_43_method_13_11 : decode jdk_43_method_13_code 11 = .ok (.arraylength, 1) := by decide +kernel
theorem d_jdk_43_method_13_12 : decode jdk_43_method_13_code 12 = .ok (.if_icmp .ge 20, 3) := by decide +kernel
theorem d_jdk_43_method_13_32 : decode jdk_43_method_13_code 32 = .ok (.iconst 1, 1) := by decide +kernel
theorem d_jdk_43_method_13_33 : decode jdk_43_method_13_code 33 = .ok (.ireturn, 1) := by decide +kernel
theorem d_jdk_43_method_13_15 : decode jdk_43_method_13_code 15 = .ok (.aload_n 0, 1) := by decide +kernel
theorem d_jdk_43_method_13_16 : decode jdk_43_method_13_code 16 = .ok (.iload_n 2, 1) := by decide +kernel
theorem d_jdk_43_method_13_17 : decode jdk_43_method_13_code 17 = .ok (.baload, 1) := by decide +kernel
theorem d_jdk_43_method_13_18 : decode jdk_43_method_13_code 18 = .ok (.aload_n 1, 1) := by decide +kernel
theorem d_jdk_43_method_13_19 : decode jdk_43_method_13_code 19 = .ok (.iload_n 2, 1) := by decide +kernel
theorem d_jdk_43_method_13_20 : decode jdk_43_method_13_code 20 = .ok (.baload, 1) := by decide +kernel
theorem d_jdk_43_method_13_21 : decode jdk_43_method_13_code 21 = .ok (.if_icmp .eq 5, 3) := by decide +kernel
theorem d_jdk_43_method_13_26 : decode jdk_43_method_13_code 26 = .ok (.iinc 2 1, 3) := by decide +kernel
theorem d_jdk_43_method_13_29 : decode jdk_43_method_13_code 29 = .ok (.goto (-20), 3) := by decide +kernel
theorem d_jdk_43_method_13_24 : decode jdk_43_method_13_code 24 = .ok (.iconst 0, 1) := by decide +kernel
theorem d_jdk_43_method_13_25 : decode jdk_43_method_13_code 25 = .ok (.ireturn, 1) := by decide +kernel
theorem ef_l1equals (m : MethodId) (x0 : Addr) (x1 : Addr) : entryFrame m #[(.ref x0), (.ref x1)] 3 = mkF m 0 #[.val (.ref x0), .val (.ref x1), .unset] [] := by first | (simp [entryFrame, mkF, argsToLocals, Value.category]; done) | rfl
theorem d_jdk_43_method_13_0 : decode jdk_43_method_13_code 0 = .ok (.aload_n 0, 1) := by decide +kernel
theorem d_jdk_43_method_13_1 : decode jdk_43_method_13_code 1 = .ok (.arraylength, 1) := by decide +kernel
theorem d_jdk_43_method_13_2 : decode jdk_43_method_13_code 2 = .ok (.aload_n 1, 1) := by decide +kernel
theorem d_jdk_43_method_13_3 : decode jdk_43_method_13_code 3 = .ok (.arraylength, 1) := by decide +kernel
theorem d_jdk_43_method_13_4 : decode jdk_43_method_13_code 4 = .ok (.if_icmp .ne 30, 3) := by decide +kernel
theorem d_jdk_43_method_13_7 : decode jdk_43_method_13_code 7 = .ok (.iconst 0, 1) := by decide +kernel
theorem d_jdk_43_method_13_8 : decode jdk_43_method_13_code 8 = .ok (.istore_n 2, 1) := by decide +kernel
theorem d_jdk_43_method_13_34 : decode jdk_43_method_13_code 34 = .ok (.iconst 0, 1) := by decide +kernel
theorem d_jdk_43_method_13_35 : decode jdk_43_method_13_code 35 = .ok (.ireturn, 1) := by decide +kernel
abbrev yn10 : MethodName := ⟨"java/lang/StringLatin1", "equals", "([B[B)Z"⟩
theorem ef_sequals (m : MethodId) (x0 : Addr) (x1 : Addr) : entryFrame m #[(.ref x0), (.ref x1)] 3 = mkF m 0 #[.val (.ref x0), .val (.ref x1), .unset] [] := by first | (simp [entryFrame, mkF, argsToLocals, Value.category]; done) | rfl
theorem d_jdk_42_method_66_0 : decode jdk_42_method_66_code 0 = .ok (.aload_n 0, 1) := by decide +kernel
theorem d_jdk_42_method_66_1 : decode jdk_42_method_66_code 1 = .ok (.aload_n 1, 1) := by decide +kernel
theorem d_jdk_42_method_66_2 : decode jdk_42_method_66_code 2 = .ok (.if_acmp .ne 5, 3) := by decide +kernel
theorem d_jdk_42_method_66_7 : decode jdk_42_method_66_code 7 = .ok (.aload_n 1, 1) := by decide +kernel
theorem d_jdk_42_method_66_8 : decode jdk_42_method_66_code 8 = .ok (.instanceof 10, 3) := by decide +kernel
theorem d_jdk_42_method_66_11 : decode jdk_42_method_66_code 11 = .ok (.ifCond .eq 43, 3) := by decide +kernel
theorem d_jdk_42_method_66_14 : decode jdk_42_method_66_code 14 = .ok (.aload_n 1, 1) := by decide +kernel
theorem d_jdk_42_method_66_15 : decode jdk_42_method_66_code 15 = .ok (.checkcast 10, 3) := by decide +kernel
theorem d_jdk_42_method_66_18 : decode jdk_42_method_66_code 18 = .ok (.astore_n 2, 1) := by decide +kernel
theorem d_jdk_42_method_66_19 : decode jdk_42_method_66_code 19 = .ok (.getstatic 38, 3) := by decide +kernel
theorem d_jdk_42_method_66_22 : decode jdk_42_method_66_code 22 = .ok (.ifCond .eq 14, 3) := by decide +kernel
theorem d_jdk_42_method_66_25 : decode jdk_42_method_66_code 25 = .ok (.aload_n 0, 1) := by decide +kernel
theorem d_jdk_42_method_66_26 : decode jdk_42_method_66_code 26 = .ok (.getfield 15, 3) := by decide +kernel
theorem d_jdk_42_method_66_29 : decode jdk_42_method_66_code 29 = .ok (.aload_n 2, 1) := by decide +kernel
theorem d_jdk_42_method_66_30 : decode jdk_42_method_66_code 30 = .ok (.getfield 15, 3) := by decide +kernel
theorem d_jdk_42_method_66_33 : decode jdk_42_method_66_code 33 = .ok (.if_icmp .ne 21, 3) := by decide +kernel
theorem d_jdk_42_method_66_36 : decode jdk_42_method_66_code 36 = .ok (.aload_n 0, 1) := by decide +kernel
theorem d_jdk_42_method_66_37 : decode jdk_42_method_66_code 37 = .ok (.getfield 9, 3) := by decide +kernel
theorem d_jdk_42_method_66_40 : decode jdk_42_method_66_code 40 = .ok (.aload_n 2, 1) := by decide +kernel
theorem d_jdk_42_method_66_41 : decode jdk_42_method_66_code 41 = .ok (.getfield 9, 3) := by decide +kernel
theorem d_jdk_42_method_66_44 : decode jdk_42_method_66_code 44 = .ok (.invokestatic 541, 3) := by decide +kernel
theorem pd__28__5b_B_5b_B_29_Z : parseMethodDescriptor "([B[B)Z" = some ⟨[(.array .byte), (.array .byte)], some .boolean⟩ := by decide +kernel
theorem d_jdk_42_method_66_47 : decode jdk_42_method_66_code 47 = .ok (.ifCond .eq 7, 3) := by decide +kernel
theorem d_jdk_42_method_66_50 : decode jdk_42_method_66_code 50 = .ok (.iconst 1, 1) := by decide +kernel
theorem d_jdk_42_method_66_51 : decode jdk_42_method_66_code 51 = .ok (.goto 4, 3) := by decide +kernel
theorem d_jdk_42_method_66_55 : decode jdk_42_method_66_code 55 = .ok (.ireturn, 1) := by decide +kernel
theorem d_jdk_42_method_66_54 : decode jdk_42_method_66_code 54 = .ok (.iconst 0, 1) := by decide +kernel
abbrev yn11 : MethodName := ⟨"java/lang/String", "equals", "(Ljava/lang/Object;)Z"⟩
theorem ef_sequalsN (m : MethodId) (x0 : Addr) : entryFrame m #[(.ref x0), .null] 3 = mkF m 0 #[.val (.ref x0), .val .null, .unset] [] := by first | (simp [entryFrame, mkF, argsToLocals, Value.category]; done) | rfl
theorem ef_reqNN (m : MethodId) (x0 : Addr) : entryFrame m #[(.ref x0)] 1 = mkF m 0 #[.val (.ref x0)] [] := by first | (simp [entryFrame, mkF, argsToLocals, Value.category]; done) | rfl
theorem pn_java_util_Objects : plainName "java/util/Objects" = true := by first | (simp [plainName, overriddenIn]; done) | decide +kernel
theorem d_jdk_31_method_10_0 : decode jdk_31_method_10_code 0 = .ok (.aload_n 0, 1) := by decide +kernel
theorem d_jdk_31_method_10_1 : decode jdk_31_method_10_code 1 = .ok (.ifnonnull 11, 3) := by decide +kernel
theorem d_jdk_31_method_10_12 : decode jdk_31_method_10_code 12 = .ok (.aload_n 0, 1) := by decide +kernel
theorem d_jdk_31_method_10_13 : decode jdk_31_method_10_code 13 = .ok (.areturn, 1) := by decide +kernel
abbrev yn12 : MethodName := ⟨"java/util/Objects", "requireNonNull", "(Ljava/lang/Object;)Ljava/lang/Object;"⟩
theorem ef_opInit (m : MethodId) (x0 : Addr) (x1 : Addr) : entryFrame m #[(.ref x0), (.ref x1)] 2 = mkF m 0 #[.val (.ref x0), .val (.ref x1)] [] := by first | (simp [entryFrame, mkF, argsToLocals, Value.category]; done) | rfl
theorem pn_java_util_Optional : plainName "java/util/Optional" = true := by first | (simp [plainName, overriddenIn]; done) | decide +kernel
theorem d_jdk_32_method_2_0 : decode jdk_32_method_2_code 0 = .ok (.aload_n 0, 1) := by decide +kernel
theorem d_jdk_32_method_2_1 : decode jdk_32_method_2_code 1 = .ok (.invokespecial 7, 3) := by decide +kernel
theorem d_jdk_32_method_2_4 : decode jdk_32_method_2_code 4 = .ok (.aload_n 0, 1) := by decide +kernel
theorem d_jdk_32_method_2_5 : decode jdk_32_method_2_code 5 = .ok (.aload_n 1, 1) := by decide +kernel
theorem d_jdk_32_method_2_6 : decode jdk_32_method_2_code 6 = .ok (.putfield 13, 3) := by decide +kernel
theorem d_jdk_32_method_2_9 : decode jdk_32_method_2_code 9 = .ok (.return_, 1) := by decide +kernel
abbrev yn13 : MethodName := ⟨"java/util/Optional", "<init>", "(Ljava/lang/Object;)V"⟩
theorem ef_opOf (m : MethodId) (x0 : Addr) : entryFrame m #[(.ref x0)] 1 = mkF m 0 #[.val (.ref x0)] [] := by first | (simp [entryFrame, mkF, argsToLocals, Value.category]; done) | rfl
theorem d_jdk_32_method_3_0 : decode jdk_32_method_3_code 0 = .ok (.new 2, 3) := by decide +kernel
theorem d_jdk_32_method_3_3 : decode jdk_32_method_3_code 3 = .ok (.dup, 1) := by decide +kernel
theorem d_jdk_32_method_3_4 : decode jdk_32_method_3_code 4 = .ok (.aload_n 0, 1) := by decide +kernel
theorem d_jdk_32_method_3_5 : decode jdk_32_method_3_code 5 = .ok (.invokestatic 17, 3) := by decide +kernel
theorem pd__28_Ljava_2f_lang_2f_Object_3b__29_Ljava_2f_lang_2f_Object_3b_ : parseMethodDescriptor "(Ljava/lang/Object;)Ljava/lang/Object;" = some ⟨[(.object "java/lang/Object")], some (.object "java/lang/Object")⟩ := by decide +kernel
theorem d_jdk_32_method_3_8 : decode jdk_32_method_3_code 8 = .ok (.invokespecial 23, 3) := by decide +kernel
theorem pd__28_Ljava_2f_lang_2f_Object_3b__29_V : parseMethodDescriptor "(Ljava/lang/Object;)V" = some ⟨[(.object "java/lang/Object")], none⟩ := by decide +kernel
theorem d_jdk_32_method_3_11 : decode jdk_32_method_3_code 11 = .ok (.areturn, 1) := by decide +kernel
abbrev yn14 : MethodName := ⟨"java/util/Optional", "of", "(Ljava/lang/Object;)Ljava/util/Optional;"⟩
theorem ef_opEmpty (m : MethodId)  : entryFrame m #[] 1 = mkF m 0 #[.unset] [] := by first | (simp [entryFrame, mkF, argsToLocals, Value.category]; done) | rfl
theorem d_jdk_32_method_1_0 : decode jdk_32_method_1_code 0 = .ok (.getstatic 1, 3) := by decide +kernel
theorem d_jdk_32_method_1_3 : decode jdk_32_method_1_code 3 = .ok (.astore_n 0, 1) := by decide +kernel
theorem d_jdk_32_method_1_4 : decode jdk_32_method_1_code 4 = .ok (.aload_n 0, 1) := by decide +kernel
theorem d_jdk_32_method_1_5 : decode jdk_32_method_1_code 5 = .ok (.areturn, 1) := by decide +kernel
abbrev yn15 : MethodName := ⟨"java/util/Optional", "empty", "()Ljava/util/Optional;"⟩
theorem ef_orElse (m : MethodId) (x0 : Addr) : entryFrame m #[(.ref x0), .null] 2 = mkF m 0 #[.val (.ref x0), .val .null] [] := by first | (simp [entryFrame, mkF, argsToLocals, Value.category]; done) | rfl
theorem d_jdk_32_method_15_0 : decode jdk_32_method_15_code 0 = .ok (.aload_n 0, 1) := by decide +kernel
theorem d_jdk_32_method_15_1 : decode jdk_32_method_15_code 1 = .ok (.getfield 13, 3) := by decide +kernel
theorem d_jdk_32_method_15_4 : decode jdk_32_method_15_code 4 = .ok (.ifnull 10, 3) := by decide +kernel
theorem d_jdk_32_method_15_14 : decode jdk_32_method_15_code 14 = .ok (.aload_n 1, 1) := by decide +kernel
theorem d_jdk_32_method_15_15 : decode jdk_32_method_15_code 15 = .ok (.areturn, 1) := by decide +kernel
theorem d_jdk_32_method_15_7 : decode jdk_32_method_15_code 7 = .ok (.aload_n 0, 1) := by decide +kernel
theorem d_jdk_32_method_15_8 : decode jdk_32_method_15_code 8 = .ok (.getfield 13, 3) := by decide +kernel
theorem d_jdk_32_method_15_11 : decode jdk_32_method_15_code 11 = .ok (.goto 4, 3) := by decide +kernel
abbrev yn16 : MethodName := ⟨"java/util/Optional", "orElse", "(Ljava/lang/Object;)Ljava/lang/Object;"⟩
theorem ef_values (m : MethodId)  : entryFrame m #[] 0 = mkF m 0 #[] [] := by first | (simp [entryFrame, mkF, argsToLocals, Value.category]; done) | rfl
theorem pn_com_example_composition_composition_definition_ObjectFormat : plainName "com/example/composition/composition/definition/ObjectFormat" = true := by first | (simp [plainName, overriddenIn]; done) | decide +kernel
theorem d_prog_14_method_1_0 : decode prog_14_method_1_code 0 = .ok (.getstatic 19, 3) := by decide +kernel
theorem d_prog_14_method_1_3 : decode prog_14_method_1_code 3 = .ok (.invokevirtual 23, 3) := by decide +kernel
theorem d_prog_14_method_1_6 : decode prog_14_method_1_code 6 = .ok (.checkcast 24, 3) := by decide +kernel
theorem d_prog_14_method_1_9 : decode prog_14_method_1_code 9 = .ok (.areturn, 1) := by decide +kernel
abbrev yn17 : MethodName := ⟨"com/example/composition/composition/definition/ObjectFormat", "values", "()[Lcom/example/composition/composition/definition/ObjectFormat;"⟩
theorem ef_ofType (m : MethodId) (x0 : Addr) : entryFrame m #[(.ref x0)] 5 = mkF m 0 #[.val (.ref x0), .unset, .unset, .unset, .unset] [] := by first | (simp [entryFrame, mkF, argsToLocals, Value.category]; done) | rfl
theorem d_prog_14_method_7_0 : decode prog_14_method_7_code 0 = .ok (.invokestatic 54, 3) := by decide +kernel
theorem pd__28__29__5b_Lcom_2f_example_2f_composition_2f_composition_2f_definition_2f_ObjectFormat_3b_ : parseMethodDescriptor "()[Lcom/example/composition/composition/definition/ObjectFormat;" = some ⟨[], some (.array (.object "com/example/composition/composition/definition/ObjectFormat"))⟩ := by decide +kernel
theorem d_prog_14_method_7_3 : decode prog_14_method_7_code 3 = .ok (.astore_n 1, 1) := by decide +kernel
theorem d_prog_14_method_7_4 : decode prog_14_method_7_code 4 = .ok (.aload_n 1, 1) := by decide +kernel
theorem d_prog_14_method_7_5 : decode prog_14_method_7_code 5 = .ok (.arraylength, 1) := by decide +kernel
theorem d_prog_14_method_7_6 : decode prog_14_method_7_code 6 = .ok (.istore_n 2, 1) := by decide +kernel
theorem d_prog_14_method_7_7 : decode prog_14_method_7_code 7 = .ok (.iconst 0, 1) := by decide +kernel
theorem d_prog_14_method_7_8 : decode prog_14_method_7_code 8 = .ok (.istore_n 3, 1) := by decide +kernel
theorem d_prog_14_method_7_9 : decode prog_14_method_7_code 9 = .ok (.iload_n 3, 1) := by decide +kernel
theorem d_prog_14_method_7_10 : decode prog_14_method_7_code 10 = .ok (.iload_n 2, 1) := by decide +kernel
theorem d_prog_14_method_7_11 : decode prog_14_method_7_code 11 = .ok (.if_icmp .ge 32, 3) := by decide +kernel
theorem d_prog_14_method_7_14 : decode prog_14_method_7_code 14 = .ok (.aload_n 1, 1) := by decide +kernel
theorem d_prog_14_method_7_15 : decode prog_14_method_7_code 15 = .ok (.iload_n 3, 1) := by decide +kernel
theorem d_prog_14_method_7_16 : decode prog_14_method_7_code 16 = .ok (.aaload, 1) := by decide +kernel
theorem d_prog_14_method_7_17 : decode prog_14_method_7_code 17 = .ok (.astore 4, 2) := by decide +kernel
theorem d_prog_14_method_7_19 : decode prog_14_method_7_code 19 = .ok (.aload 4, 2) := by decide +kernel
theorem d_prog_14_method_7_21 : decode prog_14_method_7_code 21 = .ok (.getfield 38, 3) := by decide +kernel
theorem d_prog_14_method_7_24 : decode prog_14_method_7_code 24 = .ok (.aload_n 0, 1) := by decide +kernel
theorem d_prog_14_method_7_25 : decode prog_14_method_7_code 25 = .ok (.invokevirtual 58, 3) := by decide +kernel
theorem pd__28_Ljava_2f_lang_2f_Object_3b__29_Z : parseMethodDescriptor "(Ljava/lang/Object;)Z" = some ⟨[(.object "java/lang/Object")], some .boolean⟩ := by decide +kernel
theorem d_prog_14_method_7_28 : decode prog_14_method_7_code 28 = .ok (.ifCond .eq 9, 3) := by decide +kernel
theorem d_prog_14_method_7_31 : decode prog_14_method_7_code 31 = .ok (.aload 4, 2) := by decide +kernel
theorem d_prog_14_method_7_33 : decode prog_14_method_7_code 33 = .ok (.invokestatic 64, 3) := by decide +kernel
theorem pd__28_Ljava_2f_lang_2f_Object_3b__29_Ljava_2f_util_2f_Optional_3b_ : parseMethodDescriptor "(Ljava/lang/Object;)Ljava/util/Optional;" = some ⟨[(.object "java/lang/Object")], some (.object "java/util/Optional")⟩ := by decide +kernel
theorem d_prog_14_method_7_36 : decode prog_14_method_7_code 36 = .ok (.areturn, 1) := by decide +kernel
theorem d_prog_14_method_7_37 : decode prog_14_method_7_code 37 = .ok (.iinc 3 1, 3) := by decide +kernel
theorem d_prog_14_method_7_40 : decode prog_14_method_7_code 40 = .ok (.goto (-31), 3) := by decide +kernel
theorem d_prog_14_method_7_43 : decode prog_14_method_7_code 43 = .ok (.invokestatic 67, 3) := by decide +kernel
theorem pd__28__29_Ljava_2f_util_2f_Optional_3b_ : parseMethodDescriptor "()Ljava/util/Optional;" = some ⟨[], some (.object "java/util/Optional")⟩ := by decide +kernel
theorem d_prog_14_method_7_46 : decode prog_14_method_7_code 46 = .ok (.areturn, 1) := by decide +kernel
abbrev yn18 : MethodName := ⟨"com/example/composition/composition/definition/ObjectFormat", "ofType", "(Ljava/lang/String;)Ljava/util/Optional;"⟩
theorem ef_ofTypeN (m : MethodId)  : entryFrame m #[.null] 5 = mkF m 0 #[.val .null, .unset, .unset, .unset, .unset] [] := by first | (simp [entryFrame, mkF, argsToLocals, Value.category]; done) | rfl
theorem ef_lit (m : MethodId) (x0 : Int32) : entryFrame m #[(.int x0)] 1 = mkF m 0 #[.val (.int x0)] [] := by first | (simp [entryFrame, mkF, argsToLocals, Value.category]; done) | rfl
theorem pn_com_example_composition_composition_definition_ObjectFormatOfTypePinLaw : plainName "com/example/composition/composition/definition/ObjectFormatOfTypePinLaw" = true := by first | (simp [plainName, overriddenIn]; done) | decide +kernel
theorem d_method_2_0 : decode method_2_code 0 = .ok (.iload_n 0, 1) := by decide +kernel
theorem d_method_2_1 : decode method_2_code 1 = .ok (.ifCond .ne 6, 3) := by decide +kernel
theorem d_method_2_4 : decode method_2_code 4 = .ok (.ldc 7, 2) := by decide +kernel
theorem d_method_2_6 : decode method_2_code 6 = .ok (.areturn, 1) := by decide +kernel
theorem d_method_2_7 : decode method_2_code 7 = .ok (.iload_n 0, 1) := by decide +kernel
theorem d_method_2_8 : decode method_2_code 8 = .ok (.iconst 1, 1) := by decide +kernel
theorem d_method_2_9 : decode method_2_code 9 = .ok (.if_icmp .ne 6, 3) := by decide +kernel
theorem d_method_2_12 : decode method_2_code 12 = .ok (.ldc 9, 2) := by decide +kernel
theorem d_method_2_14 : decode method_2_code 14 = .ok (.areturn, 1) := by decide +kernel
theorem d_method_2_15 : decode method_2_code 15 = .ok (.iload_n 0, 1) := by decide +kernel
theorem d_method_2_16 : decode method_2_code 16 = .ok (.iconst 2, 1) := by decide +kernel
theorem d_method_2_17 : decode method_2_code 17 = .ok (.if_icmp .ne 6, 3) := by decide +kernel
theorem d_method_2_20 : decode method_2_code 20 = .ok (.ldc 11, 2) := by decide +kernel
theorem d_method_2_22 : decode method_2_code 22 = .ok (.areturn, 1) := by decide +kernel
theorem d_method_2_23 : decode method_2_code 23 = .ok (.iload_n 0, 1) := by decide +kernel
theorem d_method_2_24 : decode method_2_code 24 = .ok (.iconst 3, 1) := by decide +kernel
theorem d_method_2_25 : decode method_2_code 25 = .ok (.if_icmp .ne 6, 3) := by decide +kernel
theorem d_method_2_28 : decode method_2_code 28 = .ok (.ldc 13, 2) := by decide +kernel
theorem d_method_2_30 : decode method_2_code 30 = .ok (.areturn, 1) := by decide +kernel
theorem d_method_2_31 : decode method_2_code 31 = .ok (.ldc 15, 2) := by decide +kernel
theorem d_method_2_33 : decode method_2_code 33 = .ok (.areturn, 1) := by decide +kernel
abbrev yn19 : MethodName := ⟨"com/example/composition/composition/definition/ObjectFormatOfTypePinLaw", "lit", "(I)Ljava/lang/String;"⟩
theorem ef_make (m : MethodId) (x0 : Addr) (x1 : Int32) : entryFrame m #[(.ref x0), (.int x1)] 2 = mkF m 0 #[.val (.ref x0), .val (.int x1)] [] := by first | (simp [entryFrame, mkF, argsToLocals, Value.category]; done) | rfl
theorem d_method_3_0 : decode method_3_code 0 = .ok (.iload_n 1, 1) := by decide +kernel
theorem d_method_3_1 : decode method_3_code 1 = .ok (.ifCond .ne 14, 3) := by decide +kernel
theorem d_method_3_4 : decode method_3_code 4 = .ok (.new 17, 3) := by decide +kernel
theorem d_method_3_7 : decode method_3_code 7 = .ok (.dup, 1) := by decide +kernel
theorem d_method_3_8 : decode method_3_code 8 = .ok (.iconst 0, 1) := by decide +kernel
theorem d_method_3_9 : decode method_3_code 9 = .ok (.newarray .char, 2) := by decide +kernel
theorem d_method_3_11 : decode method_3_code 11 = .ok (.invokespecial 19, 3) := by decide +kernel
theorem pd__28__5b_C_29_V : parseMethodDescriptor "([C)V" = some ⟨[(.array .char)], none⟩ := by decide +kernel
theorem d_method_3_14 : decode method_3_code 14 = .ok (.areturn, 1) := by decide +kernel
theorem d_method_3_15 : decode method_3_code 15 = .ok (.iload_n 1, 1) := by decide +kernel
theorem d_method_3_16 : decode method_3_code 16 = .ok (.iconst 1, 1) := by decide +kernel
theorem d_method_3_17 : decode method_3_code 17 = .ok (.if_icmp .ne 20, 3) := by decide +kernel
theorem d_method_3_20 : decode method_3_code 20 = .ok (.new 17, 3) := by decide +kernel
theorem d_method_3_23 : decode method_3_code 23 = .ok (.dup, 1) := by decide +kernel
theorem d_method_3_24 : decode method_3_code 24 = .ok (.iconst 1, 1) := by decide +kernel
theorem d_method_3_25 : decode method_3_code 25 = .ok (.newarray .char, 2) := by decide +kernel
theorem d_method_3_27 : decode method_3_code 27 = .ok (.dup, 1) := by decide +kernel
theorem d_method_3_28 : decode method_3_code 28 = .ok (.iconst 0, 1) := by decide +kernel
theorem d_method_3_29 : decode method_3_code 29 = .ok (.aload_n 0, 1) := by decide +kernel
theorem d_method_3_30 : decode method_3_code 30 = .ok (.iconst 0, 1) := by decide +kernel
theorem d_method_3_31 : decode method_3_code 31 = .ok (.caload, 1) := by decide +kernel
theorem d_method_3_32 : decode method_3_code 32 = .ok (.castore, 1) := by decide +kernel
theorem d_method_3_33 : decode method_3_code 33 = .ok (.invokespecial 19, 3) := by decide +kernel
theorem d_method_3_36 : decode method_3_code 36 = .ok (.areturn, 1) := by decide +kernel
theorem d_method_3_37 : decode method_3_code 37 = .ok (.iload_n 1, 1) := by decide +kernel
theorem d_method_3_38 : decode method_3_code 38 = .ok (.iconst 2, 1) := by decide +kernel
theorem d_method_3_39 : decode method_3_code 39 = .ok (.if_icmp .ne 26, 3) := by decide +kernel
theorem d_method_3_42 : decode method_3_code 42 = .ok (.new 17, 3) := by decide +kernel
theorem d_method_3_45 : decode method_3_code 45 = .ok (.dup, 1) := by decide +kernel
theorem d_method_3_46 : decode method_3_code 46 = .ok (.iconst 2, 1) := by decide +kernel
theorem d_method_3_47 : decode method_3_code 47 = .ok (.newarray .char, 2) := by decide +kernel
theorem d_method_3_49 : decode method_3_code 49 = .ok (.dup, 1) := by decide +kernel
theorem d_method_3_50 : decode method_3_code 50 = .ok (.iconst 0, 1) := by decide +kernel
theorem d_method_3_51 : decode method_3_code 51 = .ok (.aload_n 0, 1) := by decide +kernel
theorem d_method_3_52 : decode method_3_code 52 = .ok (.iconst 0, 1) := by decide +kernel
theorem d_method_3_53 : decode method_3_code 53 = .ok (.caload, 1) := by decide +kernel
theorem d_method_3_54 : decode method_3_code 54 = .ok (.castore, 1) := by decide +kernel
theorem d_method_3_55 : decode method_3_code 55 = .ok (.dup, 1) := by decide +kernel
theorem d_method_3_56 : decode method_3_code 56 = .ok (.iconst 1, 1) := by decide +kernel
theorem d_method_3_57 : decode method_3_code 57 = .ok (.aload_n 0, 1) := by decide +kernel
theorem d_method_3_58 : decode method_3_code 58 = .ok (.iconst 1, 1) := by decide +kernel
theorem d_method_3_59 : decode method_3_code 59 = .ok (.caload, 1) := by decide +kernel
theorem d_method_3_60 : decode method_3_code 60 = .ok (.castore, 1) := by decide +kernel
theorem d_method_3_61 : decode method_3_code 61 = .ok (.invokespecial 19, 3) := by decide +kernel
theorem d_method_3_64 : decode method_3_code 64 = .ok (.areturn, 1) := by decide +kernel
theorem d_method_3_65 : decode method_3_code 65 = .ok (.iload_n 1, 1) := by decide +kernel
theorem d_method_3_66 : decode method_3_code 66 = .ok (.iconst 3, 1) := by decide +kernel
theorem d_method_3_67 : decode method_3_code 67 = .ok (.if_icmp .ne 32, 3) := by decide +kernel
theorem d_method_3_70 : decode method_3_code 70 = .ok (.new 17, 3) := by decide +kernel
theorem d_method_3_73 : decode method_3_code 73 = .ok (.dup, 1) := by decide +kernel
theorem d_method_3_74 : decode method_3_code 74 = .ok (.iconst 3, 1) := by decide +kernel
theorem d_method_3_75 : decode method_3_code 75 = .ok (.newarray .char, 2) := by decide +kernel
theorem d_method_3_77 : decode method_3_code 77 = .ok (.dup, 1) := by decide +kernel
theorem d_method_3_78 : decode method_3_code 78 = .ok (.iconst 0, 1) := by decide +kernel
theorem d_method_3_79 : decode method_3_code 79 = .ok (.aload_n 0, 1) := by decide +kernel
theorem d_method_3_80 : decode method_3_code 80 = .ok (.iconst 0, 1) := by decide +kernel
theorem d_method_3_81 : decode method_3_code 81 = .ok (.caload, 1) := by decide +kernel
theorem d_method_3_82 : decode method_3_code 82 = .ok (.castore, 1) := by decide +kernel
theorem d_method_3_83 : decode method_3_code 83 = .ok (.dup, 1) := by decide +kernel
theorem d_method_3_84 : decode method_3_code 84 = .ok (.iconst 1, 1) := by decide +kernel
theorem d_method_3_85 : decode method_3_code 85 = .ok (.aload_n 0, 1) := by decide +kernel
theorem d_method_3_86 : decode method_3_code 86 = .ok (.iconst 1, 1) := by decide +kernel
theorem d_method_3_87 : decode method_3_code 87 = .ok (.caload, 1) := by decide +kernel
theorem d_method_3_88 : decode method_3_code 88 = .ok (.castore, 1) := by decide +kernel
theorem d_method_3_89 : decode method_3_code 89 = .ok (.dup, 1) := by decide +kernel
theorem d_method_3_90 : decode method_3_code 90 = .ok (.iconst 2, 1) := by decide +kernel
theorem d_method_3_91 : decode method_3_code 91 = .ok (.aload_n 0, 1) := by decide +kernel
theorem d_method_3_92 : decode method_3_code 92 = .ok (.iconst 2, 1) := by decide +kernel
theorem d_method_3_93 : decode method_3_code 93 = .ok (.caload, 1) := by decide +kernel
theorem d_method_3_94 : decode method_3_code 94 = .ok (.castore, 1) := by decide +kernel
theorem d_method_3_95 : decode method_3_code 95 = .ok (.invokespecial 19, 3) := by decide +kernel
theorem d_method_3_98 : decode method_3_code 98 = .ok (.areturn, 1) := by decide +kernel
theorem d_method_3_99 : decode method_3_code 99 = .ok (.iload_n 1, 1) := by decide +kernel
theorem d_method_3_100 : decode method_3_code 100 = .ok (.iconst 4, 1) := by decide +kernel
theorem d_method_3_101 : decode method_3_code 101 = .ok (.if_icmp .ne 38, 3) := by decide +kernel
theorem d_method_3_104 : decode method_3_code 104 = .ok (.new 17, 3) := by decide +kernel
theorem d_method_3_107 : decode method_3_code 107 = .ok (.dup, 1) := by decide +kernel
theorem d_method_3_108 : decode method_3_code 108 = .ok (.iconst 4, 1) := by decide +kernel
theorem d_method_3_109 : decode method_3_code 109 = .ok (.newarray .char, 2) := by decide +kernel
theorem d_method_3_111 : decode method_3_code 111 = .ok (.dup, 1) := by decide +kernel
theorem d_method_3_112 : decode method_3_code 112 = .ok (.iconst 0, 1) := by decide +kernel
theorem d_method_3_113 : decode method_3_code 113 = .ok (.aload_n 0, 1) := by decide +kernel
theorem d_method_3_114 : decode method_3_code 114 = .ok (.iconst 0, 1) := by decide +kernel
theorem d_method_3_115 : decode method_3_code 115 = .ok (.caload, 1) := by decide +kernel
theorem d_method_3_116 : decode method_3_code 116 = .ok (.castore, 1) := by decide +kernel
theorem d_method_3_117 : decode method_3_code 117 = .ok (.dup, 1) := by decide +kernel
theorem d_method_3_118 : decode method_3_code 118 = .ok (.iconst 1, 1) := by decide +kernel
theorem d_method_3_119 : decode method_3_code 119 = .ok (.aload_n 0, 1) := by decide +kernel
theorem d_method_3_120 : decode method_3_code 120 = .ok (.iconst 1, 1) := by decide +kernel
theorem d_method_3_121 : decode method_3_code 121 = .ok (.caload, 1) := by decide +kernel
theorem d_method_3_122 : decode method_3_code 122 = .ok (.castore, 1) := by decide +kernel
theorem d_method_3_123 : decode method_3_code 123 = .ok (.dup, 1) := by decide +kernel
theorem d_method_3_124 : decode method_3_code 124 = .ok (.iconst 2, 1) := by decide +kernel
theorem d_method_3_125 : decode method_3_code 125 = .ok (.aload_n 0, 1) := by decide +kernel
theorem d_method_3_126 : decode method_3_code 126 = .ok (.iconst 2, 1) := by decide +kernel
theorem d_method_3_127 : decode method_3_code 127 = .ok (.caload, 1) := by decide +kernel
theorem d_method_3_128 : decode method_3_code 128 = .ok (.castore, 1) := by decide +kernel
theorem d_method_3_129 : decode method_3_code 129 = .ok (.dup, 1) := by decide +kernel
theorem d_method_3_130 : decode method_3_code 130 = .ok (.iconst 3, 1) := by decide +kernel
theorem d_method_3_131 : decode method_3_code 131 = .ok (.aload_n 0, 1) := by decide +kernel
theorem d_method_3_132 : decode method_3_code 132 = .ok (.iconst 3, 1) := by decide +kernel
theorem d_method_3_133 : decode method_3_code 133 = .ok (.caload, 1) := by decide +kernel
theorem d_method_3_134 : decode method_3_code 134 = .ok (.castore, 1) := by decide +kernel
theorem d_method_3_135 : decode method_3_code 135 = .ok (.invokespecial 19, 3) := by decide +kernel
theorem d_method_3_138 : decode method_3_code 138 = .ok (.areturn, 1) := by decide +kernel
theorem d_method_3_139 : decode method_3_code 139 = .ok (.new 17, 3) := by decide +kernel
theorem d_method_3_142 : decode method_3_code 142 = .ok (.dup, 1) := by decide +kernel
theorem d_method_3_143 : decode method_3_code 143 = .ok (.iconst 5, 1) := by decide +kernel
theorem d_method_3_144 : decode method_3_code 144 = .ok (.newarray .char, 2) := by decide +kernel
theorem d_method_3_146 : decode method_3_code 146 = .ok (.dup, 1) := by decide +kernel
theorem d_method_3_147 : decode method_3_code 147 = .ok (.iconst 0, 1) := by decide +kernel
theorem d_method_3_148 : decode method_3_code 148 = .ok (.aload_n 0, 1) := by decide +kernel
theorem d_method_3_149 : decode method_3_code 149 = .ok (.iconst 0, 1) := by decide +kernel
theorem d_method_3_150 : decode method_3_code 150 = .ok (.caload, 1) := by decide +kernel
theorem d_method_3_151 : decode method_3_code 151 = .ok (.castore, 1) := by decide +kernel
theorem d_method_3_152 : decode method_3_code 152 = .ok (.dup, 1) := by decide +kernel
theorem d_method_3_153 : decode method_3_code 153 = .ok (.iconst 1, 1) := by decide +kernel
theorem d_method_3_154 : decode method_3_code 154 = .ok (.aload_n 0, 1) := by decide +kernel
theorem d_method_3_155 : decode method_3_code 155 = .ok (.iconst 1, 1) := by decide +kernel
theorem d_method_3_156 : decode method_3_code 156 = .ok (.caload, 1) := by decide +kernel
theorem d_method_3_157 : decode method_3_code 157 = .ok (.castore, 1) := by decide +kernel
theorem d_method_3_158 : decode method_3_code 158 = .ok (.dup, 1) := by decide +kernel
theorem d_method_3_159 : decode method_3_code 159 = .ok (.iconst 2, 1) := by decide +kernel
theorem d_method_3_160 : decode method_3_code 160 = .ok (.aload_n 0, 1) := by decide +kernel
theorem d_method_3_161 : decode method_3_code 161 = .ok (.iconst 2, 1) := by decide +kernel
theorem d_method_3_162 : decode method_3_code 162 = .ok (.caload, 1) := by decide +kernel
theorem d_method_3_163 : decode method_3_code 163 = .ok (.castore, 1) := by decide +kernel
theorem d_method_3_164 : decode method_3_code 164 = .ok (.dup, 1) := by decide +kernel
theorem d_method_3_165 : decode method_3_code 165 = .ok (.iconst 3, 1) := by decide +kernel
theorem d_method_3_166 : decode method_3_code 166 = .ok (.aload_n 0, 1) := by decide +kernel
theorem d_method_3_167 : decode method_3_code 167 = .ok (.iconst 3, 1) := by decide +kernel
theorem d_method_3_168 : decode method_3_code 168 = .ok (.caload, 1) := by decide +kernel
theorem d_method_3_169 : decode method_3_code 169 = .ok (.castore, 1) := by decide +kernel
theorem d_method_3_170 : decode method_3_code 170 = .ok (.dup, 1) := by decide +kernel
theorem d_method_3_171 : decode method_3_code 171 = .ok (.iconst 4, 1) := by decide +kernel
theorem d_method_3_172 : decode method_3_code 172 = .ok (.aload_n 0, 1) := by decide +kernel
theorem d_method_3_173 : decode method_3_code 173 = .ok (.iconst 4, 1) := by decide +kernel
theorem d_method_3_174 : decode method_3_code 174 = .ok (.caload, 1) := by decide +kernel
theorem d_method_3_175 : decode method_3_code 175 = .ok (.castore, 1) := by decide +kernel
theorem d_method_3_176 : decode method_3_code 176 = .ok (.invokespecial 19, 3) := by decide +kernel
theorem d_method_3_179 : decode method_3_code 179 = .ok (.areturn, 1) := by decide +kernel
abbrev yn20 : MethodName := ⟨"com/example/composition/composition/definition/ObjectFormatOfTypePinLaw", "make", "([CI)Ljava/lang/String;"⟩
theorem ef_expect (m : MethodId) (x0 : Addr) (x1 : Int32) : entryFrame m #[(.ref x0), (.int x1)] 6 = mkF m 0 #[.val (.ref x0), .val (.int x1), .unset, .unset, .unset, .unset] [] := by first | (simp [entryFrame, mkF, argsToLocals, Value.category]; done) | rfl
theorem d_method_4_0 : decode method_4_code 0 = .ok (.iload_n 1, 1) := by decide +kernel
theorem d_method_4_1 : decode method_4_code 1 = .ok (.iconst 4, 1) := by decide +kernel
theorem d_method_4_2 : decode method_4_code 2 = .ok (.if_icmp .eq 5, 3) := by decide +kernel
theorem d_method_4_7 : decode method_4_code 7 = .ok (.aload_n 0, 1) := by decide +kernel
theorem d_method_4_8 : decode method_4_code 8 = .ok (.iconst 0, 1) := by decide +kernel
theorem d_method_4_9 : decode method_4_code 9 = .ok (.caload, 1) := by decide +kernel
theorem d_method_4_10 : decode method_4_code 10 = .ok (.istore_n 2, 1) := by decide +kernel
theorem d_method_4_11 : decode method_4_code 11 = .ok (.aload_n 0, 1) := by decide +kernel
theorem d_method_4_12 : decode method_4_code 12 = .ok (.iconst 1, 1) := by decide +kernel
theorem d_method_4_13 : decode method_4_code 13 = .ok (.caload, 1) := by decide +kernel
theorem d_method_4_14 : decode method_4_code 14 = .ok (.istore_n 3, 1) := by decide +kernel
theorem d_method_4_15 : decode method_4_code 15 = .ok (.aload_n 0, 1) := by decide +kernel
theorem d_method_4_16 : decode method_4_code 16 = .ok (.iconst 2, 1) := by decide +kernel
theorem d_method_4_17 : decode method_4_code 17 = .ok (.caload, 1) := by decide +kernel
theorem d_method_4_18 : decode method_4_code 18 = .ok (.istore 4, 2) := by decide +kernel
theorem d_method_4_20 : decode method_4_code 20 = .ok (.aload_n 0, 1) := by decide +kernel
theorem d_method_4_21 : decode method_4_code 21 = .ok (.iconst 3, 1) := by decide +kernel
theorem d_method_4_22 : decode method_4_code 22 = .ok (.caload, 1) := by decide +kernel
theorem d_method_4_23 : decode method_4_code 23 = .ok (.istore 5, 2) := by decide +kernel
theorem d_method_4_25 : decode method_4_code 25 = .ok (.iload_n 2, 1) := by decide +kernel
theorem d_method_4_26 : decode method_4_code 26 = .ok (.bipush 116, 2) := by decide +kernel
theorem d_method_4_28 : decode method_4_code 28 = .ok (.if_icmp .ne 27, 3) := by decide +kernel
theorem d_method_4_31 : decode method_4_code 31 = .ok (.iload_n 3, 1) := by decide +kernel
theorem d_method_4_32 : decode method_4_code 32 = .ok (.bipush 97, 2) := by decide +kernel
theorem d_method_4_34 : decode method_4_code 34 = .ok (.if_icmp .ne 21, 3) := by decide +kernel
theorem d_method_4_37 : decode method_4_code 37 = .ok (.iload 4, 2) := by decide +kernel
theorem d_method_4_39 : decode method_4_code 39 = .ok (.bipush 98, 2) := by decide +kernel
theorem d_method_4_41 : decode method_4_code 41 = .ok (.if_icmp .ne 14, 3) := by decide +kernel
theorem d_method_4_44 : decode method_4_code 44 = .ok (.iload 5, 2) := by decide +kernel
theorem d_method_4_46 : decode method_4_code 46 = .ok (.bipush 108, 2) := by decide +kernel
theorem d_method_4_48 : decode method_4_code 48 = .ok (.if_icmp .ne 7, 3) := by decide +kernel
theorem d_method_4_51 : decode method_4_code 51 = .ok (.getstatic 22, 3) := by decide +kernel
theorem d_method_4_54 : decode method_4_code 54 = .ok (.areturn, 1) := by decide +kernel
theorem d_method_4_55 : decode method_4_code 55 = .ok (.iload_n 2, 1) := by decide +kernel
theorem d_method_4_56 : decode method_4_code 56 = .ok (.bipush 100, 2) := by decide +kernel
theorem d_method_4_58 : decode method_4_code 58 = .ok (.if_icmp .ne 27, 3) := by decide +kernel
theorem d_method_4_61 : decode method_4_code 61 = .ok (.iload_n 3, 1) := by decide +kernel
theorem d_method_4_62 : decode method_4_code 62 = .ok (.bipush 100, 2) := by decide +kernel
theorem d_method_4_64 : decode method_4_code 64 = .ok (.if_icmp .ne 21, 3) := by decide +kernel
theorem d_method_4_67 : decode method_4_code 67 = .ok (.iload 4, 2) := by decide +kernel
theorem d_method_4_69 : decode method_4_code 69 = .ok (.bipush 108, 2) := by decide +kernel
theorem d_method_4_71 : decode method_4_code 71 = .ok (.if_icmp .ne 14, 3) := by decide +kernel
theorem d_method_4_74 : decode method_4_code 74 = .ok (.iload 5, 2) := by decide +kernel
theorem d_method_4_76 : decode method_4_code 76 = .ok (.bipush 115, 2) := by decide +kernel
theorem d_method_4_78 : decode method_4_code 78 = .ok (.if_icmp .ne 7, 3) := by decide +kernel
theorem d_method_4_81 : decode method_4_code 81 = .ok (.getstatic 28, 3) := by decide +kernel
theorem d_method_4_84 : decode method_4_code 84 = .ok (.areturn, 1) := by decide +kernel
theorem d_method_4_85 : decode method_4_code 85 = .ok (.iload_n 2, 1) := by decide +kernel
theorem d_method_4_86 : decode method_4_code 86 = .ok (.bipush 98, 2) := by decide +kernel
theorem d_method_4_88 : decode method_4_code 88 = .ok (.if_icmp .ne 27, 3) := by decide +kernel
theorem d_method_4_91 : decode method_4_code 91 = .ok (.iload_n 3, 1) := by decide +kernel
theorem d_method_4_92 : decode method_4_code 92 = .ok (.bipush 100, 2) := by decide +kernel
theorem d_method_4_94 : decode method_4_code 94 = .ok (.if_icmp .ne 21, 3) := by decide +kernel
theorem d_method_4_97 : decode method_4_code 97 = .ok (.iload 4, 2) := by decide +kernel
theorem d_method_4_99 : decode method_4_code 99 = .ok (.bipush 101, 2) := by decide +kernel
theorem d_method_4_101 : decode method_4_code 101 = .ok (.if_icmp .ne 14, 3) := by decide +kernel
theorem d_method_4_104 : decode method_4_code 104 = .ok (.iload 5, 2) := by decide +kernel
theorem d_method_4_106 : decode method_4_code 106 = .ok (.bipush 102, 2) := by decide +kernel
theorem d_method_4_108 : decode method_4_code 108 = .ok (.if_icmp .ne 7, 3) := by decide +kernel
theorem d_method_4_111 : decode method_4_code 111 = .ok (.getstatic 31, 3) := by decide +kernel
theorem d_method_4_114 : decode method_4_code 114 = .ok (.areturn, 1) := by decide +kernel
theorem d_method_4_115 : decode method_4_code 115 = .ok (.iload_n 2, 1) := by decide +kernel
theorem d_method_4_116 : decode method_4_code 116 = .ok (.bipush 115, 2) := by decide +kernel
theorem d_method_4_118 : decode method_4_code 118 = .ok (.if_icmp .ne 38, 3) := by decide +kernel
theorem d_method_4_121 : decode method_4_code 121 = .ok (.iload_n 3, 1) := by decide +kernel
theorem d_method_4_122 : decode method_4_code 122 = .ok (.bipush 114, 2) := by decide +kernel
theorem d_method_4_124 : decode method_4_code 124 = .ok (.if_icmp .ne 32, 3) := by decide +kernel
theorem d_method_4_127 : decode method_4_code 127 = .ok (.iload 4, 2) := by decide +kernel
theorem d_method_4_129 : decode method_4_code 129 = .ok (.bipush 118, 2) := by decide +kernel
theorem d_method_4_131 : decode method_4_code 131 = .ok (.if_icmp .ne 25, 3) := by decide +kernel
theorem d_method_4_134 : decode method_4_code 134 = .ok (.iload 5, 2) := by decide +kernel
theorem d_method_4_136 : decode method_4_code 136 = .ok (.bipush 100, 2) := by decide +kernel
theorem d_method_4_138 : decode method_4_code 138 = .ok (.if_icmp .ne 7, 3) := by decide +kernel
theorem d_method_4_141 : decode method_4_code 141 = .ok (.getstatic 34, 3) := by decide +kernel
theorem d_method_4_144 : decode method_4_code 144 = .ok (.areturn, 1) := by decide +kernel
theorem d_method_4_145 : decode method_4_code 145 = .ok (.iload 5, 2) := by decide +kernel
theorem d_method_4_147 : decode method_4_code 147 = .ok (.bipush 98, 2) := by decide +kernel
theorem d_method_4_149 : decode method_4_code 149 = .ok (.if_icmp .ne 7, 3) := by decide +kernel
theorem d_method_4_152 : decode method_4_code 152 = .ok (.getstatic 37, 3) := by decide +kernel
theorem d_method_4_155 : decode method_4_code 155 = .ok (.areturn, 1) := by decide +kernel
theorem d_method_4_156 : decode method_4_code 156 = .ok (.aconst_null, 1) := by decide +kernel
theorem d_method_4_157 : decode method_4_code 157 = .ok (.areturn, 1) := by decide +kernel
theorem d_method_4_5 : decode method_4_code 5 = .ok (.aconst_null, 1) := by decide +kernel
theorem d_method_4_6 : decode method_4_code 6 = .ok (.areturn, 1) := by decide +kernel
abbrev yn21 : MethodName := ⟨"com/example/composition/composition/definition/ObjectFormatOfTypePinLaw", "expect", "([CI)Lcom/example/composition/composition/definition/ObjectFormat;"⟩
theorem ef_law (m : MethodId) (x0 : Int32) (x1 : Int32) (x2 : Int32) (x3 : Int32) (x4 : Int32) (x5 : Int32) : entryFrame m #[(.int x0), (.int x1), (.int x2), (.int x3), (.int x4), (.int x5)] maxLocals = mkF m 0 #[.val (.int x0), .val (.int x1), .val (.int x2), .val (.int x3), .val (.int x4), .val (.int x5), .unset, .unset, .unset, .unset, .unset, .unset] [] := by first | (simp [entryFrame, mkF, argsToLocals, Value.category, maxLocals]; done) | rfl
theorem pd__28_Ljava_2f_lang_2f_String_3b__29_Ljava_2f_util_2f_Optional_3b_ : parseMethodDescriptor "(Ljava/lang/String;)Ljava/util/Optional;" = some ⟨[(.object "java/lang/String")], some (.object "java/util/Optional")⟩ := by decide +kernel
theorem pd__28_I_29_Ljava_2f_lang_2f_String_3b_ : parseMethodDescriptor "(I)Ljava/lang/String;" = some ⟨[.int], some (.object "java/lang/String")⟩ := by decide +kernel
theorem pd__28_I_29_C : parseMethodDescriptor "(I)C" = some ⟨[.int], some .char⟩ := by decide +kernel
theorem pd__28__5b_CI_29_Ljava_2f_lang_2f_String_3b_ : parseMethodDescriptor "([CI)Ljava/lang/String;" = some ⟨[(.array .char), .int], some (.object "java/lang/String")⟩ := by decide +kernel
theorem pd__28__5b_CI_29_Lcom_2f_example_2f_composition_2f_composition_2f_definition_2f_ObjectFormat_3b_ : parseMethodDescriptor "([CI)Lcom/example/composition/composition/definition/ObjectFormat;" = some ⟨[(.array .char), .int], some (.object "com/example/composition/composition/definition/ObjectFormat")⟩ := by decide +kernel
theorem own_wS {a0 : Array Value} {Z : State} (hw : HW a0 Z) : ∀ a ∈ Bundle.stringAtoms, a.before a0 Z = true := by
  intro d hd
  simp only [Bundle.stringAtoms, List.mem_cons, List.not_mem_nil, or_false] at hd
  rcases hd with rfl | rfl | rfl | rfl | rfl | rfl | rfl
  · exact (w7 hw)
  · exact (w8 hw)
  · exact (w9 hw)
  · exact (w10 hw)
  · exact (w11 hw)
  · exact (w12 hw)
  · exact (w13 hw)
theorem own_rw {s t : State} {o : Outcome} {L : List Loc} {k n k' n' : Nat} (h : ReturnedEndW s o t L k n) (hk : k ≤ k') (hn : n ≤ n') : ReturnedEndW s o t L k' n' := ⟨h.1, h.2.1, h.2.2.1, h.2.2.2.mono hk hn⟩
def EL_1 : List (String × Nat) := [("com/example/composition/composition/definition/ObjectFormatOfTypePinLaw", 7), ("com/example/composition/composition/definition/ObjectFormatOfTypePinLaw", 15), ("com/example/composition/composition/definition/ObjectFormatOfTypePinLaw", 11), ("java/lang/String", 7), ("com/example/composition/composition/definition/ObjectFormatOfTypePinLaw", 9), ("com/example/composition/composition/definition/ObjectFormatOfTypePinLaw", 13)]
theorem own_EW {a0 : Array Value} {Z : State} (hw : HW a0 Z) : EW Z a0 EL_1 := (EW.cons (w6 hw) (by decide +kernel) (EW.cons (w113 hw) (by decide +kernel) (EW.cons (w114 hw) (by decide +kernel) (EW.cons (w115 hw) (by decide +kernel) (EW.cons (w116 hw) (by decide +kernel) (EW.cons (w117 hw) (by decide +kernel) EW.nil))))))
theorem own_held {tb : Tables} {e : Env} {args : Array Value} {s : State} (hc : call_1_1 tb e args s) : ∀ p ∈ EL_1, Jvm.Lit.constHeld s p.1 p.2 := fun p hp => hc p ((by decide +kernel : ∀ p ∈ EL_1, p ∈ consts_1) p hp)
theorem own_chr {Z s T : State} {EL : List (String × Nat)} {vm0 vm : Vm} {h0 H : Heap} (R : CHr Z EL vm0 h0 vm H) (A : CHr Z EL vm H T.vm H) (hs : h0 = s.heap) (eT : T.heap = H) : CHr Z EL vm0 s.heap T.vm T.heap := by subst hs eT; exact R.trans A
theorem own_inskeep {Z : State} {h h' : Heap} {a : Addr} {C : String} {ws : List Addr} (F : Ins Z h a C true) (K : Keep h h' ws) : Ins Z h' a C true := by
  obtain ⟨cell, cT, h1, h2, h3⟩ := F
  obtain ⟨c', q1, q2, q3, -⟩ := K.2.2 _ _ h1
  exact ⟨c', cT, q1, h2, by rw [q2, q3]; exact h3⟩
theorem own_safeS {Z : State} {EL : List (String × Nat)} {vm : Vm} {h : Heap} {x : Addr} (hal : Z.vm.Alike vm) (E : Exa Z h x "java/lang/String") (F : Fld Z h x "java/lang/String" "value" "[B" .null) : Safe Z EL vm h x := fun B => by
  obtain ⟨cell, k, e1, e2, e3, -, -⟩ := E
  obtain ⟨p, -, u, a, -, q, -, S, rfl | rfl⟩ := B
  · obtain ⟨c1, _, _, _, f0, g1, g2, -, -, -, -, g7⟩ := F
    cases (show h[q.sa]? = some q.sC from S.ha).symm.trans g1
    obtain ⟨cS, ⟨⟨-, -, -, ⟨c1', k1, i1, f1, -⟩, -, -, -, v1, -⟩, -⟩, -⟩ := S
    obtain ⟨k3, e3', -⟩ := State.fieldFound?_setVm (s := Z) hal g2
    have e4 := (show (Wst Z vm h).fieldFound? _ _ _ = _ from e3').symm.trans f1
    simp only [Option.some.injEq, Prod.mk.injEq] at e4
    rw [← e4.2.2.2, g7] at v1
    simp at v1
  · cases (show h[q.sd]? = some q.SA from S.hd).symm.trans e1
    obtain ⟨cS, -, -, f, -⟩ := S
    have f' : vm.findClass "[B" = some q.SA.cls := f
    rw [hal.findClass] at f'
    obtain ⟨k1, q1, q2⟩ := Vm.findClass_spec f'
    obtain ⟨k2, q3, q4⟩ := Vm.findClass_spec e2
    cases q1.symm.trans q3
    exact absurd (q2.symm.trans q4) (by decide)
theorem own_chv {s : State} {args : Array Value} {tb : Tables} {e : Env} (hw : ∀ d ∈ tables_1, d.before args s = true) (hc : call_1_1 tb e args s) (hcw : Jvm.Lit.compactW.before args s = true) : CHv s EL_1 s.vm s.heap := CHv.start (own_EW hw) (fun p hp => own_held hc p hp) hcw (w9 hw) (w8 hw)
/- numbers -/
theorem own_i {n : Nat} (h : n < 2147483648) : (Int32.ofNat n).toInt = n := len_toInt h
theorem own_lt {i n : Nat} (h : i < n) (hn : n < 2147483648) : Int32.ofNat i < Int32.ofNat n := by
  rw [Int32.lt_iff_toInt_lt, own_i (Nat.lt_trans h hn), own_i hn]; omega
theorem own_nlt {i n : Nat} (h : n ≤ i) (hi : i < 2147483648) : ¬ (Int32.ofNat i < Int32.ofNat n) := by
  rw [Int32.lt_iff_toInt_lt, own_i hi, own_i (Nat.lt_of_le_of_lt h hi)]; omega
theorem own_nneg {i : Nat} (hi : i < 2147483648) : ¬ (Int32.ofNat i < (0 : Int32)) := by
  rw [Int32.lt_iff_toInt_lt, own_i hi]; have : (0 : Int32).toInt = 0 := rfl; omega
theorem own_cl {i : Nat} (hi : i < 2147483648) : (Int32.ofNat i).toNatClampNeg = i := by
  have h := own_i hi; simp only [Int32.toNatClampNeg, h]; omega
theorem own_succ (i : Nat) : Int32.ofNat i + (1 : Int32) = Int32.ofNat (i + 1) := (Int32.ofNat_add i 1).symm
theorem own_shl1 {i : Nat} (hi : 2 * i < 2147483648) : (Int32.ofNat i <<< ((1 : Int32) &&& 31)) = Int32.ofNat (2 * i) := by
  apply Int32.toInt_inj.mp
  have h := c_ishl (Int32.ofNat i) 1 1 rfl
  have r := rng32 (Int32.ofNat i <<< ((1 : Int32) &&& 31))
  rw [own_i (by omega)] at h; rw [own_i hi]; omega
theorem own_shr1 {i : Nat} (hi : 2 * i < 2147483648) : (Int32.ofNat (2 * i) >>> ((1 : Int32) &&& 31)) = Int32.ofNat i := by
  apply Int32.toInt_inj.mp
  have h := c_ishr (Int32.ofNat (2 * i)) 1 1 rfl
  rw [own_i hi] at h; rw [own_i (by omega)]; omega
theorem own_narb (x : Int32) : nar .byte (x.toInt8.toInt32) = x.toInt8.toInt32 := by simp [nar]
/- strings -/
def lat (cs : List Int32) : Bool := cs.all fun c => decide (¬ (255 : Int32) < c)
def fl : List Int32 → Nat
  | [] => 0
  | c :: r => if (255 : Int32) < c then 0 else fl r + 1
def l1 (cs : List Int32) : List Value := cs.map fun c => .int (c.toInt8.toInt32)
def u16 : List Int32 → List Value
  | [] => []
  | c :: r => .int ((c >>> ((0 : Int32) &&& 31)).toInt8.toInt32) :: .int ((c >>> ((8 : Int32) &&& 31)).toInt8.toInt32) :: u16 r
def cdr (cs : List Int32) : Int32 := if lat cs = true then 0 else 1
def blen (cs : List Int32) : Nat := if lat cs = true then cs.length else 2 * cs.length
def enc (cs : List Int32) : List Value := if lat cs = true then l1 cs else u16 cs
def OkS (cs : List Int32) : Prop := (∀ c ∈ cs, ¬ (c < (0 : Int32)) ∧ ¬ ((65535 : Int32) < c)) ∧ cs.length < 1048576
theorem lat_cons (c : Int32) (r : List Int32) : lat (c :: r) = true ↔ ¬ (255 : Int32) < c ∧ lat r = true := by simp [lat]
theorem fl_le : ∀ cs : List Int32, fl cs ≤ cs.length
  | [] => Nat.le_refl _
  | c :: r => by
    show (if (255 : Int32) < c then 0 else fl r + 1) ≤ r.length + 1
    have := fl_le r; split <;> omega
theorem fl_lat : ∀ {cs : List Int32}, lat cs = true → fl cs = cs.length
  | [], _ => rfl
  | c :: r, h => by
    obtain ⟨h1, h2⟩ := (lat_cons c r).mp h
    show (if (255 : Int32) < c then 0 else fl r + 1) = r.length + 1
    rw [if_neg h1, fl_lat h2]
theorem fl_nlat : ∀ {cs : List Int32}, ¬ lat cs = true → fl cs < cs.length ∧ (255 : Int32) < cs.getD (fl cs) 0
  | [], h => absurd rfl h
  | c :: r, h => by
    by_cases q : (255 : Int32) < c
    · have e : fl (c :: r) = 0 := if_pos q
      rw [e]; exact ⟨Nat.succ_pos _, q⟩
    · have e : fl (c :: r) = fl r + 1 := if_neg q
      have := fl_nlat (cs := r) fun z => h ((lat_cons c r).mpr ⟨q, z⟩)
      rw [e]; exact ⟨Nat.succ_lt_succ this.1, by simpa using this.2⟩
theorem fl_ne {cs : List Int32} (h : fl cs = cs.length) : lat cs = true := by
  by_cases q : lat cs = true
  · exact q
  · exact absurd h (Nat.ne_of_lt (fl_nlat q).1)
theorem fl_app : ∀ {pre : List Int32} (suf : List Int32), lat pre = true → fl (pre ++ suf) = pre.length + fl suf
  | [], suf, _ => by simp
  | c :: r, suf, h => by
    obtain ⟨h1, h2⟩ := (lat_cons c r).mp h
    show (if (255 : Int32) < c then 0 else fl (r ++ suf) + 1) = r.length + 1 + fl suf
    rw [if_neg h1, fl_app suf h2]; omega
theorem lat_snoc {pre : List Int32} {c : Int32} (h : lat pre = true) (hc : ¬ (255 : Int32) < c) : lat (pre ++ [c]) = true := by
  simp only [lat, List.all_append, Bool.and_eq_true]; exact ⟨h, by simpa using hc⟩
theorem l1_snoc (pre : List Int32) (c : Int32) : l1 pre ++ [.int (c.toInt8.toInt32)] = l1 (pre ++ [c]) := by simp [l1]
theorem u16_app : ∀ (pre suf : List Int32), u16 (pre ++ suf) = u16 pre ++ u16 suf
  | [], _ => rfl
  | c :: r, suf => by show _ :: _ :: u16 (r ++ suf) = _ :: _ :: (u16 r ++ u16 suf); rw [u16_app r suf]
theorem u16_len : ∀ cs : List Int32, (u16 cs).length = 2 * cs.length
  | [] => rfl
  | c :: r => by show (u16 r).length + 1 + 1 = 2 * (r.length + 1); rw [u16_len r]; omega
theorem l1_len (cs : List Int32) : (l1 cs).length = cs.length := by simp [l1]
theorem u16_at : ∀ (cs : List Int32) (i : Nat) (d : Value), i < cs.length → (u16 cs).getD (2 * i) d = .int ((cs.getD i 0 >>> ((0 : Int32) &&& 31)).toInt8.toInt32) ∧ (u16 cs).getD (2 * i + 1) d = .int ((cs.getD i 0 >>> ((8 : Int32) &&& 31)).toInt8.toInt32)
  | [], i, _, h => absurd h (Nat.not_lt_zero _)
  | c :: r, 0, d, _ => ⟨rfl, rfl⟩
  | c :: r, i + 1, d, h => by
    have := u16_at r i d (Nat.lt_of_succ_lt_succ h)
    exact this
theorem l1_at (cs : List Int32) (i : Nat) (d : Value) (h : i < cs.length) : (l1 cs).getD i d = .int ((cs.getD i 0).toInt8.toInt32) := by
  simp [l1, List.getD, h]
theorem ch_at (cs : List Int32) (i : Nat) (d : Value) (h : i < cs.length) : (cs.map Value.int).getD i d = .int (cs.getD i 0) := by
  simp [List.getD, h]
theorem app_at (pre r : List Int32) (c d : Int32) : (pre ++ c :: r).getD pre.length d = c := by simp [List.getD]
theorem getD_mem {cs : List Int32} {i : Nat} (h : i < cs.length) : cs.getD i 0 ∈ cs := by simp [List.getD, h]
theorem OkS.at {cs : List Int32} (h : OkS cs) {i : Nat} (hi : i < cs.length) : ¬ (cs.getD i 0 < (0 : Int32)) ∧ ¬ ((65535 : Int32) < cs.getD i 0) := h.1 _ (getD_mem hi)
theorem own_rng {c : Int32} (h1 : ¬ (c < (0 : Int32))) (h2 : ¬ ((65535 : Int32) < c)) : 0 ≤ c.toInt ∧ c.toInt ≤ 65535 := by
  rw [Int32.lt_iff_toInt_lt] at h1 h2; have a : (0 : Int32).toInt = 0 := rfl; have b : (65535 : Int32).toInt = 65535 := rfl; omega
theorem own_narc {c : Int32} (h1 : ¬ (c < (0 : Int32))) (h2 : ¬ ((65535 : Int32) < c)) : nar .char c = c := by
  apply Int32.toInt_inj.mp
  have := own_rng h1 h2; have := c_i2c c; show (c.toUInt32.toUInt16.toUInt32.toInt32).toInt = _; omega
theorem own_l1c {c : Int32} (h1 : ¬ (c < (0 : Int32))) (h2 : ¬ ((255 : Int32) < c)) : nar .char ((c.toInt8.toInt32 &&& (255 : Int32)).toUInt32.toUInt16.toUInt32.toInt32) = c := by
  apply Int32.toInt_inj.mp
  rw [Int32.lt_iff_toInt_lt] at h1 h2; have a : (0 : Int32).toInt = 0 := rfl; have b : (255 : Int32).toInt = 255 := rfl
  have q1 := c_i2b c; have q2 := c_mask c.toInt8.toInt32 255 8 (by decide) rfl
  have q3 := c_i2c (c.toInt8.toInt32 &&& 255); have q4 := c_i2c ((c.toInt8.toInt32 &&& (255 : Int32)).toUInt32.toUInt16.toUInt32.toInt32)
  show (((c.toInt8.toInt32 &&& (255 : Int32)).toUInt32.toUInt16.toUInt32.toInt32).toUInt32.toUInt16.toUInt32.toInt32).toInt = _
  omega
theorem own_u16c {c : Int32} (h1 : ¬ (c < (0 : Int32))) (h2 : ¬ ((65535 : Int32) < c)) :
    nar .char ((((((c >>> ((0 : Int32) &&& 31)).toInt8.toInt32) &&& (255 : Int32)) <<< ((0 : Int32) &&& 31)) ||| ((((c >>> ((8 : Int32) &&& 31)).toInt8.toInt32) &&& (255 : Int32)) <<< ((8 : Int32) &&& 31))).toUInt32.toUInt16.toUInt32.toInt32) = c := by
  apply Int32.toInt_inj.mp
  have r := own_rng h1 h2
  have s0 := c_ishr c 0 0 rfl; have s8 := c_ishr c 8 8 rfl
  have b0 := c_i2b (c >>> ((0 : Int32) &&& 31)); have b8 := c_i2b (c >>> ((8 : Int32) &&& 31))
  have m0 := c_mask ((c >>> ((0 : Int32) &&& 31)).toInt8.toInt32) 255 8 (by decide) rfl; have m8 := c_mask ((c >>> ((8 : Int32) &&& 31)).toInt8.toInt32) 255 8 (by decide) rfl
  generalize (c >>> ((0 : Int32) &&& 31)).toInt8.toInt32 = x at *
  generalize (c >>> ((8 : Int32) &&& 31)).toInt8.toInt32 = y at *
  have l0 := c_ishl (x &&& 255) 0 0 rfl; have l8 := c_ishl (y &&& 255) 8 8 rfl
  generalize (x &&& (255 : Int32)) = x' at *
  generalize (y &&& (255 : Int32)) = y' at *
  have r0 := rng32 (x' <<< ((0 : Int32) &&& 31)); have r8 := rng32 (y' <<< ((8 : Int32) &&& 31))
  have o := c_or' (x' <<< ((0 : Int32) &&& 31)) (y' <<< ((8 : Int32) &&& 31)) 8 (by decide) 256 rfl
  have ro := rng32 ((x' <<< ((0 : Int32) &&& 31)) ||| (y' <<< ((8 : Int32) &&& 31)))
  generalize ((x' <<< ((0 : Int32) &&& 31)) ||| (y' <<< ((8 : Int32) &&& 31))) = w at *
  have q3 := c_i2c w; have q4 := c_i2c (w.toUInt32.toUInt16.toUInt32.toInt32)
  show ((w.toUInt32.toUInt16.toUInt32.toInt32).toUInt32.toUInt16.toUInt32.toInt32).toInt = _
  have o' := o (by omega) (by omega) (by omega)
  omega
theorem own_len {cs : List Int32} (h : cs.length < 1048576) : (Int32.ofNat (blen cs) >>> (cdr cs &&& 31)) = Int32.ofNat cs.length := by
  apply Int32.toInt_inj.mp
  by_cases q : lat cs = true
  · have := c_ishr (Int32.ofNat cs.length) 0 0 rfl
    simp only [blen, cdr, if_pos q]; rw [own_i (by omega)] at *; omega
  · have := c_ishr (Int32.ofNat (2 * cs.length)) 1 1 rfl
    simp only [blen, cdr, if_neg q]; rw [own_i (by omega)] at *; rw [this]; omega
theorem own_narcdr (cs : List Int32) : nar .byte (cdr cs) = cdr cs := by by_cases q : lat cs = true <;> simp only [cdr, q] <;> decide
theorem own_cdr {cs : List Int32} (h : cs.length < 1048576) : nar .byte ((((Int32.ofNat cs.length - Int32.ofNat (blen cs)).toUInt32 >>> ((31 : Int32) &&& 31).toUInt32).toInt32).toInt8.toInt32) = cdr cs := by
  by_cases q : lat cs = true
  · simp only [blen, cdr, if_pos q, Int32.sub_self]; decide
  · have n0 := (fl_nlat q).1
    simp only [blen, cdr, if_neg q]
    have e : ((Int32.ofNat cs.length - Int32.ofNat (2 * cs.length)).toUInt32 >>> ((31 : Int32) &&& 31).toUInt32).toInt32 = 1 := by
      apply Int32.toInt_inj.mp
      have s := c_isub (Int32.ofNat cs.length) (Int32.ofNat (2 * cs.length)); have r := rng32 (Int32.ofNat cs.length - Int32.ofNat (2 * cs.length))
      rw [own_i (by omega), own_i (by omega)] at s
      rw [c_iushr _ 31 31 rfl (by decide)]; have : (1 : Int32).toInt = 1 := rfl; omega
    rw [e]; decide
theorem cdr_lat {cs : List Int32} (h : cdr cs = (0 : Int32)) : lat cs = true := by
  by_cases q : lat cs = true
  · exact q
  · simp only [cdr, if_neg q] at h; exact absurd h (by decide)
theorem cdr_nlat {cs : List Int32} (h : ¬ cdr cs = (0 : Int32)) : ¬ lat cs = true := fun q => h (by simp only [cdr, if_pos q])
theorem Arv.push {Z : State} {h h' : Heap} {a : Addr} {c : Cell} {k : ClassId} {ty : FieldType} {z j : Int32} {vs : List Value} {dv v : Value} (A : Arr Z h a c ty) (q1 : c.cls = k) (S : c.slots.size = z.toNatClampNeg) (q3 : ¬ z < 0) (H : Has c vs dv) (G : ∀ i, i < c.slots.size → fits ty (vs.getD i dv) = true) (hv : fits ty v = true) (W : Wr h h' a j.toNatClampNeg v) (hj : j.toNatClampNeg = vs.length) : Arv Z h' a k ty z (vs ++ [v]) dv := by
  have F : Arv Z h a k ty z (vs ++ List.replicate 1 dv) dv := Arv.pad ⟨c, A, q1, S, q3, H, G⟩ (pad_rep vs dv 1)
  obtain ⟨c', A', r1, r2, r3, H', G'⟩ := F
  have R := Arv.set A' r1 r2 r3 H' G' hv W vs.length hj (by simp)
  have e : (vs ++ List.replicate 1 dv).set vs.length v = vs ++ [v] := by simp
  rw [e] at R; exact R
def Str (Z : State) (h : Heap) (a t : Addr) (kb : ClassId) (cs : List Int32) : Prop := Exa Z h a "java/lang/String" ∧ Fld Z h a "java/lang/String" "value" "[B" (.ref t) ∧ Fld Z h a "java/lang/String" "coder" "B" (.int (cdr cs)) ∧ Arv Z h t kb .byte (Int32.ofNat (blen cs)) (enc cs) (.int (0 : Int32)) ∧ OkS cs
theorem Str.keep {Z : State} {h h' : Heap} {a t : Addr} {kb : ClassId} {cs : List Int32} {ws : List Addr} (S : Str Z h a t kb cs) (K : Keep h h' ws) (q1 : a ∉ ws) (q2 : t ∉ ws) : Str Z h' a t kb cs := ⟨S.1.keep K, S.2.1.keep K q1, S.2.2.1.keep K q1, S.2.2.2.1.keep K q2, S.2.2.2.2⟩
theorem Str.ext {Z : State} {h h' : Heap} {a t : Addr} {kb : ClassId} {cs : List Int32} (S : Str Z h a t kb cs) (E : Ext h h') : Str Z h' a t kb cs := ⟨S.1.ext E, S.2.1.ext E, S.2.2.1.ext E, S.2.2.2.1.ext E, S.2.2.2.2⟩
theorem Str.lt {Z : State} {h : Heap} {a t : Addr} {kb : ClassId} {cs : List Int32} (S : Str Z h a t kb cs) : a < h.size := S.1.lt
theorem Str.lt2 {Z : State} {h : Heap} {a t : Addr} {kb : ClassId} {cs : List Int32} (S : Str Z h a t kb cs) : t < h.size := S.2.2.2.1.lt
theorem enc_lat {cs : List Int32} (h : lat cs = true) : enc cs = l1 cs ∧ blen cs = cs.length ∧ cdr cs = (0 : Int32) := ⟨if_pos h, if_pos h, if_pos h⟩
theorem enc_nlat {cs : List Int32} (h : ¬ lat cs = true) : enc cs = u16 cs ∧ blen cs = 2 * cs.length ∧ cdr cs = (1 : Int32) := ⟨if_neg h, if_neg h, if_neg h⟩
theorem lat_at {cs : List Int32} (h : lat cs = true) {i : Nat} (hi : i < cs.length) : ¬ ((255 : Int32) < cs.getD i 0) := by
  have := List.all_eq_true.mp h _ (getD_mem hi); simpa using this
theorem own_fitcdr (cs : List Int32) : fits .byte (.int (cdr cs)) = true := by by_cases q : lat cs = true <;> simp only [cdr, q] <;> decide
theorem own_zero {i : Nat} (hi : i < 2147483648) (h : Int32.ofNat i = (0 : Int32)) : i = 0 := by
  have q := congrArg Int32.toInt h; rw [own_i hi] at q; have z : (0 : Int32).toInt = 0 := rfl; omega
theorem own_neq {i n : Nat} (h : i ≠ n) (hi : i < 2147483648) (hn : n < 2147483648) : ¬ (Int32.ofNat i = Int32.ofNat n) := fun q => by
  have q := congrArg Int32.toInt q; rw [own_i hi, own_i hn] at q; omega
theorem own_sub {i n : Nat} (h : i ≤ n) (hn : n < 2147483648) : Int32.ofNat n - Int32.ofNat i = Int32.ofNat (n - i) := by
  apply Int32.toInt_inj.mp
  have s := c_isub (Int32.ofNat n) (Int32.ofNat i); have r := rng32 (Int32.ofNat n - Int32.ofNat i)
  rw [own_i hn, own_i (by omega)] at s; rw [own_i (by omega)]; omega
theorem own_min {i n : Nat} (h : i ≤ n) (hn : n < 2147483648) : (if Int32.ofNat i < Int32.ofNat n then Int32.ofNat i else Int32.ofNat n) = Int32.ofNat i := by
  by_cases q : i < n
  · rw [if_pos (own_lt q hn)]
  · rw [if_neg (own_nlt (by omega) (by omega))]; congr 1; omega
theorem own_or3 {i n N : Nat} (hi : i < 2147483648) (hn : n < 2147483648) (hN : N < 2147483648) : ¬ ((Int32.ofNat N ||| Int32.ofNat i) ||| Int32.ofNat n < (0 : Int32)) := by
  rw [Int32.lt_iff_toInt_lt]
  have a := (c_orS (Int32.ofNat N) (Int32.ofNat i)).1 (by rw [own_i hN]; omega) (by rw [own_i hi]; omega)
  have b := (c_orS (Int32.ofNat N ||| Int32.ofNat i) (Int32.ofNat n)).1 a (by rw [own_i hn]; omega)
  have z : (0 : Int32).toInt = 0 := rfl; omega
theorem own_slice (vs : List Value) (f n : Nat) (d : Value) (h : f + n ≤ vs.length) : (vs.drop f).take n = (List.range n).map fun i => vs.getD (f + i) d := by
  apply List.ext_getElem
  · simp; omega
  · intro i h1 h2
    simp at h1
    simp [List.getD, List.getElem?_eq_getElem (show f + i < vs.length by omega)]
theorem own_fill (us : List Value) (n : Nat) (h : us.length = n) : (List.replicate n (.int (0 : Int32)) : List Value).take 0 ++ us ++ (List.replicate n (.int (0 : Int32))).drop (0 + n) = us := by simp
theorem own_okdt {cs : List Int32} {bg n : Nat} (h : OkS cs) : OkS ((cs.drop bg).take n) := ⟨fun c hc => h.1 c (List.mem_of_mem_drop (List.mem_of_mem_take hc)), by have := h.2; simp; omega⟩
theorem own_dt {cs : List Int32} {bg n i : Nat} (h : bg + n ≤ cs.length) (hd : ((cs.drop bg).take n).length = n) (hi : i < ((cs.drop bg).take n).length) : ((cs.drop bg).take n).getD i 0 = cs.getD (bg + i) 0 := by
  rw [hd] at hi; simp [List.getD, List.getElem?_take, List.getElem?_drop, hi]
theorem l1_dt (cs : List Int32) (bg n : Nat) : ((l1 cs).drop bg).take n = l1 ((cs.drop bg).take n) := by simp [l1, List.map_take, List.map_drop]
theorem own_u16s (cs : List Int32) (bg n : Nat) : ((u16 cs).drop (2 * bg)).take (2 * n) = u16 ((cs.drop bg).take n) := by
  induction bg generalizing cs with
  | zero =>
    simp only [Nat.mul_zero, List.drop_zero]
    induction n generalizing cs with
    | zero => simp [u16]
    | succ n ih => cases cs with
      | nil => simp [u16]
      | cons c r => rw [show 2 * (n + 1) = 2 * n + 1 + 1 from by omega]; simp only [u16, List.take_succ_cons]; rw [ih]
  | succ b ih => cases cs with
    | nil => simp [u16]
    | cons c r => rw [show 2 * (b + 1) = 2 * b + 1 + 1 from by omega]; simp only [u16, List.drop_succ_cons]; exact ih r
theorem lat_dt {cs : List Int32} {bg n : Nat} (h : lat cs = true) : lat ((cs.drop bg).take n) = true := List.all_eq_true.mpr fun c hc => List.all_eq_true.mp h c (List.mem_of_mem_drop (List.mem_of_mem_take hc))
theorem own_mkL {Z : State} {h : Heap} {a t : Addr} {kb : ClassId} {cs : List Int32} {bg n : Nat} (hl : lat cs = true) (ok : OkS cs) (hn : bg + n ≤ cs.length) (E : Exa Z h a "java/lang/String") (V : Fld Z h a "java/lang/String" "value" "[B" (.ref t)) (C : Fld Z h a "java/lang/String" "coder" "B" (.int (0 : Int32))) (A : Arv Z h t kb .byte (Int32.ofNat (bg + n - bg)) (((l1 cs).drop bg).take (bg + n - bg)) (.int (0 : Int32))) : Str Z h a t kb ((cs.drop bg).take n) := by
  obtain ⟨e1, e2, e3⟩ := enc_lat (lat_dt (bg := bg) (n := n) hl)
  rw [show bg + n - bg = n from by omega, l1_dt] at A
  refine ⟨E, V, by rw [e3]; exact C, ?_, own_okdt ok⟩
  rw [e1, e2, show ((cs.drop bg).take n).length = n from by simp; omega]; exact A
def jn0 : List Int32 := [(116 : Int32), (97 : Int32), (98 : Int32), (108 : Int32)]
def jn1 : List Int32 := [(100 : Int32), (100 : Int32), (108 : Int32), (115 : Int32)]
def jn2 : List Int32 := [(98 : Int32), (100 : Int32), (101 : Int32), (102 : Int32)]
def jn3 : List Int32 := [(115 : Int32), (114 : Int32), (118 : Int32), (100 : Int32)]
def jn4 : List Int32 := [(115 : Int32), (114 : Int32), (118 : Int32), (98 : Int32)]
def ov (o0 o1 o2 o3 o4 : Addr) (cs : List Int32) : Value := if jn0 = cs then .ref o0 else if jn1 = cs then .ref o1 else if jn2 = cs then .ref o2 else if jn3 = cs then .ref o3 else if jn4 = cs then .ref o4 else .null
def exv (o0 o1 o2 o3 o4 : Addr) (x0 x1 x2 x3 n : Int32) : Value := if n = (4 : Int32) then ov o0 o1 o2 o3 o4 [x0, x1, x2, x3] else .null
theorem ov_ref (o0 o1 o2 o3 o4 : Addr) (cs : List Int32) : (ov o0 o1 o2 o3 o4 cs).isRef = true := by
  unfold ov; repeat' split
  all_goals rfl
theorem exv_ref (o0 o1 o2 o3 o4 : Addr) (x0 x1 x2 x3 n : Int32) : (exv o0 o1 o2 o3 o4 x0 x1 x2 x3 n).isRef = true := by unfold exv; split; exact ov_ref ..; rfl
def N6 (n : Int32) : Prop := n = 0 ∨ n = 1 ∨ n = 2 ∨ n = 3 ∨ n = 4 ∨ n = 5
theorem own_oe (o0 o1 o2 o3 o4 : Addr) (x0 x1 x2 x3 x4 n : Int32) (h : N6 n) : ov o0 o1 o2 o3 o4 ([x0, x1, x2, x3, x4].take n.toNatClampNeg) = exv o0 o1 o2 o3 o4 x0 x1 x2 x3 n := by
  rcases h with rfl | rfl | rfl | rfl | rfl | rfl
  · show ov o0 o1 o2 o3 o4 [] = .null; rfl
  · show ov o0 o1 o2 o3 o4 [x0] = .null; simp [ov, jn0, jn1, jn2, jn3, jn4]
  · show ov o0 o1 o2 o3 o4 [x0, x1] = .null; simp [ov, jn0, jn1, jn2, jn3, jn4]
  · show ov o0 o1 o2 o3 o4 [x0, x1, x2] = .null; simp [ov, jn0, jn1, jn2, jn3, jn4]
  · rfl
  · show ov o0 o1 o2 o3 o4 [x0, x1, x2, x3, x4] = .null; simp [ov, jn0, jn1, jn2, jn3, jn4]
theorem own_c8 (x : Int32) : ¬ (((x &&& (255 : Int32)).toUInt32.toUInt16.toUInt32.toInt32) < (0 : Int32)) ∧ ¬ ((255 : Int32) < ((x &&& (255 : Int32)).toUInt32.toUInt16.toUInt32.toInt32)) := by
  have h := c_and x 255 (by decide); have k := c_i2c (x &&& 255)
  have a : (0 : Int32).toInt = 0 := rfl; have b : (255 : Int32).toInt = 255 := rfl
  rw [Int32.lt_iff_toInt_lt, Int32.lt_iff_toInt_lt]; omega
def B8 (c : Int32) : Prop := ¬ (c < (0 : Int32)) ∧ ¬ ((255 : Int32) < c)
instance (c : Int32) : Decidable (B8 c) := inferInstanceAs (Decidable (_ ∧ _))
theorem B8.w {c : Int32} (h : B8 c) : ¬ (c < (0 : Int32)) ∧ ¬ ((65535 : Int32) < c) := by
  obtain ⟨h0, h1⟩ := h; refine ⟨h0, ?_⟩
  have z : (255 : Int32).toInt = 255 := rfl; have y : (65535 : Int32).toInt = 65535 := rfl
  rw [Int32.lt_iff_toInt_lt] at *; omega
theorem own_nar8 {c : Int32} (h : B8 c) : nar .char c = c := own_narc h.w.1 h.w.2
theorem own_okl {l : List Int32} (h : ∀ c ∈ l, B8 c) (hl : l.length < 1048576) : OkS l ∧ lat l = true := ⟨⟨fun c hc => (h c hc).w, hl⟩, List.all_eq_true.mpr fun c hc => by simpa using (h c hc).2⟩
def lt (k : Int32) : List Int32 := if k = (0 : Int32) then jn0 else if k = (1 : Int32) then jn1 else if k = (2 : Int32) then jn2 else if k = (3 : Int32) then jn3 else jn4
def K5 (k : Int32) : Prop := k = 0 ∨ k = 1 ∨ k = 2 ∨ k = 3 ∨ k = 4
theorem lt_len (k : Int32) : (lt k).length = 4 := by
  unfold lt; repeat' split
  all_goals rfl
theorem lt_b8 (k : Int32) : ∀ c ∈ lt k, B8 c := by
  unfold lt; repeat' split
  all_goals decide
theorem lt_at (k : Int32) (i : Nat) (h : i < 4) : B8 ((lt k).getD i 0) := lt_b8 k _ (getD_mem (by rw [lt_len]; exact h))
theorem lt_lat (k : Int32) : lat (lt k) = true := (own_okl (lt_b8 k) (by rw [lt_len]; decide)).2
theorem own_k5 {k : Int32} (h : k = 0 ∨ k = 1 ∨ k = 2 ∨ k = 3 ∨ k = 4 ∨ k = 5 ∨ k = 6) (h5 : k < (5 : Int32)) : K5 k := by
  rcases h with rfl | rfl | rfl | rfl | rfl | rfl | rfl
  · exact Or.inl rfl
  · exact Or.inr (Or.inl rfl)
  · exact Or.inr (Or.inr (Or.inl rfl))
  · exact Or.inr (Or.inr (Or.inr (Or.inl rfl)))
  · exact Or.inr (Or.inr (Or.inr (Or.inr rfl)))
  · exact absurd h5 (by decide)
  · exact absurd h5 (by decide)
def B85 (x0 x1 x2 x3 x4 : Int32) : Prop := ∀ c ∈ [x0, x1, x2, x3, x4], B8 c
theorem B85.tk {x0 x1 x2 x3 x4 : Int32} (h : B85 x0 x1 x2 x3 x4) (n : Nat) : OkS ([x0, x1, x2, x3, x4].take n) ∧ lat ([x0, x1, x2, x3, x4].take n) = true :=
  own_okl (fun c hc => h c (List.mem_of_mem_take hc)) (by have := List.length_take_le n [x0, x1, x2, x3, x4]; simp at this ⊢; omega)
theorem own_b5 {x0 x1 x2 x3 x4 : Int32} (h0 : B8 x0) (h1 : B8 x1) (h2 : B8 x2) (h3 : B8 x3) (h4 : B8 x4) : B85 x0 x1 x2 x3 x4 := fun c hc => by
  simp only [List.mem_cons, List.not_mem_nil, or_false] at hc
  rcases hc with rfl | rfl | rfl | rfl | rfl <;> assumption
theorem own_set5 {x0 x1 x2 x3 x4 c : Int32} (h : B85 x0 x1 x2 x3 x4) (hc : B8 c) (p : Nat) : ∃ y0 y1 y2 y3 y4 : Int32, [Value.int x0, .int x1, .int x2, .int x3, .int x4].set p (.int c) = [.int y0, .int y1, .int y2, .int y3, .int y4] ∧ B85 y0 y1 y2 y3 y4 := by
  have g := fun z q => h z q
  simp only [B85, List.mem_cons, List.not_mem_nil, or_false, forall_eq_or_imp, forall_eq] at h
  obtain ⟨a0, a1, a2, a3, a4⟩ := h
  match p with
  | 0 => exact ⟨c, x1, x2, x3, x4, rfl, own_b5 hc a1 a2 a3 a4⟩
  | 1 => exact ⟨x0, c, x2, x3, x4, rfl, own_b5 a0 hc a2 a3 a4⟩
  | 2 => exact ⟨x0, x1, c, x3, x4, rfl, own_b5 a0 a1 hc a3 a4⟩
  | 3 => exact ⟨x0, x1, x2, c, x4, rfl, own_b5 a0 a1 a2 hc a4⟩
  | 4 => exact ⟨x0, x1, x2, x3, c, rfl, own_b5 a0 a1 a2 a3 hc⟩
  | n + 5 => exact ⟨x0, x1, x2, x3, x4, rfl, g⟩
theorem own_r7 (x : Int32) : (x &&& (2147483647 : Int32)) % (7 : Int32) = 0 ∨ (x &&& (2147483647 : Int32)) % (7 : Int32) = 1 ∨ (x &&& (2147483647 : Int32)) % (7 : Int32) = 2 ∨ (x &&& (2147483647 : Int32)) % (7 : Int32) = 3 ∨ (x &&& (2147483647 : Int32)) % (7 : Int32) = 4 ∨ (x &&& (2147483647 : Int32)) % (7 : Int32) = 5 ∨ (x &&& (2147483647 : Int32)) % (7 : Int32) = 6 := by
  have h1 := c_and x 2147483647 (by decide); have h2 := (c_irem (x &&& 2147483647) 7 7 rfl).1 h1.1
  have a : (0 : Int32).toInt = 0 := rfl; have b : (1 : Int32).toInt = 1 := rfl; have c : (2 : Int32).toInt = 2 := rfl; have d : (3 : Int32).toInt = 3 := rfl; have e : (4 : Int32).toInt = 4 := rfl; have f : (5 : Int32).toInt = 5 := rfl; have g : (6 : Int32).toInt = 6 := rfl
  simp only [← Int32.toInt_inj]; omega
theorem own_n6 (x : Int32) : N6 ((x &&& (7 : Int32)) % (6 : Int32)) := by
  have h1 := c_and x 7 (by decide); have h2 := (c_irem (x &&& 7) 6 6 rfl).1 h1.1
  have a : (0 : Int32).toInt = 0 := rfl; have b : (1 : Int32).toInt = 1 := rfl; have c : (2 : Int32).toInt = 2 := rfl; have d : (3 : Int32).toInt = 3 := rfl; have e : (4 : Int32).toInt = 4 := rfl; have f : (5 : Int32).toInt = 5 := rfl
  unfold N6; simp only [← Int32.toInt_inj]; omega
theorem own_n6' (c : Prop) [Decidable c] (x : Int32) : N6 (if c then (4 : Int32) else (x &&& (7 : Int32)) % (6 : Int32)) := by
  split
  · exact Or.inr (Or.inr (Or.inr (Or.inr (Or.inl rfl))))
  · exact own_n6 x
theorem own_p5 (x : Int32) : (¬ ((x &&& (7 : Int32)) % (5 : Int32) < (0 : Int32)) ∧ (x &&& (7 : Int32)) % (5 : Int32) < (5 : Int32)) ∧ ((x &&& (7 : Int32)) % (5 : Int32)).toNatClampNeg < 5 := by
  have h1 := c_and x 7 (by decide); have h2 := (c_irem (x &&& 7) 5 5 rfl).1 h1.1
  have a : (0 : Int32).toInt = 0 := rfl; have b : (5 : Int32).toInt = 5 := rfl
  refine ⟨⟨by rw [Int32.lt_iff_toInt_lt]; omega, by rw [Int32.lt_iff_toInt_lt]; omega⟩, ?_⟩
  show ((x &&& (7 : Int32)) % (5 : Int32)).toInt.toNat < 5
  omega
theorem own_nSA {a0 : Array Value} {Z : State} {h : Heap} {r t b : Addr} {kb kc : ClassId} {z : Int32} {vs : List Value} {dv : Value} {cs : List Int32} {n : Nat} (w : (Jvm.Cond.instantiable "java/lang/String" n).before a0 Z = true) (S : Str Z h r t kb cs) (A : Arv Z h b kc .char z vs dv) : r ≠ b ∧ t ≠ b := by
  obtain ⟨cb, ⟨A1, ⟨-, kA, hkA, compA, hkA2⟩, -⟩, -⟩ := A
  obtain ⟨⟨cell, k, e1, e2, e3, -, -⟩, -, -, ⟨ct, ⟨B1, ⟨-, kB, hkB, compB, hkB2⟩, -⟩, -⟩, -⟩ := S
  refine ⟨fun e => ?_, fun e => ?_⟩
  · subst e; cases e1.symm.trans A1
    obtain ⟨c, k', hc, hk', hkind, -⟩ := Cond.instantiable_spec w
    cases hc.symm.trans e2; cases hk'.symm.trans hkA
    have := hkind.symm.trans hkA2; cases this
  · subst e; cases B1.symm.trans A1; cases hkB.symm.trans hkA
    have := hkB2.symm.trans hkA2; injection this with _ e; cases e
def Q_pcheck (Z : State) (j : Int32) (z : Int32) (fm : Value) (h0 : Heap) (n0 : Nat) (vQ_ : Option Value) (hQ_ : Heap) (LQ_ : List Loc) : Prop := vQ_ = some (.int j) ∧ Fr n0 LQ_ ∧ hQ_ = h0
set_option maxRecDepth 65536 in
set_option maxHeartbeats 40000000 in
theorem rm_pcheck (l : Launch) (Z : State) (a0 : Array Value) (hw : HW a0 Z) (ws : List Jvm.Cond) (j : Int32) (z : Int32) (fm : Value) (h0 : Heap) (n0 : Nat) (Z0 : n0 ≤ h0.size) (hfm : fm.isRef = true) (hj0 : ¬ (j < (0 : Int32))) (hj1 : j < z) :
    MetFree l yn0 (head1 (Jvm.Cond.code yn0 jdk_41_method_11_code 3 (some .int) :: ws) ({ frames := 0, cells := 0, slots := 0, locals := 0 } : Room)) (fun aQ_ UQ => aQ_ = #[(.int j), (.int z), fm] ∧ Z.Warmed39 UQ.vm ∧ UQ.heap = h0) (fun _ _ _ _ _ => True) (fun _ UQ oQ UQ' => ∃ vQ_ LQ_, oQ = .returned vQ_ ∧ Q_pcheck Z j z fm h0 n0 vQ_ UQ'.heap LQ_ ∧ FrameEnd UQ oQ UQ' LQ_ ({ frames := 0, cells := 0, slots := 0, locals := 0 } : Room).cells ({ frames := 0, cells := 0, slots := 0, locals := 0 } : Room).slots) := by
  refine MetFree.of_bodySF (plainFor_of_name pn_jdk_internal_util_Preconditions) hisR ?_
  intro p e s m args below meth cO s₁ Bd hml0 hP hK
  obtain ⟨rfl, hZ, hh⟩ := hP
  have hx := Bd.exec
  have hby := Bd.bytes
  have hml : cO.maxLocals = 3 := hml0
  have hown : s.vm.findClass "jdk/internal/util/Preconditions" = some m.cls := findClass_of_methodNamed Bd.named
  have hnm := (name_of_methodNamed Bd.named Bd.method).1
  have X0 : Stand p l e ({ frames := 0, cells := 0, slots := 0, locals := 0 } : Room) s m #[(.int j), (.int z), fm] below meth cO s₁ [] 0 0 := Stand.of_body Bd
  have e0 : s₁.heap = h0 := by rw [← hh, Bd.state]; rfl
  have N0 := Fr.nil n0
  have W0 : ∀ zQ, SS p e below s₁ m 0 #[.val (.int j), .val (.int z), .val fm] [] zQ → Steps p.tables e below (s₁.setTop (entryFrame m #[(.int j), (.int z), fm] 3)) zQ := fun tt kt => castTop (ef_pcheck m j z fm (XT.cat1 hfm)) kt
  have W101 : ∀ zQ, SS p e below s₁ m 17 #[.val (.int j), .val (.int z), .val fm] [(.int j)] zQ → Steps p.tables e below (s₁.setTop (entryFrame m #[(.int j), (.int z), fm] 3)) zQ := by
    intro tt kt
    refine W0 tt ?_
    refine XS.iloadN X0.here hx rfl (hb hby d_jdk_41_method_11_0) rfl ?_
    refine XS.ifNo X0.here hx rfl (hb hby d_jdk_41_method_11_1) rfl ((if0 _ _).trans (flt hj0).1) ?_
    refine XS.iloadN X0.here hx rfl (hb hby d_jdk_41_method_11_4) rfl ?_
    refine XS.iloadN X0.here hx rfl (hb hby d_jdk_41_method_11_5) rfl ?_
    refine XS.icmpYes X0.here hx rfl (pc0 := 6) (pc' := 16) rfl (hb hby d_jdk_41_method_11_6) rfl (tlt hj1).1 (by decide) (by decide) ?_
    refine XS.iloadN X0.here hx rfl (hb hby d_jdk_41_method_11_16) rfl ?_
    exact kt
  obtain ⟨fs, hr, hrun, hended, hW, hsame⟩ := X0.leave (v := some (.int j)) (fun h => by rw [Bd.returns] at h; cases h)
  refine ⟨_, _, W101 _ (retI X0 hx Bd.returns (hb hby d_jdk_41_method_11_17) hr), hrun, hended, _, _, rfl, ?_, ⟨_, rfl⟩, hW, hsame.mono (by decide) (by decide)⟩
  show Q_pcheck Z j z fm h0 n0 _ s₁.heap _
  rw [e0]
  exact ⟨rfl, N0, rfl⟩
def Q_scheck (Z : State) (j : Int32) (z : Int32) (fm : Value) (h0 : Heap) (n0 : Nat) (vQ_ : Option Value) (hQ_ : Heap) (LQ_ : List Loc) : Prop := vQ_ = none ∧ Fr n0 LQ_ ∧ hQ_ = h0
set_option maxRecDepth 65536 in
set_option maxHeartbeats 40000000 in
theorem rm_scheck (l : Launch) (Z : State) (a0 : Array Value) (hw : HW a0 Z) (ws : List Jvm.Cond) (j : Int32) (z : Int32) (fm : Value) (h0 : Heap) (n0 : Nat) (Z0 : n0 ≤ h0.size) (O0 : Old Z n0 h0) (S_fm : Sta Z Z.heap "jdk/internal/util/Preconditions" "SIOOBE_FORMATTER" "Ljava/util/function/BiFunction;" fm) (hfm : fm.isRef = true) (hj0 : ¬ (j < (0 : Int32))) (hj1 : j < z) :
    MetFree l yn1 (head1 (Jvm.Cond.code yn1 jdk_42_method_155_code 2 none :: ws) ({ frames := 1, cells := 0, slots := 0, locals := 14 } : Room)) (fun aQ_ UQ => aQ_ = #[(.int j), (.int z)] ∧ Z.Warmed39 UQ.vm ∧ UQ.heap = h0) (fun _ _ _ _ _ => True) (fun _ UQ oQ UQ' => ∃ vQ_ LQ_, oQ = .returned vQ_ ∧ Q_scheck Z j z fm h0 n0 vQ_ UQ'.heap LQ_ ∧ FrameEnd UQ oQ UQ' LQ_ ({ frames := 1, cells := 0, slots := 0, locals := 14 } : Room).cells ({ frames := 1, cells := 0, slots := 0, locals := 14 } : Room).slots) := by
  refine MetFree.of_bodySF (plainFor_of_name pn_java_lang_String) hisR ?_
  intro p e s m args below meth cO s₁ Bd hml0 hP hK
  obtain ⟨rfl, hZ, hh⟩ := hP
  have hx := Bd.exec
  have hby := Bd.bytes
  have hml : cO.maxLocals = 2 := hml0
  have hown : s.vm.findClass "java/lang/String" = some m.cls := findClass_of_methodNamed Bd.named
  have hnm := (name_of_methodNamed Bd.named Bd.method).1
  have X0 : Stand p l e ({ frames := 1, cells := 0, slots := 0, locals := 14 } : Room) s m #[(.int j), (.int z)] below meth cO s₁ [] 0 0 := Stand.of_body Bd
  have e0 : s₁.heap = h0 := by rw [← hh, Bd.state]; rfl
  have N0 := Fr.nil n0
  have W0 : ∀ zQ, SS p e below s₁ m 0 #[.val (.int j), .val (.int z)] [] zQ → Steps p.tables e below (s₁.setTop (entryFrame m #[(.int j), (.int z)] 2)) zQ := fun tt kt => castTop (ef_scheck m j z) kt
  have F102 : Sta Z h0 "jdk/internal/util/Preconditions" "SIOOBE_FORMATTER" "Ljava/util/function/BiFunction;" fm := S_fm.ext O0.2
  obtain ⟨T101, X101, e101, st101⟩ := getS2 X0 hx hZ hown (host := "") (Or.inl (w34 hw)) Via.refl e0 F102 (g := (mkF m 2 #[.val (.int j), .val (.int z)] [(.int z), (.int j)])) rfl (hb hby d_jdk_42_method_155_2)
  obtain ⟨_, _, ⟨T103, L103, k103, n103⟩, -, X103, ⟨Lc103, hQ103, l103, y103, z103⟩, st103⟩ := Jvm.LawKit.callS X101 hx (y := yn0) hown (mvT hZ (w36 hw)) (mvT hZ (w37 hw)) (mvT hZ (w35 hw)) (mvT hZ (w38 hw)) (by decide) (backOf (W := 0) (rm_pcheck l Z a0 hw [] j z fm h0 n0 Z0 hfm hj0 hj1) hZ (w38 hw) (w35 hw) (by decide) (by decide)) (g := (mkF m 5 #[.val (.int j), .val (.int z)] [fm, (.int z), (.int j)])) rfl (by rw [hml]; rfl) (argsL := [(.int j), (.int z), fm]) (rest := []) (lenOf pd__28_IILjava_2f_util_2f_function_2f_BiFunction_3b__29_I rfl) rfl (by show 2 * 0 + _ ≤ _; exact Nat.le_of_eq rfl) (hb hby d_jdk_42_method_155_5) (fun _ _ => ⟨rfl, e101, (Nat.le_of_ble_eq_true rfl), (Nat.le_of_ble_eq_true rfl)⟩)
  dsimp only [Pt.U, Pt.locs, Pt.cells, Pt.slots] at X103 l103 y103 z103 st103 hQ103
  subst l103 y103 z103
  obtain ⟨rfl, Nq103, eq103⟩ := hQ103
  have N103 := Fr.app N0 Nq103
  have W104 : ∀ zQ, SS p e below T103 m 9 #[.val (.int j), .val (.int z)] [] zQ → Steps p.tables e below (s₁.setTop (entryFrame m #[(.int j), (.int z)] 2)) zQ := by
    intro tt kt
    refine W0 tt ?_
    refine XS.iloadN X0.here hx rfl (hb hby d_jdk_42_method_155_0) rfl ?_
    refine XS.iloadN X0.here hx rfl (hb hby d_jdk_42_method_155_1) rfl ?_
    show SS p e below s₁ m 2 #[.val (.int j), .val (.int z)] [(.int z), (.int j)] _
    refine st101 _ ?_
    show SS p e below T101 m 5 #[.val (.int j), .val (.int z)] [fm, (.int z), (.int j)] _
    refine st103 _ ?_
    refine XS.pop X103.here hx rfl (hb hby d_jdk_42_method_155_8) rfl rfl ?_
    exact kt
  obtain ⟨fs, hr, hrun, hended, hW, hsame⟩ := X103.leave (v := none) (fun _ => rfl)
  refine ⟨_, _, W104 _ (X103.returnOut hx Bd.returns (hb hby d_jdk_42_method_155_9) hr), hrun, hended, _, _, rfl, ?_, ⟨_, rfl⟩, hW, hsame.mono (by decide) (by decide)⟩
  show Q_scheck Z j z fm h0 n0 _ T103.heap _
  rw [eq103]
  exact ⟨rfl, N103, rfl⟩
def Q_l1charAt (Z : State) (t : Addr) (i : Nat) (kb : ClassId) (cs : List Int32) (fm : Value) (h0 : Heap) (n0 : Nat) (vQ_ : Option Value) (hQ_ : Heap) (LQ_ : List Loc) : Prop := vQ_ = some (.int (cs.getD i 0)) ∧ Fr n0 LQ_ ∧ hQ_ = h0
set_option maxRecDepth 65536 in
set_option maxHeartbeats 40000000 in
theorem rm_l1charAt (l : Launch) (Z : State) (a0 : Array Value) (hw : HW a0 Z) (ws : List Jvm.Cond) (t : Addr) (i : Nat) (kb : ClassId) (cs : List Int32) (fm : Value) (h0 : Heap) (n0 : Nat) (Z0 : n0 ≤ h0.size) (O0 : Old Z n0 h0) (S_fm : Sta Z Z.heap "jdk/internal/util/Preconditions" "SIOOBE_FORMATTER" "Ljava/util/function/BiFunction;" fm) (hfm : fm.isRef = true) (A1 : Arv Z h0 t kb .byte (Int32.ofNat cs.length) (l1 cs) (.int (0 : Int32))) (hi : i < cs.length) (ok : OkS cs) (hl : lat cs = true) :
    MetFree l yn2 (head1 (Jvm.Cond.code yn2 jdk_43_method_2_code 2 (some .char) :: ws) ({ frames := 2, cells := 0, slots := 0, locals := 27 } : Room)) (fun aQ_ UQ => aQ_ = #[(.ref t), (.int (Int32.ofNat i))] ∧ Z.Warmed39 UQ.vm ∧ UQ.heap = h0) (fun _ _ _ _ _ => True) (fun _ UQ oQ UQ' => ∃ vQ_ LQ_, oQ = .returned vQ_ ∧ Q_l1charAt Z t i kb cs fm h0 n0 vQ_ UQ'.heap LQ_ ∧ FrameEnd UQ oQ UQ' LQ_ ({ frames := 2, cells := 0, slots := 0, locals := 27 } : Room).cells ({ frames := 2, cells := 0, slots := 0, locals := 27 } : Room).slots) := by
  refine MetFree.of_bodySF (plainFor_of_name pn_java_lang_StringLatin1) hisR ?_
  intro p e s m args below meth cO s₁ Bd hml0 hP hK
  obtain ⟨rfl, hZ, hh⟩ := hP
  have hx := Bd.exec
  have hby := Bd.bytes
  have hml : cO.maxLocals = 2 := hml0
  have hown : s.vm.findClass "java/lang/StringLatin1" = some m.cls := findClass_of_methodNamed Bd.named
  have hnm := (name_of_methodNamed Bd.named Bd.method).1
  have X0 : Stand p l e ({ frames := 2, cells := 0, slots := 0, locals := 27 } : Room) s m #[(.ref t), (.int (Int32.ofNat i))] below meth cO s₁ [] 0 0 := Stand.of_body Bd
  have e0 : s₁.heap = h0 := by rw [← hh, Bd.state]; rfl
  have N0 := Fr.nil n0
  have W0 : ∀ zQ, SS p e below s₁ m 0 #[.val (.ref t), .val (.int (Int32.ofNat i))] [] zQ → Steps p.tables e below (s₁.setTop (entryFrame m #[(.ref t), (.int (Int32.ofNat i))] 2)) zQ := fun tt kt => castTop (ef_l1charAt m t (Int32.ofNat i)) kt
  obtain ⟨cl101, Ar101, -, S101, M101, -, -⟩ := id A1
  obtain ⟨_, _, ⟨T102, L102, k102, n102⟩, -, X102, ⟨Lc102, hQ102, l102, y102, z102⟩, st102⟩ := Jvm.LawKit.callS X0 hx (y := yn1) hown (mvT hZ (w31 hw)) (mvT hZ (w32 hw)) (mvT hZ (w7 hw)) (mvT hZ (w33 hw)) (by decide) (backOf (W := 0) (rm_scheck l Z a0 hw [] (Int32.ofNat i) (Int32.ofNat cs.length) fm h0 n0 Z0 O0 S_fm hfm (own_nneg (Nat.lt_trans hi (Nat.lt_trans ok.2 (by decide)))) (own_lt hi (Nat.lt_trans ok.2 (by decide)))) hZ (w33 hw) (w7 hw) (by decide) (by decide)) (g := (mkF m 3 #[.val (.ref t), .val (.int (Int32.ofNat i))] [(.int (Int32.ofNat cs.length)), (.int (Int32.ofNat i))])) rfl (by rw [hml]; rfl) (argsL := [(.int (Int32.ofNat i)), (.int (Int32.ofNat cs.length))]) (rest := []) (lenOf pd__28_II_29_V rfl) rfl (by show 2 * 0 + _ ≤ _; exact Nat.le_of_eq rfl) (hb hby d_jdk_43_method_2_3) (fun _ _ => ⟨rfl, e0, (Nat.le_of_ble_eq_true rfl), (Nat.le_of_ble_eq_true rfl)⟩)
  dsimp only [Pt.U, Pt.locs, Pt.cells, Pt.slots] at X102 l102 y102 z102 st102 hQ102
  subst l102 y102 z102
  obtain ⟨rfl, Nq102, eq102⟩ := hQ102
  have N102 := Fr.app N0 Nq102
  obtain ⟨cl103, Ar103, q103, S103, M103, H103, F103g⟩ := id A1
  have hin103 : ¬ ((Int32.ofNat i) < 0 ∨ cl103.slots.size ≤ ((Int32.ofNat i)).toNatClampNeg) := inb_of S103 ⟨own_nneg (Nat.lt_trans hi (Nat.lt_trans ok.2 (by decide))), own_lt hi (Nat.lt_trans ok.2 (by decide))⟩
  have hat103 : cl103.slots[((Int32.ofNat i)).toNatClampNeg]? = some (.int ((cs.getD i 0).toInt8.toInt32)) := Has.at H103 hin103 (by rw [own_cl (Nat.lt_trans hi (Nat.lt_trans ok.2 (by decide)))]; exact l1_at cs i _ hi)
  have W104 : ∀ zQ, SS p e below T102 m 14 #[.val (.ref t), .val (.int (Int32.ofNat i))] [(.int ((((cs.getD i 0).toInt8.toInt32) &&& (255 : Int32)).toUInt32.toUInt16.toUInt32.toInt32))] zQ → Steps p.tables e below (s₁.setTop (entryFrame m #[(.ref t), (.int (Int32.ofNat i))] 2)) zQ := by
    intro tt kt
    refine W0 tt ?_
    refine XS.iloadN X0.here hx rfl (hb hby d_jdk_43_method_2_0) rfl ?_
    refine XS.aloadN X0.here hx rfl (hb hby d_jdk_43_method_2_1) rfl rfl ?_
    show SS p e below s₁ m 2 #[.val (.ref t), .val (.int (Int32.ofNat i))] [(.ref t), (.int (Int32.ofNat i))] _
    refine X0.arraylength hx (by first | exact Ar101.1 | (rw [e0]; exact Ar101.1)) (State.isArrayOf_alike hZ.alike Ar101.2.1) (g := (mkF m 2 #[.val (.ref t), .val (.int (Int32.ofNat i))] [(.ref t), (.int (Int32.ofNat i))])) rfl rfl (hb hby d_jdk_43_method_2_2) _ ?_
    rw [len_of S101 M101]
    show SS p e below s₁ m 3 #[.val (.ref t), .val (.int (Int32.ofNat i))] [(.int (Int32.ofNat cs.length)), (.int (Int32.ofNat i))] _
    refine st102 _ ?_
    refine XS.aloadN X102.here hx rfl (hb hby d_jdk_43_method_2_6) rfl rfl ?_
    refine XS.iloadN X102.here hx rfl (hb hby d_jdk_43_method_2_7) rfl ?_
    show SS p e below T102 m 8 #[.val (.ref t), .val (.int (Int32.ofNat i))] [(.int (Int32.ofNat i)), (.ref t)] _
    refine X102.baloadBytes hx (j := (Int32.ofNat i)) (v := (.int ((cs.getD i 0).toInt8.toInt32))) (by first | exact Ar103.1 | (rw [eq102]; exact Ar103.1)) (State.isArrayOf_alike hZ.alike Ar103.2.1) Ar103.2.2 hin103 hat103 (g := (mkF m 8 #[.val (.ref t), .val (.int (Int32.ofNat i))] [(.int (Int32.ofNat i)), (.ref t)])) rfl rfl (hb hby d_jdk_43_method_2_8) _ ?_
    refine XS.sipush X102.here hx rfl (hb hby d_jdk_43_method_2_9) ?_
    refine XS.iand X102.here hx rfl (hb hby d_jdk_43_method_2_12) rfl ?_
    refine XS.i2c X102.here hx rfl (hb hby d_jdk_43_method_2_13) rfl ?_
    exact kt
  obtain ⟨fs, hr, hrun, hended, hW, hsame⟩ := X102.leave (v := some (.int (nar .char ((((cs.getD i 0).toInt8.toInt32) &&& (255 : Int32)).toUInt32.toUInt16.toUInt32.toInt32)))) (fun h => by rw [Bd.returns] at h; cases h)
  refine ⟨_, _, W104 _ (retN X102 hx (t := .char) Bd.returns (by simp) (hb hby d_jdk_43_method_2_14) hr), hrun, hended, _, _, rfl, ?_, ⟨_, rfl⟩, hW, hsame.mono (by decide) (by decide)⟩
  show Q_l1charAt Z t i kb cs fm h0 n0 _ T102.heap _
  rw [eq102]
  exact ⟨(congrArg (fun q => some (Value.int q)) (own_l1c (ok.at hi).1 (lat_at hl hi))), N102, rfl⟩
def Q_isLatin1 (Z : State) (a : Addr) (w : Int32) (cS : Int32) (h0 : Heap) (n0 : Nat) (vQ_ : Option Value) (hQ_ : Heap) (LQ_ : List Loc) : Prop := vQ_ = some (.int (if w = (0 : Int32) then (1 : Int32) else (0 : Int32))) ∧ Fr n0 LQ_ ∧ hQ_ = h0
set_option maxRecDepth 65536 in
set_option maxHeartbeats 40000000 in
theorem rm_isLatin1 (l : Launch) (Z : State) (a0 : Array Value) (hw : HW a0 Z) (ws : List Jvm.Cond) (a : Addr) (w : Int32) (cS : Int32) (h0 : Heap) (n0 : Nat) (Z0 : n0 ≤ h0.size) (O0 : Old Z n0 h0) (S_cs : Sta Z Z.heap "java/lang/String" "COMPACT_STRINGS" "Z" (.int cS)) (hcS : ¬ (cS = (0 : Int32))) (F1 : Fld Z h0 a "java/lang/String" "coder" "B" (.int w)) :
    MetFree l yn3 (head1 (Jvm.Cond.code yn3 jdk_42_method_154_code 1 (some .boolean) :: ws) ({ frames := 0, cells := 0, slots := 0, locals := 0 } : Room)) (fun aQ_ UQ => aQ_ = #[(.ref a)] ∧ Z.Warmed39 UQ.vm ∧ UQ.heap = h0) (fun _ _ _ _ _ => True) (fun _ UQ oQ UQ' => ∃ vQ_ LQ_, oQ = .returned vQ_ ∧ Q_isLatin1 Z a w cS h0 n0 vQ_ UQ'.heap LQ_ ∧ FrameEnd UQ oQ UQ' LQ_ ({ frames := 0, cells := 0, slots := 0, locals := 0 } : Room).cells ({ frames := 0, cells := 0, slots := 0, locals := 0 } : Room).slots) := by
  refine MetFree.of_bodySF (plainFor_of_name pn_java_lang_String) hisR ?_
  intro p e s m args below meth cO s₁ Bd hml0 hP hK
  obtain ⟨rfl, hZ, hh⟩ := hP
  have hx := Bd.exec
  have hby := Bd.bytes
  have hml : cO.maxLocals = 1 := hml0
  have hown : s.vm.findClass "java/lang/String" = some m.cls := findClass_of_methodNamed Bd.named
  have hnm := (name_of_methodNamed Bd.named Bd.method).1
  have X0 : Stand p l e ({ frames := 0, cells := 0, slots := 0, locals := 0 } : Room) s m #[(.ref a)] below meth cO s₁ [] 0 0 := Stand.of_body Bd
  have e0 : s₁.heap = h0 := by rw [← hh, Bd.state]; rfl
  have N0 := Fr.nil n0
  have W0 : ∀ zQ, SS p e below s₁ m 0 #[.val (.ref a)] [] zQ → Steps p.tables e below (s₁.setTop (entryFrame m #[(.ref a)] 1)) zQ := fun tt kt => castTop (ef_isLatin1 m a) kt
  have F102 : Sta Z h0 "java/lang/String" "COMPACT_STRINGS" "Z" (.int cS) := S_cs.ext O0.2
  obtain ⟨T101, X101, e101, st101⟩ := getS2 X0 hx hZ hown (host := "") (Or.inl (w24 hw)) Via.refl e0 F102 (g := (mkF m 0 #[.val (.ref a)] [])) rfl (hb hby d_jdk_42_method_154_0)
  obtain ⟨T103, X103, e103, st103⟩ := getF X101 hx hZ hown (host := "") (Or.inl (w25 hw)) Via.refl e101 F1 (g := (mkF m 7 #[.val (.ref a)] [(.ref a)])) rfl rfl (hb hby d_jdk_42_method_154_7)
  have W104 : ∀ zQ, SS p e below T103 m 10 #[.val (.ref a)] [(.int w)] zQ → Steps p.tables e below (s₁.setTop (entryFrame m #[(.ref a)] 1)) zQ := by
    intro tt kt
    refine W0 tt ?_
    refine st101 _ ?_
    refine XS.ifNo X101.here hx rfl (hb hby d_jdk_42_method_154_3) rfl ((if0 _ _).trans (feq hcS).1) ?_
    refine XS.aloadN X101.here hx rfl (hb hby d_jdk_42_method_154_6) rfl rfl ?_
    show SS p e below T101 m 7 #[.val (.ref a)] [(.ref a)] _
    refine st103 _ ?_
    exact kt
  have W106 : ∀ zQ, SS p e below T103 m 18 #[.val (.ref a)] [(.int (if w = (0 : Int32) then (1 : Int32) else (0 : Int32)))] zQ → Steps p.tables e below (s₁.setTop (entryFrame m #[(.ref a)] 1)) zQ := by
    intro tt kt
    refine W104 tt ?_
    by_cases hj105 : w = (0 : Int32)
    ·
      refine XS.ifNo X103.here hx rfl (hb hby d_jdk_42_method_154_10) rfl ((if0 _ _).trans (teq hj105).2) ?_
      refine XS.iconst X103.here hx rfl (hb hby d_jdk_42_method_154_13) ?_
      refine XS.goto X103.here hx rfl (pc0 := 14) (pc' := 18) rfl (hb hby d_jdk_42_method_154_14) (by decide) (by decide) ?_
      exact castTop (by first | rfl | (simp only [if_pos hj105]; first | done | rfl)) kt
    ·
      refine XS.ifYes X103.here hx rfl (pc0 := 10) (pc' := 17) rfl (hb hby d_jdk_42_method_154_10) rfl ((if0 _ _).trans (feq hj105).2) (by decide) (by decide) ?_
      refine XS.iconst X103.here hx rfl (hb hby d_jdk_42_method_154_17) ?_
      exact castTop (by first | rfl | (simp only [if_neg hj105]; first | done | rfl)) kt
  obtain ⟨fs, hr, hrun, hended, hW, hsame⟩ := X103.leave (v := some (.int (nar .boolean (if w = (0 : Int32) then (1 : Int32) else (0 : Int32))))) (fun h => by rw [Bd.returns] at h; cases h)
  refine ⟨_, _, W106 _ (retN X103 hx (t := .boolean) Bd.returns (by simp) (hb hby d_jdk_42_method_154_18) hr), hrun, hended, _, _, rfl, ?_, ⟨_, rfl⟩, hW, hsame.mono (by decide) (by decide)⟩
  show Q_isLatin1 Z a w cS h0 n0 _ T103.heap _
  rw [e103]
  exact ⟨(congrArg (fun q => some (Value.int q)) own_bool), N0, rfl⟩
def Q_charAt (Z : State) (a : Addr) (i : Nat) (t : Addr) (kb : ClassId) (cs : List Int32) (cS : Int32) (fm : Value) (h0 : Heap) (n0 : Nat) (vQ_ : Option Value) (hQ_ : Heap) (LQ_ : List Loc) : Prop := vQ_ = some (.int (cs.getD i 0)) ∧ Fr n0 LQ_ ∧ hQ_ = h0
set_option maxRecDepth 65536 in
set_option maxHeartbeats 40000000 in
theorem rm_charAt (l : Launch) (Z : State) (a0 : Array Value) (hw : HW a0 Z) (ws : List Jvm.Cond) (a : Addr) (i : Nat) (t : Addr) (kb : ClassId) (cs : List Int32) (cS : Int32) (fm : Value) (h0 : Heap) (n0 : Nat) (Z0 : n0 ≤ h0.size) (O0 : Old Z n0 h0) (S_cs : Sta Z Z.heap "java/lang/String" "COMPACT_STRINGS" "Z" (.int cS)) (hcS : ¬ (cS = (0 : Int32))) (S_fm : Sta Z Z.heap "jdk/internal/util/Preconditions" "SIOOBE_FORMATTER" "Ljava/util/function/BiFunction;" fm) (hfm : fm.isRef = true) (hS : Str Z h0 a t kb cs) (hi : i < cs.length) (hlat : lat cs = true) :
    MetFree l yn4 (head1 (Jvm.Cond.code yn4 jdk_42_method_56_code 2 (some .char) :: ws) ({ frames := 3, cells := 0, slots := 0, locals := 40 } : Room)) (fun aQ_ UQ => aQ_ = #[(.ref a), (.int (Int32.ofNat i))] ∧ Z.Warmed39 UQ.vm ∧ UQ.heap = h0) (fun _ _ _ _ _ => True) (fun _ UQ oQ UQ' => ∃ vQ_ LQ_, oQ = .returned vQ_ ∧ Q_charAt Z a i t kb cs cS fm h0 n0 vQ_ UQ'.heap LQ_ ∧ FrameEnd UQ oQ UQ' LQ_ ({ frames := 3, cells := 0, slots := 0, locals := 40 } : Room).cells ({ frames := 3, cells := 0, slots := 0, locals := 40 } : Room).slots) := by
  refine MetFree.of_bodySF (plainFor_of_name pn_java_lang_String) hisR ?_
  intro p e s m args below meth cO s₁ Bd hml0 hP hK
  obtain ⟨rfl, hZ, hh⟩ := hP
  have hx := Bd.exec
  have hby := Bd.bytes
  have hml : cO.maxLocals = 2 := hml0
  have hown : s.vm.findClass "java/lang/String" = some m.cls := findClass_of_methodNamed Bd.named
  have hnm := (name_of_methodNamed Bd.named Bd.method).1
  have X0 : Stand p l e ({ frames := 3, cells := 0, slots := 0, locals := 40 } : Room) s m #[(.ref a), (.int (Int32.ofNat i))] below meth cO s₁ [] 0 0 := Stand.of_body Bd
  have e0 : s₁.heap = h0 := by rw [← hh, Bd.state]; rfl
  have N0 := Fr.nil n0
  have W0 : ∀ zQ, SS p e below s₁ m 0 #[.val (.ref a), .val (.int (Int32.ofNat i))] [] zQ → Steps p.tables e below (s₁.setTop (entryFrame m #[(.ref a), (.int (Int32.ofNat i))] 2)) zQ := fun tt kt => castTop (ef_charAt m a (Int32.ofNat i)) kt
  obtain ⟨hE, hV, hC, hA, ok⟩ := hS
  obtain ⟨cq101, kq101, q101a, q101b, q101c⟩ := isOf hZ e0 hE
  obtain ⟨_, _, ⟨T101, L101, k101, n101⟩, -, X101, ⟨Lc101, hQ101, l101, y101, z101⟩, st101⟩ := X0.virtualBack hx (y := yn3) (z := yn3) hown (mvT hZ (w19 hw)) (mvT hZ (w20 hw)) (notFace_of_selects (args := #[]) (mvT hZ (w22 hw))) (mvT hZ (w22 hw)) (mvT hZ (w21 hw)) (by decide) (backOf (W := 0) (rm_isLatin1 l Z a0 hw [] a (cdr cs) cS h0 n0 Z0 O0 S_cs hcS hC) hZ (w23 hw) (w7 hw) (by decide) (by decide)) q101a q101c (g := (mkF m 1 #[.val (.ref a), .val (.int (Int32.ofNat i))] [(.ref a)])) rfl (by rw [hml]; rfl) (Steps.refl _) (argsL := []) (rest := []) (lenOf pd__28__29_Z rfl) rfl (by show 2 * 0 + _ ≤ _; exact Nat.le_of_eq rfl) (hb hby d_jdk_42_method_56_1) (fun _ _ => ⟨rfl, e0, (Nat.le_of_ble_eq_true rfl), (Nat.le_of_ble_eq_true rfl)⟩)
  dsimp only [Pt.U, Pt.locs, Pt.cells, Pt.slots] at X101 l101 y101 z101 st101 hQ101
  subst l101 y101 z101
  obtain ⟨rfl, Nq101, eq101⟩ := hQ101
  have N101 := Fr.app N0 Nq101
  have hA102 : Arv Z h0 t kb .byte (Int32.ofNat cs.length) (l1 cs) (.int (0 : Int32)) := by have q := enc_lat hlat; rw [← q.1, ← q.2.1]; exact hA
  obtain ⟨T103, X103, e103, st103⟩ := getF X101 hx hZ hown (host := "") (Or.inl (w26 hw)) Via.refl eq101 hV (g := (mkF m 8 #[.val (.ref a), .val (.int (Int32.ofNat i))] [(.ref a)])) rfl rfl (hb hby d_jdk_42_method_56_8)
  obtain ⟨_, _, ⟨T104, L104, k104, n104⟩, -, X104, ⟨Lc104, hQ104, l104, y104, z104⟩, st104⟩ := Jvm.LawKit.callS X103 hx (y := yn2) hown (mvT hZ (w27 hw)) (mvT hZ (w28 hw)) (mvT hZ (w29 hw)) (mvT hZ (w30 hw)) (by decide) (backOf (W := 0) (rm_l1charAt l Z a0 hw [] t i kb cs fm h0 n0 Z0 O0 S_fm hfm hA102 hi ok hlat) hZ (w30 hw) (w29 hw) (by decide) (by decide)) (g := (mkF m 12 #[.val (.ref a), .val (.int (Int32.ofNat i))] [(.int (Int32.ofNat i)), (.ref t)])) rfl (by rw [hml]; rfl) (argsL := [(.ref t), (.int (Int32.ofNat i))]) (rest := []) (lenOf pd__28__5b_BI_29_C rfl) rfl (by show 2 * 0 + _ ≤ _; exact Nat.le_of_eq rfl) (hb hby d_jdk_42_method_56_12) (fun _ _ => ⟨rfl, e103, (Nat.le_of_ble_eq_true rfl), (Nat.le_of_ble_eq_true rfl)⟩)
  dsimp only [Pt.U, Pt.locs, Pt.cells, Pt.slots] at X104 l104 y104 z104 st104 hQ104
  subst l104 y104 z104
  obtain ⟨rfl, Nq104, eq104⟩ := hQ104
  have N104 := Fr.app N101 Nq104
  have W105 : ∀ zQ, SS p e below T104 m 15 #[.val (.ref a), .val (.int (Int32.ofNat i))] [(.int (cs.getD i 0))] zQ → Steps p.tables e below (s₁.setTop (entryFrame m #[(.ref a), (.int (Int32.ofNat i))] 2)) zQ := by
    intro tt kt
    refine W0 tt ?_
    refine XS.aloadN X0.here hx rfl (hb hby d_jdk_42_method_56_0) rfl rfl ?_
    show SS p e below s₁ m 1 #[.val (.ref a), .val (.int (Int32.ofNat i))] [(.ref a)] _
    refine st101.trans ?_
    show SS p e below T101 m 4 #[.val (.ref a), .val (.int (Int32.ofNat i))] [(.int (if (cdr cs) = (0 : Int32) then (1 : Int32) else (0 : Int32)))] _
    rw [show (if (cdr cs) = (0 : Int32) then (1 : Int32) else (0 : Int32)) = (1 : Int32) from if_pos (enc_lat hlat).2.2]
    refine XS.ifNo X101.here hx rfl (hb hby d_jdk_42_method_56_4) rfl ((if0 _ _).trans (feq (by decide)).1) ?_
    refine XS.aloadN X101.here hx rfl (hb hby d_jdk_42_method_56_7) rfl rfl ?_
    show SS p e below T101 m 8 #[.val (.ref a), .val (.int (Int32.ofNat i))] [(.ref a)] _
    refine st103 _ ?_
    refine XS.iloadN X103.here hx rfl (hb hby d_jdk_42_method_56_11) rfl ?_
    show SS p e below T103 m 12 #[.val (.ref a), .val (.int (Int32.ofNat i))] [(.int (Int32.ofNat i)), (.ref t)] _
    refine st104 _ ?_
    exact kt
  obtain ⟨fs, hr, hrun, hended, hW, hsame⟩ := X104.leave (v := some (.int (nar .char (cs.getD i 0)))) (fun h => by rw [Bd.returns] at h; cases h)
  refine ⟨_, _, W105 _ (retN X104 hx (t := .char) Bd.returns (by simp) (hb hby d_jdk_42_method_56_15) hr), hrun, hended, _, _, rfl, ?_, ⟨_, rfl⟩, hW, hsame.mono (by decide) (by decide)⟩
  show Q_charAt Z a i t kb cs cS fm h0 n0 _ T104.heap _
  rw [eq104]
  exact ⟨(congrArg (fun q => some (Value.int q)) (own_narc (ok.at hi).1 (ok.at hi).2)), N104, rfl⟩
set_option maxRecDepth 65536 in
set_option maxHeartbeats 40000000 in
theorem lp_compr {p : Program} {l : Launch} {e : Env} {R : Room} {s : State} {m : MethodId} {args : Array Value} {below : List Frame} {meth : Method} {cO : Code} {cells slots : Nat} {Z : State} {a0 : Array Value} (hx : p.tables.exec = Jvm.exec) (hZ : Z.Warmed39 s.vm) (hw : HW a0 Z) (hby : cO.code = jdk_52_method_21_code) (hml : cO.maxLocals = 7) (hown : s.vm.findClass "java/lang/StringUTF16" = some m.cls) (hRf : 0 ≤ R.frames) (hRl : 0 ≤ R.locals) (hRc : cells ≤ R.cells) (hRs : slots ≤ R.slots) (hret : meth.sig.returnType = some .int) (src : Addr) (dst : Addr) (kc : ClassId) (kb : ClassId) (cs : List Int32) (n0 : Nat) (hne : src ≠ dst) (hg : n0 ≤ dst) (ok : OkS cs) :
    ∀ suf : List Int32, ∀ (pre : List Int32) (s6 : Slot) (T0 : State) (L0 : List Loc) (h0 : Heap) (X0 : Stand p l e R s m args below meth cO T0 L0 cells slots) (e0 : T0.heap = h0) (N0 : Fr n0 L0) (Z0 : n0 ≤ h0.size) (Vs : Arv Z h0 src kc .char (Int32.ofNat cs.length) (cs.map Value.int) (.int (0 : Int32))) (Vd : Arv Z h0 dst kb .byte (Int32.ofNat cs.length) (l1 pre) (.int (0 : Int32))) (hl : lat pre = true) (h6 : One s6) (hk : cs = pre ++ suf), ∃ (T' : State) (L' : List Loc) (h' : Heap), Stand p l e R s m args below meth cO T' L' cells slots ∧ T'.heap = h' ∧ Fr n0 L' ∧ Keep h0 h' [dst] ∧ Arv Z h' dst kb .byte (Int32.ofNat cs.length) (l1 (cs.take (fl cs))) (.int (0 : Int32)) ∧ ∀ fs, (∀ (f : JFrame) (acts : List Action), f.method = m → f.locked = none → f.entered = [] → (doReturn e (T'.setTop f) acts (some (.int (Int32.ofNat (fl cs))))).1 = T'.setFrames fs) → SS p e below T0 m 3 #[.val (.ref src), .val (.int (Int32.ofNat pre.length)), .val (.ref dst), .val (.int (Int32.ofNat pre.length)), .val (.int (Int32.ofNat cs.length)), .val (.int (Int32.ofNat pre.length)), s6] [] (T'.setFrames fs) := by
  intro suf
  induction suf with
  | nil =>
    intro pre s6 T0 L0 h0 X0 e0 N0 Z0 Vs Vd hl h6 hk
    have W0 : ∀ zQ, SS p e below T0 m 3 #[.val (.ref src), .val (.int (Int32.ofNat pre.length)), .val (.ref dst), .val (.int (Int32.ofNat pre.length)), .val (.int (Int32.ofNat cs.length)), .val (.int (Int32.ofNat pre.length)), s6] [] zQ → Steps p.tables e below (T0.setTop (mkF m 3 #[.val (.ref src), .val (.int (Int32.ofNat pre.length)), .val (.ref dst), .val (.int (Int32.ofNat pre.length)), .val (.int (Int32.ofNat cs.length)), .val (.int (Int32.ofNat pre.length)), s6] [])) zQ := fun tt kt => kt
    have hn : cs.length < 1048576 := ok.2
    have hfl : fl cs = pre.length := by rw [hk, fl_app _ hl]; rfl
    have hlen : cs.length = pre.length := by rw [hk]; simp
    have W101 : ∀ zQ, SS p e below T0 m 46 #[.val (.ref src), .val (.int (Int32.ofNat pre.length)), .val (.ref dst), .val (.int (Int32.ofNat pre.length)), .val (.int (Int32.ofNat cs.length)), .val (.int (Int32.ofNat pre.length)), s6] [(.int (Int32.ofNat cs.length))] zQ → Steps p.tables e below (T0.setTop (mkF m 3 #[.val (.ref src), .val (.int (Int32.ofNat pre.length)), .val (.ref dst), .val (.int (Int32.ofNat pre.length)), .val (.int (Int32.ofNat cs.length)), .val (.int (Int32.ofNat pre.length)), s6] [])) zQ := by
      intro tt kt
      refine W0 tt ?_
      refine XS.iload X0.here hx rfl (hb hby d_jdk_52_method_21_3) rfl ?_
      refine XS.iload X0.here hx rfl (hb hby d_jdk_52_method_21_5) rfl ?_
      refine XS.icmpYes X0.here hx rfl (pc0 := 7) (pc' := 44) rfl (hb hby d_jdk_52_method_21_7) rfl (flt (own_nlt (by omega) (by omega))).2.1 (by decide) (by decide) ?_
      refine XS.iload X0.here hx rfl (hb hby d_jdk_52_method_21_44) rfl ?_
      exact kt
    have hR102 : Arv Z h0 dst kb .byte (Int32.ofNat cs.length) (l1 (cs.take (fl cs))) (.int (0 : Int32)) := by rw [show cs.take (fl cs) = pre from by rw [hfl, hk]; exact List.take_left]; exact Vd
    exact ⟨T0, _, h0, X0, e0, N0, (Keep.refl h0 [dst]), hR102, fun fs hr => W101 _ (retI X0 hx hret (hb hby d_jdk_52_method_21_46) (by rw [show (Value.int (Int32.ofNat cs.length)) = (Value.int (Int32.ofNat (fl cs))) from (by rw [hfl, hlen])]; exact hr))⟩
  | cons cc r ih =>
    intro pre s6 T0 L0 h0 X0 e0 N0 Z0 Vs Vd hl h6 hk
    have W0 : ∀ zQ, SS p e below T0 m 3 #[.val (.ref src), .val (.int (Int32.ofNat pre.length)), .val (.ref dst), .val (.int (Int32.ofNat pre.length)), .val (.int (Int32.ofNat cs.length)), .val (.int (Int32.ofNat pre.length)), s6] [] zQ → Steps p.tables e below (T0.setTop (mkF m 3 #[.val (.ref src), .val (.int (Int32.ofNat pre.length)), .val (.ref dst), .val (.int (Int32.ofNat pre.length)), .val (.int (Int32.ofNat cs.length)), .val (.int (Int32.ofNat pre.length)), s6] [])) zQ := fun tt kt => kt
    have hn : cs.length < 1048576 := ok.2
    have hlt : pre.length < cs.length := by rw [hk]; simp
    have hcc : cs.getD pre.length 0 = cc := by rw [hk]; exact app_at pre r cc 0
    obtain ⟨cl103, Ar103, q103, S103, M103, H103, F103g⟩ := id Vs
    have hin103 : ¬ ((Int32.ofNat pre.length) < 0 ∨ cl103.slots.size ≤ ((Int32.ofNat pre.length)).toNatClampNeg) := inb_of S103 ⟨own_nneg (by omega), own_lt hlt (by omega)⟩
    have hat103 : cl103.slots[((Int32.ofNat pre.length)).toNatClampNeg]? = some (.int cc) := Has.at H103 hin103 (by rw [own_cl (by omega), ch_at _ _ _ hlt, hcc])
    have W104 : ∀ zQ, SS p e below T0 m 20 #[.val (.ref src), .val (.int (Int32.ofNat pre.length)), .val (.ref dst), .val (.int (Int32.ofNat pre.length)), .val (.int (Int32.ofNat cs.length)), .val (.int (Int32.ofNat pre.length)), .val (.int cc)] [(.int (255 : Int32)), (.int cc)] zQ → Steps p.tables e below (T0.setTop (mkF m 3 #[.val (.ref src), .val (.int (Int32.ofNat pre.length)), .val (.ref dst), .val (.int (Int32.ofNat pre.length)), .val (.int (Int32.ofNat cs.length)), .val (.int (Int32.ofNat pre.length)), s6] [])) zQ := by
      intro tt kt
      refine W0 tt ?_
      refine XS.iload X0.here hx rfl (hb hby d_jdk_52_method_21_3) rfl ?_
      refine XS.iload X0.here hx rfl (hb hby d_jdk_52_method_21_5) rfl ?_
      refine XS.icmpNo X0.here hx rfl (hb hby d_jdk_52_method_21_7) rfl (tlt (own_lt hlt (by omega))).2.1 ?_
      refine XS.aloadN X0.here hx rfl (hb hby d_jdk_52_method_21_10) rfl rfl ?_
      refine XS.iloadN X0.here hx rfl (hb hby d_jdk_52_method_21_11) rfl ?_
      show SS p e below T0 m 12 #[.val (.ref src), .val (.int (Int32.ofNat pre.length)), .val (.ref dst), .val (.int (Int32.ofNat pre.length)), .val (.int (Int32.ofNat cs.length)), .val (.int (Int32.ofNat pre.length)), s6] [(.int (Int32.ofNat pre.length)), (.ref src)] _
      refine X0.caload hx (j := (Int32.ofNat pre.length)) (v := (.int cc)) (by first | exact Ar103.1 | (rw [e0]; exact Ar103.1)) (State.isArrayOf_alike hZ.alike Ar103.2.1) Ar103.2.2 hin103 hat103 (g := (mkF m 12 #[.val (.ref src), .val (.int (Int32.ofNat pre.length)), .val (.ref dst), .val (.int (Int32.ofNat pre.length)), .val (.int (Int32.ofNat cs.length)), .val (.int (Int32.ofNat pre.length)), s6] [(.int (Int32.ofNat pre.length)), (.ref src)])) rfl rfl (hb hby d_jdk_52_method_21_12) _ ?_
      refine XS.istore X0.here hx rfl (hb hby d_jdk_52_method_21_13) rfl (l' := #[.val (.ref src), .val (.int (Int32.ofNat pre.length)), .val (.ref dst), .val (.int (Int32.ofNat pre.length)), .val (.int (Int32.ofNat cs.length)), .val (.int (Int32.ofNat pre.length)), .val (.int cc)]) (XS.store1 (o := s6) rfl h6 rfl) ?_
      refine XS.iload X0.here hx rfl (hb hby d_jdk_52_method_21_15) rfl ?_
      refine XS.sipush X0.here hx rfl (hb hby d_jdk_52_method_21_17) ?_
      exact kt
    by_cases hc105 : (255 : Int32) < cc
    ·
      have hfl : fl cs = pre.length := by rw [hk, fl_app _ hl]; show _ + (if (255 : Int32) < cc then 0 else fl r + 1) = _; rw [if_pos hc105]; rfl
      have W106 : ∀ zQ, SS p e below T0 m 25 #[.val (.ref src), .val (.int (Int32.ofNat pre.length)), .val (.ref dst), .val (.int (Int32.ofNat pre.length)), .val (.int (Int32.ofNat cs.length)), .val (.int (Int32.ofNat pre.length)), .val (.int cc)] [(.int (Int32.ofNat pre.length))] zQ → Steps p.tables e below (T0.setTop (mkF m 3 #[.val (.ref src), .val (.int (Int32.ofNat pre.length)), .val (.ref dst), .val (.int (Int32.ofNat pre.length)), .val (.int (Int32.ofNat cs.length)), .val (.int (Int32.ofNat pre.length)), s6] [])) zQ := by
        intro tt kt
        refine W104 tt ?_
        refine XS.icmpNo X0.here hx rfl (hb hby d_jdk_52_method_21_20) rfl (tlt hc105).2.2.2 ?_
        refine XS.iload X0.here hx rfl (hb hby d_jdk_52_method_21_23) rfl ?_
        exact kt
      have hR107 : Arv Z h0 dst kb .byte (Int32.ofNat cs.length) (l1 (cs.take (fl cs))) (.int (0 : Int32)) := by rw [show cs.take (fl cs) = pre from by rw [hfl, hk]; exact List.take_left]; exact Vd
      exact ⟨T0, _, h0, X0, e0, N0, (Keep.refl h0 [dst]), hR107, fun fs hr => W106 _ (retI X0 hx hret (hb hby d_jdk_52_method_21_25) (by rw [show (Value.int (Int32.ofNat pre.length)) = (Value.int (Int32.ofNat (fl cs))) from (by rw [hfl])]; exact hr))⟩
    ·
      obtain ⟨cl108, Ar108, q108, S108, M108, H108, F108g⟩ := id Vd
      have hin108 : ¬ ((Int32.ofNat pre.length) < 0 ∨ cl108.slots.size ≤ ((Int32.ofNat pre.length)).toNatClampNeg) := inb_of S108 ⟨own_nneg (by omega), own_lt hlt (by omega)⟩
      obtain ⟨T108, h108, X108, e108, Wr108, st108⟩ := stB X0 hx hZ e0 Ar108 (j := (Int32.ofNat pre.length)) hin108 (g := (mkF m 31 #[.val (.ref src), .val (.int (Int32.ofNat pre.length)), .val (.ref dst), .val (.int (Int32.ofNat pre.length)), .val (.int (Int32.ofNat cs.length)), .val (.int (Int32.ofNat pre.length)), .val (.int cc)] [(.int (cc.toInt8.toInt32)), (.int (Int32.ofNat pre.length)), (.ref dst)])) rfl rfl (hb hby d_jdk_52_method_21_31)
      have G108 : Arv Z h108 dst kb .byte (Int32.ofNat cs.length) ((l1 pre) ++ [(.int (nar .byte (cc.toInt8.toInt32)))]) (.int (0 : Int32)) := Arv.push Ar108 q108 S108 M108 H108 F108g (fits_nar_byte _) Wr108 (by rw [own_cl (by omega), l1_len])
      have K108 := Keep.of_wr Wr108
      have N108 := Fr.snoc X108 N0 hg
      have J108 : Arv Z h108 dst kb .byte (Int32.ofNat cs.length) (l1 (pre ++ [cc])) (.int (0 : Int32)) := by rw [← l1_snoc, ← own_narb]; exact G108
      have W109 : ∀ zQ, SS p e below T108 m 3 #[.val (.ref src), .val (.int (Int32.ofNat (pre ++ [cc]).length)), .val (.ref dst), .val (.int (Int32.ofNat (pre ++ [cc]).length)), .val (.int (Int32.ofNat cs.length)), .val (.int (Int32.ofNat (pre ++ [cc]).length)), .val (.int cc)] [] zQ → Steps p.tables e below (T0.setTop (mkF m 3 #[.val (.ref src), .val (.int (Int32.ofNat pre.length)), .val (.ref dst), .val (.int (Int32.ofNat pre.length)), .val (.int (Int32.ofNat cs.length)), .val (.int (Int32.ofNat pre.length)), s6] [])) zQ := by
        intro tt kt
        refine W104 tt ?_
        refine XS.icmpYes X0.here hx rfl (pc0 := 20) (pc' := 26) rfl (hb hby d_jdk_52_method_21_20) rfl (flt hc105).2.2.2 (by decide) (by decide) ?_
        refine XS.aloadN X0.here hx rfl (hb hby d_jdk_52_method_21_26) rfl rfl ?_
        refine XS.iloadN X0.here hx rfl (hb hby d_jdk_52_method_21_27) rfl ?_
        refine XS.iload X0.here hx rfl (hb hby d_jdk_52_method_21_28) rfl ?_
        refine XS.i2b X0.here hx rfl (hb hby d_jdk_52_method_21_30) rfl ?_
        show SS p e below T0 m 31 #[.val (.ref src), .val (.int (Int32.ofNat pre.length)), .val (.ref dst), .val (.int (Int32.ofNat pre.length)), .val (.int (Int32.ofNat cs.length)), .val (.int (Int32.ofNat pre.length)), .val (.int cc)] [(.int (cc.toInt8.toInt32)), (.int (Int32.ofNat pre.length)), (.ref dst)] _
        refine st108 _ ?_
        show SS p e below T108 m 32 #[.val (.ref src), .val (.int (Int32.ofNat pre.length)), .val (.ref dst), .val (.int (Int32.ofNat pre.length)), .val (.int (Int32.ofNat cs.length)), .val (.int (Int32.ofNat pre.length)), .val (.int cc)] [] _
        refine XS.iinc X108.here hx rfl (hb hby d_jdk_52_method_21_32) rfl (l' := #[.val (.ref src), .val (.int ((Int32.ofNat pre.length) + (1 : Int32))), .val (.ref dst), .val (.int (Int32.ofNat pre.length)), .val (.int (Int32.ofNat cs.length)), .val (.int (Int32.ofNat pre.length)), .val (.int cc)]) rfl ?_
        show SS p e below T108 m 35 #[.val (.ref src), .val (.int ((Int32.ofNat pre.length) + (1 : Int32))), .val (.ref dst), .val (.int (Int32.ofNat pre.length)), .val (.int (Int32.ofNat cs.length)), .val (.int (Int32.ofNat pre.length)), .val (.int cc)] [] _
        refine XS.iinc X108.here hx rfl (hb hby d_jdk_52_method_21_35) rfl (l' := #[.val (.ref src), .val (.int ((Int32.ofNat pre.length) + (1 : Int32))), .val (.ref dst), .val (.int ((Int32.ofNat pre.length) + (1 : Int32))), .val (.int (Int32.ofNat cs.length)), .val (.int (Int32.ofNat pre.length)), .val (.int cc)]) rfl ?_
        show SS p e below T108 m 38 #[.val (.ref src), .val (.int ((Int32.ofNat pre.length) + (1 : Int32))), .val (.ref dst), .val (.int ((Int32.ofNat pre.length) + (1 : Int32))), .val (.int (Int32.ofNat cs.length)), .val (.int (Int32.ofNat pre.length)), .val (.int cc)] [] _
        refine XS.iinc X108.here hx rfl (hb hby d_jdk_52_method_21_38) rfl (l' := #[.val (.ref src), .val (.int ((Int32.ofNat pre.length) + (1 : Int32))), .val (.ref dst), .val (.int ((Int32.ofNat pre.length) + (1 : Int32))), .val (.int (Int32.ofNat cs.length)), .val (.int ((Int32.ofNat pre.length) + (1 : Int32))), .val (.int cc)]) rfl ?_
        show SS p e below T108 m 41 #[.val (.ref src), .val (.int ((Int32.ofNat pre.length) + (1 : Int32))), .val (.ref dst), .val (.int ((Int32.ofNat pre.length) + (1 : Int32))), .val (.int (Int32.ofNat cs.length)), .val (.int ((Int32.ofNat pre.length) + (1 : Int32))), .val (.int cc)] [] _
        rw [show ((Int32.ofNat pre.length) + (1 : Int32)) = (Int32.ofNat (pre ++ [cc]).length) from (by rw [own_succ]; simp)]
        refine XS.goto X108.here hx rfl (pc0 := 41) (pc' := 3) rfl (hb hby d_jdk_52_method_21_41) (by decide) (by decide) ?_
        exact kt
      have F111 : Arv Z h108 src kc .char (Int32.ofNat cs.length) (cs.map Value.int) (.int (0 : Int32)) := (Vs.keep K108 (ninS hne nin0))
      obtain ⟨T110, L110, h110, X110, e110, N110, K110, P110_0, st110⟩ := ih (pre ++ [cc]) (.val (.int cc)) T108 _ h108 X108 e108 N108 (Nat.le_trans Z0 K108.1) F111 J108 (lat_snoc hl hc105) (One.val rfl) (by rw [hk]; simp)
      exact ⟨T110, L110, h110, X110, e110, N110, (Keep.trans (Keep.trans (Keep.refl h0 [dst]) K108 (allS (Or.inl (List.mem_of_getElem? (i := 0) rfl)) all0)) K110 (allS (Or.inl (List.mem_of_getElem? (i := 0) rfl)) all0)), P110_0, fun tt kt => W109 _ (st110 _ kt)⟩
def Q_compress21 (Z : State) (src : Addr) (dst : Addr) (kc : ClassId) (kb : ClassId) (cs : List Int32) (h0 : Heap) (n0 : Nat) (vQ_ : Option Value) (hQ_ : Heap) (LQ_ : List Loc) : Prop := vQ_ = some (.int (Int32.ofNat (fl cs))) ∧ Fr n0 LQ_ ∧ Keep h0 hQ_ [dst] ∧ Arv Z hQ_ dst kb .byte (Int32.ofNat cs.length) (l1 (cs.take (fl cs))) (.int (0 : Int32))
set_option maxRecDepth 65536 in
set_option maxHeartbeats 40000000 in
theorem rm_compress21 (l : Launch) (Z : State) (a0 : Array Value) (hw : HW a0 Z) (ws : List Jvm.Cond) (src : Addr) (dst : Addr) (kc : ClassId) (kb : ClassId) (cs : List Int32) (h0 : Heap) (n0 : Nat) (Z0 : n0 ≤ h0.size) (Vs : Arv Z h0 src kc .char (Int32.ofNat cs.length) (cs.map Value.int) (.int (0 : Int32))) (Vd : Arv Z h0 dst kb .byte (Int32.ofNat cs.length) [] (.int (0 : Int32))) (hne : src ≠ dst) (hg : n0 ≤ dst) (ok : OkS cs) :
    MetFree l yn5 (head1 (Jvm.Cond.code yn5 jdk_52_method_21_code 7 (some .int) :: ws) ({ frames := 0, cells := 0, slots := 0, locals := 0 } : Room)) (fun aQ_ UQ => aQ_ = #[(.ref src), (.int (0 : Int32)), (.ref dst), (.int (0 : Int32)), (.int (Int32.ofNat cs.length))] ∧ Z.Warmed39 UQ.vm ∧ UQ.heap = h0) (fun _ _ _ _ _ => True) (fun _ UQ oQ UQ' => ∃ vQ_ LQ_, oQ = .returned vQ_ ∧ Q_compress21 Z src dst kc kb cs h0 n0 vQ_ UQ'.heap LQ_ ∧ FrameEnd UQ oQ UQ' LQ_ ({ frames := 0, cells := 0, slots := 0, locals := 0 } : Room).cells ({ frames := 0, cells := 0, slots := 0, locals := 0 } : Room).slots) := by
  refine MetFree.of_bodySF (plainFor_of_name pn_java_lang_StringUTF16) hisR ?_
  intro p e s m args below meth cO s₁ Bd hml0 hP hK
  obtain ⟨rfl, hZ, hh⟩ := hP
  have hx := Bd.exec
  have hby := Bd.bytes
  have hml : cO.maxLocals = 7 := hml0
  have hown : s.vm.findClass "java/lang/StringUTF16" = some m.cls := findClass_of_methodNamed Bd.named
  have hnm := (name_of_methodNamed Bd.named Bd.method).1
  have X0 : Stand p l e ({ frames := 0, cells := 0, slots := 0, locals := 0 } : Room) s m #[(.ref src), (.int (0 : Int32)), (.ref dst), (.int (0 : Int32)), (.int (Int32.ofNat cs.length))] below meth cO s₁ [] 0 0 := Stand.of_body Bd
  have e0 : s₁.heap = h0 := by rw [← hh, Bd.state]; rfl
  have N0 := Fr.nil n0
  have W0 : ∀ zQ, SS p e below s₁ m 0 #[.val (.ref src), .val (.int (0 : Int32)), .val (.ref dst), .val (.int (0 : Int32)), .val (.int (Int32.ofNat cs.length)), .unset, .unset] [] zQ → Steps p.tables e below (s₁.setTop (entryFrame m #[(.ref src), (.int (0 : Int32)), (.ref dst), (.int (0 : Int32)), (.int (Int32.ofNat cs.length))] 7)) zQ := fun tt kt => castTop (ef_compress21 m src (0 : Int32) dst (0 : Int32) (Int32.ofNat cs.length)) kt
  have W101 : ∀ zQ, SS p e below s₁ m 3 #[.val (.ref src), .val (.int (0 : Int32)), .val (.ref dst), .val (.int (0 : Int32)), .val (.int (Int32.ofNat cs.length)), .val (.int (0 : Int32)), .unset] [] zQ → Steps p.tables e below (s₁.setTop (entryFrame m #[(.ref src), (.int (0 : Int32)), (.ref dst), (.int (0 : Int32)), (.int (Int32.ofNat cs.length))] 7)) zQ := by
    intro tt kt
    refine W0 tt ?_
    refine XS.iconst X0.here hx rfl (hb hby d_jdk_52_method_21_0) ?_
    refine XS.istore X0.here hx rfl (hb hby d_jdk_52_method_21_1) rfl (l' := #[.val (.ref src), .val (.int (0 : Int32)), .val (.ref dst), .val (.int (0 : Int32)), .val (.int (Int32.ofNat cs.length)), .val (.int (0 : Int32)), .unset]) rfl ?_
    exact kt
  obtain ⟨T102, L102, h102, X102, e102, Nl102, K102, P102_0, st102⟩ := lp_compr hx hZ hw hby hml hown (by decide) (by decide) (by decide) (by decide) Bd.returns src dst kc kb cs n0 hne hg ok cs [] .unset s₁ _ h0 X0 e0 N0 Z0 Vs Vd rfl One.u rfl
  obtain ⟨fs, hr, hrun, hended, hW, hsame⟩ := X102.leave (v := some (.int (Int32.ofNat (fl cs)))) (fun h => by rw [Bd.returns] at h; cases h)
  refine ⟨_, _, W101 _ (st102 _ hr), hrun, hended, _, _, rfl, ?_, ⟨_, rfl⟩, hW, hsame.mono (by decide) (by decide)⟩
  show Q_compress21 Z src dst kc kb cs h0 n0 _ T102.heap _
  rw [e102]
  exact ⟨rfl, Nl102, (Keep.trans (Keep.refl h0 [dst]) K102 (allS (Or.inl (List.mem_of_getElem? (i := 0) rfl)) all0)), P102_0⟩
def Q_coderOf (Z : State) (t : Addr) (kb : ClassId) (vs : List Value) (cs : List Int32) (h0 : Heap) (n0 : Nat) (vQ_ : Option Value) (hQ_ : Heap) (LQ_ : List Loc) : Prop := vQ_ = some (.int (cdr cs)) ∧ Fr n0 LQ_ ∧ hQ_ = h0
set_option maxRecDepth 65536 in
set_option maxHeartbeats 40000000 in
theorem rm_coderOf (l : Launch) (Z : State) (a0 : Array Value) (hw : HW a0 Z) (ws : List Jvm.Cond) (t : Addr) (kb : ClassId) (vs : List Value) (cs : List Int32) (h0 : Heap) (n0 : Nat) (Z0 : n0 ≤ h0.size) (A1 : Arv Z h0 t kb .byte (Int32.ofNat (blen cs)) vs (.int (0 : Int32))) (ok : OkS cs) :
    MetFree l yn6 (head1 (Jvm.Cond.code yn6 jdk_52_method_15_code 2 (some .byte) :: ws) ({ frames := 0, cells := 0, slots := 0, locals := 0 } : Room)) (fun aQ_ UQ => aQ_ = #[(.ref t), (.int (Int32.ofNat cs.length))] ∧ Z.Warmed39 UQ.vm ∧ UQ.heap = h0) (fun _ _ _ _ _ => True) (fun _ UQ oQ UQ' => ∃ vQ_ LQ_, oQ = .returned vQ_ ∧ Q_coderOf Z t kb vs cs h0 n0 vQ_ UQ'.heap LQ_ ∧ FrameEnd UQ oQ UQ' LQ_ ({ frames := 0, cells := 0, slots := 0, locals := 0 } : Room).cells ({ frames := 0, cells := 0, slots := 0, locals := 0 } : Room).slots) := by
  refine MetFree.of_bodySF (plainFor_of_name pn_java_lang_StringUTF16) hisR ?_
  intro p e s m args below meth cO s₁ Bd hml0 hP hK
  obtain ⟨rfl, hZ, hh⟩ := hP
  have hx := Bd.exec
  have hby := Bd.bytes
  have hml : cO.maxLocals = 2 := hml0
  have hown : s.vm.findClass "java/lang/StringUTF16" = some m.cls := findClass_of_methodNamed Bd.named
  have hnm := (name_of_methodNamed Bd.named Bd.method).1
  have X0 : Stand p l e ({ frames := 0, cells := 0, slots := 0, locals := 0 } : Room) s m #[(.ref t), (.int (Int32.ofNat cs.length))] below meth cO s₁ [] 0 0 := Stand.of_body Bd
  have e0 : s₁.heap = h0 := by rw [← hh, Bd.state]; rfl
  have N0 := Fr.nil n0
  have W0 : ∀ zQ, SS p e below s₁ m 0 #[.val (.ref t), .val (.int (Int32.ofNat cs.length))] [] zQ → Steps p.tables e below (s₁.setTop (entryFrame m #[(.ref t), (.int (Int32.ofNat cs.length))] 2)) zQ := fun tt kt => castTop (ef_coderOf m t (Int32.ofNat cs.length)) kt
  obtain ⟨cl101, Ar101, -, S101, M101, -, -⟩ := id A1
  have W102 : ∀ zQ, SS p e below s₁ m 8 #[.val (.ref t), .val (.int (Int32.ofNat cs.length))] [(.int (((((Int32.ofNat cs.length) - (Int32.ofNat (blen cs))).toUInt32 >>> ((31 : Int32) &&& 31).toUInt32).toInt32).toInt8.toInt32))] zQ → Steps p.tables e below (s₁.setTop (entryFrame m #[(.ref t), (.int (Int32.ofNat cs.length))] 2)) zQ := by
    intro tt kt
    refine W0 tt ?_
    refine XS.iloadN X0.here hx rfl (hb hby d_jdk_52_method_15_0) rfl ?_
    refine XS.aloadN X0.here hx rfl (hb hby d_jdk_52_method_15_1) rfl rfl ?_
    show SS p e below s₁ m 2 #[.val (.ref t), .val (.int (Int32.ofNat cs.length))] [(.ref t), (.int (Int32.ofNat cs.length))] _
    refine X0.arraylength hx (by first | exact Ar101.1 | (rw [e0]; exact Ar101.1)) (State.isArrayOf_alike hZ.alike Ar101.2.1) (g := (mkF m 2 #[.val (.ref t), .val (.int (Int32.ofNat cs.length))] [(.ref t), (.int (Int32.ofNat cs.length))])) rfl rfl (hb hby d_jdk_52_method_15_2) _ ?_
    rw [len_of S101 M101]
    refine XS.isub X0.here hx rfl (hb hby d_jdk_52_method_15_3) rfl ?_
    refine XS.bipush X0.here hx rfl (hb hby d_jdk_52_method_15_4) ?_
    refine XS.iushr X0.here hx rfl (hb hby d_jdk_52_method_15_6) rfl ?_
    refine XS.i2b X0.here hx rfl (hb hby d_jdk_52_method_15_7) rfl ?_
    exact kt
  obtain ⟨fs, hr, hrun, hended, hW, hsame⟩ := X0.leave (v := some (.int (nar .byte (((((Int32.ofNat cs.length) - (Int32.ofNat (blen cs))).toUInt32 >>> ((31 : Int32) &&& 31).toUInt32).toInt32).toInt8.toInt32)))) (fun h => by rw [Bd.returns] at h; cases h)
  refine ⟨_, _, W102 _ (retN X0 hx (t := .byte) Bd.returns (by simp) (hb hby d_jdk_52_method_15_8) hr), hrun, hended, _, _, rfl, ?_, ⟨_, rfl⟩, hW, hsame.mono (by decide) (by decide)⟩
  show Q_coderOf Z t kb vs cs h0 n0 _ s₁.heap _
  rw [e0]
  exact ⟨(congrArg (fun q => some (Value.int q)) (own_cdr ok.2)), N0, rfl⟩
def Q_compress16 (Z : State) (src : Addr) (kc : ClassId) (cs : List Int32) (h0 : Heap) (n0 : Nat) (vQ_ : Option Value) (hQ_ : Heap) (LQ_ : List Loc) : Prop := ∃ t : Addr, ∃ kb : ClassId, vQ_ = some (.ref t) ∧ Fr n0 LQ_ ∧ Keep h0 hQ_ [] ∧ h0.size ≤ t ∧ Arv Z hQ_ t kb .byte (Int32.ofNat (blen cs)) (enc cs) (.int (0 : Int32))
set_option maxRecDepth 65536 in
set_option maxHeartbeats 40000000 in
theorem rm_compress16 (l : Launch) (Z : State) (a0 : Array Value) (hw : HW a0 Z) (ws : List Jvm.Cond) (src : Addr) (kc : ClassId) (cs : List Int32) (h0 : Heap) (n0 : Nat) (Z0 : n0 ≤ h0.size) (Vs : Arv Z h0 src kc .char (Int32.ofNat cs.length) (cs.map Value.int) (.int (0 : Int32))) (ok : OkS cs) (hcap : cs.length ≤ 5) (hl : lat cs = true) :
    MetFree l yn7 (head1 (Jvm.Cond.code yn7 jdk_52_method_16_code 6 (some (.array .byte)) :: ws) ({ frames := 1, cells := 1, slots := 5, locals := 18 } : Room)) (fun aQ_ UQ => aQ_ = #[(.ref src), (.int (0 : Int32)), (.int (Int32.ofNat cs.length))] ∧ Z.Warmed39 UQ.vm ∧ UQ.heap = h0) (fun _ _ _ _ _ => True) (fun _ UQ oQ UQ' => ∃ vQ_ LQ_, oQ = .returned vQ_ ∧ Q_compress16 Z src kc cs h0 n0 vQ_ UQ'.heap LQ_ ∧ FrameEnd UQ oQ UQ' LQ_ ({ frames := 1, cells := 1, slots := 5, locals := 18 } : Room).cells ({ frames := 1, cells := 1, slots := 5, locals := 18 } : Room).slots) := by
  refine MetFree.of_bodySF (plainFor_of_name pn_java_lang_StringUTF16) hisR ?_
  intro p e s m args below meth cO s₁ Bd hml0 hP hK
  obtain ⟨rfl, hZ, hh⟩ := hP
  have hx := Bd.exec
  have hby := Bd.bytes
  have hml : cO.maxLocals = 6 := hml0
  have hown : s.vm.findClass "java/lang/StringUTF16" = some m.cls := findClass_of_methodNamed Bd.named
  have hnm := (name_of_methodNamed Bd.named Bd.method).1
  have X0 : Stand p l e ({ frames := 1, cells := 1, slots := 5, locals := 18 } : Room) s m #[(.ref src), (.int (0 : Int32)), (.int (Int32.ofNat cs.length))] below meth cO s₁ [] 0 0 := Stand.of_body Bd
  have e0 : s₁.heap = h0 := by rw [← hh, Bd.state]; rfl
  have N0 := Fr.nil n0
  have W0 : ∀ zQ, SS p e below s₁ m 0 #[.val (.ref src), .val (.int (0 : Int32)), .val (.int (Int32.ofNat cs.length)), .unset, .unset, .unset] [] zQ → Steps p.tables e below (s₁.setTop (entryFrame m #[(.ref src), (.int (0 : Int32)), (.int (Int32.ofNat cs.length))] 6)) zQ := fun tt kt => castTop (ef_compress16 m src (0 : Int32) (Int32.ofNat cs.length)) kt
  have hn : cs.length < 1048576 := ok.2
  obtain ⟨T101, h101, k101, X101, e101, E101, A101, st101⟩ := newP X0 hx hZ (aty := .byte) (w9 hw) e0 (g := (mkF m 1 #[.val (.ref src), .val (.int (0 : Int32)), .val (.int (Int32.ofNat cs.length)), .unset, .unset, .unset] [(.int (Int32.ofNat cs.length))])) rfl (hb hby d_jdk_52_method_16_1) (n := (Int32.ofNat cs.length)) rfl (own_nneg (by omega)) (cap := 5) (by rw [own_cl (by omega)]; exact hcap) (by decide) (by decide) (by decide)
  obtain ⟨b101, g101⟩ : ∃ z, z = h0.size := ⟨_, rfl⟩
  rw [← g101] at A101 st101
  have K101 := (Keep.refl h0 []).ext E101
  have G101 : Arv Z h101 b101 k101 .byte (Int32.ofNat cs.length) [] (.int (0 : Int32)) := Arv.new A101 (own_nneg (by omega))
  have F102 : Arv Z h101 src kc .char (Int32.ofNat cs.length) (cs.map Value.int) (.int (0 : Int32)) := (Vs.keep K101 nin0)
  obtain ⟨_, _, ⟨T103, L103, k103, n103⟩, -, X103, ⟨Lc103, hQ103, l103, y103, z103⟩, st103⟩ := Jvm.LawKit.callS X101 hx (y := yn5) hown (mvT hZ (w57 hw)) (mvT hZ (w58 hw)) (mvT hZ (w55 hw)) (mvT hZ (w59 hw)) (by decide) (backOf (W := 0) (rm_compress21 l Z a0 hw [] src b101 kc k101 cs h101 n0 (Nat.le_trans Z0 K101.1) F102 G101 (Nat.ne_of_lt (Nat.lt_of_lt_of_le Vs.lt (Nat.le_of_eq g101.symm))) (Nat.le_trans Z0 (Nat.le_of_eq g101.symm)) ok) hZ (w59 hw) (w55 hw) (by decide) (by decide)) (g := (mkF m 9 #[.val (.ref src), .val (.int (0 : Int32)), .val (.int (Int32.ofNat cs.length)), .val (.ref b101), .unset, .unset] [(.int (Int32.ofNat cs.length)), (.int (0 : Int32)), (.ref b101), (.int (0 : Int32)), (.ref src)])) rfl (by rw [hml]; rfl) (argsL := [(.ref src), (.int (0 : Int32)), (.ref b101), (.int (0 : Int32)), (.int (Int32.ofNat cs.length))]) (rest := []) (lenOf pd__28__5b_CI_5b_BII_29_I rfl) rfl (by show 2 * 0 + _ ≤ _; exact Nat.le_of_eq rfl) (hb hby d_jdk_52_method_16_9) (fun _ _ => ⟨rfl, e101, (Nat.le_of_ble_eq_true rfl), (Nat.le_of_ble_eq_true rfl)⟩)
  dsimp only [Pt.U, Pt.locs, Pt.cells, Pt.slots] at X103 l103 y103 z103 st103 hQ103
  subst l103 y103 z103
  obtain ⟨rfl, Nq103, K103, P103_0⟩ := hQ103
  have N103 := Fr.app N0 Nq103
  have W104 : ∀ zQ, SS p e below T103 m 58 #[.val (.ref src), .val (.int (0 : Int32)), .val (.int (Int32.ofNat cs.length)), .val (.ref b101), .val (.int (Int32.ofNat (fl cs))), .unset] [(.ref b101)] zQ → Steps p.tables e below (s₁.setTop (entryFrame m #[(.ref src), (.int (0 : Int32)), (.int (Int32.ofNat cs.length))] 6)) zQ := by
    intro tt kt
    refine W0 tt ?_
    refine XS.iloadN X0.here hx rfl (hb hby d_jdk_52_method_16_0) rfl ?_
    show SS p e below s₁ m 1 #[.val (.ref src), .val (.int (0 : Int32)), .val (.int (Int32.ofNat cs.length)), .unset, .unset, .unset] [(.int (Int32.ofNat cs.length))] _
    refine st101 _ ?_
    refine XS.astoreN X101.here hx rfl (hb hby d_jdk_52_method_16_3) rfl rfl (l' := #[.val (.ref src), .val (.int (0 : Int32)), .val (.int (Int32.ofNat cs.length)), .val (.ref b101), .unset, .unset]) rfl ?_
    refine XS.aloadN X101.here hx rfl (hb hby d_jdk_52_method_16_4) rfl rfl ?_
    refine XS.iloadN X101.here hx rfl (hb hby d_jdk_52_method_16_5) rfl ?_
    refine XS.aloadN X101.here hx rfl (hb hby d_jdk_52_method_16_6) rfl rfl ?_
    refine XS.iconst X101.here hx rfl (hb hby d_jdk_52_method_16_7) ?_
    show SS p e below T101 m 8 #[.val (.ref src), .val (.int (0 : Int32)), .val (.int (Int32.ofNat cs.length)), .val (.ref b101), .unset, .unset] [(.int (0 : Int32)), (.ref b101), (.int (0 : Int32)), (.ref src)] _
    refine XS.iloadN X101.here hx rfl (hb hby d_jdk_52_method_16_8) rfl ?_
    show SS p e below T101 m 9 #[.val (.ref src), .val (.int (0 : Int32)), .val (.int (Int32.ofNat cs.length)), .val (.ref b101), .unset, .unset] [(.int (Int32.ofNat cs.length)), (.int (0 : Int32)), (.ref b101), (.int (0 : Int32)), (.ref src)] _
    refine st103 _ ?_
    refine XS.istore X103.here hx rfl (hb hby d_jdk_52_method_16_12) rfl (l' := #[.val (.ref src), .val (.int (0 : Int32)), .val (.int (Int32.ofNat cs.length)), .val (.ref b101), .val (.int (Int32.ofNat (fl cs))), .unset]) rfl ?_
    refine XS.iload X103.here hx rfl (hb hby d_jdk_52_method_16_14) rfl ?_
    refine XS.iloadN X103.here hx rfl (hb hby d_jdk_52_method_16_16) rfl ?_
    refine XS.icmpYes X103.here hx rfl (pc0 := 17) (pc' := 57) rfl (hb hby d_jdk_52_method_16_17) rfl (teq (by rw [fl_lat hl])).1 (by decide) (by decide) ?_
    refine XS.aloadN X103.here hx rfl (hb hby d_jdk_52_method_16_57) rfl rfl ?_
    exact kt
  have hR105 : Arv Z T103.heap b101 k101 .byte (Int32.ofNat (blen cs)) (enc cs) (.int (0 : Int32)) := by have q := enc_lat hl; rw [q.1, q.2.1]; rw [show cs.take (fl cs) = cs from by rw [fl_lat hl]; simp] at P103_0; exact P103_0
  obtain ⟨fs, hr, hrun, hended, hW, hsame⟩ := X103.leave (v := some (.ref b101)) (fun h => by rw [Bd.returns] at h; cases h)
  refine ⟨_, _, W104 _ (own_retR X103 hx Bd.returns rfl rfl (hb hby d_jdk_52_method_16_58) hr), hrun, hended, _, _, rfl, ?_, ⟨_, rfl⟩, hW, hsame.mono (by decide) (by decide)⟩
  show Q_compress16 Z src kc cs h0 n0 _ T103.heap _
  exact ⟨b101, k101, rfl, N103, (Keep.trans (Keep.trans (Keep.refl h0 []) K101 all0) K103 (allS (Or.inr (Nat.le_of_eq g101.symm)) all0)), (Nat.le_of_eq g101.symm), hR105⟩
def Q_sinitV (Z : State) (a : Addr) (src : Addr) (kc : ClassId) (cs : List Int32) (cS : Int32) (h0 : Heap) (n0 : Nat) (vQ_ : Option Value) (hQ_ : Heap) (LQ_ : List Loc) : Prop := ∃ t : Addr, ∃ kb : ClassId, vQ_ = none ∧ Fr n0 LQ_ ∧ Keep h0 hQ_ [a] ∧ h0.size ≤ t ∧ Str Z hQ_ a t kb cs
set_option maxRecDepth 65536 in
set_option maxHeartbeats 40000000 in
theorem rm_sinitV (l : Launch) (Z : State) (a0 : Array Value) (hw : HW a0 Z) (ws : List Jvm.Cond) (a : Addr) (src : Addr) (kc : ClassId) (cs : List Int32) (cS : Int32) (h0 : Heap) (n0 : Nat) (Z0 : n0 ≤ h0.size) (O0 : Old Z n0 h0) (S_cs : Sta Z Z.heap "java/lang/String" "COMPACT_STRINGS" "Z" (.int cS)) (hcS : ¬ (cS = (0 : Int32))) (E1 : Exa Z h0 a "java/lang/String") (F1 : Fld Z h0 a "java/lang/String" "value" "[B" .null) (F2 : Fld Z h0 a "java/lang/String" "coder" "B" (.int (0 : Int32))) (hg : n0 ≤ a) (Vs : Arv Z h0 src kc .char (Int32.ofNat cs.length) (cs.map Value.int) (.int (0 : Int32))) (ok : OkS cs) (hcap : cs.length ≤ 5) (hpos : 0 < cs.length) (hne : a ≠ src) (hl : lat cs = true) :
    MetFree l yn8 (head1 (Jvm.Cond.code yn8 jdk_42_method_149_code 6 none :: ws) ({ frames := 2, cells := 1, slots := 5, locals := 35 } : Room)) (fun aQ_ UQ => aQ_ = #[(.ref a), (.ref src), (.int (0 : Int32)), (.int (Int32.ofNat cs.length)), .null] ∧ Z.Warmed39 UQ.vm ∧ UQ.heap = h0) (fun _ _ _ _ _ => True) (fun _ UQ oQ UQ' => ∃ vQ_ LQ_, oQ = .returned vQ_ ∧ Q_sinitV Z a src kc cs cS h0 n0 vQ_ UQ'.heap LQ_ ∧ FrameEnd UQ oQ UQ' LQ_ ({ frames := 2, cells := 1, slots := 5, locals := 35 } : Room).cells ({ frames := 2, cells := 1, slots := 5, locals := 35 } : Room).slots) := by
  refine MetFree.of_bodySF (plainFor_of_name pn_java_lang_String) hisR ?_
  intro p e s m args below meth cO s₁ Bd hml0 hP hK
  obtain ⟨rfl, hZ, hh⟩ := hP
  have hx := Bd.exec
  have hby := Bd.bytes
  have hml : cO.maxLocals = 6 := hml0
  have hown : s.vm.findClass "java/lang/String" = some m.cls := findClass_of_methodNamed Bd.named
  have hnm := (name_of_methodNamed Bd.named Bd.method).1
  have X0 : Stand p l e ({ frames := 2, cells := 1, slots := 5, locals := 35 } : Room) s m #[(.ref a), (.ref src), (.int (0 : Int32)), (.int (Int32.ofNat cs.length)), .null] below meth cO s₁ [] 0 0 := Stand.of_body Bd
  have e0 : s₁.heap = h0 := by rw [← hh, Bd.state]; rfl
  have N0 := Fr.nil n0
  have W0 : ∀ zQ, SS p e below s₁ m 0 #[.val (.ref a), .val (.ref src), .val (.int (0 : Int32)), .val (.int (Int32.ofNat cs.length)), .val .null, .unset] [] zQ → Steps p.tables e below (s₁.setTop (entryFrame m #[(.ref a), (.ref src), (.int (0 : Int32)), (.int (Int32.ofNat cs.length)), .null] 6)) zQ := fun tt kt => castTop (ef_sinitV m a src (0 : Int32) (Int32.ofNat cs.length)) kt
  have hn : cs.length < 1048576 := ok.2
  obtain ⟨T101, X101, e101, st101⟩ := initO X0 hx hZ hown (w50 hw) (w51 hw) (w52 hw) e0 (g := (mkF m 1 #[.val (.ref a), .val (.ref src), .val (.int (0 : Int32)), .val (.int (Int32.ofNat cs.length)), .val .null, .unset] [(.ref a)])) rfl (by rw [hml]; rfl) rfl (hb hby d_jdk_42_method_149_1) (by decide) (W := 0) (by show 2 * 0 + _ ≤ _; exact Nat.le_of_eq rfl) (by decide)
  have F103 : Sta Z h0 "java/lang/String" "COMPACT_STRINGS" "Z" (.int cS) := S_cs.ext O0.2
  obtain ⟨T102, X102, e102, st102⟩ := getS2 X101 hx hZ hown (host := "") (Or.inl (w24 hw)) Via.refl e101 F103 (g := (mkF m 27 #[.val (.ref a), .val (.ref src), .val (.int (0 : Int32)), .val (.int (Int32.ofNat cs.length)), .val .null, .unset] [])) rfl (hb hby d_jdk_42_method_149_27)
  obtain ⟨_, _, ⟨T104, L104, k104, n104⟩, -, X104, ⟨Lc104, hQ104, l104, y104, z104⟩, st104⟩ := Jvm.LawKit.callS X102 hx (y := yn7) hown (mvT hZ (w53 hw)) (mvT hZ (w54 hw)) (mvT hZ (w55 hw)) (mvT hZ (w56 hw)) (by decide) (backOf (W := 0) (rm_compress16 l Z a0 hw [] src kc cs h0 n0 Z0 Vs ok hcap hl) hZ (w56 hw) (w55 hw) (by decide) (by decide)) (g := (mkF m 36 #[.val (.ref a), .val (.ref src), .val (.int (0 : Int32)), .val (.int (Int32.ofNat cs.length)), .val .null, .unset] [(.int (Int32.ofNat cs.length)), (.int (0 : Int32)), (.ref src)])) rfl (by rw [hml]; rfl) (argsL := [(.ref src), (.int (0 : Int32)), (.int (Int32.ofNat cs.length))]) (rest := []) (lenOf pd__28__5b_CII_29__5b_B rfl) rfl (by show 2 * 0 + _ ≤ _; exact Nat.le_of_eq rfl) (hb hby d_jdk_42_method_149_36) (fun _ _ => ⟨rfl, e102, (Nat.le_of_ble_eq_true rfl), (Nat.le_of_ble_eq_true rfl)⟩)
  dsimp only [Pt.U, Pt.locs, Pt.cells, Pt.slots] at X104 l104 y104 z104 st104 hQ104
  subst l104 y104 z104
  obtain ⟨t_105, kb_106, rfl, Nq104, K104, P104_0, P104_1⟩ := hQ104
  have N104 := Fr.app N0 Nq104
  obtain ⟨_, _, ⟨T107, L107, k107, n107⟩, -, X107, ⟨Lc107, hQ107, l107, y107, z107⟩, st107⟩ := Jvm.LawKit.callS X104 hx (y := yn6) hown (mvT hZ (w60 hw)) (mvT hZ (w61 hw)) (mvT hZ (w55 hw)) (mvT hZ (w62 hw)) (by decide) (backOf (W := 1) (rm_coderOf l Z a0 hw [] t_105 kb_106 (enc cs) cs T104.heap n0 (Nat.le_trans Z0 K104.1) P104_1 ok) hZ (w62 hw) (w55 hw) (by decide) (by decide)) (g := (mkF m 45 #[.val (.ref a), .val (.ref src), .val (.int (0 : Int32)), .val (.int (Int32.ofNat cs.length)), .val .null, .val (.ref t_105)] [(.int (Int32.ofNat cs.length)), (.ref t_105), (.ref a)])) rfl (by rw [hml]; rfl) (argsL := [(.ref t_105), (.int (Int32.ofNat cs.length))]) (rest := [(.ref a)]) (lenOf pd__28__5b_BI_29_B rfl) rfl (by show 2 * 0 + _ ≤ _; exact Nat.le_of_eq rfl) (hb hby d_jdk_42_method_149_45) (fun _ _ => ⟨rfl, rfl, (Nat.le_of_ble_eq_true rfl), (Nat.le_of_ble_eq_true rfl)⟩)
  dsimp only [Pt.U, Pt.locs, Pt.cells, Pt.slots] at X107 l107 y107 z107 st107 hQ107
  subst l107 y107 z107
  obtain ⟨rfl, Nq107, eq107⟩ := hQ107
  have N107 := Fr.app N104 Nq107
  have F108 : Exa Z T104.heap a "java/lang/String" := (E1.keep K104)
  have F109 : Fld Z T104.heap a "java/lang/String" "coder" "B" (.int (0 : Int32)) := (F2.keep K104 nin0)
  obtain ⟨T110, h110, X110, e110, Wr110, st110⟩ := putFN X107 hx hZ hown (w25 hw) Via.refl eq107 F109 F108 (Or.inr ⟨(w11 hw), rfl, hnm⟩) (w8 hw) (ty := .byte) (v' := (.int (cdr cs))) (by decide) (show narrow .byte (.int (cdr cs)) = .int (cdr cs) from congrArg Value.int (own_narcdr cs)) (own_fitcdr cs) (g := (mkF m 48 #[.val (.ref a), .val (.ref src), .val (.int (0 : Int32)), .val (.int (Int32.ofNat cs.length)), .val .null, .val (.ref t_105)] [(.int (cdr cs)), (.ref a)])) rfl rfl (hb hby d_jdk_42_method_149_48)
  have K110 := Keep.of_wr Wr110
  have G110 := F109.same Wr110
  have N110 := Fr.snoc X110 N107 hg
  have F111 : Exa Z h110 a "java/lang/String" := (F108.keep K110)
  have F112 : Fld Z h110 a "java/lang/String" "value" "[B" .null := (Fld.other Wr110 (F1.keep K104 nin0) (Or.inr (slot_ne (Or.inr (w10 hw)) (Or.inr (w11 hw)) (by decide) (t := (.array .byte)) (t' := .byte) (by decide) (by decide))))
  obtain ⟨T113, h113, X113, e113, Wr113, st113⟩ := putF X110 hx hZ hown (host := "") (Or.inl (w26 hw)) Via.refl e110 F112 F111 (Or.inr ⟨(w10 hw), rfl, hnm⟩) (w8 hw) (ty := (.array .byte)) (by decide) rfl rfl (g := (mkF m 54 #[.val (.ref a), .val (.ref src), .val (.int (0 : Int32)), .val (.int (Int32.ofNat cs.length)), .val .null, .val (.ref t_105)] [(.ref t_105), (.ref a)])) rfl rfl (hb hby d_jdk_42_method_149_54)
  have K113 := Keep.of_wr Wr113
  have G113 := F112.same Wr113
  have N113 := Fr.snoc X113 N110 hg
  have W114 : ∀ zQ, SS p e below T113 m 57 #[.val (.ref a), .val (.ref src), .val (.int (0 : Int32)), .val (.int (Int32.ofNat cs.length)), .val .null, .val (.ref t_105)] [] zQ → Steps p.tables e below (s₁.setTop (entryFrame m #[(.ref a), (.ref src), (.int (0 : Int32)), (.int (Int32.ofNat cs.length)), .null] 6)) zQ := by
    intro tt kt
    refine W0 tt ?_
    refine XS.aloadN X0.here hx rfl (hb hby d_jdk_42_method_149_0) rfl rfl ?_
    show SS p e below s₁ m 1 #[.val (.ref a), .val (.ref src), .val (.int (0 : Int32)), .val (.int (Int32.ofNat cs.length)), .val .null, .unset] [(.ref a)] _
    refine st101 _ ?_
    refine XS.iloadN X101.here hx rfl (hb hby d_jdk_42_method_149_4) rfl ?_
    refine XS.ifYes X101.here hx rfl (pc0 := 5) (pc' := 27) rfl (hb hby d_jdk_42_method_149_5) rfl ((if0 _ _).trans (feq (fun q => by have := congrArg Int32.toInt q; rw [own_i (by omega)] at this; have z : (0 : Int32).toInt = 0 := rfl; omega)).2) (by decide) (by decide) ?_
    show SS p e below T101 m 27 #[.val (.ref a), .val (.ref src), .val (.int (0 : Int32)), .val (.int (Int32.ofNat cs.length)), .val .null, .unset] [] _
    refine st102 _ ?_
    refine XS.ifNo X102.here hx rfl (hb hby d_jdk_42_method_149_30) rfl ((if0 _ _).trans (feq hcS).1) ?_
    refine XS.aloadN X102.here hx rfl (hb hby d_jdk_42_method_149_33) rfl rfl ?_
    refine XS.iloadN X102.here hx rfl (hb hby d_jdk_42_method_149_34) rfl ?_
    refine XS.iloadN X102.here hx rfl (hb hby d_jdk_42_method_149_35) rfl ?_
    show SS p e below T102 m 36 #[.val (.ref a), .val (.ref src), .val (.int (0 : Int32)), .val (.int (Int32.ofNat cs.length)), .val .null, .unset] [(.int (Int32.ofNat cs.length)), (.int (0 : Int32)), (.ref src)] _
    refine st104 _ ?_
    refine XS.astore X104.here hx rfl (hb hby d_jdk_42_method_149_39) rfl rfl (l' := #[.val (.ref a), .val (.ref src), .val (.int (0 : Int32)), .val (.int (Int32.ofNat cs.length)), .val .null, .val (.ref t_105)]) rfl ?_
    refine XS.aloadN X104.here hx rfl (hb hby d_jdk_42_method_149_41) rfl rfl ?_
    refine XS.aload X104.here hx rfl (hb hby d_jdk_42_method_149_42) rfl rfl ?_
    refine XS.iloadN X104.here hx rfl (hb hby d_jdk_42_method_149_44) rfl ?_
    show SS p e below T104 m 45 #[.val (.ref a), .val (.ref src), .val (.int (0 : Int32)), .val (.int (Int32.ofNat cs.length)), .val .null, .val (.ref t_105)] [(.int (Int32.ofNat cs.length)), (.ref t_105), (.ref a)] _
    refine st107 _ ?_
    show SS p e below T107 m 48 #[.val (.ref a), .val (.ref src), .val (.int (0 : Int32)), .val (.int (Int32.ofNat cs.length)), .val .null, .val (.ref t_105)] [(.int (cdr cs)), (.ref a)] _
    refine st110 _ ?_
    refine XS.aloadN X110.here hx rfl (hb hby d_jdk_42_method_149_51) rfl rfl ?_
    refine XS.aload X110.here hx rfl (hb hby d_jdk_42_method_149_52) rfl rfl ?_
    show SS p e below T110 m 54 #[.val (.ref a), .val (.ref src), .val (.int (0 : Int32)), .val (.int (Int32.ofNat cs.length)), .val .null, .val (.ref t_105)] [(.ref t_105), (.ref a)] _
    refine st113 _ ?_
    exact kt
  have F115 : Exa Z h113 a "java/lang/String" := (F111.keep K113)
  have F116 : Fld Z h113 a "java/lang/String" "coder" "B" (.int (cdr cs)) := (Fld.other Wr113 G110 (Or.inr (slot_ne (Or.inr (w11 hw)) (Or.inr (w10 hw)) (by decide) (t := .byte) (t' := (.array .byte)) (by decide) (by decide))))
  have F117 : Arv Z h113 t_105 kb_106 .byte (Int32.ofNat (blen cs)) (enc cs) (.int (0 : Int32)) := ((P104_1.keep K110 (ninS (Ne.symm (Nat.ne_of_lt (Nat.lt_of_lt_of_le E1.lt P104_0))) nin0)).keep K113 (ninS (Ne.symm (Nat.ne_of_lt (Nat.lt_of_lt_of_le E1.lt P104_0))) nin0))
  obtain ⟨fs, hr, hrun, hended, hW, hsame⟩ := X113.leave (v := none) (fun _ => rfl)
  refine ⟨_, _, W114 _ (X113.returnOut hx Bd.returns (hb hby d_jdk_42_method_149_57) hr), hrun, hended, _, _, rfl, ?_, ⟨_, rfl⟩, hW, hsame.mono (by decide) (by decide)⟩
  show Q_sinitV Z a src kc cs cS h0 n0 _ T113.heap _
  rw [e113]
  exact ⟨t_105, kb_106, rfl, N113, (Keep.trans (Keep.trans (Keep.trans (Keep.refl h0 [a]) K104 all0) K110 (allS (Or.inl (List.mem_of_getElem? (i := 0) rfl)) all0)) K113 (allS (Or.inl (List.mem_of_getElem? (i := 0) rfl)) all0)), P104_0, ⟨F115, G113, F116, F117, ok⟩⟩
def Q_sinit (Z : State) (a : Addr) (src : Addr) (kc : ClassId) (cs : List Int32) (cS : Int32) (h0 : Heap) (n0 : Nat) (vQ_ : Option Value) (hQ_ : Heap) (LQ_ : List Loc) : Prop := ∃ t : Addr, ∃ kb : ClassId, vQ_ = none ∧ Fr n0 LQ_ ∧ Keep h0 hQ_ [a] ∧ h0.size ≤ t ∧ Str Z hQ_ a t kb cs
set_option maxRecDepth 65536 in
set_option maxHeartbeats 40000000 in
theorem rm_sinit (l : Launch) (Z : State) (a0 : Array Value) (hw : HW a0 Z) (ws : List Jvm.Cond) (a : Addr) (src : Addr) (kc : ClassId) (cs : List Int32) (cS : Int32) (h0 : Heap) (n0 : Nat) (Z0 : n0 ≤ h0.size) (O0 : Old Z n0 h0) (S_cs : Sta Z Z.heap "java/lang/String" "COMPACT_STRINGS" "Z" (.int cS)) (hcS : ¬ (cS = (0 : Int32))) (E1 : Exa Z h0 a "java/lang/String") (F1 : Fld Z h0 a "java/lang/String" "value" "[B" .null) (F2 : Fld Z h0 a "java/lang/String" "coder" "B" (.int (0 : Int32))) (hg : n0 ≤ a) (Vs : Arv Z h0 src kc .char (Int32.ofNat cs.length) (cs.map Value.int) (.int (0 : Int32))) (ok : OkS cs) (hcap : cs.length ≤ 5) (hpos : 0 < cs.length) (hne : a ≠ src) (hl : lat cs = true) :
    MetFree l yn9 (head1 (Jvm.Cond.code yn9 jdk_42_method_3_code 2 none :: ws) ({ frames := 3, cells := 1, slots := 5, locals := 52 } : Room)) (fun aQ_ UQ => aQ_ = #[(.ref a), (.ref src)] ∧ Z.Warmed39 UQ.vm ∧ UQ.heap = h0) (fun _ _ _ _ _ => True) (fun _ UQ oQ UQ' => ∃ vQ_ LQ_, oQ = .returned vQ_ ∧ Q_sinit Z a src kc cs cS h0 n0 vQ_ UQ'.heap LQ_ ∧ FrameEnd UQ oQ UQ' LQ_ ({ frames := 3, cells := 1, slots := 5, locals := 52 } : Room).cells ({ frames := 3, cells := 1, slots := 5, locals := 52 } : Room).slots) := by
  refine MetFree.of_bodySF (plainFor_of_name pn_java_lang_String) hisR ?_
  intro p e s m args below meth cO s₁ Bd hml0 hP hK
  obtain ⟨rfl, hZ, hh⟩ := hP
  have hx := Bd.exec
  have hby := Bd.bytes
  have hml : cO.maxLocals = 2 := hml0
  have hown : s.vm.findClass "java/lang/String" = some m.cls := findClass_of_methodNamed Bd.named
  have hnm := (name_of_methodNamed Bd.named Bd.method).1
  have X0 : Stand p l e ({ frames := 3, cells := 1, slots := 5, locals := 52 } : Room) s m #[(.ref a), (.ref src)] below meth cO s₁ [] 0 0 := Stand.of_body Bd
  have e0 : s₁.heap = h0 := by rw [← hh, Bd.state]; rfl
  have N0 := Fr.nil n0
  have W0 : ∀ zQ, SS p e below s₁ m 0 #[.val (.ref a), .val (.ref src)] [] zQ → Steps p.tables e below (s₁.setTop (entryFrame m #[(.ref a), (.ref src)] 2)) zQ := fun tt kt => castTop (ef_sinit m a src) kt
  obtain ⟨cl101, Ar101, -, S101, M101, -, -⟩ := id Vs
  obtain ⟨_, _, ⟨T102, L102, k102, n102⟩, -, X102, ⟨Lc102, hQ102, l102, y102, z102⟩, st102⟩ := X0.specialBack hx (y := yn8) rfl hown (mvT hZ (w46 hw)) (mvT hZ (w47 hw)) (mvT hZ (w49 hw)) (by decide) (backOf (W := 0) (rm_sinitV l Z a0 hw [] a src kc cs cS h0 n0 Z0 O0 S_cs hcS E1 F1 F2 hg Vs ok hcap hpos hne hl) hZ (w49 hw) (w7 hw) (by decide) (by decide)) (g := (mkF m 6 #[.val (.ref a), .val (.ref src)] [.null, (.int (Int32.ofNat cs.length)), (.int (0 : Int32)), (.ref src), (.ref a)])) rfl (by rw [hml]; rfl) (Steps.refl _) (a := a) (argsL := [(.ref src), (.int (0 : Int32)), (.int (Int32.ofNat cs.length)), .null]) (rest := []) (lenOf pd__28__5b_CIILjava_2f_lang_2f_Void_3b__29_V rfl) rfl (by show 2 * 0 + _ ≤ _; exact Nat.le_of_eq rfl) (hb hby d_jdk_42_method_3_6) (fun _ _ => ⟨rfl, e0, (Nat.le_of_ble_eq_true rfl), (Nat.le_of_ble_eq_true rfl)⟩)
  dsimp only [Pt.U, Pt.locs, Pt.cells, Pt.slots] at X102 l102 y102 z102 st102 hQ102
  subst l102 y102 z102
  obtain ⟨t_103, kb_104, rfl, Nq102, K102, P102_0, P102_1⟩ := hQ102
  have N102 := Fr.app N0 Nq102
  have W105 : ∀ zQ, SS p e below T102 m 9 #[.val (.ref a), .val (.ref src)] [] zQ → Steps p.tables e below (s₁.setTop (entryFrame m #[(.ref a), (.ref src)] 2)) zQ := by
    intro tt kt
    refine W0 tt ?_
    refine XS.aloadN X0.here hx rfl (hb hby d_jdk_42_method_3_0) rfl rfl ?_
    refine XS.aloadN X0.here hx rfl (hb hby d_jdk_42_method_3_1) rfl rfl ?_
    refine XS.iconst X0.here hx rfl (hb hby d_jdk_42_method_3_2) ?_
    refine XS.aloadN X0.here hx rfl (hb hby d_jdk_42_method_3_3) rfl rfl ?_
    show SS p e below s₁ m 4 #[.val (.ref a), .val (.ref src)] [(.ref src), (.int (0 : Int32)), (.ref src), (.ref a)] _
    refine X0.arraylength hx (by first | exact Ar101.1 | (rw [e0]; exact Ar101.1)) (State.isArrayOf_alike hZ.alike Ar101.2.1) (g := (mkF m 4 #[.val (.ref a), .val (.ref src)] [(.ref src), (.int (0 : Int32)), (.ref src), (.ref a)])) rfl rfl (hb hby d_jdk_42_method_3_4) _ ?_
    rw [len_of S101 M101]
    refine XS.aconstNull X0.here hx rfl (hb hby d_jdk_42_method_3_5) ?_
    show SS p e below s₁ m 6 #[.val (.ref a), .val (.ref src)] [.null, (.int (Int32.ofNat cs.length)), (.int (0 : Int32)), (.ref src), (.ref a)] _
    refine st102.trans ?_
    exact kt
  obtain ⟨fs, hr, hrun, hended, hW, hsame⟩ := X102.leave (v := none) (fun _ => rfl)
  refine ⟨_, _, W105 _ (X102.returnOut hx Bd.returns (hb hby d_jdk_42_method_3_9) hr), hrun, hended, _, _, rfl, ?_, ⟨_, rfl⟩, hW, hsame.mono (by decide) (by decide)⟩
  show Q_sinit Z a src kc cs cS h0 n0 _ T102.heap _
  exact ⟨t_103, kb_104, rfl, N102, (Keep.trans (Keep.refl h0 [a]) K102 (allS (Or.inl (List.mem_of_getElem? (i := 0) rfl)) all0)), P102_0, P102_1⟩
def Q_sinitV0 (Z : State) (a : Addr) (src : Addr) (h0 : Heap) (n0 : Nat) (vQ_ : Option Value) (hQ_ : Heap) (LQ_ : List Loc) : Prop := ∃ t : Addr, ∃ kb : ClassId, vQ_ = none ∧ Fr n0 LQ_ ∧ Keep h0 hQ_ [a] ∧ Str Z hQ_ a t kb ([] : List Int32)
set_option maxRecDepth 65536 in
set_option maxHeartbeats 40000000 in
theorem rm_sinitV0 (l : Launch) (Z : State) (a0 : Array Value) (hw : HW a0 Z) (ws : List Jvm.Cond) (a : Addr) (src : Addr) (h0 : Heap) (n0 : Nat) (Z0 : n0 ≤ h0.size) (E1 : Exa Z h0 a "java/lang/String") (F1 : Fld Z h0 a "java/lang/String" "value" "[B" .null) (F2 : Fld Z h0 a "java/lang/String" "coder" "B" (.int (0 : Int32))) (hg : n0 ≤ a) :
    MetFree l yn8 (head1 (Jvm.Cond.code yn8 jdk_42_method_149_code 6 none :: ws) ({ frames := 1, cells := 4, slots := 8, locals := 12 } : Room)) (fun aQ_ UQ => aQ_ = #[(.ref a), (.ref src), (.int (0 : Int32)), (.int (0 : Int32)), .null] ∧ Z.Warmed39 UQ.vm ∧ UQ.heap = h0 ∧ CHv Z EL_1 UQ.vm h0) (fun _ _ _ _ _ => True) (fun _ UQ oQ UQ' => ∃ vQ_ LQ_, oQ = .returned vQ_ ∧ Q_sinitV0 Z a src h0 n0 vQ_ UQ'.heap LQ_ ∧ CHr Z EL_1 UQ.vm UQ.heap UQ'.vm UQ'.heap ∧ ReturnedEndW UQ oQ UQ' LQ_ ({ frames := 1, cells := 4, slots := 8, locals := 12 } : Room).cells ({ frames := 1, cells := 4, slots := 8, locals := 12 } : Room).slots) := by
  refine MetFree.of_bodySF (plainFor_of_name pn_java_lang_String) hisR ?_
  intro p e s m args below meth cO s₁ Bd hml0 hP hK
  obtain ⟨rfl, hZ, hh, hH⟩ := hP
  have hx := Bd.exec
  have hby := Bd.bytes
  have hml : cO.maxLocals = 6 := hml0
  have hown : s.vm.findClass "java/lang/String" = some m.cls := findClass_of_methodNamed Bd.named
  have hnm := (name_of_methodNamed Bd.named Bd.method).1
  have X0 : Stand p l e ({ frames := 1, cells := 4, slots := 8, locals := 12 } : Room) (s.setVm s.vm) m #[(.ref a), (.ref src), (.int (0 : Int32)), (.int (0 : Int32)), .null] below meth cO s₁ [] 0 0 := Stand.of_body Bd
  have e0 : s₁.heap = h0 := by rw [← hh, Bd.state]; rfl
  have N0 := Fr.nil n0
  have hZ0 : Z.Warmed39 (s.setVm s.vm).vm := hZ
  have hown0 : (s.setVm s.vm).vm.findClass "java/lang/String" = some m.cls := hown
  have hS0 : s.Since s.vm 0 := (State.WarmedH.refl s).since 0
  have hk0 : 0 ≤ h0.size := Nat.zero_le _
  have hEL : EW Z a0 EL_1 := own_EW hw
  have R0 : CHr Z EL_1 s.vm h0 s.vm h0 := CHr.refl hH
  have W0 : ∀ zQ, SS p e below s₁ m 0 #[.val (.ref a), .val (.ref src), .val (.int (0 : Int32)), .val (.int (0 : Int32)), .val .null, .unset] [] zQ → Steps p.tables e below (s₁.setTop (entryFrame m #[(.ref a), (.ref src), (.int (0 : Int32)), (.int (0 : Int32)), .null] 6)) zQ := fun tt kt => castTop (ef_sinitV0 m a src (0 : Int32) (0 : Int32)) kt
  obtain ⟨T101, X101, e101, st101⟩ := initO X0 hx hZ0 hown0 (w50 hw) (w51 hw) (w52 hw) e0 (g := (mkF m 1 #[.val (.ref a), .val (.ref src), .val (.int (0 : Int32)), .val (.int (0 : Int32)), .val .null, .unset] [(.ref a)])) rfl (by rw [hml]; rfl) rfl (hb hby d_jdk_42_method_149_1) (by decide) (W := 0) (by show 2 * 0 + _ ≤ _; exact Nat.le_of_eq rfl) (by decide)
  obtain ⟨b102, T102, h102, k102, c102, kb102, X102, e102, E102, hS102, hk102, hZ102, hown102, LE102, LC102, LV102, LA102, l1102, l2102, A102, -, sf102, st102⟩ := ldcCH X101 hx hZ0 hown0 (w115 hw) (own_wS hw) e101 hS0 hk0 hEL (by decide +kernel) R0.1 (vs := (l1 ([] : List Int32))) (z := (0 : Int32)) (by decide +kernel) (by decide) (by decide) (g := (mkF m 9 #[.val (.ref a), .val (.ref src), .val (.int (0 : Int32)), .val (.int (0 : Int32)), .val .null, .unset] [(.ref a)])) rfl (hb hby d_jdk_42_method_149_9) (n := 0) (by decide) (by decide) (by decide) (by decide)
  have K102 := (Keep.refl h0 []).ext E102
  have R103 : CHr Z EL_1 s.vm h0 T102.vm h102 := R0.trans A102
  have LS102 : Str Z h102 b102 c102 kb102 ([] : List Int32) := ⟨LE102, LV102, LC102, LA102, by decide, by decide⟩
  have F104 : Exa Z h102 a "java/lang/String" := (E1.keep K102)
  have F105 : Fld Z h102 a "java/lang/String" "value" "[B" .null := (F1.keep K102 nin0)
  have Sf106 : Safe Z EL_1 T102.vm h102 a := (own_safeS hZ102.alike F104 F105)
  obtain ⟨T107, X107, e107, st107⟩ := getF X102 hx hZ102 hown102 (host := "") (Or.inl (w26 hw)) Via.refl e102 LV102 (g := (mkF m 11 #[.val (.ref a), .val (.ref src), .val (.int (0 : Int32)), .val (.int (0 : Int32)), .val .null, .unset] [(.ref b102), (.ref a)])) rfl rfl (hb hby d_jdk_42_method_149_11)
  obtain ⟨T108, h108, X108, e108, Wr108, st108⟩ := putF X107 hx hZ102 hown102 (host := "") (Or.inl (w26 hw)) Via.refl e107 F105 F104 (Or.inr ⟨(w10 hw), rfl, hnm⟩) (w8 hw) (ty := (.array .byte)) (by decide) rfl rfl (g := (mkF m 14 #[.val (.ref a), .val (.ref src), .val (.int (0 : Int32)), .val (.int (0 : Int32)), .val .null, .unset] [(.ref c102), (.ref a)])) rfl rfl (hb hby d_jdk_42_method_149_14)
  have K108 := Keep.of_wr Wr108
  have G108 := F105.same Wr108
  have N108 := Fr.snoc X108 N0 hg
  have R109 : CHr Z EL_1 s.vm h0 T102.vm h108 := R103.trans (CHr.keep K108 (sfS Sf106 sf0) R103.1)
  obtain ⟨b110, T110, h110, k110, c110, kb110, X110, e110, E110, hS110, hk110, hZ110, hown110, LE110, LC110, LV110, LA110, l1110, l2110, A110, -, sf110, st110⟩ := ldcCH X108 hx hZ102 hown102 (w115 hw) (own_wS hw) e108 hS102 (Nat.le_trans hk102 K108.1) hEL (by decide +kernel) R109.1 (vs := (l1 ([] : List Int32))) (z := (0 : Int32)) (by decide +kernel) (by decide) (by decide) (g := (mkF m 18 #[.val (.ref a), .val (.ref src), .val (.int (0 : Int32)), .val (.int (0 : Int32)), .val .null, .unset] [(.ref a)])) rfl (hb hby d_jdk_42_method_149_18) (n := 0) (by decide) (by decide) (by decide) (by decide)
  have K110 := (Keep.refl h108 []).ext E110
  have R111 : CHr Z EL_1 s.vm h0 T110.vm h110 := R109.trans A110
  have LS110 : Str Z h110 b110 c110 kb110 ([] : List Int32) := ⟨LE110, LV110, LC110, LA110, by decide, by decide⟩
  have Sf112 : Safe Z EL_1 T110.vm h110 a := (CHr.safe A110 (Nat.lt_of_lt_of_le E1.lt (Nat.le_trans K102.1 K108.1)) (Safe.keep K108 (sfS Sf106 sf0) R103.1 Sf106))
  obtain ⟨T113, X113, e113, st113⟩ := getF X110 hx hZ110 hown110 (host := "") (Or.inl (w25 hw)) Via.refl e110 LC110 (g := (mkF m 20 #[.val (.ref a), .val (.ref src), .val (.int (0 : Int32)), .val (.int (0 : Int32)), .val .null, .unset] [(.ref b110), (.ref a)])) rfl rfl (hb hby d_jdk_42_method_149_20)
  have F114 : Exa Z h110 a "java/lang/String" := ((F104.keep K108).keep K110)
  have F115 : Fld Z h110 a "java/lang/String" "coder" "B" (.int (0 : Int32)) := ((Fld.other Wr108 (F2.keep K102 nin0) (Or.inr (slot_ne (Or.inr (w11 hw)) (Or.inr (w10 hw)) (by decide) (t := .byte) (t' := (.array .byte)) (by decide) (by decide)))).keep K110 nin0)
  obtain ⟨T116, h116, X116, e116, Wr116, st116⟩ := putFN X113 hx hZ110 hown110 (w25 hw) Via.refl e113 F115 F114 (Or.inr ⟨(w11 hw), rfl, hnm⟩) (w8 hw) (ty := .byte) (v' := (.int (0 : Int32))) (by decide) rfl rfl (g := (mkF m 23 #[.val (.ref a), .val (.ref src), .val (.int (0 : Int32)), .val (.int (0 : Int32)), .val .null, .unset] [(.int (0 : Int32)), (.ref a)])) rfl rfl (hb hby d_jdk_42_method_149_23)
  have K116 := Keep.of_wr Wr116
  have G116 := F115.same Wr116
  have N116 := Fr.snoc X116 N108 hg
  have R117 : CHr Z EL_1 s.vm h0 T110.vm h116 := R111.trans (CHr.keep K116 (sfS Sf112 sf0) R111.1)
  have W118 : ∀ zQ, SS p e below T116 m 26 #[.val (.ref a), .val (.ref src), .val (.int (0 : Int32)), .val (.int (0 : Int32)), .val .null, .unset] [] zQ → Steps p.tables e below (s₁.setTop (entryFrame m #[(.ref a), (.ref src), (.int (0 : Int32)), (.int (0 : Int32)), .null] 6)) zQ := by
    intro tt kt
    refine W0 tt ?_
    refine XS.aloadN X0.here hx rfl (hb hby d_jdk_42_method_149_0) rfl rfl ?_
    show SS p e below s₁ m 1 #[.val (.ref a), .val (.ref src), .val (.int (0 : Int32)), .val (.int (0 : Int32)), .val .null, .unset] [(.ref a)] _
    refine st101 _ ?_
    refine XS.iloadN X101.here hx rfl (hb hby d_jdk_42_method_149_4) rfl ?_
    refine XS.ifNo X101.here hx rfl (hb hby d_jdk_42_method_149_5) rfl ((if0 _ _).trans (teq (by decide)).2) ?_
    refine XS.aloadN X101.here hx rfl (hb hby d_jdk_42_method_149_8) rfl rfl ?_
    show SS p e below T101 m 9 #[.val (.ref a), .val (.ref src), .val (.int (0 : Int32)), .val (.int (0 : Int32)), .val .null, .unset] [(.ref a)] _
    refine st102 _ ?_
    show SS p e below T102 m 11 #[.val (.ref a), .val (.ref src), .val (.int (0 : Int32)), .val (.int (0 : Int32)), .val .null, .unset] [(.ref b102), (.ref a)] _
    refine st107 _ ?_
    show SS p e below T107 m 14 #[.val (.ref a), .val (.ref src), .val (.int (0 : Int32)), .val (.int (0 : Int32)), .val .null, .unset] [(.ref c102), (.ref a)] _
    refine st108 _ ?_
    refine XS.aloadN X108.here hx rfl (hb hby d_jdk_42_method_149_17) rfl rfl ?_
    show SS p e below T108 m 18 #[.val (.ref a), .val (.ref src), .val (.int (0 : Int32)), .val (.int (0 : Int32)), .val .null, .unset] [(.ref a)] _
    refine st110 _ ?_
    show SS p e below T110 m 20 #[.val (.ref a), .val (.ref src), .val (.int (0 : Int32)), .val (.int (0 : Int32)), .val .null, .unset] [(.ref b110), (.ref a)] _
    refine st113 _ ?_
    show SS p e below T113 m 23 #[.val (.ref a), .val (.ref src), .val (.int (0 : Int32)), .val (.int (0 : Int32)), .val .null, .unset] [(.int (0 : Int32)), (.ref a)] _
    refine st116 _ ?_
    exact kt
  have F119 : Exa Z h116 a "java/lang/String" := (F114.keep K116)
  have F120 : Fld Z h116 a "java/lang/String" "value" "[B" (.ref c102) := (Fld.other Wr116 (G108.keep K110 nin0) (Or.inr (slot_ne (Or.inr (w10 hw)) (Or.inr (w11 hw)) (by decide) (t := (.array .byte)) (t' := .byte) (by decide) (by decide))))
  have F121 : Arv Z h116 c102 kb102 .byte (0 : Int32) (l1 ([] : List Int32)) (.int (0 : Int32)) := (((LA102.keep K108 (ninS (Ne.symm (sf102 _ Sf106).2) nin0)).keep K110 nin0).keep K116 (ninS (Ne.symm (sf102 _ Sf106).2) nin0))
  obtain ⟨fs, hr, hrun, hended, hRW⟩ := Jvm.Stand.leaveW X116 hS110 (by rw [e116]; exact (Nat.le_trans hk110 K116.1)) (v := none) (fun _ => rfl) (BodyLoose.notSynchronized Bd)
  refine ⟨_, _, W118 _ (X116.returnOut hx Bd.returns (hb hby d_jdk_42_method_149_26) hr), hrun, hended, _, _, rfl, ?_, own_chr (T := T116) R117 (CHv.at X116 hZ110 hEL R117.1) hh.symm e116, own_rw hRW (by decide) (by decide)⟩
  show Q_sinitV0 Z a src h0 n0 _ T116.heap _
  rw [e116]
  exact ⟨c102, kb102, rfl, N116, (Keep.trans (Keep.trans (Keep.trans (Keep.trans (Keep.refl h0 [a]) K102 all0) K108 (allS (Or.inl (List.mem_of_getElem? (i := 0) rfl)) all0)) K110 all0) K116 (allS (Or.inl (List.mem_of_getElem? (i := 0) rfl)) all0)), ⟨F119, F120, G116, F121, by decide, by decide⟩⟩
def Q_sinit0 (Z : State) (a : Addr) (src : Addr) (kc : ClassId) (h0 : Heap) (n0 : Nat) (vQ_ : Option Value) (hQ_ : Heap) (LQ_ : List Loc) : Prop := ∃ t : Addr, ∃ kb : ClassId, vQ_ = none ∧ Fr n0 LQ_ ∧ Keep h0 hQ_ [a] ∧ Str Z hQ_ a t kb ([] : List Int32)
set_option maxRecDepth 65536 in
set_option maxHeartbeats 40000000 in
theorem rm_sinit0 (l : Launch) (Z : State) (a0 : Array Value) (hw : HW a0 Z) (ws : List Jvm.Cond) (a : Addr) (src : Addr) (kc : ClassId) (h0 : Heap) (n0 : Nat) (Z0 : n0 ≤ h0.size) (E1 : Exa Z h0 a "java/lang/String") (F1 : Fld Z h0 a "java/lang/String" "value" "[B" .null) (F2 : Fld Z h0 a "java/lang/String" "coder" "B" (.int (0 : Int32))) (hg : n0 ≤ a) (Vs : Arv Z h0 src kc .char (0 : Int32) [] (.int (0 : Int32))) :
    MetFree l yn9 (head1 (Jvm.Cond.code yn9 jdk_42_method_3_code 2 none :: ws) ({ frames := 2, cells := 4, slots := 8, locals := 29 } : Room)) (fun aQ_ UQ => aQ_ = #[(.ref a), (.ref src)] ∧ Z.Warmed39 UQ.vm ∧ UQ.heap = h0 ∧ CHv Z EL_1 UQ.vm h0) (fun _ _ _ _ _ => True) (fun _ UQ oQ UQ' => ∃ vQ_ LQ_, oQ = .returned vQ_ ∧ Q_sinit0 Z a src kc h0 n0 vQ_ UQ'.heap LQ_ ∧ CHr Z EL_1 UQ.vm UQ.heap UQ'.vm UQ'.heap ∧ ReturnedEndW UQ oQ UQ' LQ_ ({ frames := 2, cells := 4, slots := 8, locals := 29 } : Room).cells ({ frames := 2, cells := 4, slots := 8, locals := 29 } : Room).slots) := by
  refine MetFree.of_bodySF (plainFor_of_name pn_java_lang_String) hisR ?_
  intro p e s m args below meth cO s₁ Bd hml0 hP hK
  obtain ⟨rfl, hZ, hh, hH⟩ := hP
  have hx := Bd.exec
  have hby := Bd.bytes
  have hml : cO.maxLocals = 2 := hml0
  have hown : s.vm.findClass "java/lang/String" = some m.cls := findClass_of_methodNamed Bd.named
  have hnm := (name_of_methodNamed Bd.named Bd.method).1
  have X0 : Stand p l e ({ frames := 2, cells := 4, slots := 8, locals := 29 } : Room) (s.setVm s.vm) m #[(.ref a), (.ref src)] below meth cO s₁ [] 0 0 := Stand.of_body Bd
  have e0 : s₁.heap = h0 := by rw [← hh, Bd.state]; rfl
  have N0 := Fr.nil n0
  have hZ0 : Z.Warmed39 (s.setVm s.vm).vm := hZ
  have hown0 : (s.setVm s.vm).vm.findClass "java/lang/String" = some m.cls := hown
  have hS0 : s.Since s.vm 0 := (State.WarmedH.refl s).since 0
  have hk0 : 0 ≤ h0.size := Nat.zero_le _
  have hEL : EW Z a0 EL_1 := own_EW hw
  have R0 : CHr Z EL_1 s.vm h0 s.vm h0 := CHr.refl hH
  have W0 : ∀ zQ, SS p e below s₁ m 0 #[.val (.ref a), .val (.ref src)] [] zQ → Steps p.tables e below (s₁.setTop (entryFrame m #[(.ref a), (.ref src)] 2)) zQ := fun tt kt => castTop (ef_sinit0 m a src) kt
  obtain ⟨cl101, Ar101, -, S101, M101, -, -⟩ := id Vs
  obtain ⟨_, _, ⟨T102, L102, k102, n102⟩, -, X102', hS102', hgr102, ⟨Lc102, hQ102, l102, y102, z102, A102⟩, st102⟩ := X0.specialBackS hx (y := yn8) rfl hown0 (mvT hZ0 (w46 hw)) (mvT hZ0 (w47 hw)) (mvT hZ0 (w49 hw)) (by decide) (backOfSH (W := 0) (rm_sinitV0 l Z a0 hw [] a src h0 n0 Z0 E1 F1 F2 hg) hZ0 (w49 hw) (w7 hw) (by decide) (by decide) hEL R0.1) (g := (mkF m 6 #[.val (.ref a), .val (.ref src)] [.null, (.int (0 : Int32)), (.int (0 : Int32)), (.ref src), (.ref a)])) rfl (by rw [hml]; rfl) (Steps.refl _) (a := a) (argsL := [(.ref src), (.int (0 : Int32)), (.int (0 : Int32)), .null]) (rest := []) (lenOf pd__28__5b_CIILjava_2f_lang_2f_Void_3b__29_V rfl) rfl (by show 2 * 0 + _ ≤ _; exact Nat.le_of_eq rfl) (hb hby d_jdk_42_method_3_6) (fun _ _ => ⟨rfl, e0, (Nat.le_of_ble_eq_true rfl), (Nat.le_of_ble_eq_true rfl)⟩)
  dsimp only [Pt.U, Pt.locs, Pt.cells, Pt.slots] at X102' hS102' hgr102 l102 y102 z102 st102 hQ102 A102
  subst l102 y102 z102
  obtain ⟨X102, hS102, hZ102, hown102⟩ := rebS hS0 (by rw [e0]; exact hk0) X102' hS102' hgr102 hZ0 hown0
  obtain ⟨t_103, kb_104, rfl, Nq102, K102, P102_0⟩ := hQ102
  have N102 := Fr.app N0 Nq102
  have R105 : CHr Z EL_1 s.vm h0 T102.vm T102.heap := R0.trans A102
  have hk102 : T102.heap.size ≤ T102.heap.size := Nat.le_refl _
  have W106 : ∀ zQ, SS p e below T102 m 9 #[.val (.ref a), .val (.ref src)] [] zQ → Steps p.tables e below (s₁.setTop (entryFrame m #[(.ref a), (.ref src)] 2)) zQ := by
    intro tt kt
    refine W0 tt ?_
    refine XS.aloadN X0.here hx rfl (hb hby d_jdk_42_method_3_0) rfl rfl ?_
    refine XS.aloadN X0.here hx rfl (hb hby d_jdk_42_method_3_1) rfl rfl ?_
    refine XS.iconst X0.here hx rfl (hb hby d_jdk_42_method_3_2) ?_
    refine XS.aloadN X0.here hx rfl (hb hby d_jdk_42_method_3_3) rfl rfl ?_
    show SS p e below s₁ m 4 #[.val (.ref a), .val (.ref src)] [(.ref src), (.int (0 : Int32)), (.ref src), (.ref a)] _
    refine X0.arraylength hx (by first | exact Ar101.1 | (rw [e0]; exact Ar101.1)) (State.isArrayOf_alike hZ0.alike Ar101.2.1) (g := (mkF m 4 #[.val (.ref a), .val (.ref src)] [(.ref src), (.int (0 : Int32)), (.ref src), (.ref a)])) rfl rfl (hb hby d_jdk_42_method_3_4) _ ?_
    rw [len_of S101 M101]
    refine XS.aconstNull X0.here hx rfl (hb hby d_jdk_42_method_3_5) ?_
    show SS p e below s₁ m 6 #[.val (.ref a), .val (.ref src)] [.null, (.int (0 : Int32)), (.int (0 : Int32)), (.ref src), (.ref a)] _
    refine st102.trans ?_
    exact kt
  obtain ⟨fs, hr, hrun, hended, hRW⟩ := Jvm.Stand.leaveW X102 hS102 hk102 (v := none) (fun _ => rfl) (BodyLoose.notSynchronized Bd)
  refine ⟨_, _, W106 _ (X102.returnOut hx Bd.returns (hb hby d_jdk_42_method_3_9) hr), hrun, hended, _, _, rfl, ?_, own_chr (T := T102) R105 (CHv.at X102 hZ102 hEL R105.1) hh.symm rfl, own_rw hRW (by decide) (by decide)⟩
  show Q_sinit0 Z a src kc h0 n0 _ T102.heap _
  exact ⟨t_103, kb_104, rfl, N102, (Keep.trans (Keep.refl h0 [a]) K102 (allS (Or.inl (List.mem_of_getElem? (i := 0) rfl)) all0)), P102_0⟩
set_option maxRecDepth 65536 in
set_option maxHeartbeats 40000000 in
theorem lp_l1eq {p : Program} {l : Launch} {e : Env} {R : Room} {s : State} {m : MethodId} {args : Array Value} {below : List Frame} {meth : Method} {cO : Code} {cells slots : Nat} {Z : State} {a0 : Array Value} (hx : p.tables.exec = Jvm.exec) (hZ : Z.Warmed39 s.vm) (hw : HW a0 Z) (hby : cO.code = jdk_43_method_13_code) (hml : cO.maxLocals = 3) (hown : s.vm.findClass "java/lang/StringLatin1" = some m.cls) (hRf : 0 ≤ R.frames) (hRl : 0 ≤ R.locals) (hRc : cells ≤ R.cells) (hRs : slots ≤ R.slots) (hret : meth.sig.returnType = some .boolean) (t1 : Addr) (t2 : Addr) (k1 : ClassId) (k2 : ClassId) (cs1 : List Int32) (cs2 : List Int32) (n0 : Nat) (ok1 : OkS cs1) (ok2 : OkS cs2) (hl1 : lat cs1 = true) (hl2 : lat cs2 = true) :
    ∀ suf : List Int32, ∀ (pre : List Int32) (suf2 : List Int32) (T0 : State) (L0 : List Loc) (h0 : Heap) (X0 : Stand p l e R s m args below meth cO T0 L0 cells slots) (e0 : T0.heap = h0) (N0 : Fr n0 L0) (Z0 : n0 ≤ h0.size) (V1 : Arv Z h0 t1 k1 .byte (Int32.ofNat cs1.length) (l1 cs1) (.int (0 : Int32))) (V2 : Arv Z h0 t2 k2 .byte (Int32.ofNat cs2.length) (l1 cs2) (.int (0 : Int32))) (hk2 : cs2 = pre ++ suf2) (hlen : suf.length = suf2.length) (hk : cs1 = pre ++ suf), ∃ (T' : State) (L' : List Loc) (h' : Heap), Stand p l e R s m args below meth cO T' L' cells slots ∧ T'.heap = h' ∧ Fr n0 L' ∧ h' = h0 ∧ ∀ fs, (∀ (f : JFrame) (acts : List Action), f.method = m → f.locked = none → f.entered = [] → (doReturn e (T'.setTop f) acts (some (.int (if cs1 = cs2 then (1 : Int32) else (0 : Int32))))).1 = T'.setFrames fs) → SS p e below T0 m 9 #[.val (.ref t1), .val (.ref t2), .val (.int (Int32.ofNat pre.length))] [] (T'.setFrames fs) := by
  intro suf
  induction suf with
  | nil =>
    intro pre suf2 T0 L0 h0 X0 e0 N0 Z0 V1 V2 hk2 hlen hk
    have W0 : ∀ zQ, SS p e below T0 m 9 #[.val (.ref t1), .val (.ref t2), .val (.int (Int32.ofNat pre.length))] [] zQ → Steps p.tables e below (T0.setTop (mkF m 9 #[.val (.ref t1), .val (.ref t2), .val (.int (Int32.ofNat pre.length))] [])) zQ := fun tt kt => kt
    have hn : cs1.length < 1048576 := ok1.2
    have e2 : suf2 = [] := List.length_eq_zero_iff.mp hlen.symm
    have heq : cs1 = cs2 := by rw [hk, hk2, e2]
    have hl0 : cs1.length = pre.length := by rw [hk]; simp
    obtain ⟨cl101, Ar101, -, S101, M101, -, -⟩ := id V1
    have W102 : ∀ zQ, SS p e below T0 m 33 #[.val (.ref t1), .val (.ref t2), .val (.int (Int32.ofNat pre.length))] [(.int (1 : Int32))] zQ → Steps p.tables e below (T0.setTop (mkF m 9 #[.val (.ref t1), .val (.ref t2), .val (.int (Int32.ofNat pre.length))] [])) zQ := by
      intro tt kt
      refine W0 tt ?_
      refine XS.iloadN X0.here hx rfl (hb hby d_jdk_43_method_13_9) rfl ?_
      refine XS.aloadN X0.here hx rfl (hb hby d_jdk_43_method_13_10) rfl rfl ?_
      show SS p e below T0 m 11 #[.val (.ref t1), .val (.ref t2), .val (.int (Int32.ofNat pre.length))] [(.ref t1), (.int (Int32.ofNat pre.length))] _
      refine X0.arraylength hx (by first | exact Ar101.1 | (rw [e0]; exact Ar101.1)) (State.isArrayOf_alike hZ.alike Ar101.2.1) (g := (mkF m 11 #[.val (.ref t1), .val (.ref t2), .val (.int (Int32.ofNat pre.length))] [(.ref t1), (.int (Int32.ofNat pre.length))])) rfl rfl (hb hby d_jdk_43_method_13_11) _ ?_
      rw [len_of S101 M101]
      refine XS.icmpYes X0.here hx rfl (pc0 := 12) (pc' := 32) rfl (hb hby d_jdk_43_method_13_12) rfl (flt (own_nlt (by omega) (by omega))).2.1 (by decide) (by decide) ?_
      refine XS.iconst X0.here hx rfl (hb hby d_jdk_43_method_13_32) ?_
      exact kt
    exact ⟨T0, _, h0, X0, e0, N0, rfl, fun fs hr => W102 _ (retN X0 hx (t := .boolean) hret (by simp) (hb hby d_jdk_43_method_13_33) (by rw [show (Value.int (nar .boolean (1 : Int32))) = (Value.int (if cs1 = cs2 then (1 : Int32) else (0 : Int32))) from (by rw [if_pos heq]; first | done | rfl)]; exact hr))⟩
  | cons cc r ih =>
    intro pre suf2 T0 L0 h0 X0 e0 N0 Z0 V1 V2 hk2 hlen hk
    have W0 : ∀ zQ, SS p e below T0 m 9 #[.val (.ref t1), .val (.ref t2), .val (.int (Int32.ofNat pre.length))] [] zQ → Steps p.tables e below (T0.setTop (mkF m 9 #[.val (.ref t1), .val (.ref t2), .val (.int (Int32.ofNat pre.length))] [])) zQ := fun tt kt => kt
    have hn : cs1.length < 1048576 := ok1.2
    have hn2 : cs2.length < 1048576 := ok2.2
    obtain ⟨dd, r2, rfl⟩ : ∃ dd r2, suf2 = dd :: r2 := by cases suf2 with | nil => simp at hlen | cons x y => exact ⟨x, y, rfl⟩
    have hlt : pre.length < cs1.length := by rw [hk]; simp
    have hlt2 : pre.length < cs2.length := by rw [hk2]; simp
    have hc1 : cs1.getD pre.length 0 = cc := by rw [hk]; exact app_at pre r cc 0
    have hc2 : cs2.getD pre.length 0 = dd := by rw [hk2]; exact app_at pre r2 dd 0
    obtain ⟨cl103, Ar103, -, S103, M103, -, -⟩ := id V1
    obtain ⟨cl104, Ar104, q104, S104, M104, H104, F104g⟩ := id V1
    have hin104 : ¬ ((Int32.ofNat pre.length) < 0 ∨ cl104.slots.size ≤ ((Int32.ofNat pre.length)).toNatClampNeg) := inb_of S104 ⟨own_nneg (by omega), own_lt hlt (by omega)⟩
    have hat104 : cl104.slots[((Int32.ofNat pre.length)).toNatClampNeg]? = some (.int (cc.toInt8.toInt32)) := Has.at H104 hin104 (by rw [own_cl (by omega), l1_at cs1 _ _ hlt, hc1])
    obtain ⟨cl105, Ar105, q105, S105, M105, H105, F105g⟩ := id V2
    have hin105 : ¬ ((Int32.ofNat pre.length) < 0 ∨ cl105.slots.size ≤ ((Int32.ofNat pre.length)).toNatClampNeg) := inb_of S105 ⟨own_nneg (by omega), own_lt hlt2 (by omega)⟩
    have hat105 : cl105.slots[((Int32.ofNat pre.length)).toNatClampNeg]? = some (.int (dd.toInt8.toInt32)) := Has.at H105 hin105 (by rw [own_cl (by omega), l1_at cs2 _ _ hlt2, hc2])
    have W106 : ∀ zQ, SS p e below T0 m 21 #[.val (.ref t1), .val (.ref t2), .val (.int (Int32.ofNat pre.length))] [(.int (dd.toInt8.toInt32)), (.int (cc.toInt8.toInt32))] zQ → Steps p.tables e below (T0.setTop (mkF m 9 #[.val (.ref t1), .val (.ref t2), .val (.int (Int32.ofNat pre.length))] [])) zQ := by
      intro tt kt
      refine W0 tt ?_
      refine XS.iloadN X0.here hx rfl (hb hby d_jdk_43_method_13_9) rfl ?_
      refine XS.aloadN X0.here hx rfl (hb hby d_jdk_43_method_13_10) rfl rfl ?_
      show SS p e below T0 m 11 #[.val (.ref t1), .val (.ref t2), .val (.int (Int32.ofNat pre.length))] [(.ref t1), (.int (Int32.ofNat pre.length))] _
      refine X0.arraylength hx (by first | exact Ar103.1 | (rw [e0]; exact Ar103.1)) (State.isArrayOf_alike hZ.alike Ar103.2.1) (g := (mkF m 11 #[.val (.ref t1), .val (.ref t2), .val (.int (Int32.ofNat pre.length))] [(.ref t1), (.int (Int32.ofNat pre.length))])) rfl rfl (hb hby d_jdk_43_method_13_11) _ ?_
      rw [len_of S103 M103]
      refine XS.icmpNo X0.here hx rfl (hb hby d_jdk_43_method_13_12) rfl (tlt (own_lt hlt (by omega))).2.1 ?_
      refine XS.aloadN X0.here hx rfl (hb hby d_jdk_43_method_13_15) rfl rfl ?_
      refine XS.iloadN X0.here hx rfl (hb hby d_jdk_43_method_13_16) rfl ?_
      show SS p e below T0 m 17 #[.val (.ref t1), .val (.ref t2), .val (.int (Int32.ofNat pre.length))] [(.int (Int32.ofNat pre.length)), (.ref t1)] _
      refine X0.baloadBytes hx (j := (Int32.ofNat pre.length)) (v := (.int (cc.toInt8.toInt32))) (by first | exact Ar104.1 | (rw [e0]; exact Ar104.1)) (State.isArrayOf_alike hZ.alike Ar104.2.1) Ar104.2.2 hin104 hat104 (g := (mkF m 17 #[.val (.ref t1), .val (.ref t2), .val (.int (Int32.ofNat pre.length))] [(.int (Int32.ofNat pre.length)), (.ref t1)])) rfl rfl (hb hby d_jdk_43_method_13_17) _ ?_
      refine XS.aloadN X0.here hx rfl (hb hby d_jdk_43_method_13_18) rfl rfl ?_
      refine XS.iloadN X0.here hx rfl (hb hby d_jdk_43_method_13_19) rfl ?_
      show SS p e below T0 m 20 #[.val (.ref t1), .val (.ref t2), .val (.int (Int32.ofNat pre.length))] [(.int (Int32.ofNat pre.length)), (.ref t2), (.int (cc.toInt8.toInt32))] _
      refine X0.baloadBytes hx (j := (Int32.ofNat pre.length)) (v := (.int (dd.toInt8.toInt32))) (by first | exact Ar105.1 | (rw [e0]; exact Ar105.1)) (State.isArrayOf_alike hZ.alike Ar105.2.1) Ar105.2.2 hin105 hat105 (g := (mkF m 20 #[.val (.ref t1), .val (.ref t2), .val (.int (Int32.ofNat pre.length))] [(.int (Int32.ofNat pre.length)), (.ref t2), (.int (cc.toInt8.toInt32))])) rfl rfl (hb hby d_jdk_43_method_13_20) _ ?_
      exact kt
    by_cases hc107 : (cc.toInt8.toInt32) = (dd.toInt8.toInt32)
    ·
      have hcd : cc = dd := by have x := own_l1c (ok1.at hlt).1 (lat_at hl1 hlt); have y := own_l1c (ok2.at hlt2).1 (lat_at hl2 hlt2); rw [hc1] at x; rw [hc2] at y; rw [hc107] at x; exact x.symm.trans y
      have W108 : ∀ zQ, SS p e below T0 m 9 #[.val (.ref t1), .val (.ref t2), .val (.int (Int32.ofNat (pre ++ [cc]).length))] [] zQ → Steps p.tables e below (T0.setTop (mkF m 9 #[.val (.ref t1), .val (.ref t2), .val (.int (Int32.ofNat pre.length))] [])) zQ := by
        intro tt kt
        refine W106 tt ?_
        refine XS.icmpYes X0.here hx rfl (pc0 := 21) (pc' := 26) rfl (hb hby d_jdk_43_method_13_21) rfl (teq hc107).1 (by decide) (by decide) ?_
        show SS p e below T0 m 26 #[.val (.ref t1), .val (.ref t2), .val (.int (Int32.ofNat pre.length))] [] _
        refine XS.iinc X0.here hx rfl (hb hby d_jdk_43_method_13_26) rfl (l' := #[.val (.ref t1), .val (.ref t2), .val (.int ((Int32.ofNat pre.length) + (1 : Int32)))]) rfl ?_
        show SS p e below T0 m 29 #[.val (.ref t1), .val (.ref t2), .val (.int ((Int32.ofNat pre.length) + (1 : Int32)))] [] _
        rw [show ((Int32.ofNat pre.length) + (1 : Int32)) = (Int32.ofNat (pre ++ [cc]).length) from (by rw [own_succ]; simp)]
        refine XS.goto X0.here hx rfl (pc0 := 29) (pc' := 9) rfl (hb hby d_jdk_43_method_13_29) (by decide) (by decide) ?_
        exact kt
      obtain ⟨T109, L109, h109, X109, e109, N109, K109, st109⟩ := ih (pre ++ [cc]) r2 T0 _ h0 X0 e0 N0 Z0 V1 V2 (by rw [hk2, hcd]; simp) (by simpa using hlen) (by rw [hk]; simp)
      exact ⟨T109, L109, h109, X109, e109, N109, K109, fun tt kt => W108 _ (st109 _ kt)⟩
    ·
      have hne : ¬ cs1 = cs2 := fun q => hc107 (by rw [← hc1, ← hc2, q])
      have W110 : ∀ zQ, SS p e below T0 m 25 #[.val (.ref t1), .val (.ref t2), .val (.int (Int32.ofNat pre.length))] [(.int (0 : Int32))] zQ → Steps p.tables e below (T0.setTop (mkF m 9 #[.val (.ref t1), .val (.ref t2), .val (.int (Int32.ofNat pre.length))] [])) zQ := by
        intro tt kt
        refine W106 tt ?_
        refine XS.icmpNo X0.here hx rfl (hb hby d_jdk_43_method_13_21) rfl (feq hc107).1 ?_
        refine XS.iconst X0.here hx rfl (hb hby d_jdk_43_method_13_24) ?_
        exact kt
      exact ⟨T0, _, h0, X0, e0, N0, rfl, fun fs hr => W110 _ (retN X0 hx (t := .boolean) hret (by simp) (hb hby d_jdk_43_method_13_25) (by rw [show (Value.int (nar .boolean (0 : Int32))) = (Value.int (if cs1 = cs2 then (1 : Int32) else (0 : Int32))) from (by rw [if_neg hne]; first | done | rfl)]; exact hr))⟩
def Q_l1equals (Z : State) (t1 : Addr) (t2 : Addr) (k1 : ClassId) (k2 : ClassId) (cs1 : List Int32) (cs2 : List Int32) (h0 : Heap) (n0 : Nat) (vQ_ : Option Value) (hQ_ : Heap) (LQ_ : List Loc) : Prop := vQ_ = some (.int (if cs1 = cs2 then (1 : Int32) else (0 : Int32))) ∧ Fr n0 LQ_ ∧ hQ_ = h0
set_option maxRecDepth 65536 in
set_option maxHeartbeats 40000000 in
theorem rm_l1equals (l : Launch) (Z : State) (a0 : Array Value) (hw : HW a0 Z) (ws : List Jvm.Cond) (t1 : Addr) (t2 : Addr) (k1 : ClassId) (k2 : ClassId) (cs1 : List Int32) (cs2 : List Int32) (h0 : Heap) (n0 : Nat) (Z0 : n0 ≤ h0.size) (V1 : Arv Z h0 t1 k1 .byte (Int32.ofNat cs1.length) (l1 cs1) (.int (0 : Int32))) (V2 : Arv Z h0 t2 k2 .byte (Int32.ofNat cs2.length) (l1 cs2) (.int (0 : Int32))) (ok1 : OkS cs1) (ok2 : OkS cs2) (hl1 : lat cs1 = true) (hl2 : lat cs2 = true) :
    MetFree l yn10 (head1 (Jvm.Cond.code yn10 jdk_43_method_13_code 3 (some .boolean) :: ws) ({ frames := 0, cells := 0, slots := 0, locals := 0 } : Room)) (fun aQ_ UQ => aQ_ = #[(.ref t1), (.ref t2)] ∧ Z.Warmed39 UQ.vm ∧ UQ.heap = h0) (fun _ _ _ _ _ => True) (fun _ UQ oQ UQ' => ∃ vQ_ LQ_, oQ = .returned vQ_ ∧ Q_l1equals Z t1 t2 k1 k2 cs1 cs2 h0 n0 vQ_ UQ'.heap LQ_ ∧ FrameEnd UQ oQ UQ' LQ_ ({ frames := 0, cells := 0, slots := 0, locals := 0 } : Room).cells ({ frames := 0, cells := 0, slots := 0, locals := 0 } : Room).slots) := by
  refine MetFree.of_bodySF (plainFor_of_name pn_java_lang_StringLatin1) hisR ?_
  intro p e s m args below meth cO s₁ Bd hml0 hP hK
  obtain ⟨rfl, hZ, hh⟩ := hP
  have hx := Bd.exec
  have hby := Bd.bytes
  have hml : cO.maxLocals = 3 := hml0
  have hown : s.vm.findClass "java/lang/StringLatin1" = some m.cls := findClass_of_methodNamed Bd.named
  have hnm := (name_of_methodNamed Bd.named Bd.method).1
  have X0 : Stand p l e ({ frames := 0, cells := 0, slots := 0, locals := 0 } : Room) s m #[(.ref t1), (.ref t2)] below meth cO s₁ [] 0 0 := Stand.of_body Bd
  have e0 : s₁.heap = h0 := by rw [← hh, Bd.state]; rfl
  have N0 := Fr.nil n0
  have W0 : ∀ zQ, SS p e below s₁ m 0 #[.val (.ref t1), .val (.ref t2), .unset] [] zQ → Steps p.tables e below (s₁.setTop (entryFrame m #[(.ref t1), (.ref t2)] 3)) zQ := fun tt kt => castTop (ef_l1equals m t1 t2) kt
  obtain ⟨cl101, Ar101, -, S101, M101, -, -⟩ := id V1
  obtain ⟨cl102, Ar102, -, S102, M102, -, -⟩ := id V2
  have W103 : ∀ zQ, SS p e below s₁ m 4 #[.val (.ref t1), .val (.ref t2), .unset] [(.int (Int32.ofNat cs2.length)), (.int (Int32.ofNat cs1.length))] zQ → Steps p.tables e below (s₁.setTop (entryFrame m #[(.ref t1), (.ref t2)] 3)) zQ := by
    intro tt kt
    refine W0 tt ?_
    refine XS.aloadN X0.here hx rfl (hb hby d_jdk_43_method_13_0) rfl rfl ?_
    show SS p e below s₁ m 1 #[.val (.ref t1), .val (.ref t2), .unset] [(.ref t1)] _
    refine X0.arraylength hx (by first | exact Ar101.1 | (rw [e0]; exact Ar101.1)) (State.isArrayOf_alike hZ.alike Ar101.2.1) (g := (mkF m 1 #[.val (.ref t1), .val (.ref t2), .unset] [(.ref t1)])) rfl rfl (hb hby d_jdk_43_method_13_1) _ ?_
    rw [len_of S101 M101]
    refine XS.aloadN X0.here hx rfl (hb hby d_jdk_43_method_13_2) rfl rfl ?_
    show SS p e below s₁ m 3 #[.val (.ref t1), .val (.ref t2), .unset] [(.ref t2), (.int (Int32.ofNat cs1.length))] _
    refine X0.arraylength hx (by first | exact Ar102.1 | (rw [e0]; exact Ar102.1)) (State.isArrayOf_alike hZ.alike Ar102.2.1) (g := (mkF m 3 #[.val (.ref t1), .val (.ref t2), .unset] [(.ref t2), (.int (Int32.ofNat cs1.length))])) rfl rfl (hb hby d_jdk_43_method_13_3) _ ?_
    rw [len_of S102 M102]
    exact kt
  by_cases hc104 : (Int32.ofNat cs1.length) = (Int32.ofNat cs2.length)
  ·
    have hln : cs1.length = cs2.length := by have q := congrArg Int32.toInt hc104; rw [own_i (Nat.lt_trans ok1.2 (by decide)), own_i (Nat.lt_trans ok2.2 (by decide))] at q; omega
    have W105 : ∀ zQ, SS p e below s₁ m 9 #[.val (.ref t1), .val (.ref t2), .val (.int (0 : Int32))] [] zQ → Steps p.tables e below (s₁.setTop (entryFrame m #[(.ref t1), (.ref t2)] 3)) zQ := by
      intro tt kt
      refine W103 tt ?_
      refine XS.icmpNo X0.here hx rfl (hb hby d_jdk_43_method_13_4) rfl (teq hc104).2 ?_
      refine XS.iconst X0.here hx rfl (hb hby d_jdk_43_method_13_7) ?_
      refine XS.istoreN X0.here hx rfl (hb hby d_jdk_43_method_13_8) rfl (l' := #[.val (.ref t1), .val (.ref t2), .val (.int (0 : Int32))]) rfl ?_
      exact kt
    obtain ⟨T106, L106, h106, X106, e106, Nl106, K106, st106⟩ := lp_l1eq hx hZ hw hby hml hown (by decide) (by decide) (by decide) (by decide) Bd.returns t1 t2 k1 k2 cs1 cs2 n0 ok1 ok2 hl1 hl2 cs1 [] cs2 s₁ _ h0 X0 e0 N0 Z0 V1 V2 rfl hln rfl
    obtain ⟨fs, hr, hrun, hended, hW, hsame⟩ := X106.leave (v := some (.int (if cs1 = cs2 then (1 : Int32) else (0 : Int32)))) (fun h => by rw [Bd.returns] at h; cases h)
    refine ⟨_, _, W105 _ (st106 _ hr), hrun, hended, _, _, rfl, ?_, ⟨_, rfl⟩, hW, hsame.mono (by decide) (by decide)⟩
    show Q_l1equals Z t1 t2 k1 k2 cs1 cs2 h0 n0 _ T106.heap _
    rw [(e106.trans K106)]
    exact ⟨rfl, Nl106, rfl⟩
  ·
    have W107 : ∀ zQ, SS p e below s₁ m 35 #[.val (.ref t1), .val (.ref t2), .unset] [(.int (0 : Int32))] zQ → Steps p.tables e below (s₁.setTop (entryFrame m #[(.ref t1), (.ref t2)] 3)) zQ := by
      intro tt kt
      refine W103 tt ?_
      refine XS.icmpYes X0.here hx rfl (pc0 := 4) (pc' := 34) rfl (hb hby d_jdk_43_method_13_4) rfl (feq hc104).2 (by decide) (by decide) ?_
      refine XS.iconst X0.here hx rfl (hb hby d_jdk_43_method_13_34) ?_
      exact kt
    obtain ⟨fs, hr, hrun, hended, hW, hsame⟩ := X0.leave (v := some (.int (nar .boolean (0 : Int32)))) (fun h => by rw [Bd.returns] at h; cases h)
    refine ⟨_, _, W107 _ (retN X0 hx (t := .boolean) Bd.returns (by simp) (hb hby d_jdk_43_method_13_35) hr), hrun, hended, _, _, rfl, ?_, ⟨_, rfl⟩, hW, hsame.mono (by decide) (by decide)⟩
    show Q_l1equals Z t1 t2 k1 k2 cs1 cs2 h0 n0 _ s₁.heap _
    rw [e0]
    exact ⟨(by rw [if_neg (fun q : cs1 = cs2 => hc104 (by rw [q]))]; first | done | rfl), N0, rfl⟩
def Q_sequals (Z : State) (a : Addr) (o : Addr) (t1 : Addr) (t2 : Addr) (k1 : ClassId) (k2 : ClassId) (cs1 : List Int32) (cs2 : List Int32) (cS : Int32) (h0 : Heap) (n0 : Nat) (vQ_ : Option Value) (hQ_ : Heap) (LQ_ : List Loc) : Prop := vQ_ = some (.int (if cs1 = cs2 then (1 : Int32) else (0 : Int32))) ∧ Fr n0 LQ_ ∧ hQ_ = h0
set_option maxRecDepth 65536 in
set_option maxHeartbeats 40000000 in
theorem rm_sequals (l : Launch) (Z : State) (a0 : Array Value) (hw : HW a0 Z) (ws : List Jvm.Cond) (a : Addr) (o : Addr) (t1 : Addr) (t2 : Addr) (k1 : ClassId) (k2 : ClassId) (cs1 : List Int32) (cs2 : List Int32) (cS : Int32) (h0 : Heap) (n0 : Nat) (Z0 : n0 ≤ h0.size) (O0 : Old Z n0 h0) (S_cs : Sta Z Z.heap "java/lang/String" "COMPACT_STRINGS" "Z" (.int cS)) (hcS : ¬ (cS = (0 : Int32))) (hS1 : Str Z h0 a t1 k1 cs1) (hS2 : Str Z h0 o t2 k2 cs2) (hl1 : lat cs1 = true) (hl2 : lat cs2 = true) (hne : a ≠ o) :
    MetFree l yn11 (head1 (Jvm.Cond.code yn11 jdk_42_method_66_code 3 (some .boolean) :: ws) ({ frames := 1, cells := 0, slots := 0, locals := 14 } : Room)) (fun aQ_ UQ => aQ_ = #[(.ref a), (.ref o)] ∧ Z.Warmed39 UQ.vm ∧ UQ.heap = h0) (fun _ _ _ _ _ => True) (fun _ UQ oQ UQ' => ∃ vQ_ LQ_, oQ = .returned vQ_ ∧ Q_sequals Z a o t1 t2 k1 k2 cs1 cs2 cS h0 n0 vQ_ UQ'.heap LQ_ ∧ FrameEnd UQ oQ UQ' LQ_ ({ frames := 1, cells := 0, slots := 0, locals := 14 } : Room).cells ({ frames := 1, cells := 0, slots := 0, locals := 14 } : Room).slots) := by
  refine MetFree.of_bodySF (plainFor_of_name pn_java_lang_String) hisR ?_
  intro p e s m args below meth cO s₁ Bd hml0 hP hK
  obtain ⟨rfl, hZ, hh⟩ := hP
  have hx := Bd.exec
  have hby := Bd.bytes
  have hml : cO.maxLocals = 3 := hml0
  have hown : s.vm.findClass "java/lang/String" = some m.cls := findClass_of_methodNamed Bd.named
  have hnm := (name_of_methodNamed Bd.named Bd.method).1
  have X0 : Stand p l e ({ frames := 1, cells := 0, slots := 0, locals := 14 } : Room) s m #[(.ref a), (.ref o)] below meth cO s₁ [] 0 0 := Stand.of_body Bd
  have e0 : s₁.heap = h0 := by rw [← hh, Bd.state]; rfl
  have N0 := Fr.nil n0
  have W0 : ∀ zQ, SS p e below s₁ m 0 #[.val (.ref a), .val (.ref o), .unset] [] zQ → Steps p.tables e below (s₁.setTop (entryFrame m #[(.ref a), (.ref o)] 3)) zQ := fun tt kt => castTop (ef_sequals m a o) kt
  obtain ⟨phE, phV, phC, phA, ok1⟩ := hS1
  obtain ⟨qhE, qhV, qhC, qhA, ok2⟩ := hS2
  have hA101 : Arv Z h0 t1 k1 .byte (Int32.ofNat cs1.length) (l1 cs1) (.int (0 : Int32)) := by have q := enc_lat hl1; rw [← q.1, ← q.2.1]; exact phA
  have hA102 : Arv Z h0 t2 k2 .byte (Int32.ofNat cs2.length) (l1 cs2) (.int (0 : Int32)) := by have q := enc_lat hl2; rw [← q.1, ← q.2.1]; exact qhA
  have hcd1 : cdr cs1 = (0 : Int32) := (enc_lat hl1).2.2
  have hcd2 : cdr cs2 = (0 : Int32) := (enc_lat hl2).2.2
  obtain ⟨T103, X103, e103, st103⟩ := instY X0 hx hZ hown (w97 hw) e0 (Ins.self qhE) (g := (mkF m 8 #[.val (.ref a), .val (.ref o), .unset] [(.ref o)])) rfl rfl (hb hby d_jdk_42_method_66_8)
  obtain ⟨T104, X104, e104, st104⟩ := castY X103 hx hZ hown (w97 hw) e103 (Ins.self qhE) (g := (mkF m 15 #[.val (.ref a), .val (.ref o), .unset] [(.ref o)])) rfl rfl (hb hby d_jdk_42_method_66_15)
  have F106 : Sta Z h0 "java/lang/String" "COMPACT_STRINGS" "Z" (.int cS) := S_cs.ext O0.2
  obtain ⟨T105, X105, e105, st105⟩ := getS2 X104 hx hZ hown (host := "") (Or.inl (w24 hw)) Via.refl e104 F106 (g := (mkF m 19 #[.val (.ref a), .val (.ref o), .val (.ref o)] [])) rfl (hb hby d_jdk_42_method_66_19)
  obtain ⟨T107, X107, e107, st107⟩ := getF X105 hx hZ hown (host := "") (Or.inl (w25 hw)) Via.refl e105 phC (g := (mkF m 26 #[.val (.ref a), .val (.ref o), .val (.ref o)] [(.ref a)])) rfl rfl (hb hby d_jdk_42_method_66_26)
  obtain ⟨T108, X108, e108, st108⟩ := getF X107 hx hZ hown (host := "") (Or.inl (w25 hw)) Via.refl e107 qhC (g := (mkF m 30 #[.val (.ref a), .val (.ref o), .val (.ref o)] [(.ref o), (.int (cdr cs1))])) rfl rfl (hb hby d_jdk_42_method_66_30)
  obtain ⟨T109, X109, e109, st109⟩ := getF X108 hx hZ hown (host := "") (Or.inl (w26 hw)) Via.refl e108 phV (g := (mkF m 37 #[.val (.ref a), .val (.ref o), .val (.ref o)] [(.ref a)])) rfl rfl (hb hby d_jdk_42_method_66_37)
  obtain ⟨T110, X110, e110, st110⟩ := getF X109 hx hZ hown (host := "") (Or.inl (w26 hw)) Via.refl e109 qhV (g := (mkF m 41 #[.val (.ref a), .val (.ref o), .val (.ref o)] [(.ref o), (.ref t1)])) rfl rfl (hb hby d_jdk_42_method_66_41)
  obtain ⟨_, _, ⟨T111, L111, k111, n111⟩, -, X111, ⟨Lc111, hQ111, l111, y111, z111⟩, st111⟩ := Jvm.LawKit.callS X110 hx (y := yn10) hown (mvT hZ (w98 hw)) (mvT hZ (w99 hw)) (mvT hZ (w29 hw)) (mvT hZ (w100 hw)) (by decide) (backOf (W := 0) (rm_l1equals l Z a0 hw [] t1 t2 k1 k2 cs1 cs2 h0 n0 Z0 hA101 hA102 ok1 ok2 hl1 hl2) hZ (w100 hw) (w29 hw) (by decide) (by decide)) (g := (mkF m 44 #[.val (.ref a), .val (.ref o), .val (.ref o)] [(.ref t2), (.ref t1)])) rfl (by rw [hml]; rfl) (argsL := [(.ref t1), (.ref t2)]) (rest := []) (lenOf pd__28__5b_B_5b_B_29_Z rfl) rfl (by show 2 * 0 + _ ≤ _; exact Nat.le_of_eq rfl) (hb hby d_jdk_42_method_66_44) (fun _ _ => ⟨rfl, e110, (Nat.le_of_ble_eq_true rfl), (Nat.le_of_ble_eq_true rfl)⟩)
  dsimp only [Pt.U, Pt.locs, Pt.cells, Pt.slots] at X111 l111 y111 z111 st111 hQ111
  subst l111 y111 z111
  obtain ⟨rfl, Nq111, eq111⟩ := hQ111
  have N111 := Fr.app N0 Nq111
  have W112 : ∀ zQ, SS p e below T111 m 47 #[.val (.ref a), .val (.ref o), .val (.ref o)] [(.int (if cs1 = cs2 then (1 : Int32) else (0 : Int32)))] zQ → Steps p.tables e below (s₁.setTop (entryFrame m #[(.ref a), (.ref o)] 3)) zQ := by
    intro tt kt
    refine W0 tt ?_
    refine XS.aloadN X0.here hx rfl (hb hby d_jdk_42_method_66_0) rfl rfl ?_
    refine XS.aloadN X0.here hx rfl (hb hby d_jdk_42_method_66_1) rfl rfl ?_
    show SS p e below s₁ m 2 #[.val (.ref a), .val (.ref o), .unset] [(.ref o), (.ref a)] _
    refine Jvm.RoadKit.acmp (g := (mkF m 2 #[.val (.ref a), .val (.ref o), .unset] [(.ref o), (.ref a)])) X0 hx rfl rfl rfl (pc0 := 2) (pc' := 7) (same := false) rfl (hb hby d_jdk_42_method_66_2) rfl (decide_eq_false fun q => hne (Value.ref.inj q)) (by decide) (by decide) ?_
    refine XS.aloadN X0.here hx rfl (hb hby d_jdk_42_method_66_7) rfl rfl ?_
    show SS p e below s₁ m 8 #[.val (.ref a), .val (.ref o), .unset] [(.ref o)] _
    refine st103 _ ?_
    refine XS.ifNo X103.here hx rfl (hb hby d_jdk_42_method_66_11) rfl ((if0 _ _).trans (feq (by decide)).1) ?_
    refine XS.aloadN X103.here hx rfl (hb hby d_jdk_42_method_66_14) rfl rfl ?_
    show SS p e below T103 m 15 #[.val (.ref a), .val (.ref o), .unset] [(.ref o)] _
    refine st104 _ ?_
    refine XS.astoreN X104.here hx rfl (hb hby d_jdk_42_method_66_18) rfl rfl (l' := #[.val (.ref a), .val (.ref o), .val (.ref o)]) rfl ?_
    show SS p e below T104 m 19 #[.val (.ref a), .val (.ref o), .val (.ref o)] [] _
    refine st105 _ ?_
    refine XS.ifNo X105.here hx rfl (hb hby d_jdk_42_method_66_22) rfl ((if0 _ _).trans (feq hcS).1) ?_
    refine XS.aloadN X105.here hx rfl (hb hby d_jdk_42_method_66_25) rfl rfl ?_
    show SS p e below T105 m 26 #[.val (.ref a), .val (.ref o), .val (.ref o)] [(.ref a)] _
    refine st107 _ ?_
    refine XS.aloadN X107.here hx rfl (hb hby d_jdk_42_method_66_29) rfl rfl ?_
    show SS p e below T107 m 30 #[.val (.ref a), .val (.ref o), .val (.ref o)] [(.ref o), (.int (cdr cs1))] _
    refine st108 _ ?_
    refine XS.icmpNo X108.here hx rfl (hb hby d_jdk_42_method_66_33) rfl (teq (by rw [hcd1, hcd2])).2 ?_
    refine XS.aloadN X108.here hx rfl (hb hby d_jdk_42_method_66_36) rfl rfl ?_
    show SS p e below T108 m 37 #[.val (.ref a), .val (.ref o), .val (.ref o)] [(.ref a)] _
    refine st109 _ ?_
    refine XS.aloadN X109.here hx rfl (hb hby d_jdk_42_method_66_40) rfl rfl ?_
    show SS p e below T109 m 41 #[.val (.ref a), .val (.ref o), .val (.ref o)] [(.ref o), (.ref t1)] _
    refine st110 _ ?_
    show SS p e below T110 m 44 #[.val (.ref a), .val (.ref o), .val (.ref o)] [(.ref t2), (.ref t1)] _
    refine st111 _ ?_
    exact kt
  by_cases hc113 : cs1 = cs2
  ·
    have W114 : ∀ zQ, SS p e below T111 m 55 #[.val (.ref a), .val (.ref o), .val (.ref o)] [(.int (1 : Int32))] zQ → Steps p.tables e below (s₁.setTop (entryFrame m #[(.ref a), (.ref o)] 3)) zQ := by
      intro tt kt
      refine W112 tt ?_
      rw [show (if cs1 = cs2 then (1 : Int32) else (0 : Int32)) = (1 : Int32) from if_pos hc113]
      refine XS.ifNo X111.here hx rfl (hb hby d_jdk_42_method_66_47) rfl ((if0 _ _).trans (feq (by decide)).1) ?_
      refine XS.iconst X111.here hx rfl (hb hby d_jdk_42_method_66_50) ?_
      refine XS.goto X111.here hx rfl (pc0 := 51) (pc' := 55) rfl (hb hby d_jdk_42_method_66_51) (by decide) (by decide) ?_
      exact kt
    obtain ⟨fs, hr, hrun, hended, hW, hsame⟩ := X111.leave (v := some (.int (nar .boolean (1 : Int32)))) (fun h => by rw [Bd.returns] at h; cases h)
    refine ⟨_, _, W114 _ (retN X111 hx (t := .boolean) Bd.returns (by simp) (hb hby d_jdk_42_method_66_55) hr), hrun, hended, _, _, rfl, ?_, ⟨_, rfl⟩, hW, hsame.mono (by decide) (by decide)⟩
    show Q_sequals Z a o t1 t2 k1 k2 cs1 cs2 cS h0 n0 _ T111.heap _
    rw [eq111]
    exact ⟨(by rw [if_pos hc113]; first | done | rfl), N111, rfl⟩
  ·
    have W115 : ∀ zQ, SS p e below T111 m 55 #[.val (.ref a), .val (.ref o), .val (.ref o)] [(.int (0 : Int32))] zQ → Steps p.tables e below (s₁.setTop (entryFrame m #[(.ref a), (.ref o)] 3)) zQ := by
      intro tt kt
      refine W112 tt ?_
      rw [show (if cs1 = cs2 then (1 : Int32) else (0 : Int32)) = (0 : Int32) from if_neg hc113]
      refine XS.ifYes X111.here hx rfl (pc0 := 47) (pc' := 54) rfl (hb hby d_jdk_42_method_66_47) rfl ((if0 _ _).trans (teq (by decide)).1) (by decide) (by decide) ?_
      refine XS.iconst X111.here hx rfl (hb hby d_jdk_42_method_66_54) ?_
      exact kt
    obtain ⟨fs, hr, hrun, hended, hW, hsame⟩ := X111.leave (v := some (.int (nar .boolean (0 : Int32)))) (fun h => by rw [Bd.returns] at h; cases h)
    refine ⟨_, _, W115 _ (retN X111 hx (t := .boolean) Bd.returns (by simp) (hb hby d_jdk_42_method_66_55) hr), hrun, hended, _, _, rfl, ?_, ⟨_, rfl⟩, hW, hsame.mono (by decide) (by decide)⟩
    show Q_sequals Z a o t1 t2 k1 k2 cs1 cs2 cS h0 n0 _ T111.heap _
    rw [eq111]
    exact ⟨(by rw [if_neg hc113]; first | done | rfl), N111, rfl⟩
def Q_sequalsN (Z : State) (a : Addr) (h0 : Heap) (n0 : Nat) (vQ_ : Option Value) (hQ_ : Heap) (LQ_ : List Loc) : Prop := vQ_ = some (.int (0 : Int32)) ∧ Fr n0 LQ_ ∧ hQ_ = h0
set_option maxRecDepth 65536 in
set_option maxHeartbeats 40000000 in
theorem rm_sequalsN (l : Launch) (Z : State) (a0 : Array Value) (hw : HW a0 Z) (ws : List Jvm.Cond) (a : Addr) (h0 : Heap) (n0 : Nat) (Z0 : n0 ≤ h0.size)  :
    MetFree l yn11 (head1 (Jvm.Cond.code yn11 jdk_42_method_66_code 3 (some .boolean) :: ws) ({ frames := 0, cells := 0, slots := 0, locals := 0 } : Room)) (fun aQ_ UQ => aQ_ = #[(.ref a), .null] ∧ Z.Warmed39 UQ.vm ∧ UQ.heap = h0) (fun _ _ _ _ _ => True) (fun _ UQ oQ UQ' => ∃ vQ_ LQ_, oQ = .returned vQ_ ∧ Q_sequalsN Z a h0 n0 vQ_ UQ'.heap LQ_ ∧ FrameEnd UQ oQ UQ' LQ_ ({ frames := 0, cells := 0, slots := 0, locals := 0 } : Room).cells ({ frames := 0, cells := 0, slots := 0, locals := 0 } : Room).slots) := by
  refine MetFree.of_bodySF (plainFor_of_name pn_java_lang_String) hisR ?_
  intro p e s m args below meth cO s₁ Bd hml0 hP hK
  obtain ⟨rfl, hZ, hh⟩ := hP
  have hx := Bd.exec
  have hby := Bd.bytes
  have hml : cO.maxLocals = 3 := hml0
  have hown : s.vm.findClass "java/lang/String" = some m.cls := findClass_of_methodNamed Bd.named
  have hnm := (name_of_methodNamed Bd.named Bd.method).1
  have X0 : Stand p l e ({ frames := 0, cells := 0, slots := 0, locals := 0 } : Room) s m #[(.ref a), .null] below meth cO s₁ [] 0 0 := Stand.of_body Bd
  have e0 : s₁.heap = h0 := by rw [← hh, Bd.state]; rfl
  have N0 := Fr.nil n0
  have W0 : ∀ zQ, SS p e below s₁ m 0 #[.val (.ref a), .val .null, .unset] [] zQ → Steps p.tables e below (s₁.setTop (entryFrame m #[(.ref a), .null] 3)) zQ := fun tt kt => castTop (ef_sequalsN m a) kt
  have W101 : ∀ zQ, SS p e below s₁ m 55 #[.val (.ref a), .val .null, .unset] [(.int (0 : Int32))] zQ → Steps p.tables e below (s₁.setTop (entryFrame m #[(.ref a), .null] 3)) zQ := by
    intro tt kt
    refine W0 tt ?_
    refine XS.aloadN X0.here hx rfl (hb hby d_jdk_42_method_66_0) rfl rfl ?_
    refine XS.aloadN X0.here hx rfl (hb hby d_jdk_42_method_66_1) rfl rfl ?_
    show SS p e below s₁ m 2 #[.val (.ref a), .val .null, .unset] [.null, (.ref a)] _
    refine Jvm.RoadKit.acmp (g := (mkF m 2 #[.val (.ref a), .val .null, .unset] [.null, (.ref a)])) X0 hx rfl rfl rfl (pc0 := 2) (pc' := 7) (same := false) rfl (hb hby d_jdk_42_method_66_2) rfl (decide_eq_false nofun) (by decide) (by decide) ?_
    refine XS.aloadN X0.here hx rfl (hb hby d_jdk_42_method_66_7) rfl rfl ?_
    show SS p e below s₁ m 8 #[.val (.ref a), .val .null, .unset] [.null] _
    refine X0.instanceofNull hx (g := (mkF m 8 #[.val (.ref a), .val .null, .unset] [.null])) rfl rfl (hb hby d_jdk_42_method_66_8) _ ?_
    refine XS.ifYes X0.here hx rfl (pc0 := 11) (pc' := 54) rfl (hb hby d_jdk_42_method_66_11) rfl ((if0 _ _).trans (teq (by decide)).1) (by decide) (by decide) ?_
    refine XS.iconst X0.here hx rfl (hb hby d_jdk_42_method_66_54) ?_
    exact kt
  obtain ⟨fs, hr, hrun, hended, hW, hsame⟩ := X0.leave (v := some (.int (nar .boolean (0 : Int32)))) (fun h => by rw [Bd.returns] at h; cases h)
  refine ⟨_, _, W101 _ (retN X0 hx (t := .boolean) Bd.returns (by simp) (hb hby d_jdk_42_method_66_55) hr), hrun, hended, _, _, rfl, ?_, ⟨_, rfl⟩, hW, hsame.mono (by decide) (by decide)⟩
  show Q_sequalsN Z a h0 n0 _ s₁.heap _
  rw [e0]
  exact ⟨rfl, N0, rfl⟩
def Q_reqNN (Z : State) (a : Addr) (h0 : Heap) (n0 : Nat) (vQ_ : Option Value) (hQ_ : Heap) (LQ_ : List Loc) : Prop := vQ_ = some (.ref a) ∧ Fr n0 LQ_ ∧ hQ_ = h0
set_option maxRecDepth 65536 in
set_option maxHeartbeats 40000000 in
theorem rm_reqNN (l : Launch) (Z : State) (a0 : Array Value) (hw : HW a0 Z) (ws : List Jvm.Cond) (a : Addr) (h0 : Heap) (n0 : Nat) (Z0 : n0 ≤ h0.size)  :
    MetFree l yn12 (head1 (Jvm.Cond.code yn12 jdk_31_method_10_code 1 (some (.object "java/lang/Object")) :: ws) ({ frames := 0, cells := 0, slots := 0, locals := 0 } : Room)) (fun aQ_ UQ => aQ_ = #[(.ref a)] ∧ Z.Warmed39 UQ.vm ∧ UQ.heap = h0) (fun _ _ _ _ _ => True) (fun _ UQ oQ UQ' => ∃ vQ_ LQ_, oQ = .returned vQ_ ∧ Q_reqNN Z a h0 n0 vQ_ UQ'.heap LQ_ ∧ FrameEnd UQ oQ UQ' LQ_ ({ frames := 0, cells := 0, slots := 0, locals := 0 } : Room).cells ({ frames := 0, cells := 0, slots := 0, locals := 0 } : Room).slots) := by
  refine MetFree.of_bodySF (plainFor_of_name pn_java_util_Objects) hisR ?_
  intro p e s m args below meth cO s₁ Bd hml0 hP hK
  obtain ⟨rfl, hZ, hh⟩ := hP
  have hx := Bd.exec
  have hby := Bd.bytes
  have hml : cO.maxLocals = 1 := hml0
  have hown : s.vm.findClass "java/util/Objects" = some m.cls := findClass_of_methodNamed Bd.named
  have hnm := (name_of_methodNamed Bd.named Bd.method).1
  have X0 : Stand p l e ({ frames := 0, cells := 0, slots := 0, locals := 0 } : Room) s m #[(.ref a)] below meth cO s₁ [] 0 0 := Stand.of_body Bd
  have e0 : s₁.heap = h0 := by rw [← hh, Bd.state]; rfl
  have N0 := Fr.nil n0
  have W0 : ∀ zQ, SS p e below s₁ m 0 #[.val (.ref a)] [] zQ → Steps p.tables e below (s₁.setTop (entryFrame m #[(.ref a)] 1)) zQ := fun tt kt => castTop (ef_reqNN m a) kt
  have W101 : ∀ zQ, SS p e below s₁ m 13 #[.val (.ref a)] [(.ref a)] zQ → Steps p.tables e below (s₁.setTop (entryFrame m #[(.ref a)] 1)) zQ := by
    intro tt kt
    refine W0 tt ?_
    refine XS.aloadN X0.here hx rfl (hb hby d_jdk_31_method_10_0) rfl rfl ?_
    refine XS.ifnonnullYes X0.here hx rfl (pc0 := 1) (pc' := 12) rfl (hb hby d_jdk_31_method_10_1) rfl (by decide) (by decide) ?_
    refine XS.aloadN X0.here hx rfl (hb hby d_jdk_31_method_10_12) rfl rfl ?_
    exact kt
  obtain ⟨fs, hr, hrun, hended, hW, hsame⟩ := X0.leave (v := some (.ref a)) (fun h => by rw [Bd.returns] at h; cases h)
  refine ⟨_, _, W101 _ (own_retR X0 hx Bd.returns rfl rfl (hb hby d_jdk_31_method_10_13) hr), hrun, hended, _, _, rfl, ?_, ⟨_, rfl⟩, hW, hsame.mono (by decide) (by decide)⟩
  show Q_reqNN Z a h0 n0 _ s₁.heap _
  rw [e0]
  exact ⟨rfl, N0, rfl⟩
def Q_opInit (Z : State) (a : Addr) (v : Addr) (h0 : Heap) (n0 : Nat) (vQ_ : Option Value) (hQ_ : Heap) (LQ_ : List Loc) : Prop := vQ_ = none ∧ Fr n0 LQ_ ∧ Keep h0 hQ_ [a] ∧ Exa Z hQ_ a "java/util/Optional" ∧ Fld Z hQ_ a "java/util/Optional" "value" "Ljava/lang/Object;" (.ref v)
set_option maxRecDepth 65536 in
set_option maxHeartbeats 40000000 in
theorem rm_opInit (l : Launch) (Z : State) (a0 : Array Value) (hw : HW a0 Z) (ws : List Jvm.Cond) (a : Addr) (v : Addr) (h0 : Heap) (n0 : Nat) (Z0 : n0 ≤ h0.size) (E1 : Exa Z h0 a "java/util/Optional") (F1 : Fld Z h0 a "java/util/Optional" "value" "Ljava/lang/Object;" .null) (g1 : n0 ≤ a) :
    MetFree l yn13 (head1 (Jvm.Cond.code yn13 jdk_32_method_2_code 2 none :: ws) ({ frames := 1, cells := 0, slots := 0, locals := 12 } : Room)) (fun aQ_ UQ => aQ_ = #[(.ref a), (.ref v)] ∧ Z.Warmed39 UQ.vm ∧ UQ.heap = h0) (fun _ _ _ _ _ => True) (fun _ UQ oQ UQ' => ∃ vQ_ LQ_, oQ = .returned vQ_ ∧ Q_opInit Z a v h0 n0 vQ_ UQ'.heap LQ_ ∧ FrameEnd UQ oQ UQ' LQ_ ({ frames := 1, cells := 0, slots := 0, locals := 12 } : Room).cells ({ frames := 1, cells := 0, slots := 0, locals := 12 } : Room).slots) := by
  refine MetFree.of_bodySF (plainFor_of_name pn_java_util_Optional) hisR ?_
  intro p e s m args below meth cO s₁ Bd hml0 hP hK
  obtain ⟨rfl, hZ, hh⟩ := hP
  have hx := Bd.exec
  have hby := Bd.bytes
  have hml : cO.maxLocals = 2 := hml0
  have hown : s.vm.findClass "java/util/Optional" = some m.cls := findClass_of_methodNamed Bd.named
  have hnm := (name_of_methodNamed Bd.named Bd.method).1
  have X0 : Stand p l e ({ frames := 1, cells := 0, slots := 0, locals := 12 } : Room) s m #[(.ref a), (.ref v)] below meth cO s₁ [] 0 0 := Stand.of_body Bd
  have e0 : s₁.heap = h0 := by rw [← hh, Bd.state]; rfl
  have N0 := Fr.nil n0
  have W0 : ∀ zQ, SS p e below s₁ m 0 #[.val (.ref a), .val (.ref v)] [] zQ → Steps p.tables e below (s₁.setTop (entryFrame m #[(.ref a), (.ref v)] 2)) zQ := fun tt kt => castTop (ef_opInit m a v) kt
  obtain ⟨T101, X101, e101, st101⟩ := initO X0 hx hZ hown (w132 hw) (w51 hw) (w52 hw) e0 (g := (mkF m 1 #[.val (.ref a), .val (.ref v)] [(.ref a)])) rfl (by rw [hml]; rfl) rfl (hb hby d_jdk_32_method_2_1) (by decide) (W := 0) (by show 2 * 0 + _ ≤ _; exact Nat.le_of_eq rfl) (by decide)
  obtain ⟨T102, h102, X102, e102, Wr102, st102⟩ := putF X101 hx hZ hown (host := "") (Or.inl (w111 hw)) Via.refl e101 F1 E1 (Or.inr ⟨(w112 hw), rfl, hnm⟩) (w123 hw) (ty := (.object "java/lang/Object")) (by decide) rfl rfl (g := (mkF m 6 #[.val (.ref a), .val (.ref v)] [(.ref v), (.ref a)])) rfl rfl (hb hby d_jdk_32_method_2_6)
  have K102 := Keep.of_wr Wr102
  have G102 := F1.same Wr102
  have N102 := Fr.snoc X102 N0 g1
  have W103 : ∀ zQ, SS p e below T102 m 9 #[.val (.ref a), .val (.ref v)] [] zQ → Steps p.tables e below (s₁.setTop (entryFrame m #[(.ref a), (.ref v)] 2)) zQ := by
    intro tt kt
    refine W0 tt ?_
    refine XS.aloadN X0.here hx rfl (hb hby d_jdk_32_method_2_0) rfl rfl ?_
    show SS p e below s₁ m 1 #[.val (.ref a), .val (.ref v)] [(.ref a)] _
    refine st101 _ ?_
    refine XS.aloadN X101.here hx rfl (hb hby d_jdk_32_method_2_4) rfl rfl ?_
    refine XS.aloadN X101.here hx rfl (hb hby d_jdk_32_method_2_5) rfl rfl ?_
    show SS p e below T101 m 6 #[.val (.ref a), .val (.ref v)] [(.ref v), (.ref a)] _
    refine st102 _ ?_
    exact kt
  have F104 : Exa Z h102 a "java/util/Optional" := (E1.keep K102)
  obtain ⟨fs, hr, hrun, hended, hW, hsame⟩ := X102.leave (v := none) (fun _ => rfl)
  refine ⟨_, _, W103 _ (X102.returnOut hx Bd.returns (hb hby d_jdk_32_method_2_9) hr), hrun, hended, _, _, rfl, ?_, ⟨_, rfl⟩, hW, hsame.mono (by decide) (by decide)⟩
  show Q_opInit Z a v h0 n0 _ T102.heap _
  rw [e102]
  exact ⟨rfl, N102, (Keep.trans (Keep.refl h0 [a]) K102 (allS (Or.inl (List.mem_of_getElem? (i := 0) rfl)) all0)), F104, G102⟩
def Q_opOf (Z : State) (v : Addr) (h0 : Heap) (n0 : Nat) (vQ_ : Option Value) (hQ_ : Heap) (LQ_ : List Loc) : Prop := ∃ r : Addr, vQ_ = some (.ref r) ∧ Fr n0 LQ_ ∧ Keep h0 hQ_ [] ∧ h0.size ≤ r ∧ Exa Z hQ_ r "java/util/Optional" ∧ Fld Z hQ_ r "java/util/Optional" "value" "Ljava/lang/Object;" (.ref v)
set_option maxRecDepth 65536 in
set_option maxHeartbeats 40000000 in
theorem rm_opOf (l : Launch) (Z : State) (a0 : Array Value) (hw : HW a0 Z) (ws : List Jvm.Cond) (v : Addr) (h0 : Heap) (n0 : Nat) (Z0 : n0 ≤ h0.size)  :
    MetFree l yn14 (head1 (Jvm.Cond.code yn14 jdk_32_method_3_code 1 (some (.object "java/util/Optional")) :: ws) ({ frames := 2, cells := 1, slots := 1, locals := 26 } : Room)) (fun aQ_ UQ => aQ_ = #[(.ref v)] ∧ Z.Warmed39 UQ.vm ∧ UQ.heap = h0) (fun _ _ _ _ _ => True) (fun _ UQ oQ UQ' => ∃ vQ_ LQ_, oQ = .returned vQ_ ∧ Q_opOf Z v h0 n0 vQ_ UQ'.heap LQ_ ∧ FrameEnd UQ oQ UQ' LQ_ ({ frames := 2, cells := 1, slots := 1, locals := 26 } : Room).cells ({ frames := 2, cells := 1, slots := 1, locals := 26 } : Room).slots) := by
  refine MetFree.of_bodySF (plainFor_of_name pn_java_util_Optional) hisR ?_
  intro p e s m args below meth cO s₁ Bd hml0 hP hK
  obtain ⟨rfl, hZ, hh⟩ := hP
  have hx := Bd.exec
  have hby := Bd.bytes
  have hml : cO.maxLocals = 1 := hml0
  have hown : s.vm.findClass "java/util/Optional" = some m.cls := findClass_of_methodNamed Bd.named
  have hnm := (name_of_methodNamed Bd.named Bd.method).1
  have X0 : Stand p l e ({ frames := 2, cells := 1, slots := 1, locals := 26 } : Room) s m #[(.ref v)] below meth cO s₁ [] 0 0 := Stand.of_body Bd
  have e0 : s₁.heap = h0 := by rw [← hh, Bd.state]; rfl
  have N0 := Fr.nil n0
  have W0 : ∀ zQ, SS p e below s₁ m 0 #[.val (.ref v)] [] zQ → Steps p.tables e below (s₁.setTop (entryFrame m #[(.ref v)] 1)) zQ := fun tt kt => castTop (ef_opOf m v) kt
  obtain ⟨T101, h101, X101, e101, E101, A101, D101, U101, st101⟩ := newO X0 hx hZ hown (w122 hw) (w123 hw) (w103 hw) e0 (g := (mkF m 0 #[.val (.ref v)] [])) rfl (hb hby d_jdk_32_method_3_0) (by decide) (by decide)
  obtain ⟨b101, g101⟩ : ∃ z, z = h0.size := ⟨_, rfl⟩
  rw [← g101] at A101 D101 U101 st101
  have K101 := (Keep.refl h0 []).ext E101
  have G101_value : Fld Z h101 b101 "java/util/Optional" "value" "Ljava/lang/Object;" .null := D101 (Or.inr (w112 hw)) (ty := (.object "java/lang/Object")) (by decide)
  obtain ⟨_, _, ⟨T102, L102, k102, n102⟩, -, X102, ⟨Lc102, hQ102, l102, y102, z102⟩, st102⟩ := Jvm.LawKit.callS X101 hx (y := yn12) hown (mvT hZ (w124 hw)) (mvT hZ (w125 hw)) (mvT hZ (w126 hw)) (mvT hZ (w127 hw)) (by decide) (backOf (W := 2) (rm_reqNN l Z a0 hw [] v h101 n0 (Nat.le_trans Z0 K101.1) ) hZ (w127 hw) (w126 hw) (by decide) (by decide)) (g := (mkF m 5 #[.val (.ref v)] [(.ref v), (.ref b101), (.ref b101)])) rfl (by rw [hml]; rfl) (argsL := [(.ref v)]) (rest := [(.ref b101), (.ref b101)]) (lenOf pd__28_Ljava_2f_lang_2f_Object_3b__29_Ljava_2f_lang_2f_Object_3b_ rfl) rfl (by show 2 * 0 + _ ≤ _; exact Nat.le_of_eq rfl) (hb hby d_jdk_32_method_3_5) (fun _ _ => ⟨rfl, e101, (Nat.le_of_ble_eq_true rfl), (Nat.le_of_ble_eq_true rfl)⟩)
  dsimp only [Pt.U, Pt.locs, Pt.cells, Pt.slots] at X102 l102 y102 z102 st102 hQ102
  subst l102 y102 z102
  obtain ⟨rfl, Nq102, eq102⟩ := hQ102
  have N102 := Fr.app N0 Nq102
  obtain ⟨_, _, ⟨T103, L103, k103, n103⟩, -, X103, ⟨Lc103, hQ103, l103, y103, z103⟩, st103⟩ := X102.specialBack hx (y := yn13) rfl hown (mvT hZ (w128 hw)) (mvT hZ (w129 hw)) (mvT hZ (w131 hw)) (by decide) (backOf (W := 1) (rm_opInit l Z a0 hw [] b101 v h101 n0 (Nat.le_trans Z0 K101.1) A101 G101_value (Nat.le_trans Z0 (Nat.le_of_eq g101.symm))) hZ (w131 hw) (w103 hw) (by decide) (by decide)) (g := (mkF m 8 #[.val (.ref v)] [(.ref v), (.ref b101), (.ref b101)])) rfl (by rw [hml]; rfl) (Steps.refl _) (a := b101) (argsL := [(.ref v)]) (rest := [(.ref b101)]) (lenOf pd__28_Ljava_2f_lang_2f_Object_3b__29_V rfl) rfl (by show 2 * 0 + _ ≤ _; exact Nat.le_of_eq rfl) (hb hby d_jdk_32_method_3_8) (fun _ _ => ⟨rfl, eq102, (Nat.le_of_ble_eq_true rfl), (Nat.le_of_ble_eq_true rfl)⟩)
  dsimp only [Pt.U, Pt.locs, Pt.cells, Pt.slots] at X103 l103 y103 z103 st103 hQ103
  subst l103 y103 z103
  obtain ⟨rfl, Nq103, K103, P103_0, P103_1⟩ := hQ103
  have N103 := Fr.app N102 Nq103
  have W104 : ∀ zQ, SS p e below T103 m 11 #[.val (.ref v)] [(.ref b101)] zQ → Steps p.tables e below (s₁.setTop (entryFrame m #[(.ref v)] 1)) zQ := by
    intro tt kt
    refine W0 tt ?_
    refine st101 _ ?_
    refine XS.dup X101.here hx rfl (hb hby d_jdk_32_method_3_3) rfl rfl ?_
    refine XS.aloadN X101.here hx rfl (hb hby d_jdk_32_method_3_4) rfl rfl ?_
    show SS p e below T101 m 5 #[.val (.ref v)] [(.ref v), (.ref b101), (.ref b101)] _
    refine st102 _ ?_
    show SS p e below T102 m 8 #[.val (.ref v)] [(.ref v), (.ref b101), (.ref b101)] _
    refine st103.trans ?_
    exact kt
  obtain ⟨fs, hr, hrun, hended, hW, hsame⟩ := X103.leave (v := some (.ref b101)) (fun h => by rw [Bd.returns] at h; cases h)
  refine ⟨_, _, W104 _ (own_retR X103 hx Bd.returns rfl rfl (hb hby d_jdk_32_method_3_11) hr), hrun, hended, _, _, rfl, ?_, ⟨_, rfl⟩, hW, hsame.mono (by decide) (by decide)⟩
  show Q_opOf Z v h0 n0 _ T103.heap _
  exact ⟨b101, rfl, N103, (Keep.trans (Keep.trans (Keep.refl h0 []) K101 all0) K103 (allS (Or.inr (Nat.le_of_eq g101.symm)) all0)), (Nat.le_of_eq g101.symm), P103_0, P103_1⟩
def Q_opEmpty (Z : State) (oE : Addr) (h0 : Heap) (n0 : Nat) (vQ_ : Option Value) (hQ_ : Heap) (LQ_ : List Loc) : Prop := vQ_ = some (.ref oE) ∧ Fr n0 LQ_ ∧ hQ_ = h0
set_option maxRecDepth 65536 in
set_option maxHeartbeats 40000000 in
theorem rm_opEmpty (l : Launch) (Z : State) (a0 : Array Value) (hw : HW a0 Z) (ws : List Jvm.Cond) (oE : Addr) (h0 : Heap) (n0 : Nat) (Z0 : n0 ≤ h0.size) (O0 : Old Z n0 h0) (S_EMPTY : Sta Z Z.heap "java/util/Optional" "EMPTY" "Ljava/util/Optional;" (.ref oE)) :
    MetFree l yn15 (head1 (Jvm.Cond.code yn15 jdk_32_method_1_code 1 (some (.object "java/util/Optional")) :: ws) ({ frames := 0, cells := 0, slots := 0, locals := 0 } : Room)) (fun aQ_ UQ => aQ_ = #[] ∧ Z.Warmed39 UQ.vm ∧ UQ.heap = h0) (fun _ _ _ _ _ => True) (fun _ UQ oQ UQ' => ∃ vQ_ LQ_, oQ = .returned vQ_ ∧ Q_opEmpty Z oE h0 n0 vQ_ UQ'.heap LQ_ ∧ FrameEnd UQ oQ UQ' LQ_ ({ frames := 0, cells := 0, slots := 0, locals := 0 } : Room).cells ({ frames := 0, cells := 0, slots := 0, locals := 0 } : Room).slots) := by
  refine MetFree.of_bodySF (plainFor_of_name pn_java_util_Optional) hisR ?_
  intro p e s m args below meth cO s₁ Bd hml0 hP hK
  obtain ⟨rfl, hZ, hh⟩ := hP
  have hx := Bd.exec
  have hby := Bd.bytes
  have hml : cO.maxLocals = 1 := hml0
  have hown : s.vm.findClass "java/util/Optional" = some m.cls := findClass_of_methodNamed Bd.named
  have hnm := (name_of_methodNamed Bd.named Bd.method).1
  have X0 : Stand p l e ({ frames := 0, cells := 0, slots := 0, locals := 0 } : Room) s m #[] below meth cO s₁ [] 0 0 := Stand.of_body Bd
  have e0 : s₁.heap = h0 := by rw [← hh, Bd.state]; rfl
  have N0 := Fr.nil n0
  have W0 : ∀ zQ, SS p e below s₁ m 0 #[.unset] [] zQ → Steps p.tables e below (s₁.setTop (entryFrame m #[] 1)) zQ := fun tt kt => castTop (ef_opEmpty m ) kt
  have F102 : Sta Z h0 "java/util/Optional" "EMPTY" "Ljava/util/Optional;" (.ref oE) := S_EMPTY.ext O0.2
  obtain ⟨T101, X101, e101, st101⟩ := getS2 X0 hx hZ hown (host := "") (Or.inl (w105 hw)) Via.refl e0 F102 (g := (mkF m 0 #[.unset] [])) rfl (hb hby d_jdk_32_method_1_0)
  have W103 : ∀ zQ, SS p e below T101 m 5 #[.val (.ref oE)] [(.ref oE)] zQ → Steps p.tables e below (s₁.setTop (entryFrame m #[] 1)) zQ := by
    intro tt kt
    refine W0 tt ?_
    refine st101 _ ?_
    refine XS.astoreN X101.here hx rfl (hb hby d_jdk_32_method_1_3) rfl rfl (l' := #[.val (.ref oE)]) rfl ?_
    refine XS.aloadN X101.here hx rfl (hb hby d_jdk_32_method_1_4) rfl rfl ?_
    exact kt
  obtain ⟨fs, hr, hrun, hended, hW, hsame⟩ := X101.leave (v := some (.ref oE)) (fun h => by rw [Bd.returns] at h; cases h)
  refine ⟨_, _, W103 _ (own_retR X101 hx Bd.returns rfl rfl (hb hby d_jdk_32_method_1_5) hr), hrun, hended, _, _, rfl, ?_, ⟨_, rfl⟩, hW, hsame.mono (by decide) (by decide)⟩
  show Q_opEmpty Z oE h0 n0 _ T101.heap _
  rw [e101]
  exact ⟨rfl, N0, rfl⟩
def Q_orElse (Z : State) (a : Addr) (w : Value) (h0 : Heap) (n0 : Nat) (vQ_ : Option Value) (hQ_ : Heap) (LQ_ : List Loc) : Prop := vQ_ = some w ∧ Fr n0 LQ_ ∧ hQ_ = h0
set_option maxRecDepth 65536 in
set_option maxHeartbeats 40000000 in
theorem rm_orElse (l : Launch) (Z : State) (a0 : Array Value) (hw : HW a0 Z) (ws : List Jvm.Cond) (a : Addr) (w : Value) (h0 : Heap) (n0 : Nat) (Z0 : n0 ≤ h0.size) (F1 : Fld Z h0 a "java/util/Optional" "value" "Ljava/lang/Object;" w) (hwR : w.isRef = true) :
    MetFree l yn16 (head1 (Jvm.Cond.code yn16 jdk_32_method_15_code 2 (some (.object "java/lang/Object")) :: ws) ({ frames := 0, cells := 0, slots := 0, locals := 0 } : Room)) (fun aQ_ UQ => aQ_ = #[(.ref a), .null] ∧ Z.Warmed39 UQ.vm ∧ UQ.heap = h0) (fun _ _ _ _ _ => True) (fun _ UQ oQ UQ' => ∃ vQ_ LQ_, oQ = .returned vQ_ ∧ Q_orElse Z a w h0 n0 vQ_ UQ'.heap LQ_ ∧ FrameEnd UQ oQ UQ' LQ_ ({ frames := 0, cells := 0, slots := 0, locals := 0 } : Room).cells ({ frames := 0, cells := 0, slots := 0, locals := 0 } : Room).slots) := by
  refine MetFree.of_bodySF (plainFor_of_name pn_java_util_Optional) hisR ?_
  intro p e s m args below meth cO s₁ Bd hml0 hP hK
  obtain ⟨rfl, hZ, hh⟩ := hP
  have hx := Bd.exec
  have hby := Bd.bytes
  have hml : cO.maxLocals = 2 := hml0
  have hown : s.vm.findClass "java/util/Optional" = some m.cls := findClass_of_methodNamed Bd.named
  have hnm := (name_of_methodNamed Bd.named Bd.method).1
  have X0 : Stand p l e ({ frames := 0, cells := 0, slots := 0, locals := 0 } : Room) s m #[(.ref a), .null] below meth cO s₁ [] 0 0 := Stand.of_body Bd
  have e0 : s₁.heap = h0 := by rw [← hh, Bd.state]; rfl
  have N0 := Fr.nil n0
  have W0 : ∀ zQ, SS p e below s₁ m 0 #[.val (.ref a), .val .null] [] zQ → Steps p.tables e below (s₁.setTop (entryFrame m #[(.ref a), .null] 2)) zQ := fun tt kt => castTop (ef_orElse m a) kt
  obtain ⟨T101, X101, e101, st101⟩ := getF X0 hx hZ hown (host := "") (Or.inl (w111 hw)) Via.refl e0 F1 (g := (mkF m 1 #[.val (.ref a), .val .null] [(.ref a)])) rfl rfl (hb hby d_jdk_32_method_15_1)
  have W102 : ∀ zQ, SS p e below T101 m 4 #[.val (.ref a), .val .null] [w] zQ → Steps p.tables e below (s₁.setTop (entryFrame m #[(.ref a), .null] 2)) zQ := by
    intro tt kt
    refine W0 tt ?_
    refine XS.aloadN X0.here hx rfl (hb hby d_jdk_32_method_15_0) rfl rfl ?_
    show SS p e below s₁ m 1 #[.val (.ref a), .val .null] [(.ref a)] _
    refine st101 _ ?_
    exact kt
  by_cases hc103 : w = .null
  ·
    have W104 : ∀ zQ, SS p e below T101 m 15 #[.val (.ref a), .val .null] [.null] zQ → Steps p.tables e below (s₁.setTop (entryFrame m #[(.ref a), .null] 2)) zQ := by
      intro tt kt
      refine W102 tt ?_
      refine XT.nullYes X101.here hx rfl (pc0 := 4) (pc' := 14) rfl (hb hby d_jdk_32_method_15_4) rfl hc103 (by decide) (by decide) ?_
      refine XS.aloadN X101.here hx rfl (hb hby d_jdk_32_method_15_14) rfl rfl ?_
      exact kt
    obtain ⟨fs, hr, hrun, hended, hW, hsame⟩ := X101.leave (v := some .null) (fun h => by rw [Bd.returns] at h; cases h)
    refine ⟨_, _, W104 _ (own_retR X101 hx Bd.returns rfl rfl (hb hby d_jdk_32_method_15_15) hr), hrun, hended, _, _, rfl, ?_, ⟨_, rfl⟩, hW, hsame.mono (by decide) (by decide)⟩
    show Q_orElse Z a w h0 n0 _ T101.heap _
    rw [e101]
    exact ⟨(congrArg some hc103.symm), N0, rfl⟩
  ·
    obtain ⟨T105, X105, e105, st105⟩ := getF X101 hx hZ hown (host := "") (Or.inl (w111 hw)) Via.refl e101 F1 (g := (mkF m 8 #[.val (.ref a), .val .null] [(.ref a)])) rfl rfl (hb hby d_jdk_32_method_15_8)
    have W106 : ∀ zQ, SS p e below T105 m 15 #[.val (.ref a), .val .null] [w] zQ → Steps p.tables e below (s₁.setTop (entryFrame m #[(.ref a), .null] 2)) zQ := by
      intro tt kt
      refine W102 tt ?_
      refine XT.nullNo X101.here hx rfl (hb hby d_jdk_32_method_15_4) rfl hwR hc103 ?_
      refine XS.aloadN X101.here hx rfl (hb hby d_jdk_32_method_15_7) rfl rfl ?_
      show SS p e below T101 m 8 #[.val (.ref a), .val .null] [(.ref a)] _
      refine st105 _ ?_
      refine XS.goto X105.here hx rfl (pc0 := 11) (pc' := 15) rfl (hb hby d_jdk_32_method_15_11) (by decide) (by decide) ?_
      exact kt
    obtain ⟨fs, hr, hrun, hended, hW, hsame⟩ := X105.leave (v := some w) (fun h => by rw [Bd.returns] at h; cases h)
    refine ⟨_, _, W106 _ (own_retR X105 hx Bd.returns rfl hwR (hb hby d_jdk_32_method_15_15) hr), hrun, hended, _, _, rfl, ?_, ⟨_, rfl⟩, hW, hsame.mono (by decide) (by decide)⟩
    show Q_orElse Z a w h0 n0 _ T105.heap _
    rw [e105]
    exact ⟨rfl, N0, rfl⟩
def Q_values (Z : State) (o0 : Addr) (o1 : Addr) (o2 : Addr) (o3 : Addr) (o4 : Addr) (oV : Addr) (kV : ClassId) (h0 : Heap) (n0 : Nat) (vQ_ : Option Value) (hQ_ : Heap) (LQ_ : List Loc) : Prop := ∃ r : Addr, vQ_ = some (.ref r) ∧ Fr n0 LQ_ ∧ Keep h0 hQ_ [] ∧ h0.size ≤ r ∧ Arv Z hQ_ r kV (.object "com/example/composition/composition/definition/ObjectFormat") (5 : Int32) [(.ref o0), (.ref o1), (.ref o2), (.ref o3), (.ref o4)] .null
set_option maxRecDepth 65536 in
set_option maxHeartbeats 40000000 in
theorem rm_values (l : Launch) (Z : State) (a0 : Array Value) (hw : HW a0 Z) (ws : List Jvm.Cond) (o0 : Addr) (o1 : Addr) (o2 : Addr) (o3 : Addr) (o4 : Addr) (oV : Addr) (kV : ClassId) (h0 : Heap) (n0 : Nat) (Z0 : n0 ≤ h0.size) (O0 : Old Z n0 h0) (S_0 : Sta Z Z.heap "com/example/composition/composition/definition/ObjectFormat" "TABLE" "Lcom/example/composition/composition/definition/ObjectFormat;" (.ref o0)) (S_1 : Sta Z Z.heap "com/example/composition/composition/definition/ObjectFormat" "DATA_DEFINITION" "Lcom/example/composition/composition/definition/ObjectFormat;" (.ref o1)) (S_2 : Sta Z Z.heap "com/example/composition/composition/definition/ObjectFormat" "BEHAVIOUR_DEFINITION" "Lcom/example/composition/composition/definition/ObjectFormat;" (.ref o2)) (S_3 : Sta Z Z.heap "com/example/composition/composition/definition/ObjectFormat" "SERVICE_DEFINITION" "Lcom/example/composition/composition/definition/ObjectFormat;" (.ref o3)) (S_4 : Sta Z Z.heap "com/example/composition/composition/definition/ObjectFormat" "SERVICE_BINDING" "Lcom/example/composition/composition/definition/ObjectFormat;" (.ref o4)) (S_V : Sta Z Z.heap "com/example/composition/composition/definition/ObjectFormat" "$VALUES" "[Lcom/example/composition/composition/definition/ObjectFormat;" (.ref oV)) (E_V : Exa Z Z.heap oV "[Lcom/example/composition/composition/definition/ObjectFormat;") (V_V : Arv Z Z.heap oV kV (.object "com/example/composition/composition/definition/ObjectFormat") (5 : Int32) [(.ref o0), (.ref o1), (.ref o2), (.ref o3), (.ref o4)] .null) :
    MetFree l yn17 (head1 (Jvm.Cond.code yn17 prog_14_method_1_code 0 (some (.array (.object "com/example/composition/composition/definition/ObjectFormat"))) :: ws) ({ frames := 1, cells := 1, slots := 5, locals := 14 } : Room)) (fun aQ_ UQ => aQ_ = #[] ∧ Z.Warmed39 UQ.vm ∧ UQ.heap = h0) (fun _ _ _ _ _ => True) (fun _ UQ oQ UQ' => ∃ vQ_ LQ_, oQ = .returned vQ_ ∧ Q_values Z o0 o1 o2 o3 o4 oV kV h0 n0 vQ_ UQ'.heap LQ_ ∧ FrameEnd UQ oQ UQ' LQ_ ({ frames := 1, cells := 1, slots := 5, locals := 14 } : Room).cells ({ frames := 1, cells := 1, slots := 5, locals := 14 } : Room).slots) := by
  refine MetFree.of_bodySF (plainFor_of_name pn_com_example_composition_composition_definition_ObjectFormat) hisR ?_
  intro p e s m args below meth cO s₁ Bd hml0 hP hK
  obtain ⟨rfl, hZ, hh⟩ := hP
  have hx := Bd.exec
  have hby := Bd.bytes
  have hml : cO.maxLocals = 0 := hml0
  have hown : s.vm.findClass "com/example/composition/composition/definition/ObjectFormat" = some m.cls := findClass_of_methodNamed Bd.named
  have hnm := (name_of_methodNamed Bd.named Bd.method).1
  have X0 : Stand p l e ({ frames := 1, cells := 1, slots := 5, locals := 14 } : Room) s m #[] below meth cO s₁ [] 0 0 := Stand.of_body Bd
  have e0 : s₁.heap = h0 := by rw [← hh, Bd.state]; rfl
  have N0 := Fr.nil n0
  have W0 : ∀ zQ, SS p e below s₁ m 0 #[] [] zQ → Steps p.tables e below (s₁.setTop (entryFrame m #[] 0)) zQ := fun tt kt => castTop (ef_values m ) kt
  have F102 : Sta Z h0 "com/example/composition/composition/definition/ObjectFormat" "$VALUES" "[Lcom/example/composition/composition/definition/ObjectFormat;" (.ref oV) := S_V.ext O0.2
  obtain ⟨T101, X101, e101, st101⟩ := getS2 X0 hx hZ hown (host := "") (Or.inl (w73 hw)) Via.refl e0 F102 (g := (mkF m 0 #[] [])) rfl (hb hby d_prog_14_method_1_0)
  have F104 : Exa Z h0 oV "[Lcom/example/composition/composition/definition/ObjectFormat;" := E_V.ext O0.2
  have F105 : Arv Z h0 oV kV (.object "com/example/composition/composition/definition/ObjectFormat") (5 : Int32) [(.ref o0), (.ref o1), (.ref o2), (.ref o3), (.ref o4)] .null := V_V.ext O0.2
  obtain ⟨T103, h103, X103, e103, E103, A103, C103, st103⟩ := cloneH X101 hx hZ hown (w75 hw) (w76 hw) (w80 hw) (w78 hw) (w79 hw) (w81 hw) e101 (Arv.arh F105) F104 (g := (mkF m 3 #[] [(.ref oV)])) rfl (by rw [hml]; rfl) rfl (hb hby d_prog_14_method_1_3) (by decide) (W := 0) (cap := 5) (by show 2 * 0 + _ ≤ _; exact Nat.le_of_eq rfl) (by decide) (by decide) (by decide) (by decide)
  obtain ⟨b103, g103⟩ : ∃ z, z = h0.size := ⟨_, rfl⟩
  rw [← g103] at A103 C103 st103
  have K103 := (Keep.refl h0 []).ext E103
  have G103 : Arv Z h103 b103 kV (.object "com/example/composition/composition/definition/ObjectFormat") (5 : Int32) [(.ref o0), (.ref o1), (.ref o2), (.ref o3), (.ref o4)] .null := A103
  obtain ⟨T106, X106, e106, st106⟩ := castY X103 hx hZ hown (w88 hw) e103 (Ins.self C103) (g := (mkF m 6 #[] [(.ref b103)])) rfl rfl (hb hby d_prog_14_method_1_6)
  have W107 : ∀ zQ, SS p e below T106 m 9 #[] [(.ref b103)] zQ → Steps p.tables e below (s₁.setTop (entryFrame m #[] 0)) zQ := by
    intro tt kt
    refine W0 tt ?_
    refine st101 _ ?_
    show SS p e below T101 m 3 #[] [(.ref oV)] _
    refine st103 _ ?_
    show SS p e below T103 m 6 #[] [(.ref b103)] _
    refine st106 _ ?_
    exact kt
  obtain ⟨fs, hr, hrun, hended, hW, hsame⟩ := X106.leave (v := some (.ref b103)) (fun h => by rw [Bd.returns] at h; cases h)
  refine ⟨_, _, W107 _ (own_retR X106 hx Bd.returns rfl rfl (hb hby d_prog_14_method_1_9) hr), hrun, hended, _, _, rfl, ?_, ⟨_, rfl⟩, hW, hsame.mono (by decide) (by decide)⟩
  show Q_values Z o0 o1 o2 o3 o4 oV kV h0 n0 _ T106.heap _
  rw [e106]
  exact ⟨b103, rfl, N0, (Keep.trans (Keep.refl h0 []) K103 all0), (Nat.le_of_eq g103.symm), G103⟩
def Q_ofType (Z : State) (a : Addr) (t : Addr) (kb : ClassId) (cs : List Int32) (o0 : Addr) (o1 : Addr) (o2 : Addr) (o3 : Addr) (o4 : Addr) (oV : Addr) (kV : ClassId) (j0 : Addr) (v0 : Addr) (kv0 : ClassId) (j1 : Addr) (v1 : Addr) (kv1 : ClassId) (j2 : Addr) (v2 : Addr) (kv2 : ClassId) (j3 : Addr) (v3 : Addr) (kv3 : ClassId) (j4 : Addr) (v4 : Addr) (kv4 : ClassId) (oE : Addr) (cS : Int32) (h0 : Heap) (n0 : Nat) (vQ_ : Option Value) (hQ_ : Heap) (LQ_ : List Loc) : Prop := ∃ r : Addr, vQ_ = some (.ref r) ∧ Fr n0 LQ_ ∧ Keep h0 hQ_ [] ∧ Exa Z hQ_ r "java/util/Optional" ∧ Fld Z hQ_ r "java/util/Optional" "value" "Ljava/lang/Object;" (ov o0 o1 o2 o3 o4 cs)
set_option maxRecDepth 65536 in
set_option maxHeartbeats 40000000 in
theorem rm_ofType (l : Launch) (Z : State) (a0 : Array Value) (hw : HW a0 Z) (ws : List Jvm.Cond) (a : Addr) (t : Addr) (kb : ClassId) (cs : List Int32) (o0 : Addr) (o1 : Addr) (o2 : Addr) (o3 : Addr) (o4 : Addr) (oV : Addr) (kV : ClassId) (j0 : Addr) (v0 : Addr) (kv0 : ClassId) (j1 : Addr) (v1 : Addr) (kv1 : ClassId) (j2 : Addr) (v2 : Addr) (kv2 : ClassId) (j3 : Addr) (v3 : Addr) (kv3 : ClassId) (j4 : Addr) (v4 : Addr) (kv4 : ClassId) (oE : Addr) (cS : Int32) (h0 : Heap) (n0 : Nat) (Z0 : n0 ≤ h0.size) (O0 : Old Z n0 h0) (S_V : Sta Z Z.heap "com/example/composition/composition/definition/ObjectFormat" "$VALUES" "[Lcom/example/composition/composition/definition/ObjectFormat;" (.ref oV)) (S_0 : Sta Z Z.heap "com/example/composition/composition/definition/ObjectFormat" "TABLE" "Lcom/example/composition/composition/definition/ObjectFormat;" (.ref o0)) (S_1 : Sta Z Z.heap "com/example/composition/composition/definition/ObjectFormat" "DATA_DEFINITION" "Lcom/example/composition/composition/definition/ObjectFormat;" (.ref o1)) (S_2 : Sta Z Z.heap "com/example/composition/composition/definition/ObjectFormat" "BEHAVIOUR_DEFINITION" "Lcom/example/composition/composition/definition/ObjectFormat;" (.ref o2)) (S_3 : Sta Z Z.heap "com/example/composition/composition/definition/ObjectFormat" "SERVICE_DEFINITION" "Lcom/example/composition/composition/definition/ObjectFormat;" (.ref o3)) (S_4 : Sta Z Z.heap "com/example/composition/composition/definition/ObjectFormat" "SERVICE_BINDING" "Lcom/example/composition/composition/definition/ObjectFormat;" (.ref o4)) (E_V : Exa Z Z.heap oV "[Lcom/example/composition/composition/definition/ObjectFormat;") (V_V : Arv Z Z.heap oV kV (.object "com/example/composition/composition/definition/ObjectFormat") (5 : Int32) [(.ref o0), (.ref o1), (.ref o2), (.ref o3), (.ref o4)] .null) (E_0 : Exa Z Z.heap o0 "com/example/composition/composition/definition/ObjectFormat") (Fj_0 : Fld Z Z.heap o0 "com/example/composition/composition/definition/ObjectFormat" "type" "Ljava/lang/String;" (.ref j0)) (Ej_0 : Exa Z Z.heap j0 "java/lang/String") (Fc_0 : Fld Z Z.heap j0 "java/lang/String" "coder" "B" (.int (0 : Int32))) (Fv_0 : Fld Z Z.heap j0 "java/lang/String" "value" "[B" (.ref v0)) (Vv_0 : Arv Z Z.heap v0 kv0 .byte (4 : Int32) [(.int (116 : Int32)), (.int (97 : Int32)), (.int (98 : Int32)), (.int (108 : Int32))] (.int (0 : Int32))) (E_1 : Exa Z Z.heap o1 "com/example/composition/composition/definition/ObjectFormat") (Fj_1 : Fld Z Z.heap o1 "com/example/composition/composition/definition/ObjectFormat" "type" "Ljava/lang/String;" (.ref j1)) (Ej_1 : Exa Z Z.heap j1 "java/lang/String") (Fc_1 : Fld Z Z.heap j1 "java/lang/String" "coder" "B" (.int (0 : Int32))) (Fv_1 : Fld Z Z.heap j1 "java/lang/String" "value" "[B" (.ref v1)) (Vv_1 : Arv Z Z.heap v1 kv1 .byte (4 : Int32) [(.int (100 : Int32)), (.int (100 : Int32)), (.int (108 : Int32)), (.int (115 : Int32))] (.int (0 : Int32))) (E_2 : Exa Z Z.heap o2 "com/example/composition/composition/definition/ObjectFormat") (Fj_2 : Fld Z Z.heap o2 "com/example/composition/composition/definition/ObjectFormat" "type" "Ljava/lang/String;" (.ref j2)) (Ej_2 : Exa Z Z.heap j2 "java/lang/String") (Fc_2 : Fld Z Z.heap j2 "java/lang/String" "coder" "B" (.int (0 : Int32))) (Fv_2 : Fld Z Z.heap j2 "java/lang/String" "value" "[B" (.ref v2)) (Vv_2 : Arv Z Z.heap v2 kv2 .byte (4 : Int32) [(.int (98 : Int32)), (.int (100 : Int32)), (.int (101 : Int32)), (.int (102 : Int32))] (.int (0 : Int32))) (E_3 : Exa Z Z.heap o3 "com/example/composition/composition/definition/ObjectFormat") (Fj_3 : Fld Z Z.heap o3 "com/example/composition/composition/definition/ObjectFormat" "type" "Ljava/lang/String;" (.ref j3)) (Ej_3 : Exa Z Z.heap j3 "java/lang/String") (Fc_3 : Fld Z Z.heap j3 "java/lang/String" "coder" "B" (.int (0 : Int32))) (Fv_3 : Fld Z Z.heap j3 "java/lang/String" "value" "[B" (.ref v3)) (Vv_3 : Arv Z Z.heap v3 kv3 .byte (4 : Int32) [(.int (115 : Int32)), (.int (114 : Int32)), (.int (118 : Int32)), (.int (100 : Int32))] (.int (0 : Int32))) (E_4 : Exa Z Z.heap o4 "com/example/composition/composition/definition/ObjectFormat") (Fj_4 : Fld Z Z.heap o4 "com/example/composition/composition/definition/ObjectFormat" "type" "Ljava/lang/String;" (.ref j4)) (Ej_4 : Exa Z Z.heap j4 "java/lang/String") (Fc_4 : Fld Z Z.heap j4 "java/lang/String" "coder" "B" (.int (0 : Int32))) (Fv_4 : Fld Z Z.heap j4 "java/lang/String" "value" "[B" (.ref v4)) (Vv_4 : Arv Z Z.heap v4 kv4 .byte (4 : Int32) [(.int (115 : Int32)), (.int (114 : Int32)), (.int (118 : Int32)), (.int (98 : Int32))] (.int (0 : Int32))) (S_EMPTY : Sta Z Z.heap "java/util/Optional" "EMPTY" "Ljava/util/Optional;" (.ref oE)) (E_EMPTY : Exa Z Z.heap oE "java/util/Optional") (F_EMPTY : Fld Z Z.heap oE "java/util/Optional" "value" "Ljava/lang/Object;" .null) (S_cs : Sta Z Z.heap "java/lang/String" "COMPACT_STRINGS" "Z" (.int cS)) (hcS : ¬ (cS = (0 : Int32))) (hS : Str Z h0 a t kb cs) (hl : lat cs = true) (g1 : n0 ≤ a) :
    MetFree l yn18 (head1 (Jvm.Cond.code yn18 prog_14_method_7_code 5 (some (.object "java/util/Optional")) :: ws) ({ frames := 3, cells := 2, slots := 6, locals := 38 } : Room)) (fun aQ_ UQ => aQ_ = #[(.ref a)] ∧ Z.Warmed39 UQ.vm ∧ UQ.heap = h0) (fun _ _ _ _ _ => True) (fun _ UQ oQ UQ' => ∃ vQ_ LQ_, oQ = .returned vQ_ ∧ Q_ofType Z a t kb cs o0 o1 o2 o3 o4 oV kV j0 v0 kv0 j1 v1 kv1 j2 v2 kv2 j3 v3 kv3 j4 v4 kv4 oE cS h0 n0 vQ_ UQ'.heap LQ_ ∧ FrameEnd UQ oQ UQ' LQ_ ({ frames := 3, cells := 2, slots := 6, locals := 38 } : Room).cells ({ frames := 3, cells := 2, slots := 6, locals := 38 } : Room).slots) := by
  refine MetFree.of_bodySF (plainFor_of_name pn_com_example_composition_composition_definition_ObjectFormat) hisR ?_
  intro p e s m args below meth cO s₁ Bd hml0 hP hK
  obtain ⟨rfl, hZ, hh⟩ := hP
  have hx := Bd.exec
  have hby := Bd.bytes
  have hml : cO.maxLocals = 5 := hml0
  have hown : s.vm.findClass "com/example/composition/composition/definition/ObjectFormat" = some m.cls := findClass_of_methodNamed Bd.named
  have hnm := (name_of_methodNamed Bd.named Bd.method).1
  have X0 : Stand p l e ({ frames := 3, cells := 2, slots := 6, locals := 38 } : Room) s m #[(.ref a)] below meth cO s₁ [] 0 0 := Stand.of_body Bd
  have e0 : s₁.heap = h0 := by rw [← hh, Bd.state]; rfl
  have N0 := Fr.nil n0
  have W0 : ∀ zQ, SS p e below s₁ m 0 #[.val (.ref a), .unset, .unset, .unset, .unset] [] zQ → Steps p.tables e below (s₁.setTop (entryFrame m #[(.ref a)] 5)) zQ := fun tt kt => castTop (ef_ofType m a) kt
  have F101 : Exa Z h0 j0 "java/lang/String" := Ej_0.ext O0.2
  have F102 : Fld Z h0 j0 "java/lang/String" "value" "[B" (.ref v0) := Fv_0.ext O0.2
  have F103 : Fld Z h0 j0 "java/lang/String" "coder" "B" (.int (0 : Int32)) := Fc_0.ext O0.2
  have F104 : Arv Z h0 v0 kv0 .byte (4 : Int32) [(.int (116 : Int32)), (.int (97 : Int32)), (.int (98 : Int32)), (.int (108 : Int32))] (.int (0 : Int32)) := Vv_0.ext O0.2
  have SJ0 : Str Z h0 j0 v0 kv0 jn0 := ⟨F101, F102, F103, F104, by decide, by decide⟩
  have F105 : Exa Z h0 j1 "java/lang/String" := Ej_1.ext O0.2
  have F106 : Fld Z h0 j1 "java/lang/String" "value" "[B" (.ref v1) := Fv_1.ext O0.2
  have F107 : Fld Z h0 j1 "java/lang/String" "coder" "B" (.int (0 : Int32)) := Fc_1.ext O0.2
  have F108 : Arv Z h0 v1 kv1 .byte (4 : Int32) [(.int (100 : Int32)), (.int (100 : Int32)), (.int (108 : Int32)), (.int (115 : Int32))] (.int (0 : Int32)) := Vv_1.ext O0.2
  have SJ1 : Str Z h0 j1 v1 kv1 jn1 := ⟨F105, F106, F107, F108, by decide, by decide⟩
  have F109 : Exa Z h0 j2 "java/lang/String" := Ej_2.ext O0.2
  have F110 : Fld Z h0 j2 "java/lang/String" "value" "[B" (.ref v2) := Fv_2.ext O0.2
  have F111 : Fld Z h0 j2 "java/lang/String" "coder" "B" (.int (0 : Int32)) := Fc_2.ext O0.2
  have F112 : Arv Z h0 v2 kv2 .byte (4 : Int32) [(.int (98 : Int32)), (.int (100 : Int32)), (.int (101 : Int32)), (.int (102 : Int32))] (.int (0 : Int32)) := Vv_2.ext O0.2
  have SJ2 : Str Z h0 j2 v2 kv2 jn2 := ⟨F109, F110, F111, F112, by decide, by decide⟩
  have F113 : Exa Z h0 j3 "java/lang/String" := Ej_3.ext O0.2
  have F114 : Fld Z h0 j3 "java/lang/String" "value" "[B" (.ref v3) := Fv_3.ext O0.2
  have F115 : Fld Z h0 j3 "java/lang/String" "coder" "B" (.int (0 : Int32)) := Fc_3.ext O0.2
  have F116 : Arv Z h0 v3 kv3 .byte (4 : Int32) [(.int (115 : Int32)), (.int (114 : Int32)), (.int (118 : Int32)), (.int (100 : Int32))] (.int (0 : Int32)) := Vv_3.ext O0.2
  have SJ3 : Str Z h0 j3 v3 kv3 jn3 := ⟨F113, F114, F115, F116, by decide, by decide⟩
  have F117 : Exa Z h0 j4 "java/lang/String" := Ej_4.ext O0.2
  have F118 : Fld Z h0 j4 "java/lang/String" "value" "[B" (.ref v4) := Fv_4.ext O0.2
  have F119 : Fld Z h0 j4 "java/lang/String" "coder" "B" (.int (0 : Int32)) := Fc_4.ext O0.2
  have F120 : Arv Z h0 v4 kv4 .byte (4 : Int32) [(.int (115 : Int32)), (.int (114 : Int32)), (.int (118 : Int32)), (.int (98 : Int32))] (.int (0 : Int32)) := Vv_4.ext O0.2
  have SJ4 : Str Z h0 j4 v4 kv4 jn4 := ⟨F117, F118, F119, F120, by decide, by decide⟩
  obtain ⟨_, _, ⟨T121, L121, k121, n121⟩, -, X121, ⟨Lc121, hQ121, l121, y121, z121⟩, st121⟩ := Jvm.LawKit.callS X0 hx (y := yn17) hown (mvT hZ (w70 hw)) (mvT hZ (w71 hw)) (mvT hZ (w68 hw)) (mvT hZ (w72 hw)) (by decide) (backOf (W := 0) (rm_values l Z a0 hw [] o0 o1 o2 o3 o4 oV kV h0 n0 Z0 O0 S_0 S_1 S_2 S_3 S_4 S_V E_V V_V) hZ (w72 hw) (w68 hw) (by decide) (by decide)) (g := (mkF m 0 #[.val (.ref a), .unset, .unset, .unset, .unset] [])) rfl (by rw [hml]; rfl) (argsL := []) (rest := []) (lenOf pd__28__29__5b_Lcom_2f_example_2f_composition_2f_composition_2f_definition_2f_ObjectFormat_3b_ rfl) rfl (by show 2 * 0 + _ ≤ _; exact Nat.le_of_eq rfl) (hb hby d_prog_14_method_7_0) (fun _ _ => ⟨rfl, e0, (Nat.le_of_ble_eq_true rfl), (Nat.le_of_ble_eq_true rfl)⟩)
  dsimp only [Pt.U, Pt.locs, Pt.cells, Pt.slots] at X121 l121 y121 z121 st121 hQ121
  subst l121 y121 z121
  obtain ⟨r_122, rfl, Nq121, K121, P121_0, P121_1⟩ := hQ121
  have N121 := Fr.app N0 Nq121
  obtain ⟨cl123, Ar123, -, S123, M123, -, -⟩ := id P121_1
  obtain ⟨cl124, Ar124, q124, S124, M124, H124, F124g⟩ := id P121_1
  have hin124 : ¬ ((0 : Int32) < 0 ∨ cl124.slots.size ≤ ((0 : Int32)).toNatClampNeg) := inb_of S124 ⟨by decide, by decide⟩
  have hat124 : cl124.slots[((0 : Int32)).toNatClampNeg]? = some (.ref o0) := Has.at H124 hin124 rfl
  have O125 : Old Z n0 T121.heap := (O0.keep K121 all0)
  have F126 : Fld Z T121.heap o0 "com/example/composition/composition/definition/ObjectFormat" "type" "Ljava/lang/String;" (.ref j0) := Fj_0.ext O125.2
  obtain ⟨T127, X127, e127, st127⟩ := getF X121 hx hZ hown (host := "") (Or.inl (w90 hw)) Via.refl rfl F126 (g := (mkF m 21 #[.val (.ref a), .val (.ref r_122), .val (.int (5 : Int32)), .val (.int (0 : Int32)), .val (.ref o0)] [(.ref o0)])) rfl rfl (hb hby d_prog_14_method_7_21)
  have F128 : Str Z T121.heap j0 v0 kv0 jn0 := (SJ0.keep K121 nin0 nin0)
  have F129 : Str Z T121.heap a t kb cs := (hS.keep K121 nin0 nin0)
  have F131 : Exa Z T121.heap j0 "java/lang/String" := (F101.keep K121)
  obtain ⟨cq130, kq130, q130a, q130b, q130c⟩ := isOf hZ e127 F131
  obtain ⟨_, _, ⟨T130, L130, k130, n130⟩, -, X130, ⟨Lc130, hQ130, l130, y130, z130⟩, st130⟩ := X127.virtualBack hx (y := yn11) (z := yn11) hown (mvT hZ (w92 hw)) (mvT hZ (w93 hw)) (notFace_of_selects (args := #[]) (mvT hZ (w95 hw))) (mvT hZ (w95 hw)) (mvT hZ (w94 hw)) (by decide) (backOf (W := 0) (rm_sequals l Z a0 hw [] j0 a v0 t kv0 kb jn0 cs cS T121.heap n0 (Nat.le_trans Z0 K121.1) O125 S_cs hcS F128 F129 (by decide) hl (Nat.ne_of_lt (Nat.lt_of_lt_of_le (Nat.lt_of_lt_of_eq Ej_0.lt O0.1) g1))) hZ (w96 hw) (w7 hw) (by decide) (by decide)) q130a q130c (g := (mkF m 25 #[.val (.ref a), .val (.ref r_122), .val (.int (5 : Int32)), .val (.int (0 : Int32)), .val (.ref o0)] [(.ref a), (.ref j0)])) rfl (by rw [hml]; rfl) (Steps.refl _) (argsL := [(.ref a)]) (rest := []) (lenOf pd__28_Ljava_2f_lang_2f_Object_3b__29_Z rfl) rfl (by show 2 * 0 + _ ≤ _; exact Nat.le_of_eq rfl) (hb hby d_prog_14_method_7_25) (fun _ _ => ⟨rfl, e127, (Nat.le_of_ble_eq_true rfl), (Nat.le_of_ble_eq_true rfl)⟩)
  dsimp only [Pt.U, Pt.locs, Pt.cells, Pt.slots] at X130 l130 y130 z130 st130 hQ130
  subst l130 y130 z130
  obtain ⟨rfl, Nq130, eq130⟩ := hQ130
  have N130 := Fr.app N121 Nq130
  have W132 : ∀ zQ, SS p e below T130 m 28 #[.val (.ref a), .val (.ref r_122), .val (.int (5 : Int32)), .val (.int (0 : Int32)), .val (.ref o0)] [(.int (if jn0 = cs then (1 : Int32) else (0 : Int32)))] zQ → Steps p.tables e below (s₁.setTop (entryFrame m #[(.ref a)] 5)) zQ := by
    intro tt kt
    refine W0 tt ?_
    refine st121 _ ?_
    refine XS.astoreN X121.here hx rfl (hb hby d_prog_14_method_7_3) rfl rfl (l' := #[.val (.ref a), .val (.ref r_122), .unset, .unset, .unset]) rfl ?_
    refine XS.aloadN X121.here hx rfl (hb hby d_prog_14_method_7_4) rfl rfl ?_
    show SS p e below T121 m 5 #[.val (.ref a), .val (.ref r_122), .unset, .unset, .unset] [(.ref r_122)] _
    refine X121.arraylength hx (by first | exact Ar123.1 | (rw [rfl]; exact Ar123.1)) (State.isArrayOf_alike hZ.alike Ar123.2.1) (g := (mkF m 5 #[.val (.ref a), .val (.ref r_122), .unset, .unset, .unset] [(.ref r_122)])) rfl rfl (hb hby d_prog_14_method_7_5) _ ?_
    rw [len_of S123 M123]
    refine XS.istoreN X121.here hx rfl (hb hby d_prog_14_method_7_6) rfl (l' := #[.val (.ref a), .val (.ref r_122), .val (.int (5 : Int32)), .unset, .unset]) rfl ?_
    refine XS.iconst X121.here hx rfl (hb hby d_prog_14_method_7_7) ?_
    refine XS.istoreN X121.here hx rfl (hb hby d_prog_14_method_7_8) rfl (l' := #[.val (.ref a), .val (.ref r_122), .val (.int (5 : Int32)), .val (.int (0 : Int32)), .unset]) rfl ?_
    refine XS.iloadN X121.here hx rfl (hb hby d_prog_14_method_7_9) rfl ?_
    refine XS.iloadN X121.here hx rfl (hb hby d_prog_14_method_7_10) rfl ?_
    show SS p e below T121 m 11 #[.val (.ref a), .val (.ref r_122), .val (.int (5 : Int32)), .val (.int (0 : Int32)), .unset] [(.int (5 : Int32)), (.int (0 : Int32))] _
    refine XS.icmpNo X121.here hx rfl (hb hby d_prog_14_method_7_11) rfl (tlt (by decide)).2.1 ?_
    refine XS.aloadN X121.here hx rfl (hb hby d_prog_14_method_7_14) rfl rfl ?_
    refine XS.iloadN X121.here hx rfl (hb hby d_prog_14_method_7_15) rfl ?_
    show SS p e below T121 m 16 #[.val (.ref a), .val (.ref r_122), .val (.int (5 : Int32)), .val (.int (0 : Int32)), .unset] [(.int (0 : Int32)), (.ref r_122)] _
    refine X121.aaload hx (j := (0 : Int32)) (v := (.ref o0)) (by first | exact Ar124.1 | (rw [rfl]; exact Ar124.1)) (State.isArrayOf_alike hZ.alike Ar124.2.1) rfl Ar124.2.2 hin124 hat124 (g := (mkF m 16 #[.val (.ref a), .val (.ref r_122), .val (.int (5 : Int32)), .val (.int (0 : Int32)), .unset] [(.int (0 : Int32)), (.ref r_122)])) rfl rfl (hb hby d_prog_14_method_7_16) _ ?_
    refine XS.astore X121.here hx rfl (hb hby d_prog_14_method_7_17) rfl rfl (l' := #[.val (.ref a), .val (.ref r_122), .val (.int (5 : Int32)), .val (.int (0 : Int32)), .val (.ref o0)]) rfl ?_
    refine XS.aload X121.here hx rfl (hb hby d_prog_14_method_7_19) rfl rfl ?_
    show SS p e below T121 m 21 #[.val (.ref a), .val (.ref r_122), .val (.int (5 : Int32)), .val (.int (0 : Int32)), .val (.ref o0)] [(.ref o0)] _
    refine st127 _ ?_
    refine XS.aloadN X127.here hx rfl (hb hby d_prog_14_method_7_24) rfl rfl ?_
    show SS p e below T127 m 25 #[.val (.ref a), .val (.ref r_122), .val (.int (5 : Int32)), .val (.int (0 : Int32)), .val (.ref o0)] [(.ref a), (.ref j0)] _
    refine st130.trans ?_
    exact kt
  by_cases hc133 : jn0 = cs
  ·
    obtain ⟨_, _, ⟨T134, L134, k134, n134⟩, -, X134, ⟨Lc134, hQ134, l134, y134, z134⟩, st134⟩ := Jvm.LawKit.callS X130 hx (y := yn14) hown (mvT hZ (w119 hw)) (mvT hZ (w120 hw)) (mvT hZ (w103 hw)) (mvT hZ (w121 hw)) (by decide) (backOf (W := 0) (rm_opOf l Z a0 hw [] o0 T121.heap n0 (Nat.le_trans Z0 K121.1) ) hZ (w121 hw) (w103 hw) (by decide) (by decide)) (g := (mkF m 33 #[.val (.ref a), .val (.ref r_122), .val (.int (5 : Int32)), .val (.int (0 : Int32)), .val (.ref o0)] [(.ref o0)])) rfl (by rw [hml]; rfl) (argsL := [(.ref o0)]) (rest := []) (lenOf pd__28_Ljava_2f_lang_2f_Object_3b__29_Ljava_2f_util_2f_Optional_3b_ rfl) rfl (by show 2 * 0 + _ ≤ _; exact Nat.le_of_eq rfl) (hb hby d_prog_14_method_7_33) (fun _ _ => ⟨rfl, eq130, (Nat.le_of_ble_eq_true rfl), (Nat.le_of_ble_eq_true rfl)⟩)
    dsimp only [Pt.U, Pt.locs, Pt.cells, Pt.slots] at X134 l134 y134 z134 st134 hQ134
    subst l134 y134 z134
    obtain ⟨r_135, rfl, Nq134, K134, P134_0, P134_1, P134_2⟩ := hQ134
    have N134 := Fr.app N130 Nq134
    have W136 : ∀ zQ, SS p e below T134 m 36 #[.val (.ref a), .val (.ref r_122), .val (.int (5 : Int32)), .val (.int (0 : Int32)), .val (.ref o0)] [(.ref r_135)] zQ → Steps p.tables e below (s₁.setTop (entryFrame m #[(.ref a)] 5)) zQ := by
      intro tt kt
      refine W132 tt ?_
      rw [show (if jn0 = cs then (1 : Int32) else (0 : Int32)) = (1 : Int32) from if_pos hc133]
      refine XS.ifNo X130.here hx rfl (hb hby d_prog_14_method_7_28) rfl ((if0 _ _).trans (feq (by decide)).1) ?_
      refine XS.aload X130.here hx rfl (hb hby d_prog_14_method_7_31) rfl rfl ?_
      show SS p e below T130 m 33 #[.val (.ref a), .val (.ref r_122), .val (.int (5 : Int32)), .val (.int (0 : Int32)), .val (.ref o0)] [(.ref o0)] _
      refine st134 _ ?_
      exact kt
    have hR137 : Fld Z T134.heap r_135 "java/util/Optional" "value" "Ljava/lang/Object;" (ov o0 o1 o2 o3 o4 cs) := by rw [show (ov o0 o1 o2 o3 o4 cs) = Value.ref o0 from by simp only [ov, if_pos hc133]]; exact P134_2
    obtain ⟨fs, hr, hrun, hended, hW, hsame⟩ := X134.leave (v := some (.ref r_135)) (fun h => by rw [Bd.returns] at h; cases h)
    refine ⟨_, _, W136 _ (own_retR X134 hx Bd.returns rfl rfl (hb hby d_prog_14_method_7_36) hr), hrun, hended, _, _, rfl, ?_, ⟨_, rfl⟩, hW, hsame.mono (by decide) (by decide)⟩
    show Q_ofType Z a t kb cs o0 o1 o2 o3 o4 oV kV j0 v0 kv0 j1 v1 kv1 j2 v2 kv2 j3 v3 kv3 j4 v4 kv4 oE cS h0 n0 _ T134.heap _
    exact ⟨r_135, rfl, N134, (Keep.trans (Keep.trans (Keep.refl h0 []) K121 all0) K134 all0), P134_1, hR137⟩
  ·
    obtain ⟨cl138, Ar138, q138, S138, M138, H138, F138g⟩ := id P121_1
    have hin138 : ¬ ((1 : Int32) < 0 ∨ cl138.slots.size ≤ ((1 : Int32)).toNatClampNeg) := inb_of S138 ⟨by decide, by decide⟩
    have hat138 : cl138.slots[((1 : Int32)).toNatClampNeg]? = some (.ref o1) := Has.at H138 hin138 rfl
    have F139 : Fld Z T121.heap o1 "com/example/composition/composition/definition/ObjectFormat" "type" "Ljava/lang/String;" (.ref j1) := Fj_1.ext O125.2
    obtain ⟨T140, X140, e140, st140⟩ := getF X130 hx hZ hown (host := "") (Or.inl (w90 hw)) Via.refl eq130 F139 (g := (mkF m 21 #[.val (.ref a), .val (.ref r_122), .val (.int (5 : Int32)), .val (.int (1 : Int32)), .val (.ref o1)] [(.ref o1)])) rfl rfl (hb hby d_prog_14_method_7_21)
    have F141 : Str Z T121.heap j1 v1 kv1 jn1 := (SJ1.keep K121 nin0 nin0)
    have F143 : Exa Z T121.heap j1 "java/lang/String" := (F105.keep K121)
    obtain ⟨cq142, kq142, q142a, q142b, q142c⟩ := isOf hZ e140 F143
    obtain ⟨_, _, ⟨T142, L142, k142, n142⟩, -, X142, ⟨Lc142, hQ142, l142, y142, z142⟩, st142⟩ := X140.virtualBack hx (y := yn11) (z := yn11) hown (mvT hZ (w92 hw)) (mvT hZ (w93 hw)) (notFace_of_selects (args := #[]) (mvT hZ (w95 hw))) (mvT hZ (w95 hw)) (mvT hZ (w94 hw)) (by decide) (backOf (W := 0) (rm_sequals l Z a0 hw [] j1 a v1 t kv1 kb jn1 cs cS T121.heap n0 (Nat.le_trans Z0 K121.1) O125 S_cs hcS F141 F129 (by decide) hl (Nat.ne_of_lt (Nat.lt_of_lt_of_le (Nat.lt_of_lt_of_eq Ej_1.lt O0.1) g1))) hZ (w96 hw) (w7 hw) (by decide) (by decide)) q142a q142c (g := (mkF m 25 #[.val (.ref a), .val (.ref r_122), .val (.int (5 : Int32)), .val (.int (1 : Int32)), .val (.ref o1)] [(.ref a), (.ref j1)])) rfl (by rw [hml]; rfl) (Steps.refl _) (argsL := [(.ref a)]) (rest := []) (lenOf pd__28_Ljava_2f_lang_2f_Object_3b__29_Z rfl) rfl (by show 2 * 0 + _ ≤ _; exact Nat.le_of_eq rfl) (hb hby d_prog_14_method_7_25) (fun _ _ => ⟨rfl, e140, (Nat.le_of_ble_eq_true rfl), (Nat.le_of_ble_eq_true rfl)⟩)
    dsimp only [Pt.U, Pt.locs, Pt.cells, Pt.slots] at X142 l142 y142 z142 st142 hQ142
    subst l142 y142 z142
    obtain ⟨rfl, Nq142, eq142⟩ := hQ142
    have N142 := Fr.app N130 Nq142
    have W144 : ∀ zQ, SS p e below T142 m 28 #[.val (.ref a), .val (.ref r_122), .val (.int (5 : Int32)), .val (.int (1 : Int32)), .val (.ref o1)] [(.int (if jn1 = cs then (1 : Int32) else (0 : Int32)))] zQ → Steps p.tables e below (s₁.setTop (entryFrame m #[(.ref a)] 5)) zQ := by
      intro tt kt
      refine W132 tt ?_
      rw [show (if jn0 = cs then (1 : Int32) else (0 : Int32)) = (0 : Int32) from if_neg hc133]
      refine XS.ifYes X130.here hx rfl (pc0 := 28) (pc' := 37) rfl (hb hby d_prog_14_method_7_28) rfl ((if0 _ _).trans (teq (by decide)).1) (by decide) (by decide) ?_
      show SS p e below T130 m 37 #[.val (.ref a), .val (.ref r_122), .val (.int (5 : Int32)), .val (.int (0 : Int32)), .val (.ref o0)] [] _
      refine XS.iinc X130.here hx rfl (hb hby d_prog_14_method_7_37) rfl (l' := #[.val (.ref a), .val (.ref r_122), .val (.int (5 : Int32)), .val (.int (1 : Int32)), .val (.ref o0)]) rfl ?_
      refine XS.goto X130.here hx rfl (pc0 := 40) (pc' := 9) rfl (hb hby d_prog_14_method_7_40) (by decide) (by decide) ?_
      refine XS.iloadN X130.here hx rfl (hb hby d_prog_14_method_7_9) rfl ?_
      refine XS.iloadN X130.here hx rfl (hb hby d_prog_14_method_7_10) rfl ?_
      refine XS.icmpNo X130.here hx rfl (hb hby d_prog_14_method_7_11) rfl (tlt (by decide)).2.1 ?_
      refine XS.aloadN X130.here hx rfl (hb hby d_prog_14_method_7_14) rfl rfl ?_
      show SS p e below T130 m 15 #[.val (.ref a), .val (.ref r_122), .val (.int (5 : Int32)), .val (.int (1 : Int32)), .val (.ref o0)] [(.ref r_122)] _
      refine XS.iloadN X130.here hx rfl (hb hby d_prog_14_method_7_15) rfl ?_
      show SS p e below T130 m 16 #[.val (.ref a), .val (.ref r_122), .val (.int (5 : Int32)), .val (.int (1 : Int32)), .val (.ref o0)] [(.int (1 : Int32)), (.ref r_122)] _
      refine X130.aaload hx (j := (1 : Int32)) (v := (.ref o1)) (by first | exact Ar138.1 | (rw [eq130]; exact Ar138.1)) (State.isArrayOf_alike hZ.alike Ar138.2.1) rfl Ar138.2.2 hin138 hat138 (g := (mkF m 16 #[.val (.ref a), .val (.ref r_122), .val (.int (5 : Int32)), .val (.int (1 : Int32)), .val (.ref o0)] [(.int (1 : Int32)), (.ref r_122)])) rfl rfl (hb hby d_prog_14_method_7_16) _ ?_
      refine XS.astore X130.here hx rfl (hb hby d_prog_14_method_7_17) rfl rfl (l' := #[.val (.ref a), .val (.ref r_122), .val (.int (5 : Int32)), .val (.int (1 : Int32)), .val (.ref o1)]) rfl ?_
      refine XS.aload X130.here hx rfl (hb hby d_prog_14_method_7_19) rfl rfl ?_
      show SS p e below T130 m 21 #[.val (.ref a), .val (.ref r_122), .val (.int (5 : Int32)), .val (.int (1 : Int32)), .val (.ref o1)] [(.ref o1)] _
      refine st140 _ ?_
      refine XS.aloadN X140.here hx rfl (hb hby d_prog_14_method_7_24) rfl rfl ?_
      show SS p e below T140 m 25 #[.val (.ref a), .val (.ref r_122), .val (.int (5 : Int32)), .val (.int (1 : Int32)), .val (.ref o1)] [(.ref a), (.ref j1)] _
      refine st142.trans ?_
      exact kt
    by_cases hc145 : jn1 = cs
    ·
      obtain ⟨_, _, ⟨T146, L146, k146, n146⟩, -, X146, ⟨Lc146, hQ146, l146, y146, z146⟩, st146⟩ := Jvm.LawKit.callS X142 hx (y := yn14) hown (mvT hZ (w119 hw)) (mvT hZ (w120 hw)) (mvT hZ (w103 hw)) (mvT hZ (w121 hw)) (by decide) (backOf (W := 0) (rm_opOf l Z a0 hw [] o1 T121.heap n0 (Nat.le_trans Z0 K121.1) ) hZ (w121 hw) (w103 hw) (by decide) (by decide)) (g := (mkF m 33 #[.val (.ref a), .val (.ref r_122), .val (.int (5 : Int32)), .val (.int (1 : Int32)), .val (.ref o1)] [(.ref o1)])) rfl (by rw [hml]; rfl) (argsL := [(.ref o1)]) (rest := []) (lenOf pd__28_Ljava_2f_lang_2f_Object_3b__29_Ljava_2f_util_2f_Optional_3b_ rfl) rfl (by show 2 * 0 + _ ≤ _; exact Nat.le_of_eq rfl) (hb hby d_prog_14_method_7_33) (fun _ _ => ⟨rfl, eq142, (Nat.le_of_ble_eq_true rfl), (Nat.le_of_ble_eq_true rfl)⟩)
      dsimp only [Pt.U, Pt.locs, Pt.cells, Pt.slots] at X146 l146 y146 z146 st146 hQ146
      subst l146 y146 z146
      obtain ⟨r_147, rfl, Nq146, K146, P146_0, P146_1, P146_2⟩ := hQ146
      have N146 := Fr.app N142 Nq146
      have W148 : ∀ zQ, SS p e below T146 m 36 #[.val (.ref a), .val (.ref r_122), .val (.int (5 : Int32)), .val (.int (1 : Int32)), .val (.ref o1)] [(.ref r_147)] zQ → Steps p.tables e below (s₁.setTop (entryFrame m #[(.ref a)] 5)) zQ := by
        intro tt kt
        refine W144 tt ?_
        rw [show (if jn1 = cs then (1 : Int32) else (0 : Int32)) = (1 : Int32) from if_pos hc145]
        refine XS.ifNo X142.here hx rfl (hb hby d_prog_14_method_7_28) rfl ((if0 _ _).trans (feq (by decide)).1) ?_
        refine XS.aload X142.here hx rfl (hb hby d_prog_14_method_7_31) rfl rfl ?_
        show SS p e below T142 m 33 #[.val (.ref a), .val (.ref r_122), .val (.int (5 : Int32)), .val (.int (1 : Int32)), .val (.ref o1)] [(.ref o1)] _
        refine st146 _ ?_
        exact kt
      have hR149 : Fld Z T146.heap r_147 "java/util/Optional" "value" "Ljava/lang/Object;" (ov o0 o1 o2 o3 o4 cs) := by rw [show (ov o0 o1 o2 o3 o4 cs) = Value.ref o1 from by simp only [ov, if_neg hc133, if_pos hc145]]; exact P146_2
      obtain ⟨fs, hr, hrun, hended, hW, hsame⟩ := X146.leave (v := some (.ref r_147)) (fun h => by rw [Bd.returns] at h; cases h)
      refine ⟨_, _, W148 _ (own_retR X146 hx Bd.returns rfl rfl (hb hby d_prog_14_method_7_36) hr), hrun, hended, _, _, rfl, ?_, ⟨_, rfl⟩, hW, hsame.mono (by decide) (by decide)⟩
      show Q_ofType Z a t kb cs o0 o1 o2 o3 o4 oV kV j0 v0 kv0 j1 v1 kv1 j2 v2 kv2 j3 v3 kv3 j4 v4 kv4 oE cS h0 n0 _ T146.heap _
      exact ⟨r_147, rfl, N146, (Keep.trans (Keep.trans (Keep.refl h0 []) K121 all0) K146 all0), P146_1, hR149⟩
    ·
      obtain ⟨cl150, Ar150, q150, S150, M150, H150, F150g⟩ := id P121_1
      have hin150 : ¬ ((2 : Int32) < 0 ∨ cl150.slots.size ≤ ((2 : Int32)).toNatClampNeg) := inb_of S150 ⟨by decide, by decide⟩
      have hat150 : cl150.slots[((2 : Int32)).toNatClampNeg]? = some (.ref o2) := Has.at H150 hin150 rfl
      have F151 : Fld Z T121.heap o2 "com/example/composition/composition/definition/ObjectFormat" "type" "Ljava/lang/String;" (.ref j2) := Fj_2.ext O125.2
      obtain ⟨T152, X152, e152, st152⟩ := getF X142 hx hZ hown (host := "") (Or.inl (w90 hw)) Via.refl eq142 F151 (g := (mkF m 21 #[.val (.ref a), .val (.ref r_122), .val (.int (5 : Int32)), .val (.int (2 : Int32)), .val (.ref o2)] [(.ref o2)])) rfl rfl (hb hby d_prog_14_method_7_21)
      have F153 : Str Z T121.heap j2 v2 kv2 jn2 := (SJ2.keep K121 nin0 nin0)
      have F155 : Exa Z T121.heap j2 "java/lang/String" := (F109.keep K121)
      obtain ⟨cq154, kq154, q154a, q154b, q154c⟩ := isOf hZ e152 F155
      obtain ⟨_, _, ⟨T154, L154, k154, n154⟩, -, X154, ⟨Lc154, hQ154, l154, y154, z154⟩, st154⟩ := X152.virtualBack hx (y := yn11) (z := yn11) hown (mvT hZ (w92 hw)) (mvT hZ (w93 hw)) (notFace_of_selects (args := #[]) (mvT hZ (w95 hw))) (mvT hZ (w95 hw)) (mvT hZ (w94 hw)) (by decide) (backOf (W := 0) (rm_sequals l Z a0 hw [] j2 a v2 t kv2 kb jn2 cs cS T121.heap n0 (Nat.le_trans Z0 K121.1) O125 S_cs hcS F153 F129 (by decide) hl (Nat.ne_of_lt (Nat.lt_of_lt_of_le (Nat.lt_of_lt_of_eq Ej_2.lt O0.1) g1))) hZ (w96 hw) (w7 hw) (by decide) (by decide)) q154a q154c (g := (mkF m 25 #[.val (.ref a), .val (.ref r_122), .val (.int (5 : Int32)), .val (.int (2 : Int32)), .val (.ref o2)] [(.ref a), (.ref j2)])) rfl (by rw [hml]; rfl) (Steps.refl _) (argsL := [(.ref a)]) (rest := []) (lenOf pd__28_Ljava_2f_lang_2f_Object_3b__29_Z rfl) rfl (by show 2 * 0 + _ ≤ _; exact Nat.le_of_eq rfl) (hb hby d_prog_14_method_7_25) (fun _ _ => ⟨rfl, e152, (Nat.le_of_ble_eq_true rfl), (Nat.le_of_ble_eq_true rfl)⟩)
      dsimp only [Pt.U, Pt.locs, Pt.cells, Pt.slots] at X154 l154 y154 z154 st154 hQ154
      subst l154 y154 z154
      obtain ⟨rfl, Nq154, eq154⟩ := hQ154
      have N154 := Fr.app N142 Nq154
      have W156 : ∀ zQ, SS p e below T154 m 28 #[.val (.ref a), .val (.ref r_122), .val (.int (5 : Int32)), .val (.int (2 : Int32)), .val (.ref o2)] [(.int (if jn2 = cs then (1 : Int32) else (0 : Int32)))] zQ → Steps p.tables e below (s₁.setTop (entryFrame m #[(.ref a)] 5)) zQ := by
        intro tt kt
        refine W144 tt ?_
        rw [show (if jn1 = cs then (1 : Int32) else (0 : Int32)) = (0 : Int32) from if_neg hc145]
        refine XS.ifYes X142.here hx rfl (pc0 := 28) (pc' := 37) rfl (hb hby d_prog_14_method_7_28) rfl ((if0 _ _).trans (teq (by decide)).1) (by decide) (by decide) ?_
        show SS p e below T142 m 37 #[.val (.ref a), .val (.ref r_122), .val (.int (5 : Int32)), .val (.int (1 : Int32)), .val (.ref o1)] [] _
        refine XS.iinc X142.here hx rfl (hb hby d_prog_14_method_7_37) rfl (l' := #[.val (.ref a), .val (.ref r_122), .val (.int (5 : Int32)), .val (.int (2 : Int32)), .val (.ref o1)]) rfl ?_
        refine XS.goto X142.here hx rfl (pc0 := 40) (pc' := 9) rfl (hb hby d_prog_14_method_7_40) (by decide) (by decide) ?_
        refine XS.iloadN X142.here hx rfl (hb hby d_prog_14_method_7_9) rfl ?_
        refine XS.iloadN X142.here hx rfl (hb hby d_prog_14_method_7_10) rfl ?_
        refine XS.icmpNo X142.here hx rfl (hb hby d_prog_14_method_7_11) rfl (tlt (by decide)).2.1 ?_
        refine XS.aloadN X142.here hx rfl (hb hby d_prog_14_method_7_14) rfl rfl ?_
        show SS p e below T142 m 15 #[.val (.ref a), .val (.ref r_122), .val (.int (5 : Int32)), .val (.int (2 : Int32)), .val (.ref o1)] [(.ref r_122)] _
        refine XS.iloadN X142.here hx rfl (hb hby d_prog_14_method_7_15) rfl ?_
        show SS p e below T142 m 16 #[.val (.ref a), .val (.ref r_122), .val (.int (5 : Int32)), .val (.int (2 : Int32)), .val (.ref o1)] [(.int (2 : Int32)), (.ref r_122)] _
        refine X142.aaload hx (j := (2 : Int32)) (v := (.ref o2)) (by first | exact Ar150.1 | (rw [eq142]; exact Ar150.1)) (State.isArrayOf_alike hZ.alike Ar150.2.1) rfl Ar150.2.2 hin150 hat150 (g := (mkF m 16 #[.val (.ref a), .val (.ref r_122), .val (.int (5 : Int32)), .val (.int (2 : Int32)), .val (.ref o1)] [(.int (2 : Int32)), (.ref r_122)])) rfl rfl (hb hby d_prog_14_method_7_16) _ ?_
        refine XS.astore X142.here hx rfl (hb hby d_prog_14_method_7_17) rfl rfl (l' := #[.val (.ref a), .val (.ref r_122), .val (.int (5 : Int32)), .val (.int (2 : Int32)), .val (.ref o2)]) rfl ?_
        refine XS.aload X142.here hx rfl (hb hby d_prog_14_method_7_19) rfl rfl ?_
        show SS p e below T142 m 21 #[.val (.ref a), .val (.ref r_122), .val (.int (5 : Int32)), .val (.int (2 : Int32)), .val (.ref o2)] [(.ref o2)] _
        refine st152 _ ?_
        refine XS.aloadN X152.here hx rfl (hb hby d_prog_14_method_7_24) rfl rfl ?_
        show SS p e below T152 m 25 #[.val (.ref a), .val (.ref r_122), .val (.int (5 : Int32)), .val (.int (2 : Int32)), .val (.ref o2)] [(.ref a), (.ref j2)] _
        refine st154.trans ?_
        exact kt
      by_cases hc157 : jn2 = cs
      ·
        obtain ⟨_, _, ⟨T158, L158, k158, n158⟩, -, X158, ⟨Lc158, hQ158, l158, y158, z158⟩, st158⟩ := Jvm.LawKit.callS X154 hx (y := yn14) hown (mvT hZ (w119 hw)) (mvT hZ (w120 hw)) (mvT hZ (w103 hw)) (mvT hZ (w121 hw)) (by decide) (backOf (W := 0) (rm_opOf l Z a0 hw [] o2 T121.heap n0 (Nat.le_trans Z0 K121.1) ) hZ (w121 hw) (w103 hw) (by decide) (by decide)) (g := (mkF m 33 #[.val (.ref a), .val (.ref r_122), .val (.int (5 : Int32)), .val (.int (2 : Int32)), .val (.ref o2)] [(.ref o2)])) rfl (by rw [hml]; rfl) (argsL := [(.ref o2)]) (rest := []) (lenOf pd__28_Ljava_2f_lang_2f_Object_3b__29_Ljava_2f_util_2f_Optional_3b_ rfl) rfl (by show 2 * 0 + _ ≤ _; exact Nat.le_of_eq rfl) (hb hby d_prog_14_method_7_33) (fun _ _ => ⟨rfl, eq154, (Nat.le_of_ble_eq_true rfl), (Nat.le_of_ble_eq_true rfl)⟩)
        dsimp only [Pt.U, Pt.locs, Pt.cells, Pt.slots] at X158 l158 y158 z158 st158 hQ158
        subst l158 y158 z158
        obtain ⟨r_159, rfl, Nq158, K158, P158_0, P158_1, P158_2⟩ := hQ158
        have N158 := Fr.app N154 Nq158
        have W160 : ∀ zQ, SS p e below T158 m 36 #[.val (.ref a), .val (.ref r_122), .val (.int (5 : Int32)), .val (.int (2 : Int32)), .val (.ref o2)] [(.ref r_159)] zQ → Steps p.tables e below (s₁.setTop (entryFrame m #[(.ref a)] 5)) zQ := by
          intro tt kt
          refine W156 tt ?_
          rw [show (if jn2 = cs then (1 : Int32) else (0 : Int32)) = (1 : Int32) from if_pos hc157]
          refine XS.ifNo X154.here hx rfl (hb hby d_prog_14_method_7_28) rfl ((if0 _ _).trans (feq (by decide)).1) ?_
          refine XS.aload X154.here hx rfl (hb hby d_prog_14_method_7_31) rfl rfl ?_
          show SS p e below T154 m 33 #[.val (.ref a), .val (.ref r_122), .val (.int (5 : Int32)), .val (.int (2 : Int32)), .val (.ref o2)] [(.ref o2)] _
          refine st158 _ ?_
          exact kt
        have hR161 : Fld Z T158.heap r_159 "java/util/Optional" "value" "Ljava/lang/Object;" (ov o0 o1 o2 o3 o4 cs) := by rw [show (ov o0 o1 o2 o3 o4 cs) = Value.ref o2 from by simp only [ov, if_neg hc133, if_neg hc145, if_pos hc157]]; exact P158_2
        obtain ⟨fs, hr, hrun, hended, hW, hsame⟩ := X158.leave (v := some (.ref r_159)) (fun h => by rw [Bd.returns] at h; cases h)
        refine ⟨_, _, W160 _ (own_retR X158 hx Bd.returns rfl rfl (hb hby d_prog_14_method_7_36) hr), hrun, hended, _, _, rfl, ?_, ⟨_, rfl⟩, hW, hsame.mono (by decide) (by decide)⟩
        show Q_ofType Z a t kb cs o0 o1 o2 o3 o4 oV kV j0 v0 kv0 j1 v1 kv1 j2 v2 kv2 j3 v3 kv3 j4 v4 kv4 oE cS h0 n0 _ T158.heap _
        exact ⟨r_159, rfl, N158, (Keep.trans (Keep.trans (Keep.refl h0 []) K121 all0) K158 all0), P158_1, hR161⟩
      ·
        obtain ⟨cl162, Ar162, q162, S162, M162, H162, F162g⟩ := id P121_1
        have hin162 : ¬ ((3 : Int32) < 0 ∨ cl162.slots.size ≤ ((3 : Int32)).toNatClampNeg) := inb_of S162 ⟨by decide, by decide⟩
        have hat162 : cl162.slots[((3 : Int32)).toNatClampNeg]? = some (.ref o3) := Has.at H162 hin162 rfl
        have F163 : Fld Z T121.heap o3 "com/example/composition/composition/definition/ObjectFormat" "type" "Ljava/lang/String;" (.ref j3) := Fj_3.ext O125.2
        obtain ⟨T164, X164, e164, st164⟩ := getF X154 hx hZ hown (host := "") (Or.inl (w90 hw)) Via.refl eq154 F163 (g := (mkF m 21 #[.val (.ref a), .val (.ref r_122), .val (.int (5 : Int32)), .val (.int (3 : Int32)), .val (.ref o3)] [(.ref o3)])) rfl rfl (hb hby d_prog_14_method_7_21)
        have F165 : Str Z T121.heap j3 v3 kv3 jn3 := (SJ3.keep K121 nin0 nin0)
        have F167 : Exa Z T121.heap j3 "java/lang/String" := (F113.keep K121)
        obtain ⟨cq166, kq166, q166a, q166b, q166c⟩ := isOf hZ e164 F167
        obtain ⟨_, _, ⟨T166, L166, k166, n166⟩, -, X166, ⟨Lc166, hQ166, l166, y166, z166⟩, st166⟩ := X164.virtualBack hx (y := yn11) (z := yn11) hown (mvT hZ (w92 hw)) (mvT hZ (w93 hw)) (notFace_of_selects (args := #[]) (mvT hZ (w95 hw))) (mvT hZ (w95 hw)) (mvT hZ (w94 hw)) (by decide) (backOf (W := 0) (rm_sequals l Z a0 hw [] j3 a v3 t kv3 kb jn3 cs cS T121.heap n0 (Nat.le_trans Z0 K121.1) O125 S_cs hcS F165 F129 (by decide) hl (Nat.ne_of_lt (Nat.lt_of_lt_of_le (Nat.lt_of_lt_of_eq Ej_3.lt O0.1) g1))) hZ (w96 hw) (w7 hw) (by decide) (by decide)) q166a q166c (g := (mkF m 25 #[.val (.ref a), .val (.ref r_122), .val (.int (5 : Int32)), .val (.int (3 : Int32)), .val (.ref o3)] [(.ref a), (.ref j3)])) rfl (by rw [hml]; rfl) (Steps.refl _) (argsL := [(.ref a)]) (rest := []) (lenOf pd__28_Ljava_2f_lang_2f_Object_3b__29_Z rfl) rfl (by show 2 * 0 + _ ≤ _; exact Nat.le_of_eq rfl) (hb hby d_prog_14_method_7_25) (fun _ _ => ⟨rfl, e164, (Nat.le_of_ble_eq_true rfl), (Nat.le_of_ble_eq_true rfl)⟩)
        dsimp only [Pt.U, Pt.locs, Pt.cells, Pt.slots] at X166 l166 y166 z166 st166 hQ166
        subst l166 y166 z166
        obtain ⟨rfl, Nq166, eq166⟩ := hQ166
        have N166 := Fr.app N154 Nq166
        have W168 : ∀ zQ, SS p e below T166 m 28 #[.val (.ref a), .val (.ref r_122), .val (.int (5 : Int32)), .val (.int (3 : Int32)), .val (.ref o3)] [(.int (if jn3 = cs then (1 : Int32) else (0 : Int32)))] zQ → Steps p.tables e below (s₁.setTop (entryFrame m #[(.ref a)] 5)) zQ := by
          intro tt kt
          refine W156 tt ?_
          rw [show (if jn2 = cs then (1 : Int32) else (0 : Int32)) = (0 : Int32) from if_neg hc157]
          refine XS.ifYes X154.here hx rfl (pc0 := 28) (pc' := 37) rfl (hb hby d_prog_14_method_7_28) rfl ((if0 _ _).trans (teq (by decide)).1) (by decide) (by decide) ?_
          show SS p e below T154 m 37 #[.val (.ref a), .val (.ref r_122), .val (.int (5 : Int32)), .val (.int (2 : Int32)), .val (.ref o2)] [] _
          refine XS.iinc X154.here hx rfl (hb hby d_prog_14_method_7_37) rfl (l' := #[.val (.ref a), .val (.ref r_122), .val (.int (5 : Int32)), .val (.int (3 : Int32)), .val (.ref o2)]) rfl ?_
          refine XS.goto X154.here hx rfl (pc0 := 40) (pc' := 9) rfl (hb hby d_prog_14_method_7_40) (by decide) (by decide) ?_
          refine XS.iloadN X154.here hx rfl (hb hby d_prog_14_method_7_9) rfl ?_
          refine XS.iloadN X154.here hx rfl (hb hby d_prog_14_method_7_10) rfl ?_
          refine XS.icmpNo X154.here hx rfl (hb hby d_prog_14_method_7_11) rfl (tlt (by decide)).2.1 ?_
          refine XS.aloadN X154.here hx rfl (hb hby d_prog_14_method_7_14) rfl rfl ?_
          show SS p e below T154 m 15 #[.val (.ref a), .val (.ref r_122), .val (.int (5 : Int32)), .val (.int (3 : Int32)), .val (.ref o2)] [(.ref r_122)] _
          refine XS.iloadN X154.here hx rfl (hb hby d_prog_14_method_7_15) rfl ?_
          show SS p e below T154 m 16 #[.val (.ref a), .val (.ref r_122), .val (.int (5 : Int32)), .val (.int (3 : Int32)), .val (.ref o2)] [(.int (3 : Int32)), (.ref r_122)] _
          refine X154.aaload hx (j := (3 : Int32)) (v := (.ref o3)) (by first | exact Ar162.1 | (rw [eq154]; exact Ar162.1)) (State.isArrayOf_alike hZ.alike Ar162.2.1) rfl Ar162.2.2 hin162 hat162 (g := (mkF m 16 #[.val (.ref a), .val (.ref r_122), .val (.int (5 : Int32)), .val (.int (3 : Int32)), .val (.ref o2)] [(.int (3 : Int32)), (.ref r_122)])) rfl rfl (hb hby d_prog_14_method_7_16) _ ?_
          refine XS.astore X154.here hx rfl (hb hby d_prog_14_method_7_17) rfl rfl (l' := #[.val (.ref a), .val (.ref r_122), .val (.int (5 : Int32)), .val (.int (3 : Int32)), .val (.ref o3)]) rfl ?_
          refine XS.aload X154.here hx rfl (hb hby d_prog_14_method_7_19) rfl rfl ?_
          show SS p e below T154 m 21 #[.val (.ref a), .val (.ref r_122), .val (.int (5 : Int32)), .val (.int (3 : Int32)), .val (.ref o3)] [(.ref o3)] _
          refine st164 _ ?_
          refine XS.aloadN X164.here hx rfl (hb hby d_prog_14_method_7_24) rfl rfl ?_
          show SS p e below T164 m 25 #[.val (.ref a), .val (.ref r_122), .val (.int (5 : Int32)), .val (.int (3 : Int32)), .val (.ref o3)] [(.ref a), (.ref j3)] _
          refine st166.trans ?_
          exact kt
        by_cases hc169 : jn3 = cs
        ·
          obtain ⟨_, _, ⟨T170, L170, k170, n170⟩, -, X170, ⟨Lc170, hQ170, l170, y170, z170⟩, st170⟩ := Jvm.LawKit.callS X166 hx (y := yn14) hown (mvT hZ (w119 hw)) (mvT hZ (w120 hw)) (mvT hZ (w103 hw)) (mvT hZ (w121 hw)) (by decide) (backOf (W := 0) (rm_opOf l Z a0 hw [] o3 T121.heap n0 (Nat.le_trans Z0 K121.1) ) hZ (w121 hw) (w103 hw) (by decide) (by decide)) (g := (mkF m 33 #[.val (.ref a), .val (.ref r_122), .val (.int (5 : Int32)), .val (.int (3 : Int32)), .val (.ref o3)] [(.ref o3)])) rfl (by rw [hml]; rfl) (argsL := [(.ref o3)]) (rest := []) (lenOf pd__28_Ljava_2f_lang_2f_Object_3b__29_Ljava_2f_util_2f_Optional_3b_ rfl) rfl (by show 2 * 0 + _ ≤ _; exact Nat.le_of_eq rfl) (hb hby d_prog_14_method_7_33) (fun _ _ => ⟨rfl, eq166, (Nat.le_of_ble_eq_true rfl), (Nat.le_of_ble_eq_true rfl)⟩)
          dsimp only [Pt.U, Pt.locs, Pt.cells, Pt.slots] at X170 l170 y170 z170 st170 hQ170
          subst l170 y170 z170
          obtain ⟨r_171, rfl, Nq170, K170, P170_0, P170_1, P170_2⟩ := hQ170
          have N170 := Fr.app N166 Nq170
          have W172 : ∀ zQ, SS p e below T170 m 36 #[.val (.ref a), .val (.ref r_122), .val (.int (5 : Int32)), .val (.int (3 : Int32)), .val (.ref o3)] [(.ref r_171)] zQ → Steps p.tables e below (s₁.setTop (entryFrame m #[(.ref a)] 5)) zQ := by
            intro tt kt
            refine W168 tt ?_
            rw [show (if jn3 = cs then (1 : Int32) else (0 : Int32)) = (1 : Int32) from if_pos hc169]
            refine XS.ifNo X166.here hx rfl (hb hby d_prog_14_method_7_28) rfl ((if0 _ _).trans (feq (by decide)).1) ?_
            refine XS.aload X166.here hx rfl (hb hby d_prog_14_method_7_31) rfl rfl ?_
            show SS p e below T166 m 33 #[.val (.ref a), .val (.ref r_122), .val (.int (5 : Int32)), .val (.int (3 : Int32)), .val (.ref o3)] [(.ref o3)] _
            refine st170 _ ?_
            exact kt
          have hR173 : Fld Z T170.heap r_171 "java/util/Optional" "value" "Ljava/lang/Object;" (ov o0 o1 o2 o3 o4 cs) := by rw [show (ov o0 o1 o2 o3 o4 cs) = Value.ref o3 from by simp only [ov, if_neg hc133, if_neg hc145, if_neg hc157, if_pos hc169]]; exact P170_2
          obtain ⟨fs, hr, hrun, hended, hW, hsame⟩ := X170.leave (v := some (.ref r_171)) (fun h => by rw [Bd.returns] at h; cases h)
          refine ⟨_, _, W172 _ (own_retR X170 hx Bd.returns rfl rfl (hb hby d_prog_14_method_7_36) hr), hrun, hended, _, _, rfl, ?_, ⟨_, rfl⟩, hW, hsame.mono (by decide) (by decide)⟩
          show Q_ofType Z a t kb cs o0 o1 o2 o3 o4 oV kV j0 v0 kv0 j1 v1 kv1 j2 v2 kv2 j3 v3 kv3 j4 v4 kv4 oE cS h0 n0 _ T170.heap _
          exact ⟨r_171, rfl, N170, (Keep.trans (Keep.trans (Keep.refl h0 []) K121 all0) K170 all0), P170_1, hR173⟩
        ·
          obtain ⟨cl174, Ar174, q174, S174, M174, H174, F174g⟩ := id P121_1
          have hin174 : ¬ ((4 : Int32) < 0 ∨ cl174.slots.size ≤ ((4 : Int32)).toNatClampNeg) := inb_of S174 ⟨by decide, by decide⟩
          have hat174 : cl174.slots[((4 : Int32)).toNatClampNeg]? = some (.ref o4) := Has.at H174 hin174 rfl
          have F175 : Fld Z T121.heap o4 "com/example/composition/composition/definition/ObjectFormat" "type" "Ljava/lang/String;" (.ref j4) := Fj_4.ext O125.2
          obtain ⟨T176, X176, e176, st176⟩ := getF X166 hx hZ hown (host := "") (Or.inl (w90 hw)) Via.refl eq166 F175 (g := (mkF m 21 #[.val (.ref a), .val (.ref r_122), .val (.int (5 : Int32)), .val (.int (4 : Int32)), .val (.ref o4)] [(.ref o4)])) rfl rfl (hb hby d_prog_14_method_7_21)
          have F177 : Str Z T121.heap j4 v4 kv4 jn4 := (SJ4.keep K121 nin0 nin0)
          have F179 : Exa Z T121.heap j4 "java/lang/String" := (F117.keep K121)
          obtain ⟨cq178, kq178, q178a, q178b, q178c⟩ := isOf hZ e176 F179
          obtain ⟨_, _, ⟨T178, L178, k178, n178⟩, -, X178, ⟨Lc178, hQ178, l178, y178, z178⟩, st178⟩ := X176.virtualBack hx (y := yn11) (z := yn11) hown (mvT hZ (w92 hw)) (mvT hZ (w93 hw)) (notFace_of_selects (args := #[]) (mvT hZ (w95 hw))) (mvT hZ (w95 hw)) (mvT hZ (w94 hw)) (by decide) (backOf (W := 0) (rm_sequals l Z a0 hw [] j4 a v4 t kv4 kb jn4 cs cS T121.heap n0 (Nat.le_trans Z0 K121.1) O125 S_cs hcS F177 F129 (by decide) hl (Nat.ne_of_lt (Nat.lt_of_lt_of_le (Nat.lt_of_lt_of_eq Ej_4.lt O0.1) g1))) hZ (w96 hw) (w7 hw) (by decide) (by decide)) q178a q178c (g := (mkF m 25 #[.val (.ref a), .val (.ref r_122), .val (.int (5 : Int32)), .val (.int (4 : Int32)), .val (.ref o4)] [(.ref a), (.ref j4)])) rfl (by rw [hml]; rfl) (Steps.refl _) (argsL := [(.ref a)]) (rest := []) (lenOf pd__28_Ljava_2f_lang_2f_Object_3b__29_Z rfl) rfl (by show 2 * 0 + _ ≤ _; exact Nat.le_of_eq rfl) (hb hby d_prog_14_method_7_25) (fun _ _ => ⟨rfl, e176, (Nat.le_of_ble_eq_true rfl), (Nat.le_of_ble_eq_true rfl)⟩)
          dsimp only [Pt.U, Pt.locs, Pt.cells, Pt.slots] at X178 l178 y178 z178 st178 hQ178
          subst l178 y178 z178
          obtain ⟨rfl, Nq178, eq178⟩ := hQ178
          have N178 := Fr.app N166 Nq178
          have W180 : ∀ zQ, SS p e below T178 m 28 #[.val (.ref a), .val (.ref r_122), .val (.int (5 : Int32)), .val (.int (4 : Int32)), .val (.ref o4)] [(.int (if jn4 = cs then (1 : Int32) else (0 : Int32)))] zQ → Steps p.tables e below (s₁.setTop (entryFrame m #[(.ref a)] 5)) zQ := by
            intro tt kt
            refine W168 tt ?_
            rw [show (if jn3 = cs then (1 : Int32) else (0 : Int32)) = (0 : Int32) from if_neg hc169]
            refine XS.ifYes X166.here hx rfl (pc0 := 28) (pc' := 37) rfl (hb hby d_prog_14_method_7_28) rfl ((if0 _ _).trans (teq (by decide)).1) (by decide) (by decide) ?_
            show SS p e below T166 m 37 #[.val (.ref a), .val (.ref r_122), .val (.int (5 : Int32)), .val (.int (3 : Int32)), .val (.ref o3)] [] _
            refine XS.iinc X166.here hx rfl (hb hby d_prog_14_method_7_37) rfl (l' := #[.val (.ref a), .val (.ref r_122), .val (.int (5 : Int32)), .val (.int (4 : Int32)), .val (.ref o3)]) rfl ?_
            refine XS.goto X166.here hx rfl (pc0 := 40) (pc' := 9) rfl (hb hby d_prog_14_method_7_40) (by decide) (by decide) ?_
            refine XS.iloadN X166.here hx rfl (hb hby d_prog_14_method_7_9) rfl ?_
            refine XS.iloadN X166.here hx rfl (hb hby d_prog_14_method_7_10) rfl ?_
            refine XS.icmpNo X166.here hx rfl (hb hby d_prog_14_method_7_11) rfl (tlt (by decide)).2.1 ?_
            refine XS.aloadN X166.here hx rfl (hb hby d_prog_14_method_7_14) rfl rfl ?_
            show SS p e below T166 m 15 #[.val (.ref a), .val (.ref r_122), .val (.int (5 : Int32)), .val (.int (4 : Int32)), .val (.ref o3)] [(.ref r_122)] _
            refine XS.iloadN X166.here hx rfl (hb hby d_prog_14_method_7_15) rfl ?_
            show SS p e below T166 m 16 #[.val (.ref a), .val (.ref r_122), .val (.int (5 : Int32)), .val (.int (4 : Int32)), .val (.ref o3)] [(.int (4 : Int32)), (.ref r_122)] _
            refine X166.aaload hx (j := (4 : Int32)) (v := (.ref o4)) (by first | exact Ar174.1 | (rw [eq166]; exact Ar174.1)) (State.isArrayOf_alike hZ.alike Ar174.2.1) rfl Ar174.2.2 hin174 hat174 (g := (mkF m 16 #[.val (.ref a), .val (.ref r_122), .val (.int (5 : Int32)), .val (.int (4 : Int32)), .val (.ref o3)] [(.int (4 : Int32)), (.ref r_122)])) rfl rfl (hb hby d_prog_14_method_7_16) _ ?_
            refine XS.astore X166.here hx rfl (hb hby d_prog_14_method_7_17) rfl rfl (l' := #[.val (.ref a), .val (.ref r_122), .val (.int (5 : Int32)), .val (.int (4 : Int32)), .val (.ref o4)]) rfl ?_
            refine XS.aload X166.here hx rfl (hb hby d_prog_14_method_7_19) rfl rfl ?_
            show SS p e below T166 m 21 #[.val (.ref a), .val (.ref r_122), .val (.int (5 : Int32)), .val (.int (4 : Int32)), .val (.ref o4)] [(.ref o4)] _
            refine st176 _ ?_
            refine XS.aloadN X176.here hx rfl (hb hby d_prog_14_method_7_24) rfl rfl ?_
            show SS p e below T176 m 25 #[.val (.ref a), .val (.ref r_122), .val (.int (5 : Int32)), .val (.int (4 : Int32)), .val (.ref o4)] [(.ref a), (.ref j4)] _
            refine st178.trans ?_
            exact kt
          by_cases hc181 : jn4 = cs
          ·
            obtain ⟨_, _, ⟨T182, L182, k182, n182⟩, -, X182, ⟨Lc182, hQ182, l182, y182, z182⟩, st182⟩ := Jvm.LawKit.callS X178 hx (y := yn14) hown (mvT hZ (w119 hw)) (mvT hZ (w120 hw)) (mvT hZ (w103 hw)) (mvT hZ (w121 hw)) (by decide) (backOf (W := 0) (rm_opOf l Z a0 hw [] o4 T121.heap n0 (Nat.le_trans Z0 K121.1) ) hZ (w121 hw) (w103 hw) (by decide) (by decide)) (g := (mkF m 33 #[.val (.ref a), .val (.ref r_122), .val (.int (5 : Int32)), .val (.int (4 : Int32)), .val (.ref o4)] [(.ref o4)])) rfl (by rw [hml]; rfl) (argsL := [(.ref o4)]) (rest := []) (lenOf pd__28_Ljava_2f_lang_2f_Object_3b__29_Ljava_2f_util_2f_Optional_3b_ rfl) rfl (by show 2 * 0 + _ ≤ _; exact Nat.le_of_eq rfl) (hb hby d_prog_14_method_7_33) (fun _ _ => ⟨rfl, eq178, (Nat.le_of_ble_eq_true rfl), (Nat.le_of_ble_eq_true rfl)⟩)
            dsimp only [Pt.U, Pt.locs, Pt.cells, Pt.slots] at X182 l182 y182 z182 st182 hQ182
            subst l182 y182 z182
            obtain ⟨r_183, rfl, Nq182, K182, P182_0, P182_1, P182_2⟩ := hQ182
            have N182 := Fr.app N178 Nq182
            have W184 : ∀ zQ, SS p e below T182 m 36 #[.val (.ref a), .val (.ref r_122), .val (.int (5 : Int32)), .val (.int (4 : Int32)), .val (.ref o4)] [(.ref r_183)] zQ → Steps p.tables e below (s₁.setTop (entryFrame m #[(.ref a)] 5)) zQ := by
              intro tt kt
              refine W180 tt ?_
              rw [show (if jn4 = cs then (1 : Int32) else (0 : Int32)) = (1 : Int32) from if_pos hc181]
              refine XS.ifNo X178.here hx rfl (hb hby d_prog_14_method_7_28) rfl ((if0 _ _).trans (feq (by decide)).1) ?_
              refine XS.aload X178.here hx rfl (hb hby d_prog_14_method_7_31) rfl rfl ?_
              show SS p e below T178 m 33 #[.val (.ref a), .val (.ref r_122), .val (.int (5 : Int32)), .val (.int (4 : Int32)), .val (.ref o4)] [(.ref o4)] _
              refine st182 _ ?_
              exact kt
            have hR185 : Fld Z T182.heap r_183 "java/util/Optional" "value" "Ljava/lang/Object;" (ov o0 o1 o2 o3 o4 cs) := by rw [show (ov o0 o1 o2 o3 o4 cs) = Value.ref o4 from by simp only [ov, if_neg hc133, if_neg hc145, if_neg hc157, if_neg hc169, if_pos hc181]]; exact P182_2
            obtain ⟨fs, hr, hrun, hended, hW, hsame⟩ := X182.leave (v := some (.ref r_183)) (fun h => by rw [Bd.returns] at h; cases h)
            refine ⟨_, _, W184 _ (own_retR X182 hx Bd.returns rfl rfl (hb hby d_prog_14_method_7_36) hr), hrun, hended, _, _, rfl, ?_, ⟨_, rfl⟩, hW, hsame.mono (by decide) (by decide)⟩
            show Q_ofType Z a t kb cs o0 o1 o2 o3 o4 oV kV j0 v0 kv0 j1 v1 kv1 j2 v2 kv2 j3 v3 kv3 j4 v4 kv4 oE cS h0 n0 _ T182.heap _
            exact ⟨r_183, rfl, N182, (Keep.trans (Keep.trans (Keep.refl h0 []) K121 all0) K182 all0), P182_1, hR185⟩
          ·
            obtain ⟨_, _, ⟨T186, L186, k186, n186⟩, -, X186, ⟨Lc186, hQ186, l186, y186, z186⟩, st186⟩ := Jvm.LawKit.callS X178 hx (y := yn15) hown (mvT hZ (w101 hw)) (mvT hZ (w102 hw)) (mvT hZ (w103 hw)) (mvT hZ (w104 hw)) (by decide) (backOf (W := 0) (rm_opEmpty l Z a0 hw [] oE T121.heap n0 (Nat.le_trans Z0 K121.1) O125 S_EMPTY) hZ (w104 hw) (w103 hw) (by decide) (by decide)) (g := (mkF m 43 #[.val (.ref a), .val (.ref r_122), .val (.int (5 : Int32)), .val (.int (5 : Int32)), .val (.ref o4)] [])) rfl (by rw [hml]; rfl) (argsL := []) (rest := []) (lenOf pd__28__29_Ljava_2f_util_2f_Optional_3b_ rfl) rfl (by show 2 * 0 + _ ≤ _; exact Nat.le_of_eq rfl) (hb hby d_prog_14_method_7_43) (fun _ _ => ⟨rfl, eq178, (Nat.le_of_ble_eq_true rfl), (Nat.le_of_ble_eq_true rfl)⟩)
            dsimp only [Pt.U, Pt.locs, Pt.cells, Pt.slots] at X186 l186 y186 z186 st186 hQ186
            subst l186 y186 z186
            obtain ⟨rfl, Nq186, eq186⟩ := hQ186
            have N186 := Fr.app N178 Nq186
            have W187 : ∀ zQ, SS p e below T186 m 46 #[.val (.ref a), .val (.ref r_122), .val (.int (5 : Int32)), .val (.int (5 : Int32)), .val (.ref o4)] [(.ref oE)] zQ → Steps p.tables e below (s₁.setTop (entryFrame m #[(.ref a)] 5)) zQ := by
              intro tt kt
              refine W180 tt ?_
              rw [show (if jn4 = cs then (1 : Int32) else (0 : Int32)) = (0 : Int32) from if_neg hc181]
              refine XS.ifYes X178.here hx rfl (pc0 := 28) (pc' := 37) rfl (hb hby d_prog_14_method_7_28) rfl ((if0 _ _).trans (teq (by decide)).1) (by decide) (by decide) ?_
              show SS p e below T178 m 37 #[.val (.ref a), .val (.ref r_122), .val (.int (5 : Int32)), .val (.int (4 : Int32)), .val (.ref o4)] [] _
              refine XS.iinc X178.here hx rfl (hb hby d_prog_14_method_7_37) rfl (l' := #[.val (.ref a), .val (.ref r_122), .val (.int (5 : Int32)), .val (.int (5 : Int32)), .val (.ref o4)]) rfl ?_
              refine XS.goto X178.here hx rfl (pc0 := 40) (pc' := 9) rfl (hb hby d_prog_14_method_7_40) (by decide) (by decide) ?_
              refine XS.iloadN X178.here hx rfl (hb hby d_prog_14_method_7_9) rfl ?_
              refine XS.iloadN X178.here hx rfl (hb hby d_prog_14_method_7_10) rfl ?_
              refine XS.icmpYes X178.here hx rfl (pc0 := 11) (pc' := 43) rfl (hb hby d_prog_14_method_7_11) rfl (flt (by decide)).2.1 (by decide) (by decide) ?_
              show SS p e below T178 m 43 #[.val (.ref a), .val (.ref r_122), .val (.int (5 : Int32)), .val (.int (5 : Int32)), .val (.ref o4)] [] _
              refine st186 _ ?_
              exact kt
            have F188 : Exa Z T121.heap oE "java/util/Optional" := E_EMPTY.ext O125.2
            have F189 : Fld Z T121.heap oE "java/util/Optional" "value" "Ljava/lang/Object;" .null := F_EMPTY.ext O125.2
            have hR190 : Fld Z T121.heap oE "java/util/Optional" "value" "Ljava/lang/Object;" (ov o0 o1 o2 o3 o4 cs) := by rw [show (ov o0 o1 o2 o3 o4 cs) = Value.null from by simp only [ov, if_neg hc133, if_neg hc145, if_neg hc157, if_neg hc169, if_neg hc181]]; exact F189
            obtain ⟨fs, hr, hrun, hended, hW, hsame⟩ := X186.leave (v := some (.ref oE)) (fun h => by rw [Bd.returns] at h; cases h)
            refine ⟨_, _, W187 _ (own_retR X186 hx Bd.returns rfl rfl (hb hby d_prog_14_method_7_46) hr), hrun, hended, _, _, rfl, ?_, ⟨_, rfl⟩, hW, hsame.mono (by decide) (by decide)⟩
            show Q_ofType Z a t kb cs o0 o1 o2 o3 o4 oV kV j0 v0 kv0 j1 v1 kv1 j2 v2 kv2 j3 v3 kv3 j4 v4 kv4 oE cS h0 n0 _ T186.heap _
            rw [eq186]
            exact ⟨oE, rfl, N186, (Keep.trans (Keep.refl h0 []) K121 all0), F188, hR190⟩
def Q_ofTypeN (Z : State) (o0 : Addr) (o1 : Addr) (o2 : Addr) (o3 : Addr) (o4 : Addr) (oV : Addr) (kV : ClassId) (j0 : Addr) (v0 : Addr) (kv0 : ClassId) (j1 : Addr) (v1 : Addr) (kv1 : ClassId) (j2 : Addr) (v2 : Addr) (kv2 : ClassId) (j3 : Addr) (v3 : Addr) (kv3 : ClassId) (j4 : Addr) (v4 : Addr) (kv4 : ClassId) (oE : Addr) (h0 : Heap) (n0 : Nat) (vQ_ : Option Value) (hQ_ : Heap) (LQ_ : List Loc) : Prop := vQ_ = some (.ref oE) ∧ Fr n0 LQ_ ∧ Keep h0 hQ_ []
set_option maxRecDepth 65536 in
set_option maxHeartbeats 40000000 in
theorem rm_ofTypeN (l : Launch) (Z : State) (a0 : Array Value) (hw : HW a0 Z) (ws : List Jvm.Cond) (o0 : Addr) (o1 : Addr) (o2 : Addr) (o3 : Addr) (o4 : Addr) (oV : Addr) (kV : ClassId) (j0 : Addr) (v0 : Addr) (kv0 : ClassId) (j1 : Addr) (v1 : Addr) (kv1 : ClassId) (j2 : Addr) (v2 : Addr) (kv2 : ClassId) (j3 : Addr) (v3 : Addr) (kv3 : ClassId) (j4 : Addr) (v4 : Addr) (kv4 : ClassId) (oE : Addr) (h0 : Heap) (n0 : Nat) (Z0 : n0 ≤ h0.size) (O0 : Old Z n0 h0) (S_V : Sta Z Z.heap "com/example/composition/composition/definition/ObjectFormat" "$VALUES" "[Lcom/example/composition/composition/definition/ObjectFormat;" (.ref oV)) (S_0 : Sta Z Z.heap "com/example/composition/composition/definition/ObjectFormat" "TABLE" "Lcom/example/composition/composition/definition/ObjectFormat;" (.ref o0)) (S_1 : Sta Z Z.heap "com/example/composition/composition/definition/ObjectFormat" "DATA_DEFINITION" "Lcom/example/composition/composition/definition/ObjectFormat;" (.ref o1)) (S_2 : Sta Z Z.heap "com/example/composition/composition/definition/ObjectFormat" "BEHAVIOUR_DEFINITION" "Lcom/example/composition/composition/definition/ObjectFormat;" (.ref o2)) (S_3 : Sta Z Z.heap "com/example/composition/composition/definition/ObjectFormat" "SERVICE_DEFINITION" "Lcom/example/composition/composition/definition/ObjectFormat;" (.ref o3)) (S_4 : Sta Z Z.heap "com/example/composition/composition/definition/ObjectFormat" "SERVICE_BINDING" "Lcom/example/composition/composition/definition/ObjectFormat;" (.ref o4)) (E_V : Exa Z Z.heap oV "[Lcom/example/composition/composition/definition/ObjectFormat;") (V_V : Arv Z Z.heap oV kV (.object "com/example/composition/composition/definition/ObjectFormat") (5 : Int32) [(.ref o0), (.ref o1), (.ref o2), (.ref o3), (.ref o4)] .null) (E_0 : Exa Z Z.heap o0 "com/example/composition/composition/definition/ObjectFormat") (Fj_0 : Fld Z Z.heap o0 "com/example/composition/composition/definition/ObjectFormat" "type" "Ljava/lang/String;" (.ref j0)) (Ej_0 : Exa Z Z.heap j0 "java/lang/String") (Fc_0 : Fld Z Z.heap j0 "java/lang/String" "coder" "B" (.int (0 : Int32))) (Fv_0 : Fld Z Z.heap j0 "java/lang/String" "value" "[B" (.ref v0)) (Vv_0 : Arv Z Z.heap v0 kv0 .byte (4 : Int32) [(.int (116 : Int32)), (.int (97 : Int32)), (.int (98 : Int32)), (.int (108 : Int32))] (.int (0 : Int32))) (E_1 : Exa Z Z.heap o1 "com/example/composition/composition/definition/ObjectFormat") (Fj_1 : Fld Z Z.heap o1 "com/example/composition/composition/definition/ObjectFormat" "type" "Ljava/lang/String;" (.ref j1)) (Ej_1 : Exa Z Z.heap j1 "java/lang/String") (Fc_1 : Fld Z Z.heap j1 "java/lang/String" "coder" "B" (.int (0 : Int32))) (Fv_1 : Fld Z Z.heap j1 "java/lang/String" "value" "[B" (.ref v1)) (Vv_1 : Arv Z Z.heap v1 kv1 .byte (4 : Int32) [(.int (100 : Int32)), (.int (100 : Int32)), (.int (108 : Int32)), (.int (115 : Int32))] (.int (0 : Int32))) (E_2 : Exa Z Z.heap o2 "com/example/composition/composition/definition/ObjectFormat") (Fj_2 : Fld Z Z.heap o2 "com/example/composition/composition/definition/ObjectFormat" "type" "Ljava/lang/String;" (.ref j2)) (Ej_2 : Exa Z Z.heap j2 "java/lang/String") (Fc_2 : Fld Z Z.heap j2 "java/lang/String" "coder" "B" (.int (0 : Int32))) (Fv_2 : Fld Z Z.heap j2 "java/lang/String" "value" "[B" (.ref v2)) (Vv_2 : Arv Z Z.heap v2 kv2 .byte (4 : Int32) [(.int (98 : Int32)), (.int (100 : Int32)), (.int (101 : Int32)), (.int (102 : Int32))] (.int (0 : Int32))) (E_3 : Exa Z Z.heap o3 "com/example/composition/composition/definition/ObjectFormat") (Fj_3 : Fld Z Z.heap o3 "com/example/composition/composition/definition/ObjectFormat" "type" "Ljava/lang/String;" (.ref j3)) (Ej_3 : Exa Z Z.heap j3 "java/lang/String") (Fc_3 : Fld Z Z.heap j3 "java/lang/String" "coder" "B" (.int (0 : Int32))) (Fv_3 : Fld Z Z.heap j3 "java/lang/String" "value" "[B" (.ref v3)) (Vv_3 : Arv Z Z.heap v3 kv3 .byte (4 : Int32) [(.int (115 : Int32)), (.int (114 : Int32)), (.int (118 : Int32)), (.int (100 : Int32))] (.int (0 : Int32))) (E_4 : Exa Z Z.heap o4 "com/example/composition/composition/definition/ObjectFormat") (Fj_4 : Fld Z Z.heap o4 "com/example/composition/composition/definition/ObjectFormat" "type" "Ljava/lang/String;" (.ref j4)) (Ej_4 : Exa Z Z.heap j4 "java/lang/String") (Fc_4 : Fld Z Z.heap j4 "java/lang/String" "coder" "B" (.int (0 : Int32))) (Fv_4 : Fld Z Z.heap j4 "java/lang/String" "value" "[B" (.ref v4)) (Vv_4 : Arv Z Z.heap v4 kv4 .byte (4 : Int32) [(.int (115 : Int32)), (.int (114 : Int32)), (.int (118 : Int32)), (.int (98 : Int32))] (.int (0 : Int32))) (S_EMPTY : Sta Z Z.heap "java/util/Optional" "EMPTY" "Ljava/util/Optional;" (.ref oE)) (E_EMPTY : Exa Z Z.heap oE "java/util/Optional") (F_EMPTY : Fld Z Z.heap oE "java/util/Optional" "value" "Ljava/lang/Object;" .null) :
    MetFree l yn18 (head1 (Jvm.Cond.code yn18 prog_14_method_7_code 5 (some (.object "java/util/Optional")) :: ws) ({ frames := 2, cells := 1, slots := 5, locals := 25 } : Room)) (fun aQ_ UQ => aQ_ = #[.null] ∧ Z.Warmed39 UQ.vm ∧ UQ.heap = h0) (fun _ _ _ _ _ => True) (fun _ UQ oQ UQ' => ∃ vQ_ LQ_, oQ = .returned vQ_ ∧ Q_ofTypeN Z o0 o1 o2 o3 o4 oV kV j0 v0 kv0 j1 v1 kv1 j2 v2 kv2 j3 v3 kv3 j4 v4 kv4 oE h0 n0 vQ_ UQ'.heap LQ_ ∧ FrameEnd UQ oQ UQ' LQ_ ({ frames := 2, cells := 1, slots := 5, locals := 25 } : Room).cells ({ frames := 2, cells := 1, slots := 5, locals := 25 } : Room).slots) := by
  refine MetFree.of_bodySF (plainFor_of_name pn_com_example_composition_composition_definition_ObjectFormat) hisR ?_
  intro p e s m args below meth cO s₁ Bd hml0 hP hK
  obtain ⟨rfl, hZ, hh⟩ := hP
  have hx := Bd.exec
  have hby := Bd.bytes
  have hml : cO.maxLocals = 5 := hml0
  have hown : s.vm.findClass "com/example/composition/composition/definition/ObjectFormat" = some m.cls := findClass_of_methodNamed Bd.named
  have hnm := (name_of_methodNamed Bd.named Bd.method).1
  have X0 : Stand p l e ({ frames := 2, cells := 1, slots := 5, locals := 25 } : Room) s m #[.null] below meth cO s₁ [] 0 0 := Stand.of_body Bd
  have e0 : s₁.heap = h0 := by rw [← hh, Bd.state]; rfl
  have N0 := Fr.nil n0
  have W0 : ∀ zQ, SS p e below s₁ m 0 #[.val .null, .unset, .unset, .unset, .unset] [] zQ → Steps p.tables e below (s₁.setTop (entryFrame m #[.null] 5)) zQ := fun tt kt => castTop (ef_ofTypeN m ) kt
  obtain ⟨_, _, ⟨T101, L101, k101, n101⟩, -, X101, ⟨Lc101, hQ101, l101, y101, z101⟩, st101⟩ := Jvm.LawKit.callS X0 hx (y := yn17) hown (mvT hZ (w70 hw)) (mvT hZ (w71 hw)) (mvT hZ (w68 hw)) (mvT hZ (w72 hw)) (by decide) (backOf (W := 0) (rm_values l Z a0 hw [] o0 o1 o2 o3 o4 oV kV h0 n0 Z0 O0 S_0 S_1 S_2 S_3 S_4 S_V E_V V_V) hZ (w72 hw) (w68 hw) (by decide) (by decide)) (g := (mkF m 0 #[.val .null, .unset, .unset, .unset, .unset] [])) rfl (by rw [hml]; rfl) (argsL := []) (rest := []) (lenOf pd__28__29__5b_Lcom_2f_example_2f_composition_2f_composition_2f_definition_2f_ObjectFormat_3b_ rfl) rfl (by show 2 * 0 + _ ≤ _; exact Nat.le_of_eq rfl) (hb hby d_prog_14_method_7_0) (fun _ _ => ⟨rfl, e0, (Nat.le_of_ble_eq_true rfl), (Nat.le_of_ble_eq_true rfl)⟩)
  dsimp only [Pt.U, Pt.locs, Pt.cells, Pt.slots] at X101 l101 y101 z101 st101 hQ101
  subst l101 y101 z101
  obtain ⟨r_102, rfl, Nq101, K101, P101_0, P101_1⟩ := hQ101
  have N101 := Fr.app N0 Nq101
  obtain ⟨cl103, Ar103, -, S103, M103, -, -⟩ := id P101_1
  obtain ⟨cl104, Ar104, q104, S104, M104, H104, F104g⟩ := id P101_1
  have hin104 : ¬ ((0 : Int32) < 0 ∨ cl104.slots.size ≤ ((0 : Int32)).toNatClampNeg) := inb_of S104 ⟨by decide, by decide⟩
  have hat104 : cl104.slots[((0 : Int32)).toNatClampNeg]? = some (.ref o0) := Has.at H104 hin104 rfl
  have O105 : Old Z n0 T101.heap := (O0.keep K101 all0)
  have F106 : Fld Z T101.heap o0 "com/example/composition/composition/definition/ObjectFormat" "type" "Ljava/lang/String;" (.ref j0) := Fj_0.ext O105.2
  obtain ⟨T107, X107, e107, st107⟩ := getF X101 hx hZ hown (host := "") (Or.inl (w90 hw)) Via.refl rfl F106 (g := (mkF m 21 #[.val .null, .val (.ref r_102), .val (.int (5 : Int32)), .val (.int (0 : Int32)), .val (.ref o0)] [(.ref o0)])) rfl rfl (hb hby d_prog_14_method_7_21)
  have F109 : Exa Z T101.heap j0 "java/lang/String" := Ej_0.ext O105.2
  obtain ⟨cq108, kq108, q108a, q108b, q108c⟩ := isOf hZ e107 F109
  obtain ⟨_, _, ⟨T108, L108, k108, n108⟩, -, X108, ⟨Lc108, hQ108, l108, y108, z108⟩, st108⟩ := X107.virtualBack hx (y := yn11) (z := yn11) hown (mvT hZ (w92 hw)) (mvT hZ (w93 hw)) (notFace_of_selects (args := #[]) (mvT hZ (w95 hw))) (mvT hZ (w95 hw)) (mvT hZ (w94 hw)) (by decide) (backOf (W := 0) (rm_sequalsN l Z a0 hw [] j0 T101.heap n0 (Nat.le_trans Z0 K101.1) ) hZ (w96 hw) (w7 hw) (by decide) (by decide)) q108a q108c (g := (mkF m 25 #[.val .null, .val (.ref r_102), .val (.int (5 : Int32)), .val (.int (0 : Int32)), .val (.ref o0)] [.null, (.ref j0)])) rfl (by rw [hml]; rfl) (Steps.refl _) (argsL := [.null]) (rest := []) (lenOf pd__28_Ljava_2f_lang_2f_Object_3b__29_Z rfl) rfl (by show 2 * 0 + _ ≤ _; exact Nat.le_of_eq rfl) (hb hby d_prog_14_method_7_25) (fun _ _ => ⟨rfl, e107, (Nat.le_of_ble_eq_true rfl), (Nat.le_of_ble_eq_true rfl)⟩)
  dsimp only [Pt.U, Pt.locs, Pt.cells, Pt.slots] at X108 l108 y108 z108 st108 hQ108
  subst l108 y108 z108
  obtain ⟨rfl, Nq108, eq108⟩ := hQ108
  have N108 := Fr.app N101 Nq108
  obtain ⟨cl110, Ar110, q110, S110, M110, H110, F110g⟩ := id P101_1
  have hin110 : ¬ ((1 : Int32) < 0 ∨ cl110.slots.size ≤ ((1 : Int32)).toNatClampNeg) := inb_of S110 ⟨by decide, by decide⟩
  have hat110 : cl110.slots[((1 : Int32)).toNatClampNeg]? = some (.ref o1) := Has.at H110 hin110 rfl
  have F111 : Fld Z T101.heap o1 "com/example/composition/composition/definition/ObjectFormat" "type" "Ljava/lang/String;" (.ref j1) := Fj_1.ext O105.2
  obtain ⟨T112, X112, e112, st112⟩ := getF X108 hx hZ hown (host := "") (Or.inl (w90 hw)) Via.refl eq108 F111 (g := (mkF m 21 #[.val .null, .val (.ref r_102), .val (.int (5 : Int32)), .val (.int (1 : Int32)), .val (.ref o1)] [(.ref o1)])) rfl rfl (hb hby d_prog_14_method_7_21)
  have F114 : Exa Z T101.heap j1 "java/lang/String" := Ej_1.ext O105.2
  obtain ⟨cq113, kq113, q113a, q113b, q113c⟩ := isOf hZ e112 F114
  obtain ⟨_, _, ⟨T113, L113, k113, n113⟩, -, X113, ⟨Lc113, hQ113, l113, y113, z113⟩, st113⟩ := X112.virtualBack hx (y := yn11) (z := yn11) hown (mvT hZ (w92 hw)) (mvT hZ (w93 hw)) (notFace_of_selects (args := #[]) (mvT hZ (w95 hw))) (mvT hZ (w95 hw)) (mvT hZ (w94 hw)) (by decide) (backOf (W := 0) (rm_sequalsN l Z a0 hw [] j1 T101.heap n0 (Nat.le_trans Z0 K101.1) ) hZ (w96 hw) (w7 hw) (by decide) (by decide)) q113a q113c (g := (mkF m 25 #[.val .null, .val (.ref r_102), .val (.int (5 : Int32)), .val (.int (1 : Int32)), .val (.ref o1)] [.null, (.ref j1)])) rfl (by rw [hml]; rfl) (Steps.refl _) (argsL := [.null]) (rest := []) (lenOf pd__28_Ljava_2f_lang_2f_Object_3b__29_Z rfl) rfl (by show 2 * 0 + _ ≤ _; exact Nat.le_of_eq rfl) (hb hby d_prog_14_method_7_25) (fun _ _ => ⟨rfl, e112, (Nat.le_of_ble_eq_true rfl), (Nat.le_of_ble_eq_true rfl)⟩)
  dsimp only [Pt.U, Pt.locs, Pt.cells, Pt.slots] at X113 l113 y113 z113 st113 hQ113
  subst l113 y113 z113
  obtain ⟨rfl, Nq113, eq113⟩ := hQ113
  have N113 := Fr.app N108 Nq113
  obtain ⟨cl115, Ar115, q115, S115, M115, H115, F115g⟩ := id P101_1
  have hin115 : ¬ ((2 : Int32) < 0 ∨ cl115.slots.size ≤ ((2 : Int32)).toNatClampNeg) := inb_of S115 ⟨by decide, by decide⟩
  have hat115 : cl115.slots[((2 : Int32)).toNatClampNeg]? = some (.ref o2) := Has.at H115 hin115 rfl
  have F116 : Fld Z T101.heap o2 "com/example/composition/composition/definition/ObjectFormat" "type" "Ljava/lang/String;" (.ref j2) := Fj_2.ext O105.2
  obtain ⟨T117, X117, e117, st117⟩ := getF X113 hx hZ hown (host := "") (Or.inl (w90 hw)) Via.refl eq113 F116 (g := (mkF m 21 #[.val .null, .val (.ref r_102), .val (.int (5 : Int32)), .val (.int (2 : Int32)), .val (.ref o2)] [(.ref o2)])) rfl rfl (hb hby d_prog_14_method_7_21)
  have F119 : Exa Z T101.heap j2 "java/lang/String" := Ej_2.ext O105.2
  obtain ⟨cq118, kq118, q118a, q118b, q118c⟩ := isOf hZ e117 F119
  obtain ⟨_, _, ⟨T118, L118, k118, n118⟩, -, X118, ⟨Lc118, hQ118, l118, y118, z118⟩, st118⟩ := X117.virtualBack hx (y := yn11) (z := yn11) hown (mvT hZ (w92 hw)) (mvT hZ (w93 hw)) (notFace_of_selects (args := #[]) (mvT hZ (w95 hw))) (mvT hZ (w95 hw)) (mvT hZ (w94 hw)) (by decide) (backOf (W := 0) (rm_sequalsN l Z a0 hw [] j2 T101.heap n0 (Nat.le_trans Z0 K101.1) ) hZ (w96 hw) (w7 hw) (by decide) (by decide)) q118a q118c (g := (mkF m 25 #[.val .null, .val (.ref r_102), .val (.int (5 : Int32)), .val (.int (2 : Int32)), .val (.ref o2)] [.null, (.ref j2)])) rfl (by rw [hml]; rfl) (Steps.refl _) (argsL := [.null]) (rest := []) (lenOf pd__28_Ljava_2f_lang_2f_Object_3b__29_Z rfl) rfl (by show 2 * 0 + _ ≤ _; exact Nat.le_of_eq rfl) (hb hby d_prog_14_method_7_25) (fun _ _ => ⟨rfl, e117, (Nat.le_of_ble_eq_true rfl), (Nat.le_of_ble_eq_true rfl)⟩)
  dsimp only [Pt.U, Pt.locs, Pt.cells, Pt.slots] at X118 l118 y118 z118 st118 hQ118
  subst l118 y118 z118
  obtain ⟨rfl, Nq118, eq118⟩ := hQ118
  have N118 := Fr.app N113 Nq118
  obtain ⟨cl120, Ar120, q120, S120, M120, H120, F120g⟩ := id P101_1
  have hin120 : ¬ ((3 : Int32) < 0 ∨ cl120.slots.size ≤ ((3 : Int32)).toNatClampNeg) := inb_of S120 ⟨by decide, by decide⟩
  have hat120 : cl120.slots[((3 : Int32)).toNatClampNeg]? = some (.ref o3) := Has.at H120 hin120 rfl
  have F121 : Fld Z T101.heap o3 "com/example/composition/composition/definition/ObjectFormat" "type" "Ljava/lang/String;" (.ref j3) := Fj_3.ext O105.2
  obtain ⟨T122, X122, e122, st122⟩ := getF X118 hx hZ hown (host := "") (Or.inl (w90 hw)) Via.refl eq118 F121 (g := (mkF m 21 #[.val .null, .val (.ref r_102), .val (.int (5 : Int32)), .val (.int (3 : Int32)), .val (.ref o3)] [(.ref o3)])) rfl rfl (hb hby d_prog_14_method_7_21)
  have F124 : Exa Z T101.heap j3 "java/lang/String" := Ej_3.ext O105.2
  obtain ⟨cq123, kq123, q123a, q123b, q123c⟩ := isOf hZ e122 F124
  obtain ⟨_, _, ⟨T123, L123, k123, n123⟩, -, X123, ⟨Lc123, hQ123, l123, y123, z123⟩, st123⟩ := X122.virtualBack hx (y := yn11) (z := yn11) hown (mvT hZ (w92 hw)) (mvT hZ (w93 hw)) (notFace_of_selects (args := #[]) (mvT hZ (w95 hw))) (mvT hZ (w95 hw)) (mvT hZ (w94 hw)) (by decide) (backOf (W := 0) (rm_sequalsN l Z a0 hw [] j3 T101.heap n0 (Nat.le_trans Z0 K101.1) ) hZ (w96 hw) (w7 hw) (by decide) (by decide)) q123a q123c (g := (mkF m 25 #[.val .null, .val (.ref r_102), .val (.int (5 : Int32)), .val (.int (3 : Int32)), .val (.ref o3)] [.null, (.ref j3)])) rfl (by rw [hml]; rfl) (Steps.refl _) (argsL := [.null]) (rest := []) (lenOf pd__28_Ljava_2f_lang_2f_Object_3b__29_Z rfl) rfl (by show 2 * 0 + _ ≤ _; exact Nat.le_of_eq rfl) (hb hby d_prog_14_method_7_25) (fun _ _ => ⟨rfl, e122, (Nat.le_of_ble_eq_true rfl), (Nat.le_of_ble_eq_true rfl)⟩)
  dsimp only [Pt.U, Pt.locs, Pt.cells, Pt.slots] at X123 l123 y123 z123 st123 hQ123
  subst l123 y123 z123
  obtain ⟨rfl, Nq123, eq123⟩ := hQ123
  have N123 := Fr.app N118 Nq123
  obtain ⟨cl125, Ar125, q125, S125, M125, H125, F125g⟩ := id P101_1
  have hin125 : ¬ ((4 : Int32) < 0 ∨ cl125.slots.size ≤ ((4 : Int32)).toNatClampNeg) := inb_of S125 ⟨by decide, by decide⟩
  have hat125 : cl125.slots[((4 : Int32)).toNatClampNeg]? = some (.ref o4) := Has.at H125 hin125 rfl
  have F126 : Fld Z T101.heap o4 "com/example/composition/composition/definition/ObjectFormat" "type" "Ljava/lang/String;" (.ref j4) := Fj_4.ext O105.2
  obtain ⟨T127, X127, e127, st127⟩ := getF X123 hx hZ hown (host := "") (Or.inl (w90 hw)) Via.refl eq123 F126 (g := (mkF m 21 #[.val .null, .val (.ref r_102), .val (.int (5 : Int32)), .val (.int (4 : Int32)), .val (.ref o4)] [(.ref o4)])) rfl rfl (hb hby d_prog_14_method_7_21)
  have F129 : Exa Z T101.heap j4 "java/lang/String" := Ej_4.ext O105.2
  obtain ⟨cq128, kq128, q128a, q128b, q128c⟩ := isOf hZ e127 F129
  obtain ⟨_, _, ⟨T128, L128, k128, n128⟩, -, X128, ⟨Lc128, hQ128, l128, y128, z128⟩, st128⟩ := X127.virtualBack hx (y := yn11) (z := yn11) hown (mvT hZ (w92 hw)) (mvT hZ (w93 hw)) (notFace_of_selects (args := #[]) (mvT hZ (w95 hw))) (mvT hZ (w95 hw)) (mvT hZ (w94 hw)) (by decide) (backOf (W := 0) (rm_sequalsN l Z a0 hw [] j4 T101.heap n0 (Nat.le_trans Z0 K101.1) ) hZ (w96 hw) (w7 hw) (by decide) (by decide)) q128a q128c (g := (mkF m 25 #[.val .null, .val (.ref r_102), .val (.int (5 : Int32)), .val (.int (4 : Int32)), .val (.ref o4)] [.null, (.ref j4)])) rfl (by rw [hml]; rfl) (Steps.refl _) (argsL := [.null]) (rest := []) (lenOf pd__28_Ljava_2f_lang_2f_Object_3b__29_Z rfl) rfl (by show 2 * 0 + _ ≤ _; exact Nat.le_of_eq rfl) (hb hby d_prog_14_method_7_25) (fun _ _ => ⟨rfl, e127, (Nat.le_of_ble_eq_true rfl), (Nat.le_of_ble_eq_true rfl)⟩)
  dsimp only [Pt.U, Pt.locs, Pt.cells, Pt.slots] at X128 l128 y128 z128 st128 hQ128
  subst l128 y128 z128
  obtain ⟨rfl, Nq128, eq128⟩ := hQ128
  have N128 := Fr.app N123 Nq128
  obtain ⟨_, _, ⟨T130, L130, k130, n130⟩, -, X130, ⟨Lc130, hQ130, l130, y130, z130⟩, st130⟩ := Jvm.LawKit.callS X128 hx (y := yn15) hown (mvT hZ (w101 hw)) (mvT hZ (w102 hw)) (mvT hZ (w103 hw)) (mvT hZ (w104 hw)) (by decide) (backOf (W := 0) (rm_opEmpty l Z a0 hw [] oE T101.heap n0 (Nat.le_trans Z0 K101.1) O105 S_EMPTY) hZ (w104 hw) (w103 hw) (by decide) (by decide)) (g := (mkF m 43 #[.val .null, .val (.ref r_102), .val (.int (5 : Int32)), .val (.int (5 : Int32)), .val (.ref o4)] [])) rfl (by rw [hml]; rfl) (argsL := []) (rest := []) (lenOf pd__28__29_Ljava_2f_util_2f_Optional_3b_ rfl) rfl (by show 2 * 0 + _ ≤ _; exact Nat.le_of_eq rfl) (hb hby d_prog_14_method_7_43) (fun _ _ => ⟨rfl, eq128, (Nat.le_of_ble_eq_true rfl), (Nat.le_of_ble_eq_true rfl)⟩)
  dsimp only [Pt.U, Pt.locs, Pt.cells, Pt.slots] at X130 l130 y130 z130 st130 hQ130
  subst l130 y130 z130
  obtain ⟨rfl, Nq130, eq130⟩ := hQ130
  have N130 := Fr.app N128 Nq130
  have W131 : ∀ zQ, SS p e below T130 m 46 #[.val .null, .val (.ref r_102), .val (.int (5 : Int32)), .val (.int (5 : Int32)), .val (.ref o4)] [(.ref oE)] zQ → Steps p.tables e below (s₁.setTop (entryFrame m #[.null] 5)) zQ := by
    intro tt kt
    refine W0 tt ?_
    refine st101 _ ?_
    refine XS.astoreN X101.here hx rfl (hb hby d_prog_14_method_7_3) rfl rfl (l' := #[.val .null, .val (.ref r_102), .unset, .unset, .unset]) rfl ?_
    refine XS.aloadN X101.here hx rfl (hb hby d_prog_14_method_7_4) rfl rfl ?_
    show SS p e below T101 m 5 #[.val .null, .val (.ref r_102), .unset, .unset, .unset] [(.ref r_102)] _
    refine X101.arraylength hx (by first | exact Ar103.1 | (rw [rfl]; exact Ar103.1)) (State.isArrayOf_alike hZ.alike Ar103.2.1) (g := (mkF m 5 #[.val .null, .val (.ref r_102), .unset, .unset, .unset] [(.ref r_102)])) rfl rfl (hb hby d_prog_14_method_7_5) _ ?_
    rw [len_of S103 M103]
    refine XS.istoreN X101.here hx rfl (hb hby d_prog_14_method_7_6) rfl (l' := #[.val .null, .val (.ref r_102), .val (.int (5 : Int32)), .unset, .unset]) rfl ?_
    refine XS.iconst X101.here hx rfl (hb hby d_prog_14_method_7_7) ?_
    refine XS.istoreN X101.here hx rfl (hb hby d_prog_14_method_7_8) rfl (l' := #[.val .null, .val (.ref r_102), .val (.int (5 : Int32)), .val (.int (0 : Int32)), .unset]) rfl ?_
    refine XS.iloadN X101.here hx rfl (hb hby d_prog_14_method_7_9) rfl ?_
    refine XS.iloadN X101.here hx rfl (hb hby d_prog_14_method_7_10) rfl ?_
    show SS p e below T101 m 11 #[.val .null, .val (.ref r_102), .val (.int (5 : Int32)), .val (.int (0 : Int32)), .unset] [(.int (5 : Int32)), (.int (0 : Int32))] _
    refine XS.icmpNo X101.here hx rfl (hb hby d_prog_14_method_7_11) rfl (tlt (by decide)).2.1 ?_
    refine XS.aloadN X101.here hx rfl (hb hby d_prog_14_method_7_14) rfl rfl ?_
    refine XS.iloadN X101.here hx rfl (hb hby d_prog_14_method_7_15) rfl ?_
    show SS p e below T101 m 16 #[.val .null, .val (.ref r_102), .val (.int (5 : Int32)), .val (.int (0 : Int32)), .unset] [(.int (0 : Int32)), (.ref r_102)] _
    refine X101.aaload hx (j := (0 : Int32)) (v := (.ref o0)) (by first | exact Ar104.1 | (rw [rfl]; exact Ar104.1)) (State.isArrayOf_alike hZ.alike Ar104.2.1) rfl Ar104.2.2 hin104 hat104 (g := (mkF m 16 #[.val .null, .val (.ref r_102), .val (.int (5 : Int32)), .val (.int (0 : Int32)), .unset] [(.int (0 : Int32)), (.ref r_102)])) rfl rfl (hb hby d_prog_14_method_7_16) _ ?_
    refine XS.astore X101.here hx rfl (hb hby d_prog_14_method_7_17) rfl rfl (l' := #[.val .null, .val (.ref r_102), .val (.int (5 : Int32)), .val (.int (0 : Int32)), .val (.ref o0)]) rfl ?_
    refine XS.aload X101.here hx rfl (hb hby d_prog_14_method_7_19) rfl rfl ?_
    show SS p e below T101 m 21 #[.val .null, .val (.ref r_102), .val (.int (5 : Int32)), .val (.int (0 : Int32)), .val (.ref o0)] [(.ref o0)] _
    refine st107 _ ?_
    refine XS.aloadN X107.here hx rfl (hb hby d_prog_14_method_7_24) rfl rfl ?_
    show SS p e below T107 m 25 #[.val .null, .val (.ref r_102), .val (.int (5 : Int32)), .val (.int (0 : Int32)), .val (.ref o0)] [.null, (.ref j0)] _
    refine st108.trans ?_
    refine XS.ifYes X108.here hx rfl (pc0 := 28) (pc' := 37) rfl (hb hby d_prog_14_method_7_28) rfl ((if0 _ _).trans (teq (by decide)).1) (by decide) (by decide) ?_
    show SS p e below T108 m 37 #[.val .null, .val (.ref r_102), .val (.int (5 : Int32)), .val (.int (0 : Int32)), .val (.ref o0)] [] _
    refine XS.iinc X108.here hx rfl (hb hby d_prog_14_method_7_37) rfl (l' := #[.val .null, .val (.ref r_102), .val (.int (5 : Int32)), .val (.int (1 : Int32)), .val (.ref o0)]) rfl ?_
    refine XS.goto X108.here hx rfl (pc0 := 40) (pc' := 9) rfl (hb hby d_prog_14_method_7_40) (by decide) (by decide) ?_
    refine XS.iloadN X108.here hx rfl (hb hby d_prog_14_method_7_9) rfl ?_
    refine XS.iloadN X108.here hx rfl (hb hby d_prog_14_method_7_10) rfl ?_
    refine XS.icmpNo X108.here hx rfl (hb hby d_prog_14_method_7_11) rfl (tlt (by decide)).2.1 ?_
    refine XS.aloadN X108.here hx rfl (hb hby d_prog_14_method_7_14) rfl rfl ?_
    show SS p e below T108 m 15 #[.val .null, .val (.ref r_102), .val (.int (5 : Int32)), .val (.int (1 : Int32)), .val (.ref o0)] [(.ref r_102)] _
    refine XS.iloadN X108.here hx rfl (hb hby d_prog_14_method_7_15) rfl ?_
    show SS p e below T108 m 16 #[.val .null, .val (.ref r_102), .val (.int (5 : Int32)), .val (.int (1 : Int32)), .val (.ref o0)] [(.int (1 : Int32)), (.ref r_102)] _
    refine X108.aaload hx (j := (1 : Int32)) (v := (.ref o1)) (by first | exact Ar110.1 | (rw [eq108]; exact Ar110.1)) (State.isArrayOf_alike hZ.alike Ar110.2.1) rfl Ar110.2.2 hin110 hat110 (g := (mkF m 16 #[.val .null, .val (.ref r_102), .val (.int (5 : Int32)), .val (.int (1 : Int32)), .val (.ref o0)] [(.int (1 : Int32)), (.ref r_102)])) rfl rfl (hb hby d_prog_14_method_7_16) _ ?_
    refine XS.astore X108.here hx rfl (hb hby d_prog_14_method_7_17) rfl rfl (l' := #[.val .null, .val (.ref r_102), .val (.int (5 : Int32)), .val (.int (1 : Int32)), .val (.ref o1)]) rfl ?_
    refine XS.aload X108.here hx rfl (hb hby d_prog_14_method_7_19) rfl rfl ?_
    show SS p e below T108 m 21 #[.val .null, .val (.ref r_102), .val (.int (5 : Int32)), .val (.int (1 : Int32)), .val (.ref o1)] [(.ref o1)] _
    refine st112 _ ?_
    refine XS.aloadN X112.here hx rfl (hb hby d_prog_14_method_7_24) rfl rfl ?_
    show SS p e below T112 m 25 #[.val .null, .val (.ref r_102), .val (.int (5 : Int32)), .val (.int (1 : Int32)), .val (.ref o1)] [.null, (.ref j1)] _
    refine st113.trans ?_
    refine XS.ifYes X113.here hx rfl (pc0 := 28) (pc' := 37) rfl (hb hby d_prog_14_method_7_28) rfl ((if0 _ _).trans (teq (by decide)).1) (by decide) (by decide) ?_
    show SS p e below T113 m 37 #[.val .null, .val (.ref r_102), .val (.int (5 : Int32)), .val (.int (1 : Int32)), .val (.ref o1)] [] _
    refine XS.iinc X113.here hx rfl (hb hby d_prog_14_method_7_37) rfl (l' := #[.val .null, .val (.ref r_102), .val (.int (5 : Int32)), .val (.int (2 : Int32)), .val (.ref o1)]) rfl ?_
    refine XS.goto X113.here hx rfl (pc0 := 40) (pc' := 9) rfl (hb hby d_prog_14_method_7_40) (by decide) (by decide) ?_
    refine XS.iloadN X113.here hx rfl (hb hby d_prog_14_method_7_9) rfl ?_
    refine XS.iloadN X113.here hx rfl (hb hby d_prog_14_method_7_10) rfl ?_
    refine XS.icmpNo X113.here hx rfl (hb hby d_prog_14_method_7_11) rfl (tlt (by decide)).2.1 ?_
    refine XS.aloadN X113.here hx rfl (hb hby d_prog_14_method_7_14) rfl rfl ?_
    show SS p e below T113 m 15 #[.val .null, .val (.ref r_102), .val (.int (5 : Int32)), .val (.int (2 : Int32)), .val (.ref o1)] [(.ref r_102)] _
    refine XS.iloadN X113.here hx rfl (hb hby d_prog_14_method_7_15) rfl ?_
    show SS p e below T113 m 16 #[.val .null, .val (.ref r_102), .val (.int (5 : Int32)), .val (.int (2 : Int32)), .val (.ref o1)] [(.int (2 : Int32)), (.ref r_102)] _
    refine X113.aaload hx (j := (2 : Int32)) (v := (.ref o2)) (by first | exact Ar115.1 | (rw [eq113]; exact Ar115.1)) (State.isArrayOf_alike hZ.alike Ar115.2.1) rfl Ar115.2.2 hin115 hat115 (g := (mkF m 16 #[.val .null, .val (.ref r_102), .val (.int (5 : Int32)), .val (.int (2 : Int32)), .val (.ref o1)] [(.int (2 : Int32)), (.ref r_102)])) rfl rfl (hb hby d_prog_14_method_7_16) _ ?_
    refine XS.astore X113.here hx rfl (hb hby d_prog_14_method_7_17) rfl rfl (l' := #[.val .null, .val (.ref r_102), .val (.int (5 : Int32)), .val (.int (2 : Int32)), .val (.ref o2)]) rfl ?_
    refine XS.aload X113.here hx rfl (hb hby d_prog_14_method_7_19) rfl rfl ?_
    show SS p e below T113 m 21 #[.val .null, .val (.ref r_102), .val (.int (5 : Int32)), .val (.int (2 : Int32)), .val (.ref o2)] [(.ref o2)] _
    refine st117 _ ?_
    refine XS.aloadN X117.here hx rfl (hb hby d_prog_14_method_7_24) rfl rfl ?_
    show SS p e below T117 m 25 #[.val .null, .val (.ref r_102), .val (.int (5 : Int32)), .val (.int (2 : Int32)), .val (.ref o2)] [.null, (.ref j2)] _
    refine st118.trans ?_
    refine XS.ifYes X118.here hx rfl (pc0 := 28) (pc' := 37) rfl (hb hby d_prog_14_method_7_28) rfl ((if0 _ _).trans (teq (by decide)).1) (by decide) (by decide) ?_
    show SS p e below T118 m 37 #[.val .null, .val (.ref r_102), .val (.int (5 : Int32)), .val (.int (2 : Int32)), .val (.ref o2)] [] _
    refine XS.iinc X118.here hx rfl (hb hby d_prog_14_method_7_37) rfl (l' := #[.val .null, .val (.ref r_102), .val (.int (5 : Int32)), .val (.int (3 : Int32)), .val (.ref o2)]) rfl ?_
    refine XS.goto X118.here hx rfl (pc0 := 40) (pc' := 9) rfl (hb hby d_prog_14_method_7_40) (by decide) (by decide) ?_
    refine XS.iloadN X118.here hx rfl (hb hby d_prog_14_method_7_9) rfl ?_
    refine XS.iloadN X118.here hx rfl (hb hby d_prog_14_method_7_10) rfl ?_
    refine XS.icmpNo X118.here hx rfl (hb hby d_prog_14_method_7_11) rfl (tlt (by decide)).2.1 ?_
    refine XS.aloadN X118.here hx rfl (hb hby d_prog_14_method_7_14) rfl rfl ?_
    show SS p e below T118 m 15 #[.val .null, .val (.ref r_102), .val (.int (5 : Int32)), .val (.int (3 : Int32)), .val (.ref o2)] [(.ref r_102)] _
    refine XS.iloadN X118.here hx rfl (hb hby d_prog_14_method_7_15) rfl ?_
    show SS p e below T118 m 16 #[.val .null, .val (.ref r_102), .val (.int (5 : Int32)), .val (.int (3 : Int32)), .val (.ref o2)] [(.int (3 : Int32)), (.ref r_102)] _
    refine X118.aaload hx (j := (3 : Int32)) (v := (.ref o3)) (by first | exact Ar120.1 | (rw [eq118]; exact Ar120.1)) (State.isArrayOf_alike hZ.alike Ar120.2.1) rfl Ar120.2.2 hin120 hat120 (g := (mkF m 16 #[.val .null, .val (.ref r_102), .val (.int (5 : Int32)), .val (.int (3 : Int32)), .val (.ref o2)] [(.int (3 : Int32)), (.ref r_102)])) rfl rfl (hb hby d_prog_14_method_7_16) _ ?_
    refine XS.astore X118.here hx rfl (hb hby d_prog_14_method_7_17) rfl rfl (l' := #[.val .null, .val (.ref r_102), .val (.int (5 : Int32)), .val (.int (3 : Int32)), .val (.ref o3)]) rfl ?_
    refine XS.aload X118.here hx rfl (hb hby d_prog_14_method_7_19) rfl rfl ?_
    show SS p e below T118 m 21 #[.val .null, .val (.ref r_102), .val (.int (5 : Int32)), .val (.int (3 : Int32)), .val (.ref o3)] [(.ref o3)] _
    refine st122 _ ?_
    refine XS.aloadN X122.here hx rfl (hb hby d_prog_14_method_7_24) rfl rfl ?_
    show SS p e below T122 m 25 #[.val .null, .val (.ref r_102), .val (.int (5 : Int32)), .val (.int (3 : Int32)), .val (.ref o3)] [.null, (.ref j3)] _
    refine st123.trans ?_
    refine XS.ifYes X123.here hx rfl (pc0 := 28) (pc' := 37) rfl (hb hby d_prog_14_method_7_28) rfl ((if0 _ _).trans (teq (by decide)).1) (by decide) (by decide) ?_
    show SS p e below T123 m 37 #[.val .null, .val (.ref r_102), .val (.int (5 : Int32)), .val (.int (3 : Int32)), .val (.ref o3)] [] _
    refine XS.iinc X123.here hx rfl (hb hby d_prog_14_method_7_37) rfl (l' := #[.val .null, .val (.ref r_102), .val (.int (5 : Int32)), .val (.int (4 : Int32)), .val (.ref o3)]) rfl ?_
    refine XS.goto X123.here hx rfl (pc0 := 40) (pc' := 9) rfl (hb hby d_prog_14_method_7_40) (by decide) (by decide) ?_
    refine XS.iloadN X123.here hx rfl (hb hby d_prog_14_method_7_9) rfl ?_
    refine XS.iloadN X123.here hx rfl (hb hby d_prog_14_method_7_10) rfl ?_
    refine XS.icmpNo X123.here hx rfl (hb hby d_prog_14_method_7_11) rfl (tlt (by decide)).2.1 ?_
    refine XS.aloadN X123.here hx rfl (hb hby d_prog_14_method_7_14) rfl rfl ?_
    show SS p e below T123 m 15 #[.val .null, .val (.ref r_102), .val (.int (5 : Int32)), .val (.int (4 : Int32)), .val (.ref o3)] [(.ref r_102)] _
    refine XS.iloadN X123.here hx rfl (hb hby d_prog_14_method_7_15) rfl ?_
    show SS p e below T123 m 16 #[.val .null, .val (.ref r_102), .val (.int (5 : Int32)), .val (.int (4 : Int32)), .val (.ref o3)] [(.int (4 : Int32)), (.ref r_102)] _
    refine X123.aaload hx (j := (4 : Int32)) (v := (.ref o4)) (by first | exact Ar125.1 | (rw [eq123]; exact Ar125.1)) (State.isArrayOf_alike hZ.alike Ar125.2.1) rfl Ar125.2.2 hin125 hat125 (g := (mkF m 16 #[.val .null, .val (.ref r_102), .val (.int (5 : Int32)), .val (.int (4 : Int32)), .val (.ref o3)] [(.int (4 : Int32)), (.ref r_102)])) rfl rfl (hb hby d_prog_14_method_7_16) _ ?_
    refine XS.astore X123.here hx rfl (hb hby d_prog_14_method_7_17) rfl rfl (l' := #[.val .null, .val (.ref r_102), .val (.int (5 : Int32)), .val (.int (4 : Int32)), .val (.ref o4)]) rfl ?_
    refine XS.aload X123.here hx rfl (hb hby d_prog_14_method_7_19) rfl rfl ?_
    show SS p e below T123 m 21 #[.val .null, .val (.ref r_102), .val (.int (5 : Int32)), .val (.int (4 : Int32)), .val (.ref o4)] [(.ref o4)] _
    refine st127 _ ?_
    refine XS.aloadN X127.here hx rfl (hb hby d_prog_14_method_7_24) rfl rfl ?_
    show SS p e below T127 m 25 #[.val .null, .val (.ref r_102), .val (.int (5 : Int32)), .val (.int (4 : Int32)), .val (.ref o4)] [.null, (.ref j4)] _
    refine st128.trans ?_
    refine XS.ifYes X128.here hx rfl (pc0 := 28) (pc' := 37) rfl (hb hby d_prog_14_method_7_28) rfl ((if0 _ _).trans (teq (by decide)).1) (by decide) (by decide) ?_
    show SS p e below T128 m 37 #[.val .null, .val (.ref r_102), .val (.int (5 : Int32)), .val (.int (4 : Int32)), .val (.ref o4)] [] _
    refine XS.iinc X128.here hx rfl (hb hby d_prog_14_method_7_37) rfl (l' := #[.val .null, .val (.ref r_102), .val (.int (5 : Int32)), .val (.int (5 : Int32)), .val (.ref o4)]) rfl ?_
    refine XS.goto X128.here hx rfl (pc0 := 40) (pc' := 9) rfl (hb hby d_prog_14_method_7_40) (by decide) (by decide) ?_
    refine XS.iloadN X128.here hx rfl (hb hby d_prog_14_method_7_9) rfl ?_
    refine XS.iloadN X128.here hx rfl (hb hby d_prog_14_method_7_10) rfl ?_
    refine XS.icmpYes X128.here hx rfl (pc0 := 11) (pc' := 43) rfl (hb hby d_prog_14_method_7_11) rfl (flt (by decide)).2.1 (by decide) (by decide) ?_
    show SS p e below T128 m 43 #[.val .null, .val (.ref r_102), .val (.int (5 : Int32)), .val (.int (5 : Int32)), .val (.ref o4)] [] _
    refine st130 _ ?_
    exact kt
  obtain ⟨fs, hr, hrun, hended, hW, hsame⟩ := X130.leave (v := some (.ref oE)) (fun h => by rw [Bd.returns] at h; cases h)
  refine ⟨_, _, W131 _ (own_retR X130 hx Bd.returns rfl rfl (hb hby d_prog_14_method_7_46) hr), hrun, hended, _, _, rfl, ?_, ⟨_, rfl⟩, hW, hsame.mono (by decide) (by decide)⟩
  show Q_ofTypeN Z o0 o1 o2 o3 o4 oV kV j0 v0 kv0 j1 v1 kv1 j2 v2 kv2 j3 v3 kv3 j4 v4 kv4 oE h0 n0 _ T130.heap _
  rw [eq130]
  exact ⟨rfl, N130, (Keep.trans (Keep.refl h0 []) K101 all0)⟩
def Q_lit (Z : State) (kz : Int32) (h0 : Heap) (n0 : Nat) (vQ_ : Option Value) (hQ_ : Heap) (LQ_ : List Loc) : Prop := ∃ r : Addr, ∃ t : Addr, ∃ kb : ClassId, vQ_ = some (.ref r) ∧ Fr n0 LQ_ ∧ Keep h0 hQ_ [] ∧ Str Z hQ_ r t kb (lt kz)
set_option maxRecDepth 65536 in
set_option maxHeartbeats 40000000 in
theorem rm_lit (l : Launch) (Z : State) (a0 : Array Value) (hw : HW a0 Z) (ws : List Jvm.Cond) (kz : Int32) (h0 : Heap) (n0 : Nat) (Z0 : n0 ≤ h0.size) (hk : K5 kz) :
    MetFree l yn19 (head1 (Jvm.Cond.code yn19 method_2_code 1 (some (.object "java/lang/String")) :: ws) ({ frames := 0, cells := 2, slots := 20, locals := 0 } : Room)) (fun aQ_ UQ => aQ_ = #[(.int kz)] ∧ Z.Warmed39 UQ.vm ∧ UQ.heap = h0 ∧ CHv Z EL_1 UQ.vm h0) (fun _ _ _ _ _ => True) (fun _ UQ oQ UQ' => ∃ vQ_ LQ_, oQ = .returned vQ_ ∧ Q_lit Z kz h0 n0 vQ_ UQ'.heap LQ_ ∧ CHr Z EL_1 UQ.vm UQ.heap UQ'.vm UQ'.heap ∧ ReturnedEndW UQ oQ UQ' LQ_ ({ frames := 0, cells := 2, slots := 20, locals := 0 } : Room).cells ({ frames := 0, cells := 2, slots := 20, locals := 0 } : Room).slots) := by
  refine MetFree.of_bodySF (plainFor_of_name pn_com_example_composition_composition_definition_ObjectFormatOfTypePinLaw) hisR ?_
  intro p e s m args below meth cO s₁ Bd hml0 hP hK
  obtain ⟨rfl, hZ, hh, hH⟩ := hP
  have hx := Bd.exec
  have hby := Bd.bytes
  have hml : cO.maxLocals = 1 := hml0
  have hown : s.vm.findClass "com/example/composition/composition/definition/ObjectFormatOfTypePinLaw" = some m.cls := findClass_of_methodNamed Bd.named
  have hnm := (name_of_methodNamed Bd.named Bd.method).1
  have X0 : Stand p l e ({ frames := 0, cells := 2, slots := 20, locals := 0 } : Room) (s.setVm s.vm) m #[(.int kz)] below meth cO s₁ [] 0 0 := Stand.of_body Bd
  have e0 : s₁.heap = h0 := by rw [← hh, Bd.state]; rfl
  have N0 := Fr.nil n0
  have hZ0 : Z.Warmed39 (s.setVm s.vm).vm := hZ
  have hown0 : (s.setVm s.vm).vm.findClass "com/example/composition/composition/definition/ObjectFormatOfTypePinLaw" = some m.cls := hown
  have hS0 : s.Since s.vm 0 := (State.WarmedH.refl s).since 0
  have hk0 : 0 ≤ h0.size := Nat.zero_le _
  have hEL : EW Z a0 EL_1 := own_EW hw
  have R0 : CHr Z EL_1 s.vm h0 s.vm h0 := CHr.refl hH
  have W0 : ∀ zQ, SS p e below s₁ m 0 #[.val (.int kz)] [] zQ → Steps p.tables e below (s₁.setTop (entryFrame m #[(.int kz)] 1)) zQ := fun tt kt => castTop (ef_lit m kz) kt
  rcases hk with rfl | rfl | rfl | rfl | rfl
  ·
    obtain ⟨b101, T101, h101, k101, c101, kb101, X101, e101, E101, hS101, hk101, hZ101, hown101, LE101, LC101, LV101, LA101, l1101, l2101, A101, -, sf101, st101⟩ := ldcCH X0 hx hZ0 hown0 (w6 hw) (own_wS hw) e0 hS0 hk0 hEL (by decide +kernel) R0.1 (vs := (l1 ([(116 : Int32), (97 : Int32), (98 : Int32), (108 : Int32)] : List Int32))) (z := (4 : Int32)) (by decide +kernel) (by decide) (by decide) (g := (mkF m 4 #[.val (.int (0 : Int32))] [])) rfl (hb hby d_method_2_4) (n := 16) (by decide) (by decide) (by decide) (by decide)
    have K101 := (Keep.refl h0 []).ext E101
    have R102 : CHr Z EL_1 s.vm h0 T101.vm h101 := R0.trans A101
    have LS101 : Str Z h101 b101 c101 kb101 ([(116 : Int32), (97 : Int32), (98 : Int32), (108 : Int32)] : List Int32) := ⟨LE101, LV101, LC101, LA101, by decide, by decide⟩
    have W103 : ∀ zQ, SS p e below T101 m 6 #[.val (.int (0 : Int32))] [(.ref b101)] zQ → Steps p.tables e below (s₁.setTop (entryFrame m #[(.int (0 : Int32))] 1)) zQ := by
      intro tt kt
      refine W0 tt ?_
      refine XS.iloadN X0.here hx rfl (hb hby d_method_2_0) rfl ?_
      refine XS.ifNo X0.here hx rfl (hb hby d_method_2_1) rfl ((if0 _ _).trans (teq (by decide)).2) ?_
      show SS p e below s₁ m 4 #[.val (.int (0 : Int32))] [] _
      refine st101 _ ?_
      exact kt
    have hR104 : Str Z h101 b101 c101 kb101 (lt (0 : Int32)) := LS101
    obtain ⟨fs, hr, hrun, hended, hRW⟩ := Jvm.Stand.leaveW X101 hS101 (by rw [e101]; exact hk101) (v := some (.ref b101)) (fun h => by rw [Bd.returns] at h; cases h) (BodyLoose.notSynchronized Bd)
    refine ⟨_, _, W103 _ (own_retR X101 hx Bd.returns rfl rfl (hb hby d_method_2_6) hr), hrun, hended, _, _, rfl, ?_, own_chr (T := T101) R102 (CHv.at X101 hZ101 hEL R102.1) hh.symm e101, own_rw hRW (by decide) (by decide)⟩
    show Q_lit Z (0 : Int32) h0 n0 _ T101.heap _
    rw [e101]
    exact ⟨b101, c101, kb101, rfl, N0, (Keep.trans (Keep.refl h0 []) K101 all0), hR104⟩
  ·
    obtain ⟨b105, T105, h105, k105, c105, kb105, X105, e105, E105, hS105, hk105, hZ105, hown105, LE105, LC105, LV105, LA105, l1105, l2105, A105, -, sf105, st105⟩ := ldcCH X0 hx hZ0 hown0 (w116 hw) (own_wS hw) e0 hS0 hk0 hEL (by decide +kernel) R0.1 (vs := (l1 ([(100 : Int32), (100 : Int32), (108 : Int32), (115 : Int32)] : List Int32))) (z := (4 : Int32)) (by decide +kernel) (by decide) (by decide) (g := (mkF m 12 #[.val (.int (1 : Int32))] [])) rfl (hb hby d_method_2_12) (n := 16) (by decide) (by decide) (by decide) (by decide)
    have K105 := (Keep.refl h0 []).ext E105
    have R106 : CHr Z EL_1 s.vm h0 T105.vm h105 := R0.trans A105
    have LS105 : Str Z h105 b105 c105 kb105 ([(100 : Int32), (100 : Int32), (108 : Int32), (115 : Int32)] : List Int32) := ⟨LE105, LV105, LC105, LA105, by decide, by decide⟩
    have W107 : ∀ zQ, SS p e below T105 m 14 #[.val (.int (1 : Int32))] [(.ref b105)] zQ → Steps p.tables e below (s₁.setTop (entryFrame m #[(.int (1 : Int32))] 1)) zQ := by
      intro tt kt
      refine W0 tt ?_
      refine XS.iloadN X0.here hx rfl (hb hby d_method_2_0) rfl ?_
      refine XS.ifYes X0.here hx rfl (pc0 := 1) (pc' := 7) rfl (hb hby d_method_2_1) rfl ((if0 _ _).trans (feq (by decide)).2) (by decide) (by decide) ?_
      refine XS.iloadN X0.here hx rfl (hb hby d_method_2_7) rfl ?_
      refine XS.iconst X0.here hx rfl (hb hby d_method_2_8) ?_
      refine XS.icmpNo X0.here hx rfl (hb hby d_method_2_9) rfl (teq (by decide)).2 ?_
      show SS p e below s₁ m 12 #[.val (.int (1 : Int32))] [] _
      refine st105 _ ?_
      exact kt
    have hR108 : Str Z h105 b105 c105 kb105 (lt (1 : Int32)) := LS105
    obtain ⟨fs, hr, hrun, hended, hRW⟩ := Jvm.Stand.leaveW X105 hS105 (by rw [e105]; exact hk105) (v := some (.ref b105)) (fun h => by rw [Bd.returns] at h; cases h) (BodyLoose.notSynchronized Bd)
    refine ⟨_, _, W107 _ (own_retR X105 hx Bd.returns rfl rfl (hb hby d_method_2_14) hr), hrun, hended, _, _, rfl, ?_, own_chr (T := T105) R106 (CHv.at X105 hZ105 hEL R106.1) hh.symm e105, own_rw hRW (by decide) (by decide)⟩
    show Q_lit Z (1 : Int32) h0 n0 _ T105.heap _
    rw [e105]
    exact ⟨b105, c105, kb105, rfl, N0, (Keep.trans (Keep.refl h0 []) K105 all0), hR108⟩
  ·
    obtain ⟨b109, T109, h109, k109, c109, kb109, X109, e109, E109, hS109, hk109, hZ109, hown109, LE109, LC109, LV109, LA109, l1109, l2109, A109, -, sf109, st109⟩ := ldcCH X0 hx hZ0 hown0 (w114 hw) (own_wS hw) e0 hS0 hk0 hEL (by decide +kernel) R0.1 (vs := (l1 ([(98 : Int32), (100 : Int32), (101 : Int32), (102 : Int32)] : List Int32))) (z := (4 : Int32)) (by decide +kernel) (by decide) (by decide) (g := (mkF m 20 #[.val (.int (2 : Int32))] [])) rfl (hb hby d_method_2_20) (n := 16) (by decide) (by decide) (by decide) (by decide)
    have K109 := (Keep.refl h0 []).ext E109
    have R110 : CHr Z EL_1 s.vm h0 T109.vm h109 := R0.trans A109
    have LS109 : Str Z h109 b109 c109 kb109 ([(98 : Int32), (100 : Int32), (101 : Int32), (102 : Int32)] : List Int32) := ⟨LE109, LV109, LC109, LA109, by decide, by decide⟩
    have W111 : ∀ zQ, SS p e below T109 m 22 #[.val (.int (2 : Int32))] [(.ref b109)] zQ → Steps p.tables e below (s₁.setTop (entryFrame m #[(.int (2 : Int32))] 1)) zQ := by
      intro tt kt
      refine W0 tt ?_
      refine XS.iloadN X0.here hx rfl (hb hby d_method_2_0) rfl ?_
      refine XS.ifYes X0.here hx rfl (pc0 := 1) (pc' := 7) rfl (hb hby d_method_2_1) rfl ((if0 _ _).trans (feq (by decide)).2) (by decide) (by decide) ?_
      refine XS.iloadN X0.here hx rfl (hb hby d_method_2_7) rfl ?_
      refine XS.iconst X0.here hx rfl (hb hby d_method_2_8) ?_
      refine XS.icmpYes X0.here hx rfl (pc0 := 9) (pc' := 15) rfl (hb hby d_method_2_9) rfl (feq (by decide)).2 (by decide) (by decide) ?_
      refine XS.iloadN X0.here hx rfl (hb hby d_method_2_15) rfl ?_
      show SS p e below s₁ m 16 #[.val (.int (2 : Int32))] [(.int (2 : Int32))] _
      refine XS.iconst X0.here hx rfl (hb hby d_method_2_16) ?_
      refine XS.icmpNo X0.here hx rfl (hb hby d_method_2_17) rfl (teq (by decide)).2 ?_
      show SS p e below s₁ m 20 #[.val (.int (2 : Int32))] [] _
      refine st109 _ ?_
      exact kt
    have hR112 : Str Z h109 b109 c109 kb109 (lt (2 : Int32)) := LS109
    obtain ⟨fs, hr, hrun, hended, hRW⟩ := Jvm.Stand.leaveW X109 hS109 (by rw [e109]; exact hk109) (v := some (.ref b109)) (fun h => by rw [Bd.returns] at h; cases h) (BodyLoose.notSynchronized Bd)
    refine ⟨_, _, W111 _ (own_retR X109 hx Bd.returns rfl rfl (hb hby d_method_2_22) hr), hrun, hended, _, _, rfl, ?_, own_chr (T := T109) R110 (CHv.at X109 hZ109 hEL R110.1) hh.symm e109, own_rw hRW (by decide) (by decide)⟩
    show Q_lit Z (2 : Int32) h0 n0 _ T109.heap _
    rw [e109]
    exact ⟨b109, c109, kb109, rfl, N0, (Keep.trans (Keep.refl h0 []) K109 all0), hR112⟩
  ·
    obtain ⟨b113, T113, h113, k113, c113, kb113, X113, e113, E113, hS113, hk113, hZ113, hown113, LE113, LC113, LV113, LA113, l1113, l2113, A113, -, sf113, st113⟩ := ldcCH X0 hx hZ0 hown0 (w117 hw) (own_wS hw) e0 hS0 hk0 hEL (by decide +kernel) R0.1 (vs := (l1 ([(115 : Int32), (114 : Int32), (118 : Int32), (100 : Int32)] : List Int32))) (z := (4 : Int32)) (by decide +kernel) (by decide) (by decide) (g := (mkF m 28 #[.val (.int (3 : Int32))] [])) rfl (hb hby d_method_2_28) (n := 16) (by decide) (by decide) (by decide) (by decide)
    have K113 := (Keep.refl h0 []).ext E113
    have R114 : CHr Z EL_1 s.vm h0 T113.vm h113 := R0.trans A113
    have LS113 : Str Z h113 b113 c113 kb113 ([(115 : Int32), (114 : Int32), (118 : Int32), (100 : Int32)] : List Int32) := ⟨LE113, LV113, LC113, LA113, by decide, by decide⟩
    have W115 : ∀ zQ, SS p e below T113 m 30 #[.val (.int (3 : Int32))] [(.ref b113)] zQ → Steps p.tables e below (s₁.setTop (entryFrame m #[(.int (3 : Int32))] 1)) zQ := by
      intro tt kt
      refine W0 tt ?_
      refine XS.iloadN X0.here hx rfl (hb hby d_method_2_0) rfl ?_
      refine XS.ifYes X0.here hx rfl (pc0 := 1) (pc' := 7) rfl (hb hby d_method_2_1) rfl ((if0 _ _).trans (feq (by decide)).2) (by decide) (by decide) ?_
      refine XS.iloadN X0.here hx rfl (hb hby d_method_2_7) rfl ?_
      refine XS.iconst X0.here hx rfl (hb hby d_method_2_8) ?_
      refine XS.icmpYes X0.here hx rfl (pc0 := 9) (pc' := 15) rfl (hb hby d_method_2_9) rfl (feq (by decide)).2 (by decide) (by decide) ?_
      refine XS.iloadN X0.here hx rfl (hb hby d_method_2_15) rfl ?_
      show SS p e below s₁ m 16 #[.val (.int (3 : Int32))] [(.int (3 : Int32))] _
      refine XS.iconst X0.here hx rfl (hb hby d_method_2_16) ?_
      refine XS.icmpYes X0.here hx rfl (pc0 := 17) (pc' := 23) rfl (hb hby d_method_2_17) rfl (feq (by decide)).2 (by decide) (by decide) ?_
      refine XS.iloadN X0.here hx rfl (hb hby d_method_2_23) rfl ?_
      refine XS.iconst X0.here hx rfl (hb hby d_method_2_24) ?_
      refine XS.icmpNo X0.here hx rfl (hb hby d_method_2_25) rfl (teq (by decide)).2 ?_
      show SS p e below s₁ m 28 #[.val (.int (3 : Int32))] [] _
      refine st113 _ ?_
      exact kt
    have hR116 : Str Z h113 b113 c113 kb113 (lt (3 : Int32)) := LS113
    obtain ⟨fs, hr, hrun, hended, hRW⟩ := Jvm.Stand.leaveW X113 hS113 (by rw [e113]; exact hk113) (v := some (.ref b113)) (fun h => by rw [Bd.returns] at h; cases h) (BodyLoose.notSynchronized Bd)
    refine ⟨_, _, W115 _ (own_retR X113 hx Bd.returns rfl rfl (hb hby d_method_2_30) hr), hrun, hended, _, _, rfl, ?_, own_chr (T := T113) R114 (CHv.at X113 hZ113 hEL R114.1) hh.symm e113, own_rw hRW (by decide) (by decide)⟩
    show Q_lit Z (3 : Int32) h0 n0 _ T113.heap _
    rw [e113]
    exact ⟨b113, c113, kb113, rfl, N0, (Keep.trans (Keep.refl h0 []) K113 all0), hR116⟩
  ·
    obtain ⟨b117, T117, h117, k117, c117, kb117, X117, e117, E117, hS117, hk117, hZ117, hown117, LE117, LC117, LV117, LA117, l1117, l2117, A117, -, sf117, st117⟩ := ldcCH X0 hx hZ0 hown0 (w113 hw) (own_wS hw) e0 hS0 hk0 hEL (by decide +kernel) R0.1 (vs := (l1 ([(115 : Int32), (114 : Int32), (118 : Int32), (98 : Int32)] : List Int32))) (z := (4 : Int32)) (by decide +kernel) (by decide) (by decide) (g := (mkF m 31 #[.val (.int (4 : Int32))] [])) rfl (hb hby d_method_2_31) (n := 16) (by decide) (by decide) (by decide) (by decide)
    have K117 := (Keep.refl h0 []).ext E117
    have R118 : CHr Z EL_1 s.vm h0 T117.vm h117 := R0.trans A117
    have LS117 : Str Z h117 b117 c117 kb117 ([(115 : Int32), (114 : Int32), (118 : Int32), (98 : Int32)] : List Int32) := ⟨LE117, LV117, LC117, LA117, by decide, by decide⟩
    have W119 : ∀ zQ, SS p e below T117 m 33 #[.val (.int (4 : Int32))] [(.ref b117)] zQ → Steps p.tables e below (s₁.setTop (entryFrame m #[(.int (4 : Int32))] 1)) zQ := by
      intro tt kt
      refine W0 tt ?_
      refine XS.iloadN X0.here hx rfl (hb hby d_method_2_0) rfl ?_
      refine XS.ifYes X0.here hx rfl (pc0 := 1) (pc' := 7) rfl (hb hby d_method_2_1) rfl ((if0 _ _).trans (feq (by decide)).2) (by decide) (by decide) ?_
      refine XS.iloadN X0.here hx rfl (hb hby d_method_2_7) rfl ?_
      refine XS.iconst X0.here hx rfl (hb hby d_method_2_8) ?_
      refine XS.icmpYes X0.here hx rfl (pc0 := 9) (pc' := 15) rfl (hb hby d_method_2_9) rfl (feq (by decide)).2 (by decide) (by decide) ?_
      refine XS.iloadN X0.here hx rfl (hb hby d_method_2_15) rfl ?_
      show SS p e below s₁ m 16 #[.val (.int (4 : Int32))] [(.int (4 : Int32))] _
      refine XS.iconst X0.here hx rfl (hb hby d_method_2_16) ?_
      refine XS.icmpYes X0.here hx rfl (pc0 := 17) (pc' := 23) rfl (hb hby d_method_2_17) rfl (feq (by decide)).2 (by decide) (by decide) ?_
      refine XS.iloadN X0.here hx rfl (hb hby d_method_2_23) rfl ?_
      refine XS.iconst X0.here hx rfl (hb hby d_method_2_24) ?_
      refine XS.icmpYes X0.here hx rfl (pc0 := 25) (pc' := 31) rfl (hb hby d_method_2_25) rfl (feq (by decide)).2 (by decide) (by decide) ?_
      show SS p e below s₁ m 31 #[.val (.int (4 : Int32))] [] _
      refine st117 _ ?_
      exact kt
    have hR120 : Str Z h117 b117 c117 kb117 (lt (4 : Int32)) := LS117
    obtain ⟨fs, hr, hrun, hended, hRW⟩ := Jvm.Stand.leaveW X117 hS117 (by rw [e117]; exact hk117) (v := some (.ref b117)) (fun h => by rw [Bd.returns] at h; cases h) (BodyLoose.notSynchronized Bd)
    refine ⟨_, _, W119 _ (own_retR X117 hx Bd.returns rfl rfl (hb hby d_method_2_33) hr), hrun, hended, _, _, rfl, ?_, own_chr (T := T117) R118 (CHv.at X117 hZ117 hEL R118.1) hh.symm e117, own_rw hRW (by decide) (by decide)⟩
    show Q_lit Z (4 : Int32) h0 n0 _ T117.heap _
    rw [e117]
    exact ⟨b117, c117, kb117, rfl, N0, (Keep.trans (Keep.refl h0 []) K117 all0), hR120⟩
def Q_make (Z : State) (c : Addr) (nz : Int32) (kc : ClassId) (x0 : Int32) (x1 : Int32) (x2 : Int32) (x3 : Int32) (x4 : Int32) (cS : Int32) (h0 : Heap) (n0 : Nat) (vQ_ : Option Value) (hQ_ : Heap) (LQ_ : List Loc) : Prop := ∃ r : Addr, ∃ t : Addr, ∃ kb : ClassId, vQ_ = some (.ref r) ∧ Fr n0 LQ_ ∧ Keep h0 hQ_ [] ∧ h0.size ≤ r ∧ Str Z hQ_ r t kb ([x0, x1, x2, x3, x4].take nz.toNatClampNeg)
set_option maxRecDepth 65536 in
set_option maxHeartbeats 40000000 in
theorem rm_make (l : Launch) (Z : State) (a0 : Array Value) (hw : HW a0 Z) (ws : List Jvm.Cond) (c : Addr) (nz : Int32) (kc : ClassId) (x0 : Int32) (x1 : Int32) (x2 : Int32) (x3 : Int32) (x4 : Int32) (cS : Int32) (h0 : Heap) (n0 : Nat) (Z0 : n0 ≤ h0.size) (O0 : Old Z n0 h0) (S_cs : Sta Z Z.heap "java/lang/String" "COMPACT_STRINGS" "Z" (.int cS)) (hcS : ¬ (cS = (0 : Int32))) (V1 : Arv Z h0 c kc .char (5 : Int32) [(.int x0), (.int x1), (.int x2), (.int x3), (.int x4)] (.int (0 : Int32))) (hb8 : B85 x0 x1 x2 x3 x4) (hn : N6 nz) :
    MetFree l yn20 (head1 (Jvm.Cond.code yn20 method_3_code 2 (some (.object "java/lang/String")) :: ws) ({ frames := 4, cells := 6, slots := 14, locals := 66 } : Room)) (fun aQ_ UQ => aQ_ = #[(.ref c), (.int nz)] ∧ Z.Warmed39 UQ.vm ∧ UQ.heap = h0 ∧ CHv Z EL_1 UQ.vm h0) (fun _ _ _ _ _ => True) (fun _ UQ oQ UQ' => ∃ vQ_ LQ_, oQ = .returned vQ_ ∧ Q_make Z c nz kc x0 x1 x2 x3 x4 cS h0 n0 vQ_ UQ'.heap LQ_ ∧ CHr Z EL_1 UQ.vm UQ.heap UQ'.vm UQ'.heap ∧ ReturnedEndW UQ oQ UQ' LQ_ ({ frames := 4, cells := 6, slots := 14, locals := 66 } : Room).cells ({ frames := 4, cells := 6, slots := 14, locals := 66 } : Room).slots) := by
  refine MetFree.of_bodySF (plainFor_of_name pn_com_example_composition_composition_definition_ObjectFormatOfTypePinLaw) hisR ?_
  intro p e s m args below meth cO s₁ Bd hml0 hP hK
  obtain ⟨rfl, hZ, hh, hH⟩ := hP
  have hx := Bd.exec
  have hby := Bd.bytes
  have hml : cO.maxLocals = 2 := hml0
  have hown : s.vm.findClass "com/example/composition/composition/definition/ObjectFormatOfTypePinLaw" = some m.cls := findClass_of_methodNamed Bd.named
  have hnm := (name_of_methodNamed Bd.named Bd.method).1
  have X0 : Stand p l e ({ frames := 4, cells := 6, slots := 14, locals := 66 } : Room) (s.setVm s.vm) m #[(.ref c), (.int nz)] below meth cO s₁ [] 0 0 := Stand.of_body Bd
  have e0 : s₁.heap = h0 := by rw [← hh, Bd.state]; rfl
  have N0 := Fr.nil n0
  have hZ0 : Z.Warmed39 (s.setVm s.vm).vm := hZ
  have hown0 : (s.setVm s.vm).vm.findClass "com/example/composition/composition/definition/ObjectFormatOfTypePinLaw" = some m.cls := hown
  have hS0 : s.Since s.vm 0 := (State.WarmedH.refl s).since 0
  have hk0 : 0 ≤ h0.size := Nat.zero_le _
  have hEL : EW Z a0 EL_1 := own_EW hw
  have R0 : CHr Z EL_1 s.vm h0 s.vm h0 := CHr.refl hH
  have W0 : ∀ zQ, SS p e below s₁ m 0 #[.val (.ref c), .val (.int nz)] [] zQ → Steps p.tables e below (s₁.setTop (entryFrame m #[(.ref c), (.int nz)] 2)) zQ := fun tt kt => castTop (ef_make m c nz) kt
  rcases hn with rfl | rfl | rfl | rfl | rfl | rfl
  ·
    obtain ⟨T101, h101, X101, e101, E101, A101, D101, U101, st101⟩ := newO X0 hx hZ0 hown0 (w42 hw) (w8 hw) (w7 hw) e0 (g := (mkF m 4 #[.val (.ref c), .val (.int (0 : Int32))] [])) rfl (hb hby d_method_3_4) (by decide) (by decide)
    obtain ⟨b101, g101⟩ : ∃ z, z = h0.size := ⟨_, rfl⟩
    rw [← g101] at A101 D101 U101 st101
    have K101 := (Keep.refl h0 []).ext E101
    have R102 : CHr Z EL_1 s.vm h0 s.vm h101 := R0.trans (CHr.keep K101 sf0 R0.1)
    have G101_value : Fld Z h101 b101 "java/lang/String" "value" "[B" .null := D101 (Or.inr (w10 hw)) (ty := (.array .byte)) (by decide)
    have G101_coder : Fld Z h101 b101 "java/lang/String" "coder" "B" (.int (0 : Int32)) := D101 (Or.inr (w11 hw)) (ty := .byte) (by decide)
    obtain ⟨T103, h103, k103, X103, e103, E103, A103, st103⟩ := newP X101 hx hZ0 (aty := .char) (w1 hw) e101 (g := (mkF m 9 #[.val (.ref c), .val (.int (0 : Int32))] [(.int (0 : Int32)), (.ref b101), (.ref b101)])) rfl (hb hby d_method_3_9) (n := (0 : Int32)) rfl (by decide) (cap := 0) (by decide) (by decide) (by decide) (by decide)
    obtain ⟨b103, g103⟩ : ∃ z, z = h101.size := ⟨_, rfl⟩
    rw [← g103] at A103 st103
    have K103 := (Keep.refl h101 []).ext E103
    have R104 : CHr Z EL_1 s.vm h0 s.vm h103 := R102.trans (CHr.keep K103 sf0 R102.1)
    have G103 : Arv Z h103 b103 k103 .char (0 : Int32) [] (.int (0 : Int32)) := (Arv.new A103 (by decide)).pad (pad_rep [] (.int (0 : Int32)) 0)
    have F105 : Exa Z h103 b101 "java/lang/String" := (A101.keep K103)
    have F106 : Fld Z h103 b101 "java/lang/String" "value" "[B" .null := (G101_value.keep K103 nin0)
    have F107 : Fld Z h103 b101 "java/lang/String" "coder" "B" (.int (0 : Int32)) := (G101_coder.keep K103 nin0)
    obtain ⟨_, _, ⟨T108, L108, k108, n108⟩, -, X108', hS108', hgr108, ⟨Lc108, hQ108, l108, y108, z108, A108⟩, st108⟩ := X103.specialBackS hx (y := yn9) rfl hown0 (mvT hZ0 (w43 hw)) (mvT hZ0 (w44 hw)) (mvT hZ0 (w45 hw)) (by decide) (backOfSH (W := 1) (rm_sinit0 l Z a0 hw [] b101 b103 k103 h103 n0 (Nat.le_trans Z0 (Nat.le_trans K101.1 K103.1)) F105 F106 F107 (Nat.le_trans Z0 (Nat.le_of_eq g101.symm)) G103) hZ0 (w45 hw) (w7 hw) (by decide) (by decide) hEL R104.1) (g := (mkF m 11 #[.val (.ref c), .val (.int (0 : Int32))] [(.ref b103), (.ref b101), (.ref b101)])) rfl (by rw [hml]; rfl) (Steps.refl _) (a := b101) (argsL := [(.ref b103)]) (rest := [(.ref b101)]) (lenOf pd__28__5b_C_29_V rfl) rfl (by show 2 * 0 + _ ≤ _; exact Nat.le_of_eq rfl) (hb hby d_method_3_11) (fun _ _ => ⟨rfl, e103, (Nat.le_of_ble_eq_true rfl), (Nat.le_of_ble_eq_true rfl)⟩)
    dsimp only [Pt.U, Pt.locs, Pt.cells, Pt.slots] at X108' hS108' hgr108 l108 y108 z108 st108 hQ108 A108
    subst l108 y108 z108
    obtain ⟨X108, hS108, hZ108, hown108⟩ := rebS hS0 (by rw [e103]; exact (Nat.le_trans hk0 (Nat.le_trans K101.1 K103.1))) X108' hS108' hgr108 hZ0 hown0
    obtain ⟨t_109, kb_110, rfl, Nq108, K108, P108_0⟩ := hQ108
    have N108 := Fr.app N0 Nq108
    have R111 : CHr Z EL_1 s.vm h0 T108.vm T108.heap := R104.trans A108
    have hk108 : T108.heap.size ≤ T108.heap.size := Nat.le_refl _
    have W112 : ∀ zQ, SS p e below T108 m 14 #[.val (.ref c), .val (.int (0 : Int32))] [(.ref b101)] zQ → Steps p.tables e below (s₁.setTop (entryFrame m #[(.ref c), (.int (0 : Int32))] 2)) zQ := by
      intro tt kt
      refine W0 tt ?_
      refine XS.iloadN X0.here hx rfl (hb hby d_method_3_0) rfl ?_
      refine XS.ifNo X0.here hx rfl (hb hby d_method_3_1) rfl ((if0 _ _).trans (teq (by decide)).2) ?_
      show SS p e below s₁ m 4 #[.val (.ref c), .val (.int (0 : Int32))] [] _
      refine st101 _ ?_
      refine XS.dup X101.here hx rfl (hb hby d_method_3_7) rfl rfl ?_
      refine XS.iconst X101.here hx rfl (hb hby d_method_3_8) ?_
      show SS p e below T101 m 9 #[.val (.ref c), .val (.int (0 : Int32))] [(.int (0 : Int32)), (.ref b101), (.ref b101)] _
      refine st103 _ ?_
      show SS p e below T103 m 11 #[.val (.ref c), .val (.int (0 : Int32))] [(.ref b103), (.ref b101), (.ref b101)] _
      refine st108.trans ?_
      exact kt
    obtain ⟨fs, hr, hrun, hended, hRW⟩ := Jvm.Stand.leaveW X108 hS108 hk108 (v := some (.ref b101)) (fun h => by rw [Bd.returns] at h; cases h) (BodyLoose.notSynchronized Bd)
    refine ⟨_, _, W112 _ (own_retR X108 hx Bd.returns rfl rfl (hb hby d_method_3_14) hr), hrun, hended, _, _, rfl, ?_, own_chr (T := T108) R111 (CHv.at X108 hZ108 hEL R111.1) hh.symm rfl, own_rw hRW (by decide) (by decide)⟩
    show Q_make Z c (0 : Int32) kc x0 x1 x2 x3 x4 cS h0 n0 _ T108.heap _
    exact ⟨b101, t_109, kb_110, rfl, N108, (Keep.trans (Keep.trans (Keep.trans (Keep.refl h0 []) K101 all0) K103 all0) K108 (allS (Or.inr (Nat.le_of_eq g101.symm)) all0)), (Nat.le_of_eq g101.symm), P108_0⟩
  ·
    obtain ⟨T113, h113, X113, e113, E113, A113, D113, U113, st113⟩ := newO X0 hx hZ0 hown0 (w42 hw) (w8 hw) (w7 hw) e0 (g := (mkF m 20 #[.val (.ref c), .val (.int (1 : Int32))] [])) rfl (hb hby d_method_3_20) (by decide) (by decide)
    obtain ⟨b113, g113⟩ : ∃ z, z = h0.size := ⟨_, rfl⟩
    rw [← g113] at A113 D113 U113 st113
    have K113 := (Keep.refl h0 []).ext E113
    have R114 : CHr Z EL_1 s.vm h0 s.vm h113 := R0.trans (CHr.keep K113 sf0 R0.1)
    have G113_value : Fld Z h113 b113 "java/lang/String" "value" "[B" .null := D113 (Or.inr (w10 hw)) (ty := (.array .byte)) (by decide)
    have G113_coder : Fld Z h113 b113 "java/lang/String" "coder" "B" (.int (0 : Int32)) := D113 (Or.inr (w11 hw)) (ty := .byte) (by decide)
    obtain ⟨T115, h115, k115, X115, e115, E115, A115, st115⟩ := newP X113 hx hZ0 (aty := .char) (w1 hw) e113 (g := (mkF m 25 #[.val (.ref c), .val (.int (1 : Int32))] [(.int (1 : Int32)), (.ref b113), (.ref b113)])) rfl (hb hby d_method_3_25) (n := (1 : Int32)) rfl (by decide) (cap := 1) (by decide) (by decide) (by decide) (by decide)
    obtain ⟨b115, g115⟩ : ∃ z, z = h113.size := ⟨_, rfl⟩
    rw [← g115] at A115 st115
    have K115 := (Keep.refl h113 []).ext E115
    have R116 : CHr Z EL_1 s.vm h0 s.vm h115 := R114.trans (CHr.keep K115 sf0 R114.1)
    have G115 : Arv Z h115 b115 k115 .char (1 : Int32) [(.int (0 : Int32))] (.int (0 : Int32)) := (Arv.new A115 (by decide)).pad (pad_rep [] (.int (0 : Int32)) 1)
    have F117 : Arv Z h115 c kc .char (5 : Int32) [(.int x0), (.int x1), (.int x2), (.int x3), (.int x4)] (.int (0 : Int32)) := ((V1.keep K113 nin0).keep K115 nin0)
    obtain ⟨cl118, Ar118, q118, S118, M118, H118, F118g⟩ := id F117
    have hin118 : ¬ ((0 : Int32) < 0 ∨ cl118.slots.size ≤ ((0 : Int32)).toNatClampNeg) := inb_of S118 ⟨by decide, by decide⟩
    have hat118 : cl118.slots[((0 : Int32)).toNatClampNeg]? = some (.int x0) := Has.at H118 hin118 rfl
    obtain ⟨cl119, Ar119, q119, S119, M119, H119, F119g⟩ := id G115
    have hin119 : ¬ ((0 : Int32) < 0 ∨ cl119.slots.size ≤ ((0 : Int32)).toNatClampNeg) := inb_of S119 ⟨by decide, by decide⟩
    obtain ⟨T119, h119, X119, e119, Wr119, st119⟩ := stC X115 hx hZ0 e115 Ar119 (j := (0 : Int32)) hin119 (g := (mkF m 32 #[.val (.ref c), .val (.int (1 : Int32))] [(.int x0), (.int (0 : Int32)), (.ref b115), (.ref b115), (.ref b113), (.ref b113)])) rfl rfl (hb hby d_method_3_32)
    have G119 : Arv Z h119 b115 k115 .char (1 : Int32) [(.int (nar .char x0))] (.int (0 : Int32)) := Arv.set Ar119 q119 S119 M119 H119 F119g (fits_nar_char _) Wr119 0 rfl (Nat.le_of_ble_eq_true rfl)
    have K119 := Keep.of_wr Wr119
    have N119 := Fr.snoc X119 N0 (Nat.le_trans Z0 (Nat.le_trans K113.1 (Nat.le_of_eq g115.symm)))
    have R120 : CHr Z EL_1 s.vm h0 s.vm h119 := R116.trans (CHr.keep K119 (sfS (Safe.arv hZ0.alike G115 (by intro q; cases q)) sf0) R116.1)
    have J119 : Arv Z h119 b115 k115 .char (1 : Int32) [(.int x0)] (.int (0 : Int32)) := by rw [own_nar8 (hb8 _ (List.mem_of_getElem? (i := 0) rfl))] at G119; exact G119
    have F121 : Exa Z h119 b113 "java/lang/String" := ((A113.keep K115).keep K119)
    have F122 : Fld Z h119 b113 "java/lang/String" "value" "[B" .null := ((G113_value.keep K115 nin0).keep K119 (ninS (Nat.ne_of_lt (Nat.lt_of_lt_of_le A113.lt (Nat.le_of_eq g115.symm))) nin0))
    have F123 : Fld Z h119 b113 "java/lang/String" "coder" "B" (.int (0 : Int32)) := ((G113_coder.keep K115 nin0).keep K119 (ninS (Nat.ne_of_lt (Nat.lt_of_lt_of_le A113.lt (Nat.le_of_eq g115.symm))) nin0))
    have O124 : Old Z n0 h119 := (((O0.keep K113 all0).keep K115 all0).keep K119 (allS (Nat.le_trans Z0 (Nat.le_trans K113.1 (Nat.le_of_eq g115.symm))) all0))
    obtain ⟨_, _, ⟨T125, L125, k125, n125⟩, -, X125, ⟨Lc125, hQ125, l125, y125, z125⟩, st125⟩ := X119.specialBack hx (y := yn9) rfl hown0 (mvT hZ0 (w43 hw)) (mvT hZ0 (w44 hw)) (mvT hZ0 (w45 hw)) (by decide) (backOf (W := 1) (rm_sinit l Z a0 hw [] b113 b115 k115 ([x0, x1, x2, x3, x4].take 1) cS h119 n0 (Nat.le_trans Z0 (Nat.le_trans (Nat.le_trans K113.1 K115.1) K119.1)) O124 S_cs hcS F121 F122 F123 (Nat.le_trans Z0 (Nat.le_of_eq g113.symm)) J119 (hb8.tk 1).1 (Nat.le_of_ble_eq_true rfl) (Nat.le_of_ble_eq_true rfl) (Nat.ne_of_lt (Nat.lt_of_lt_of_le A113.lt (Nat.le_of_eq g115.symm))) (hb8.tk 1).2) hZ0 (w45 hw) (w7 hw) (by decide) (by decide)) (g := (mkF m 33 #[.val (.ref c), .val (.int (1 : Int32))] [(.ref b115), (.ref b113), (.ref b113)])) rfl (by rw [hml]; rfl) (Steps.refl _) (a := b113) (argsL := [(.ref b115)]) (rest := [(.ref b113)]) (lenOf pd__28__5b_C_29_V rfl) rfl (by show 2 * 0 + _ ≤ _; exact Nat.le_of_eq rfl) (hb hby d_method_3_33) (fun _ _ => ⟨rfl, e119, (Nat.le_of_ble_eq_true rfl), (Nat.le_of_ble_eq_true rfl)⟩)
    dsimp only [Pt.U, Pt.locs, Pt.cells, Pt.slots] at X125 l125 y125 z125 st125 hQ125
    subst l125 y125 z125
    obtain ⟨t_126, kb_127, rfl, Nq125, K125, P125_0, P125_1⟩ := hQ125
    have N125 := Fr.app N119 Nq125
    have Sf128 : Safe Z EL_1 s.vm h119 b113 := (Safe.keep K119 (sfS (Safe.arv hZ0.alike G115 (by intro q; cases q)) sf0) R116.1 (Safe.keep K115 sf0 R114.1 (Safe.keep K113 sf0 R0.1 (Safe.new (Nat.le_of_eq g113.symm)))))
    have R129 : CHr Z EL_1 s.vm h0 s.vm T125.heap := R120.trans (CHr.keep K125 (sfS Sf128 sf0) R120.1)
    have W130 : ∀ zQ, SS p e below T125 m 36 #[.val (.ref c), .val (.int (1 : Int32))] [(.ref b113)] zQ → Steps p.tables e below (s₁.setTop (entryFrame m #[(.ref c), (.int (1 : Int32))] 2)) zQ := by
      intro tt kt
      refine W0 tt ?_
      refine XS.iloadN X0.here hx rfl (hb hby d_method_3_0) rfl ?_
      refine XS.ifYes X0.here hx rfl (pc0 := 1) (pc' := 15) rfl (hb hby d_method_3_1) rfl ((if0 _ _).trans (feq (by decide)).2) (by decide) (by decide) ?_
      refine XS.iloadN X0.here hx rfl (hb hby d_method_3_15) rfl ?_
      refine XS.iconst X0.here hx rfl (hb hby d_method_3_16) ?_
      refine XS.icmpNo X0.here hx rfl (hb hby d_method_3_17) rfl (teq (by decide)).2 ?_
      show SS p e below s₁ m 20 #[.val (.ref c), .val (.int (1 : Int32))] [] _
      refine st113 _ ?_
      refine XS.dup X113.here hx rfl (hb hby d_method_3_23) rfl rfl ?_
      refine XS.iconst X113.here hx rfl (hb hby d_method_3_24) ?_
      show SS p e below T113 m 25 #[.val (.ref c), .val (.int (1 : Int32))] [(.int (1 : Int32)), (.ref b113), (.ref b113)] _
      refine st115 _ ?_
      refine XS.dup X115.here hx rfl (hb hby d_method_3_27) rfl rfl ?_
      refine XS.iconst X115.here hx rfl (hb hby d_method_3_28) ?_
      refine XS.aloadN X115.here hx rfl (hb hby d_method_3_29) rfl rfl ?_
      refine XS.iconst X115.here hx rfl (hb hby d_method_3_30) ?_
      show SS p e below T115 m 31 #[.val (.ref c), .val (.int (1 : Int32))] [(.int (0 : Int32)), (.ref c), (.int (0 : Int32)), (.ref b115), (.ref b115), (.ref b113), (.ref b113)] _
      refine X115.caload hx (j := (0 : Int32)) (v := (.int x0)) (by first | exact Ar118.1 | (rw [e115]; exact Ar118.1)) (State.isArrayOf_alike hZ0.alike Ar118.2.1) Ar118.2.2 hin118 hat118 (g := (mkF m 31 #[.val (.ref c), .val (.int (1 : Int32))] [(.int (0 : Int32)), (.ref c), (.int (0 : Int32)), (.ref b115), (.ref b115), (.ref b113), (.ref b113)])) rfl rfl (hb hby d_method_3_31) _ ?_
      show SS p e below T115 m 32 #[.val (.ref c), .val (.int (1 : Int32))] [(.int x0), (.int (0 : Int32)), (.ref b115), (.ref b115), (.ref b113), (.ref b113)] _
      refine st119 _ ?_
      show SS p e below T119 m 33 #[.val (.ref c), .val (.int (1 : Int32))] [(.ref b115), (.ref b113), (.ref b113)] _
      refine st125.trans ?_
      exact kt
    obtain ⟨fs, hr, hrun, hended, hRW⟩ := Jvm.Stand.leaveW X125 hS0 (Nat.le_trans hk0 (Nat.le_trans (Nat.le_trans (Nat.le_trans K113.1 K115.1) K119.1) K125.1)) (v := some (.ref b113)) (fun h => by rw [Bd.returns] at h; cases h) (BodyLoose.notSynchronized Bd)
    refine ⟨_, _, W130 _ (own_retR X125 hx Bd.returns rfl rfl (hb hby d_method_3_36) hr), hrun, hended, _, _, rfl, ?_, own_chr (T := T125) R129 (CHv.at X125 hZ0 hEL R129.1) hh.symm rfl, own_rw hRW (by decide) (by decide)⟩
    show Q_make Z c (1 : Int32) kc x0 x1 x2 x3 x4 cS h0 n0 _ T125.heap _
    exact ⟨b113, t_126, kb_127, rfl, N125, (Keep.trans (Keep.trans (Keep.trans (Keep.trans (Keep.refl h0 []) K113 all0) K115 all0) K119 (allS (Or.inr (Nat.le_trans K113.1 (Nat.le_of_eq g115.symm))) all0)) K125 (allS (Or.inr (Nat.le_of_eq g113.symm)) all0)), (Nat.le_of_eq g113.symm), P125_1⟩
  ·
    obtain ⟨T131, h131, X131, e131, E131, A131, D131, U131, st131⟩ := newO X0 hx hZ0 hown0 (w42 hw) (w8 hw) (w7 hw) e0 (g := (mkF m 42 #[.val (.ref c), .val (.int (2 : Int32))] [])) rfl (hb hby d_method_3_42) (by decide) (by decide)
    obtain ⟨b131, g131⟩ : ∃ z, z = h0.size := ⟨_, rfl⟩
    rw [← g131] at A131 D131 U131 st131
    have K131 := (Keep.refl h0 []).ext E131
    have R132 : CHr Z EL_1 s.vm h0 s.vm h131 := R0.trans (CHr.keep K131 sf0 R0.1)
    have G131_value : Fld Z h131 b131 "java/lang/String" "value" "[B" .null := D131 (Or.inr (w10 hw)) (ty := (.array .byte)) (by decide)
    have G131_coder : Fld Z h131 b131 "java/lang/String" "coder" "B" (.int (0 : Int32)) := D131 (Or.inr (w11 hw)) (ty := .byte) (by decide)
    obtain ⟨T133, h133, k133, X133, e133, E133, A133, st133⟩ := newP X131 hx hZ0 (aty := .char) (w1 hw) e131 (g := (mkF m 47 #[.val (.ref c), .val (.int (2 : Int32))] [(.int (2 : Int32)), (.ref b131), (.ref b131)])) rfl (hb hby d_method_3_47) (n := (2 : Int32)) rfl (by decide) (cap := 2) (by decide) (by decide) (by decide) (by decide)
    obtain ⟨b133, g133⟩ : ∃ z, z = h131.size := ⟨_, rfl⟩
    rw [← g133] at A133 st133
    have K133 := (Keep.refl h131 []).ext E133
    have R134 : CHr Z EL_1 s.vm h0 s.vm h133 := R132.trans (CHr.keep K133 sf0 R132.1)
    have G133 : Arv Z h133 b133 k133 .char (2 : Int32) [(.int (0 : Int32)), (.int (0 : Int32))] (.int (0 : Int32)) := (Arv.new A133 (by decide)).pad (pad_rep [] (.int (0 : Int32)) 2)
    have F135 : Arv Z h133 c kc .char (5 : Int32) [(.int x0), (.int x1), (.int x2), (.int x3), (.int x4)] (.int (0 : Int32)) := ((V1.keep K131 nin0).keep K133 nin0)
    obtain ⟨cl136, Ar136, q136, S136, M136, H136, F136g⟩ := id F135
    have hin136 : ¬ ((0 : Int32) < 0 ∨ cl136.slots.size ≤ ((0 : Int32)).toNatClampNeg) := inb_of S136 ⟨by decide, by decide⟩
    have hat136 : cl136.slots[((0 : Int32)).toNatClampNeg]? = some (.int x0) := Has.at H136 hin136 rfl
    obtain ⟨cl137, Ar137, q137, S137, M137, H137, F137g⟩ := id G133
    have hin137 : ¬ ((0 : Int32) < 0 ∨ cl137.slots.size ≤ ((0 : Int32)).toNatClampNeg) := inb_of S137 ⟨by decide, by decide⟩
    obtain ⟨T137, h137, X137, e137, Wr137, st137⟩ := stC X133 hx hZ0 e133 Ar137 (j := (0 : Int32)) hin137 (g := (mkF m 54 #[.val (.ref c), .val (.int (2 : Int32))] [(.int x0), (.int (0 : Int32)), (.ref b133), (.ref b133), (.ref b131), (.ref b131)])) rfl rfl (hb hby d_method_3_54)
    have G137 : Arv Z h137 b133 k133 .char (2 : Int32) [(.int (nar .char x0)), (.int (0 : Int32))] (.int (0 : Int32)) := Arv.set Ar137 q137 S137 M137 H137 F137g (fits_nar_char _) Wr137 0 rfl (Nat.le_of_ble_eq_true rfl)
    have K137 := Keep.of_wr Wr137
    have N137 := Fr.snoc X137 N0 (Nat.le_trans Z0 (Nat.le_trans K131.1 (Nat.le_of_eq g133.symm)))
    have R138 : CHr Z EL_1 s.vm h0 s.vm h137 := R134.trans (CHr.keep K137 (sfS (Safe.arv hZ0.alike G133 (by intro q; cases q)) sf0) R134.1)
    have J137 : Arv Z h137 b133 k133 .char (2 : Int32) [(.int x0), (.int (0 : Int32))] (.int (0 : Int32)) := by rw [own_nar8 (hb8 _ (List.mem_of_getElem? (i := 0) rfl))] at G137; exact G137
    have F139 : Arv Z h137 c kc .char (5 : Int32) [(.int x0), (.int x1), (.int x2), (.int x3), (.int x4)] (.int (0 : Int32)) := (F135.keep K137 (ninS (Nat.ne_of_lt (Nat.lt_of_lt_of_le (Nat.lt_of_lt_of_le V1.lt K131.1) (Nat.le_of_eq g133.symm))) nin0))
    obtain ⟨cl140, Ar140, q140, S140, M140, H140, F140g⟩ := id F139
    have hin140 : ¬ ((1 : Int32) < 0 ∨ cl140.slots.size ≤ ((1 : Int32)).toNatClampNeg) := inb_of S140 ⟨by decide, by decide⟩
    have hat140 : cl140.slots[((1 : Int32)).toNatClampNeg]? = some (.int x1) := Has.at H140 hin140 rfl
    obtain ⟨cl141, Ar141, q141, S141, M141, H141, F141g⟩ := id J137
    have hin141 : ¬ ((1 : Int32) < 0 ∨ cl141.slots.size ≤ ((1 : Int32)).toNatClampNeg) := inb_of S141 ⟨by decide, by decide⟩
    obtain ⟨T141, h141, X141, e141, Wr141, st141⟩ := stC X137 hx hZ0 e137 Ar141 (j := (1 : Int32)) hin141 (g := (mkF m 60 #[.val (.ref c), .val (.int (2 : Int32))] [(.int x1), (.int (1 : Int32)), (.ref b133), (.ref b133), (.ref b131), (.ref b131)])) rfl rfl (hb hby d_method_3_60)
    have G141 : Arv Z h141 b133 k133 .char (2 : Int32) [(.int x0), (.int (nar .char x1))] (.int (0 : Int32)) := Arv.set Ar141 q141 S141 M141 H141 F141g (fits_nar_char _) Wr141 1 rfl (Nat.le_of_ble_eq_true rfl)
    have K141 := Keep.of_wr Wr141
    have N141 := Fr.snoc X141 N137 (Nat.le_trans Z0 (Nat.le_trans K131.1 (Nat.le_of_eq g133.symm)))
    have R142 : CHr Z EL_1 s.vm h0 s.vm h141 := R138.trans (CHr.keep K141 (sfS (Safe.arv hZ0.alike J137 (by intro q; cases q)) sf0) R138.1)
    have J141 : Arv Z h141 b133 k133 .char (2 : Int32) [(.int x0), (.int x1)] (.int (0 : Int32)) := by rw [own_nar8 (hb8 _ (List.mem_of_getElem? (i := 1) rfl))] at G141; exact G141
    have F143 : Exa Z h141 b131 "java/lang/String" := (((A131.keep K133).keep K137).keep K141)
    have F144 : Fld Z h141 b131 "java/lang/String" "value" "[B" .null := (((G131_value.keep K133 nin0).keep K137 (ninS (Nat.ne_of_lt (Nat.lt_of_lt_of_le A131.lt (Nat.le_of_eq g133.symm))) nin0)).keep K141 (ninS (Nat.ne_of_lt (Nat.lt_of_lt_of_le A131.lt (Nat.le_of_eq g133.symm))) nin0))
    have F145 : Fld Z h141 b131 "java/lang/String" "coder" "B" (.int (0 : Int32)) := (((G131_coder.keep K133 nin0).keep K137 (ninS (Nat.ne_of_lt (Nat.lt_of_lt_of_le A131.lt (Nat.le_of_eq g133.symm))) nin0)).keep K141 (ninS (Nat.ne_of_lt (Nat.lt_of_lt_of_le A131.lt (Nat.le_of_eq g133.symm))) nin0))
    have O146 : Old Z n0 h141 := ((((O0.keep K131 all0).keep K133 all0).keep K137 (allS (Nat.le_trans Z0 (Nat.le_trans K131.1 (Nat.le_of_eq g133.symm))) all0)).keep K141 (allS (Nat.le_trans Z0 (Nat.le_trans K131.1 (Nat.le_of_eq g133.symm))) all0))
    obtain ⟨_, _, ⟨T147, L147, k147, n147⟩, -, X147, ⟨Lc147, hQ147, l147, y147, z147⟩, st147⟩ := X141.specialBack hx (y := yn9) rfl hown0 (mvT hZ0 (w43 hw)) (mvT hZ0 (w44 hw)) (mvT hZ0 (w45 hw)) (by decide) (backOf (W := 1) (rm_sinit l Z a0 hw [] b131 b133 k133 ([x0, x1, x2, x3, x4].take 2) cS h141 n0 (Nat.le_trans Z0 (Nat.le_trans (Nat.le_trans (Nat.le_trans K131.1 K133.1) K137.1) K141.1)) O146 S_cs hcS F143 F144 F145 (Nat.le_trans Z0 (Nat.le_of_eq g131.symm)) J141 (hb8.tk 2).1 (Nat.le_of_ble_eq_true rfl) (Nat.le_of_ble_eq_true rfl) (Nat.ne_of_lt (Nat.lt_of_lt_of_le A131.lt (Nat.le_of_eq g133.symm))) (hb8.tk 2).2) hZ0 (w45 hw) (w7 hw) (by decide) (by decide)) (g := (mkF m 61 #[.val (.ref c), .val (.int (2 : Int32))] [(.ref b133), (.ref b131), (.ref b131)])) rfl (by rw [hml]; rfl) (Steps.refl _) (a := b131) (argsL := [(.ref b133)]) (rest := [(.ref b131)]) (lenOf pd__28__5b_C_29_V rfl) rfl (by show 2 * 0 + _ ≤ _; exact Nat.le_of_eq rfl) (hb hby d_method_3_61) (fun _ _ => ⟨rfl, e141, (Nat.le_of_ble_eq_true rfl), (Nat.le_of_ble_eq_true rfl)⟩)
    dsimp only [Pt.U, Pt.locs, Pt.cells, Pt.slots] at X147 l147 y147 z147 st147 hQ147
    subst l147 y147 z147
    obtain ⟨t_148, kb_149, rfl, Nq147, K147, P147_0, P147_1⟩ := hQ147
    have N147 := Fr.app N141 Nq147
    have Sf150 : Safe Z EL_1 s.vm h141 b131 := (Safe.keep K141 (sfS (Safe.arv hZ0.alike J137 (by intro q; cases q)) sf0) R138.1 (Safe.keep K137 (sfS (Safe.arv hZ0.alike G133 (by intro q; cases q)) sf0) R134.1 (Safe.keep K133 sf0 R132.1 (Safe.keep K131 sf0 R0.1 (Safe.new (Nat.le_of_eq g131.symm))))))
    have R151 : CHr Z EL_1 s.vm h0 s.vm T147.heap := R142.trans (CHr.keep K147 (sfS Sf150 sf0) R142.1)
    have W152 : ∀ zQ, SS p e below T147 m 64 #[.val (.ref c), .val (.int (2 : Int32))] [(.ref b131)] zQ → Steps p.tables e below (s₁.setTop (entryFrame m #[(.ref c), (.int (2 : Int32))] 2)) zQ := by
      intro tt kt
      refine W0 tt ?_
      refine XS.iloadN X0.here hx rfl (hb hby d_method_3_0) rfl ?_
      refine XS.ifYes X0.here hx rfl (pc0 := 1) (pc' := 15) rfl (hb hby d_method_3_1) rfl ((if0 _ _).trans (feq (by decide)).2) (by decide) (by decide) ?_
      refine XS.iloadN X0.here hx rfl (hb hby d_method_3_15) rfl ?_
      refine XS.iconst X0.here hx rfl (hb hby d_method_3_16) ?_
      refine XS.icmpYes X0.here hx rfl (pc0 := 17) (pc' := 37) rfl (hb hby d_method_3_17) rfl (feq (by decide)).2 (by decide) (by decide) ?_
      refine XS.iloadN X0.here hx rfl (hb hby d_method_3_37) rfl ?_
      show SS p e below s₁ m 38 #[.val (.ref c), .val (.int (2 : Int32))] [(.int (2 : Int32))] _
      refine XS.iconst X0.here hx rfl (hb hby d_method_3_38) ?_
      refine XS.icmpNo X0.here hx rfl (hb hby d_method_3_39) rfl (teq (by decide)).2 ?_
      show SS p e below s₁ m 42 #[.val (.ref c), .val (.int (2 : Int32))] [] _
      refine st131 _ ?_
      refine XS.dup X131.here hx rfl (hb hby d_method_3_45) rfl rfl ?_
      refine XS.iconst X131.here hx rfl (hb hby d_method_3_46) ?_
      show SS p e below T131 m 47 #[.val (.ref c), .val (.int (2 : Int32))] [(.int (2 : Int32)), (.ref b131), (.ref b131)] _
      refine st133 _ ?_
      refine XS.dup X133.here hx rfl (hb hby d_method_3_49) rfl rfl ?_
      refine XS.iconst X133.here hx rfl (hb hby d_method_3_50) ?_
      refine XS.aloadN X133.here hx rfl (hb hby d_method_3_51) rfl rfl ?_
      refine XS.iconst X133.here hx rfl (hb hby d_method_3_52) ?_
      show SS p e below T133 m 53 #[.val (.ref c), .val (.int (2 : Int32))] [(.int (0 : Int32)), (.ref c), (.int (0 : Int32)), (.ref b133), (.ref b133), (.ref b131), (.ref b131)] _
      refine X133.caload hx (j := (0 : Int32)) (v := (.int x0)) (by first | exact Ar136.1 | (rw [e133]; exact Ar136.1)) (State.isArrayOf_alike hZ0.alike Ar136.2.1) Ar136.2.2 hin136 hat136 (g := (mkF m 53 #[.val (.ref c), .val (.int (2 : Int32))] [(.int (0 : Int32)), (.ref c), (.int (0 : Int32)), (.ref b133), (.ref b133), (.ref b131), (.ref b131)])) rfl rfl (hb hby d_method_3_53) _ ?_
      show SS p e below T133 m 54 #[.val (.ref c), .val (.int (2 : Int32))] [(.int x0), (.int (0 : Int32)), (.ref b133), (.ref b133), (.ref b131), (.ref b131)] _
      refine st137 _ ?_
      refine XS.dup X137.here hx rfl (hb hby d_method_3_55) rfl rfl ?_
      refine XS.iconst X137.here hx rfl (hb hby d_method_3_56) ?_
      refine XS.aloadN X137.here hx rfl (hb hby d_method_3_57) rfl rfl ?_
      refine XS.iconst X137.here hx rfl (hb hby d_method_3_58) ?_
      show SS p e below T137 m 59 #[.val (.ref c), .val (.int (2 : Int32))] [(.int (1 : Int32)), (.ref c), (.int (1 : Int32)), (.ref b133), (.ref b133), (.ref b131), (.ref b131)] _
      refine X137.caload hx (j := (1 : Int32)) (v := (.int x1)) (by first | exact Ar140.1 | (rw [e137]; exact Ar140.1)) (State.isArrayOf_alike hZ0.alike Ar140.2.1) Ar140.2.2 hin140 hat140 (g := (mkF m 59 #[.val (.ref c), .val (.int (2 : Int32))] [(.int (1 : Int32)), (.ref c), (.int (1 : Int32)), (.ref b133), (.ref b133), (.ref b131), (.ref b131)])) rfl rfl (hb hby d_method_3_59) _ ?_
      show SS p e below T137 m 60 #[.val (.ref c), .val (.int (2 : Int32))] [(.int x1), (.int (1 : Int32)), (.ref b133), (.ref b133), (.ref b131), (.ref b131)] _
      refine st141 _ ?_
      show SS p e below T141 m 61 #[.val (.ref c), .val (.int (2 : Int32))] [(.ref b133), (.ref b131), (.ref b131)] _
      refine st147.trans ?_
      exact kt
    obtain ⟨fs, hr, hrun, hended, hRW⟩ := Jvm.Stand.leaveW X147 hS0 (Nat.le_trans hk0 (Nat.le_trans (Nat.le_trans (Nat.le_trans (Nat.le_trans K131.1 K133.1) K137.1) K141.1) K147.1)) (v := some (.ref b131)) (fun h => by rw [Bd.returns] at h; cases h) (BodyLoose.notSynchronized Bd)
    refine ⟨_, _, W152 _ (own_retR X147 hx Bd.returns rfl rfl (hb hby d_method_3_64) hr), hrun, hended, _, _, rfl, ?_, own_chr (T := T147) R151 (CHv.at X147 hZ0 hEL R151.1) hh.symm rfl, own_rw hRW (by decide) (by decide)⟩
    show Q_make Z c (2 : Int32) kc x0 x1 x2 x3 x4 cS h0 n0 _ T147.heap _
    exact ⟨b131, t_148, kb_149, rfl, N147, (Keep.trans (Keep.trans (Keep.trans (Keep.trans (Keep.trans (Keep.refl h0 []) K131 all0) K133 all0) K137 (allS (Or.inr (Nat.le_trans K131.1 (Nat.le_of_eq g133.symm))) all0)) K141 (allS (Or.inr (Nat.le_trans K131.1 (Nat.le_of_eq g133.symm))) all0)) K147 (allS (Or.inr (Nat.le_of_eq g131.symm)) all0)), (Nat.le_of_eq g131.symm), P147_1⟩
  ·
    obtain ⟨T153, h153, X153, e153, E153, A153, D153, U153, st153⟩ := newO X0 hx hZ0 hown0 (w42 hw) (w8 hw) (w7 hw) e0 (g := (mkF m 70 #[.val (.ref c), .val (.int (3 : Int32))] [])) rfl (hb hby d_method_3_70) (by decide) (by decide)
    obtain ⟨b153, g153⟩ : ∃ z, z = h0.size := ⟨_, rfl⟩
    rw [← g153] at A153 D153 U153 st153
    have K153 := (Keep.refl h0 []).ext E153
    have R154 : CHr Z EL_1 s.vm h0 s.vm h153 := R0.trans (CHr.keep K153 sf0 R0.1)
    have G153_value : Fld Z h153 b153 "java/lang/String" "value" "[B" .null := D153 (Or.inr (w10 hw)) (ty := (.array .byte)) (by decide)
    have G153_coder : Fld Z h153 b153 "java/lang/String" "coder" "B" (.int (0 : Int32)) := D153 (Or.inr (w11 hw)) (ty := .byte) (by decide)
    obtain ⟨T155, h155, k155, X155, e155, E155, A155, st155⟩ := newP X153 hx hZ0 (aty := .char) (w1 hw) e153 (g := (mkF m 75 #[.val (.ref c), .val (.int (3 : Int32))] [(.int (3 : Int32)), (.ref b153), (.ref b153)])) rfl (hb hby d_method_3_75) (n := (3 : Int32)) rfl (by decide) (cap := 3) (by decide) (by decide) (by decide) (by decide)
    obtain ⟨b155, g155⟩ : ∃ z, z = h153.size := ⟨_, rfl⟩
    rw [← g155] at A155 st155
    have K155 := (Keep.refl h153 []).ext E155
    have R156 : CHr Z EL_1 s.vm h0 s.vm h155 := R154.trans (CHr.keep K155 sf0 R154.1)
    have G155 : Arv Z h155 b155 k155 .char (3 : Int32) [(.int (0 : Int32)), (.int (0 : Int32)), (.int (0 : Int32))] (.int (0 : Int32)) := (Arv.new A155 (by decide)).pad (pad_rep [] (.int (0 : Int32)) 3)
    have F157 : Arv Z h155 c kc .char (5 : Int32) [(.int x0), (.int x1), (.int x2), (.int x3), (.int x4)] (.int (0 : Int32)) := ((V1.keep K153 nin0).keep K155 nin0)
    obtain ⟨cl158, Ar158, q158, S158, M158, H158, F158g⟩ := id F157
    have hin158 : ¬ ((0 : Int32) < 0 ∨ cl158.slots.size ≤ ((0 : Int32)).toNatClampNeg) := inb_of S158 ⟨by decide, by decide⟩
    have hat158 : cl158.slots[((0 : Int32)).toNatClampNeg]? = some (.int x0) := Has.at H158 hin158 rfl
    obtain ⟨cl159, Ar159, q159, S159, M159, H159, F159g⟩ := id G155
    have hin159 : ¬ ((0 : Int32) < 0 ∨ cl159.slots.size ≤ ((0 : Int32)).toNatClampNeg) := inb_of S159 ⟨by decide, by decide⟩
    obtain ⟨T159, h159, X159, e159, Wr159, st159⟩ := stC X155 hx hZ0 e155 Ar159 (j := (0 : Int32)) hin159 (g := (mkF m 82 #[.val (.ref c), .val (.int (3 : Int32))] [(.int x0), (.int (0 : Int32)), (.ref b155), (.ref b155), (.ref b153), (.ref b153)])) rfl rfl (hb hby d_method_3_82)
    have G159 : Arv Z h159 b155 k155 .char (3 : Int32) [(.int (nar .char x0)), (.int (0 : Int32)), (.int (0 : Int32))] (.int (0 : Int32)) := Arv.set Ar159 q159 S159 M159 H159 F159g (fits_nar_char _) Wr159 0 rfl (Nat.le_of_ble_eq_true rfl)
    have K159 := Keep.of_wr Wr159
    have N159 := Fr.snoc X159 N0 (Nat.le_trans Z0 (Nat.le_trans K153.1 (Nat.le_of_eq g155.symm)))
    have R160 : CHr Z EL_1 s.vm h0 s.vm h159 := R156.trans (CHr.keep K159 (sfS (Safe.arv hZ0.alike G155 (by intro q; cases q)) sf0) R156.1)
    have J159 : Arv Z h159 b155 k155 .char (3 : Int32) [(.int x0), (.int (0 : Int32)), (.int (0 : Int32))] (.int (0 : Int32)) := by rw [own_nar8 (hb8 _ (List.mem_of_getElem? (i := 0) rfl))] at G159; exact G159
    have F161 : Arv Z h159 c kc .char (5 : Int32) [(.int x0), (.int x1), (.int x2), (.int x3), (.int x4)] (.int (0 : Int32)) := (F157.keep K159 (ninS (Nat.ne_of_lt (Nat.lt_of_lt_of_le (Nat.lt_of_lt_of_le V1.lt K153.1) (Nat.le_of_eq g155.symm))) nin0))
    obtain ⟨cl162, Ar162, q162, S162, M162, H162, F162g⟩ := id F161
    have hin162 : ¬ ((1 : Int32) < 0 ∨ cl162.slots.size ≤ ((1 : Int32)).toNatClampNeg) := inb_of S162 ⟨by decide, by decide⟩
    have hat162 : cl162.slots[((1 : Int32)).toNatClampNeg]? = some (.int x1) := Has.at H162 hin162 rfl
    obtain ⟨cl163, Ar163, q163, S163, M163, H163, F163g⟩ := id J159
    have hin163 : ¬ ((1 : Int32) < 0 ∨ cl163.slots.size ≤ ((1 : Int32)).toNatClampNeg) := inb_of S163 ⟨by decide, by decide⟩
    obtain ⟨T163, h163, X163, e163, Wr163, st163⟩ := stC X159 hx hZ0 e159 Ar163 (j := (1 : Int32)) hin163 (g := (mkF m 88 #[.val (.ref c), .val (.int (3 : Int32))] [(.int x1), (.int (1 : Int32)), (.ref b155), (.ref b155), (.ref b153), (.ref b153)])) rfl rfl (hb hby d_method_3_88)
    have G163 : Arv Z h163 b155 k155 .char (3 : Int32) [(.int x0), (.int (nar .char x1)), (.int (0 : Int32))] (.int (0 : Int32)) := Arv.set Ar163 q163 S163 M163 H163 F163g (fits_nar_char _) Wr163 1 rfl (Nat.le_of_ble_eq_true rfl)
    have K163 := Keep.of_wr Wr163
    have N163 := Fr.snoc X163 N159 (Nat.le_trans Z0 (Nat.le_trans K153.1 (Nat.le_of_eq g155.symm)))
    have R164 : CHr Z EL_1 s.vm h0 s.vm h163 := R160.trans (CHr.keep K163 (sfS (Safe.arv hZ0.alike J159 (by intro q; cases q)) sf0) R160.1)
    have J163 : Arv Z h163 b155 k155 .char (3 : Int32) [(.int x0), (.int x1), (.int (0 : Int32))] (.int (0 : Int32)) := by rw [own_nar8 (hb8 _ (List.mem_of_getElem? (i := 1) rfl))] at G163; exact G163
    have F165 : Arv Z h163 c kc .char (5 : Int32) [(.int x0), (.int x1), (.int x2), (.int x3), (.int x4)] (.int (0 : Int32)) := (F161.keep K163 (ninS (Nat.ne_of_lt (Nat.lt_of_lt_of_le (Nat.lt_of_lt_of_le V1.lt K153.1) (Nat.le_of_eq g155.symm))) nin0))
    obtain ⟨cl166, Ar166, q166, S166, M166, H166, F166g⟩ := id F165
    have hin166 : ¬ ((2 : Int32) < 0 ∨ cl166.slots.size ≤ ((2 : Int32)).toNatClampNeg) := inb_of S166 ⟨by decide, by decide⟩
    have hat166 : cl166.slots[((2 : Int32)).toNatClampNeg]? = some (.int x2) := Has.at H166 hin166 rfl
    obtain ⟨cl167, Ar167, q167, S167, M167, H167, F167g⟩ := id J163
    have hin167 : ¬ ((2 : Int32) < 0 ∨ cl167.slots.size ≤ ((2 : Int32)).toNatClampNeg) := inb_of S167 ⟨by decide, by decide⟩
    obtain ⟨T167, h167, X167, e167, Wr167, st167⟩ := stC X163 hx hZ0 e163 Ar167 (j := (2 : Int32)) hin167 (g := (mkF m 94 #[.val (.ref c), .val (.int (3 : Int32))] [(.int x2), (.int (2 : Int32)), (.ref b155), (.ref b155), (.ref b153), (.ref b153)])) rfl rfl (hb hby d_method_3_94)
    have G167 : Arv Z h167 b155 k155 .char (3 : Int32) [(.int x0), (.int x1), (.int (nar .char x2))] (.int (0 : Int32)) := Arv.set Ar167 q167 S167 M167 H167 F167g (fits_nar_char _) Wr167 2 rfl (Nat.le_of_ble_eq_true rfl)
    have K167 := Keep.of_wr Wr167
    have N167 := Fr.snoc X167 N163 (Nat.le_trans Z0 (Nat.le_trans K153.1 (Nat.le_of_eq g155.symm)))
    have R168 : CHr Z EL_1 s.vm h0 s.vm h167 := R164.trans (CHr.keep K167 (sfS (Safe.arv hZ0.alike J163 (by intro q; cases q)) sf0) R164.1)
    have J167 : Arv Z h167 b155 k155 .char (3 : Int32) [(.int x0), (.int x1), (.int x2)] (.int (0 : Int32)) := by rw [own_nar8 (hb8 _ (List.mem_of_getElem? (i := 2) rfl))] at G167; exact G167
    have F169 : Exa Z h167 b153 "java/lang/String" := ((((A153.keep K155).keep K159).keep K163).keep K167)
    have F170 : Fld Z h167 b153 "java/lang/String" "value" "[B" .null := ((((G153_value.keep K155 nin0).keep K159 (ninS (Nat.ne_of_lt (Nat.lt_of_lt_of_le A153.lt (Nat.le_of_eq g155.symm))) nin0)).keep K163 (ninS (Nat.ne_of_lt (Nat.lt_of_lt_of_le A153.lt (Nat.le_of_eq g155.symm))) nin0)).keep K167 (ninS (Nat.ne_of_lt (Nat.lt_of_lt_of_le A153.lt (Nat.le_of_eq g155.symm))) nin0))
    have F171 : Fld Z h167 b153 "java/lang/String" "coder" "B" (.int (0 : Int32)) := ((((G153_coder.keep K155 nin0).keep K159 (ninS (Nat.ne_of_lt (Nat.lt_of_lt_of_le A153.lt (Nat.le_of_eq g155.symm))) nin0)).keep K163 (ninS (Nat.ne_of_lt (Nat.lt_of_lt_of_le A153.lt (Nat.le_of_eq g155.symm))) nin0)).keep K167 (ninS (Nat.ne_of_lt (Nat.lt_of_lt_of_le A153.lt (Nat.le_of_eq g155.symm))) nin0))
    have O172 : Old Z n0 h167 := (((((O0.keep K153 all0).keep K155 all0).keep K159 (allS (Nat.le_trans Z0 (Nat.le_trans K153.1 (Nat.le_of_eq g155.symm))) all0)).keep K163 (allS (Nat.le_trans Z0 (Nat.le_trans K153.1 (Nat.le_of_eq g155.symm))) all0)).keep K167 (allS (Nat.le_trans Z0 (Nat.le_trans K153.1 (Nat.le_of_eq g155.symm))) all0))
    obtain ⟨_, _, ⟨T173, L173, k173, n173⟩, -, X173, ⟨Lc173, hQ173, l173, y173, z173⟩, st173⟩ := X167.specialBack hx (y := yn9) rfl hown0 (mvT hZ0 (w43 hw)) (mvT hZ0 (w44 hw)) (mvT hZ0 (w45 hw)) (by decide) (backOf (W := 1) (rm_sinit l Z a0 hw [] b153 b155 k155 ([x0, x1, x2, x3, x4].take 3) cS h167 n0 (Nat.le_trans Z0 (Nat.le_trans (Nat.le_trans (Nat.le_trans (Nat.le_trans K153.1 K155.1) K159.1) K163.1) K167.1)) O172 S_cs hcS F169 F170 F171 (Nat.le_trans Z0 (Nat.le_of_eq g153.symm)) J167 (hb8.tk 3).1 (Nat.le_of_ble_eq_true rfl) (Nat.le_of_ble_eq_true rfl) (Nat.ne_of_lt (Nat.lt_of_lt_of_le A153.lt (Nat.le_of_eq g155.symm))) (hb8.tk 3).2) hZ0 (w45 hw) (w7 hw) (by decide) (by decide)) (g := (mkF m 95 #[.val (.ref c), .val (.int (3 : Int32))] [(.ref b155), (.ref b153), (.ref b153)])) rfl (by rw [hml]; rfl) (Steps.refl _) (a := b153) (argsL := [(.ref b155)]) (rest := [(.ref b153)]) (lenOf pd__28__5b_C_29_V rfl) rfl (by show 2 * 0 + _ ≤ _; exact Nat.le_of_eq rfl) (hb hby d_method_3_95) (fun _ _ => ⟨rfl, e167, (Nat.le_of_ble_eq_true rfl), (Nat.le_of_ble_eq_true rfl)⟩)
    dsimp only [Pt.U, Pt.locs, Pt.cells, Pt.slots] at X173 l173 y173 z173 st173 hQ173
    subst l173 y173 z173
    obtain ⟨t_174, kb_175, rfl, Nq173, K173, P173_0, P173_1⟩ := hQ173
    have N173 := Fr.app N167 Nq173
    have Sf176 : Safe Z EL_1 s.vm h167 b153 := (Safe.keep K167 (sfS (Safe.arv hZ0.alike J163 (by intro q; cases q)) sf0) R164.1 (Safe.keep K163 (sfS (Safe.arv hZ0.alike J159 (by intro q; cases q)) sf0) R160.1 (Safe.keep K159 (sfS (Safe.arv hZ0.alike G155 (by intro q; cases q)) sf0) R156.1 (Safe.keep K155 sf0 R154.1 (Safe.keep K153 sf0 R0.1 (Safe.new (Nat.le_of_eq g153.symm)))))))
    have R177 : CHr Z EL_1 s.vm h0 s.vm T173.heap := R168.trans (CHr.keep K173 (sfS Sf176 sf0) R168.1)
    have W178 : ∀ zQ, SS p e below T173 m 98 #[.val (.ref c), .val (.int (3 : Int32))] [(.ref b153)] zQ → Steps p.tables e below (s₁.setTop (entryFrame m #[(.ref c), (.int (3 : Int32))] 2)) zQ := by
      intro tt kt
      refine W0 tt ?_
      refine XS.iloadN X0.here hx rfl (hb hby d_method_3_0) rfl ?_
      refine XS.ifYes X0.here hx rfl (pc0 := 1) (pc' := 15) rfl (hb hby d_method_3_1) rfl ((if0 _ _).trans (feq (by decide)).2) (by decide) (by decide) ?_
      refine XS.iloadN X0.here hx rfl (hb hby d_method_3_15) rfl ?_
      refine XS.iconst X0.here hx rfl (hb hby d_method_3_16) ?_
      refine XS.icmpYes X0.here hx rfl (pc0 := 17) (pc' := 37) rfl (hb hby d_method_3_17) rfl (feq (by decide)).2 (by decide) (by decide) ?_
      refine XS.iloadN X0.here hx rfl (hb hby d_method_3_37) rfl ?_
      show SS p e below s₁ m 38 #[.val (.ref c), .val (.int (3 : Int32))] [(.int (3 : Int32))] _
      refine XS.iconst X0.here hx rfl (hb hby d_method_3_38) ?_
      refine XS.icmpYes X0.here hx rfl (pc0 := 39) (pc' := 65) rfl (hb hby d_method_3_39) rfl (feq (by decide)).2 (by decide) (by decide) ?_
      refine XS.iloadN X0.here hx rfl (hb hby d_method_3_65) rfl ?_
      refine XS.iconst X0.here hx rfl (hb hby d_method_3_66) ?_
      refine XS.icmpNo X0.here hx rfl (hb hby d_method_3_67) rfl (teq (by decide)).2 ?_
      show SS p e below s₁ m 70 #[.val (.ref c), .val (.int (3 : Int32))] [] _
      refine st153 _ ?_
      refine XS.dup X153.here hx rfl (hb hby d_method_3_73) rfl rfl ?_
      refine XS.iconst X153.here hx rfl (hb hby d_method_3_74) ?_
      show SS p e below T153 m 75 #[.val (.ref c), .val (.int (3 : Int32))] [(.int (3 : Int32)), (.ref b153), (.ref b153)] _
      refine st155 _ ?_
      refine XS.dup X155.here hx rfl (hb hby d_method_3_77) rfl rfl ?_
      refine XS.iconst X155.here hx rfl (hb hby d_method_3_78) ?_
      refine XS.aloadN X155.here hx rfl (hb hby d_method_3_79) rfl rfl ?_
      refine XS.iconst X155.here hx rfl (hb hby d_method_3_80) ?_
      show SS p e below T155 m 81 #[.val (.ref c), .val (.int (3 : Int32))] [(.int (0 : Int32)), (.ref c), (.int (0 : Int32)), (.ref b155), (.ref b155), (.ref b153), (.ref b153)] _
      refine X155.caload hx (j := (0 : Int32)) (v := (.int x0)) (by first | exact Ar158.1 | (rw [e155]; exact Ar158.1)) (State.isArrayOf_alike hZ0.alike Ar158.2.1) Ar158.2.2 hin158 hat158 (g := (mkF m 81 #[.val (.ref c), .val (.int (3 : Int32))] [(.int (0 : Int32)), (.ref c), (.int (0 : Int32)), (.ref b155), (.ref b155), (.ref b153), (.ref b153)])) rfl rfl (hb hby d_method_3_81) _ ?_
      show SS p e below T155 m 82 #[.val (.ref c), .val (.int (3 : Int32))] [(.int x0), (.int (0 : Int32)), (.ref b155), (.ref b155), (.ref b153), (.ref b153)] _
      refine st159 _ ?_
      refine XS.dup X159.here hx rfl (hb hby d_method_3_83) rfl rfl ?_
      refine XS.iconst X159.here hx rfl (hb hby d_method_3_84) ?_
      refine XS.aloadN X159.here hx rfl (hb hby d_method_3_85) rfl rfl ?_
      refine XS.iconst X159.here hx rfl (hb hby d_method_3_86) ?_
      show SS p e below T159 m 87 #[.val (.ref c), .val (.int (3 : Int32))] [(.int (1 : Int32)), (.ref c), (.int (1 : Int32)), (.ref b155), (.ref b155), (.ref b153), (.ref b153)] _
      refine X159.caload hx (j := (1 : Int32)) (v := (.int x1)) (by first | exact Ar162.1 | (rw [e159]; exact Ar162.1)) (State.isArrayOf_alike hZ0.alike Ar162.2.1) Ar162.2.2 hin162 hat162 (g := (mkF m 87 #[.val (.ref c), .val (.int (3 : Int32))] [(.int (1 : Int32)), (.ref c), (.int (1 : Int32)), (.ref b155), (.ref b155), (.ref b153), (.ref b153)])) rfl rfl (hb hby d_method_3_87) _ ?_
      show SS p e below T159 m 88 #[.val (.ref c), .val (.int (3 : Int32))] [(.int x1), (.int (1 : Int32)), (.ref b155), (.ref b155), (.ref b153), (.ref b153)] _
      refine st163 _ ?_
      refine XS.dup X163.here hx rfl (hb hby d_method_3_89) rfl rfl ?_
      refine XS.iconst X163.here hx rfl (hb hby d_method_3_90) ?_
      refine XS.aloadN X163.here hx rfl (hb hby d_method_3_91) rfl rfl ?_
      refine XS.iconst X163.here hx rfl (hb hby d_method_3_92) ?_
      show SS p e below T163 m 93 #[.val (.ref c), .val (.int (3 : Int32))] [(.int (2 : Int32)), (.ref c), (.int (2 : Int32)), (.ref b155), (.ref b155), (.ref b153), (.ref b153)] _
      refine X163.caload hx (j := (2 : Int32)) (v := (.int x2)) (by first | exact Ar166.1 | (rw [e163]; exact Ar166.1)) (State.isArrayOf_alike hZ0.alike Ar166.2.1) Ar166.2.2 hin166 hat166 (g := (mkF m 93 #[.val (.ref c), .val (.int (3 : Int32))] [(.int (2 : Int32)), (.ref c), (.int (2 : Int32)), (.ref b155), (.ref b155), (.ref b153), (.ref b153)])) rfl rfl (hb hby d_method_3_93) _ ?_
      show SS p e below T163 m 94 #[.val (.ref c), .val (.int (3 : Int32))] [(.int x2), (.int (2 : Int32)), (.ref b155), (.ref b155), (.ref b153), (.ref b153)] _
      refine st167 _ ?_
      show SS p e below T167 m 95 #[.val (.ref c), .val (.int (3 : Int32))] [(.ref b155), (.ref b153), (.ref b153)] _
      refine st173.trans ?_
      exact kt
    obtain ⟨fs, hr, hrun, hended, hRW⟩ := Jvm.Stand.leaveW X173 hS0 (Nat.le_trans hk0 (Nat.le_trans (Nat.le_trans (Nat.le_trans (Nat.le_trans (Nat.le_trans K153.1 K155.1) K159.1) K163.1) K167.1) K173.1)) (v := some (.ref b153)) (fun h => by rw [Bd.returns] at h; cases h) (BodyLoose.notSynchronized Bd)
    refine ⟨_, _, W178 _ (own_retR X173 hx Bd.returns rfl rfl (hb hby d_method_3_98) hr), hrun, hended, _, _, rfl, ?_, own_chr (T := T173) R177 (CHv.at X173 hZ0 hEL R177.1) hh.symm rfl, own_rw hRW (by decide) (by decide)⟩
    show Q_make Z c (3 : Int32) kc x0 x1 x2 x3 x4 cS h0 n0 _ T173.heap _
    exact ⟨b153, t_174, kb_175, rfl, N173, (Keep.trans (Keep.trans (Keep.trans (Keep.trans (Keep.trans (Keep.trans (Keep.refl h0 []) K153 all0) K155 all0) K159 (allS (Or.inr (Nat.le_trans K153.1 (Nat.le_of_eq g155.symm))) all0)) K163 (allS (Or.inr (Nat.le_trans K153.1 (Nat.le_of_eq g155.symm))) all0)) K167 (allS (Or.inr (Nat.le_trans K153.1 (Nat.le_of_eq g155.symm))) all0)) K173 (allS (Or.inr (Nat.le_of_eq g153.symm)) all0)), (Nat.le_of_eq g153.symm), P173_1⟩
  ·
    obtain ⟨T179, h179, X179, e179, E179, A179, D179, U179, st179⟩ := newO X0 hx hZ0 hown0 (w42 hw) (w8 hw) (w7 hw) e0 (g := (mkF m 104 #[.val (.ref c), .val (.int (4 : Int32))] [])) rfl (hb hby d_method_3_104) (by decide) (by decide)
    obtain ⟨b179, g179⟩ : ∃ z, z = h0.size := ⟨_, rfl⟩
    rw [← g179] at A179 D179 U179 st179
    have K179 := (Keep.refl h0 []).ext E179
    have R180 : CHr Z EL_1 s.vm h0 s.vm h179 := R0.trans (CHr.keep K179 sf0 R0.1)
    have G179_value : Fld Z h179 b179 "java/lang/String" "value" "[B" .null := D179 (Or.inr (w10 hw)) (ty := (.array .byte)) (by decide)
    have G179_coder : Fld Z h179 b179 "java/lang/String" "coder" "B" (.int (0 : Int32)) := D179 (Or.inr (w11 hw)) (ty := .byte) (by decide)
    obtain ⟨T181, h181, k181, X181, e181, E181, A181, st181⟩ := newP X179 hx hZ0 (aty := .char) (w1 hw) e179 (g := (mkF m 109 #[.val (.ref c), .val (.int (4 : Int32))] [(.int (4 : Int32)), (.ref b179), (.ref b179)])) rfl (hb hby d_method_3_109) (n := (4 : Int32)) rfl (by decide) (cap := 4) (by decide) (by decide) (by decide) (by decide)
    obtain ⟨b181, g181⟩ : ∃ z, z = h179.size := ⟨_, rfl⟩
    rw [← g181] at A181 st181
    have K181 := (Keep.refl h179 []).ext E181
    have R182 : CHr Z EL_1 s.vm h0 s.vm h181 := R180.trans (CHr.keep K181 sf0 R180.1)
    have G181 : Arv Z h181 b181 k181 .char (4 : Int32) [(.int (0 : Int32)), (.int (0 : Int32)), (.int (0 : Int32)), (.int (0 : Int32))] (.int (0 : Int32)) := (Arv.new A181 (by decide)).pad (pad_rep [] (.int (0 : Int32)) 4)
    have F183 : Arv Z h181 c kc .char (5 : Int32) [(.int x0), (.int x1), (.int x2), (.int x3), (.int x4)] (.int (0 : Int32)) := ((V1.keep K179 nin0).keep K181 nin0)
    obtain ⟨cl184, Ar184, q184, S184, M184, H184, F184g⟩ := id F183
    have hin184 : ¬ ((0 : Int32) < 0 ∨ cl184.slots.size ≤ ((0 : Int32)).toNatClampNeg) := inb_of S184 ⟨by decide, by decide⟩
    have hat184 : cl184.slots[((0 : Int32)).toNatClampNeg]? = some (.int x0) := Has.at H184 hin184 rfl
    obtain ⟨cl185, Ar185, q185, S185, M185, H185, F185g⟩ := id G181
    have hin185 : ¬ ((0 : Int32) < 0 ∨ cl185.slots.size ≤ ((0 : Int32)).toNatClampNeg) := inb_of S185 ⟨by decide, by decide⟩
    obtain ⟨T185, h185, X185, e185, Wr185, st185⟩ := stC X181 hx hZ0 e181 Ar185 (j := (0 : Int32)) hin185 (g := (mkF m 116 #[.val (.ref c), .val (.int (4 : Int32))] [(.int x0), (.int (0 : Int32)), (.ref b181), (.ref b181), (.ref b179), (.ref b179)])) rfl rfl (hb hby d_method_3_116)
    have G185 : Arv Z h185 b181 k181 .char (4 : Int32) [(.int (nar .char x0)), (.int (0 : Int32)), (.int (0 : Int32)), (.int (0 : Int32))] (.int (0 : Int32)) := Arv.set Ar185 q185 S185 M185 H185 F185g (fits_nar_char _) Wr185 0 rfl (Nat.le_of_ble_eq_true rfl)
    have K185 := Keep.of_wr Wr185
    have N185 := Fr.snoc X185 N0 (Nat.le_trans Z0 (Nat.le_trans K179.1 (Nat.le_of_eq g181.symm)))
    have R186 : CHr Z EL_1 s.vm h0 s.vm h185 := R182.trans (CHr.keep K185 (sfS (Safe.arv hZ0.alike G181 (by intro q; cases q)) sf0) R182.1)
    have J185 : Arv Z h185 b181 k181 .char (4 : Int32) [(.int x0), (.int (0 : Int32)), (.int (0 : Int32)), (.int (0 : Int32))] (.int (0 : Int32)) := by rw [own_nar8 (hb8 _ (List.mem_of_getElem? (i := 0) rfl))] at G185; exact G185
    have F187 : Arv Z h185 c kc .char (5 : Int32) [(.int x0), (.int x1), (.int x2), (.int x3), (.int x4)] (.int (0 : Int32)) := (F183.keep K185 (ninS (Nat.ne_of_lt (Nat.lt_of_lt_of_le (Nat.lt_of_lt_of_le V1.lt K179.1) (Nat.le_of_eq g181.symm))) nin0))
    obtain ⟨cl188, Ar188, q188, S188, M188, H188, F188g⟩ := id F187
    have hin188 : ¬ ((1 : Int32) < 0 ∨ cl188.slots.size ≤ ((1 : Int32)).toNatClampNeg) := inb_of S188 ⟨by decide, by decide⟩
    have hat188 : cl188.slots[((1 : Int32)).toNatClampNeg]? = some (.int x1) := Has.at H188 hin188 rfl
    obtain ⟨cl189, Ar189, q189, S189, M189, H189, F189g⟩ := id J185
    have hin189 : ¬ ((1 : Int32) < 0 ∨ cl189.slots.size ≤ ((1 : Int32)).toNatClampNeg) := inb_of S189 ⟨by decide, by decide⟩
    obtain ⟨T189, h189, X189, e189, Wr189, st189⟩ := stC X185 hx hZ0 e185 Ar189 (j := (1 : Int32)) hin189 (g := (mkF m 122 #[.val (.ref c), .val (.int (4 : Int32))] [(.int x1), (.int (1 : Int32)), (.ref b181), (.ref b181), (.ref b179), (.ref b179)])) rfl rfl (hb hby d_method_3_122)
    have G189 : Arv Z h189 b181 k181 .char (4 : Int32) [(.int x0), (.int (nar .char x1)), (.int (0 : Int32)), (.int (0 : Int32))] (.int (0 : Int32)) := Arv.set Ar189 q189 S189 M189 H189 F189g (fits_nar_char _) Wr189 1 rfl (Nat.le_of_ble_eq_true rfl)
    have K189 := Keep.of_wr Wr189
    have N189 := Fr.snoc X189 N185 (Nat.le_trans Z0 (Nat.le_trans K179.1 (Nat.le_of_eq g181.symm)))
    have R190 : CHr Z EL_1 s.vm h0 s.vm h189 := R186.trans (CHr.keep K189 (sfS (Safe.arv hZ0.alike J185 (by intro q; cases q)) sf0) R186.1)
    have J189 : Arv Z h189 b181 k181 .char (4 : Int32) [(.int x0), (.int x1), (.int (0 : Int32)), (.int (0 : Int32))] (.int (0 : Int32)) := by rw [own_nar8 (hb8 _ (List.mem_of_getElem? (i := 1) rfl))] at G189; exact G189
    have F191 : Arv Z h189 c kc .char (5 : Int32) [(.int x0), (.int x1), (.int x2), (.int x3), (.int x4)] (.int (0 : Int32)) := (F187.keep K189 (ninS (Nat.ne_of_lt (Nat.lt_of_lt_of_le (Nat.lt_of_lt_of_le V1.lt K179.1) (Nat.le_of_eq g181.symm))) nin0))
    obtain ⟨cl192, Ar192, q192, S192, M192, H192, F192g⟩ := id F191
    have hin192 : ¬ ((2 : Int32) < 0 ∨ cl192.slots.size ≤ ((2 : Int32)).toNatClampNeg) := inb_of S192 ⟨by decide, by decide⟩
    have hat192 : cl192.slots[((2 : Int32)).toNatClampNeg]? = some (.int x2) := Has.at H192 hin192 rfl
    obtain ⟨cl193, Ar193, q193, S193, M193, H193, F193g⟩ := id J189
    have hin193 : ¬ ((2 : Int32) < 0 ∨ cl193.slots.size ≤ ((2 : Int32)).toNatClampNeg) := inb_of S193 ⟨by decide, by decide⟩
    obtain ⟨T193, h193, X193, e193, Wr193, st193⟩ := stC X189 hx hZ0 e189 Ar193 (j := (2 : Int32)) hin193 (g := (mkF m 128 #[.val (.ref c), .val (.int (4 : Int32))] [(.int x2), (.int (2 : Int32)), (.ref b181), (.ref b181), (.ref b179), (.ref b179)])) rfl rfl (hb hby d_method_3_128)
    have G193 : Arv Z h193 b181 k181 .char (4 : Int32) [(.int x0), (.int x1), (.int (nar .char x2)), (.int (0 : Int32))] (.int (0 : Int32)) := Arv.set Ar193 q193 S193 M193 H193 F193g (fits_nar_char _) Wr193 2 rfl (Nat.le_of_ble_eq_true rfl)
    have K193 := Keep.of_wr Wr193
    have N193 := Fr.snoc X193 N189 (Nat.le_trans Z0 (Nat.le_trans K179.1 (Nat.le_of_eq g181.symm)))
    have R194 : CHr Z EL_1 s.vm h0 s.vm h193 := R190.trans (CHr.keep K193 (sfS (Safe.arv hZ0.alike J189 (by intro q; cases q)) sf0) R190.1)
    have J193 : Arv Z h193 b181 k181 .char (4 : Int32) [(.int x0), (.int x1), (.int x2), (.int (0 : Int32))] (.int (0 : Int32)) := by rw [own_nar8 (hb8 _ (List.mem_of_getElem? (i := 2) rfl))] at G193; exact G193
    have F195 : Arv Z h193 c kc .char (5 : Int32) [(.int x0), (.int x1), (.int x2), (.int x3), (.int x4)] (.int (0 : Int32)) := (F191.keep K193 (ninS (Nat.ne_of_lt (Nat.lt_of_lt_of_le (Nat.lt_of_lt_of_le V1.lt K179.1) (Nat.le_of_eq g181.symm))) nin0))
    obtain ⟨cl196, Ar196, q196, S196, M196, H196, F196g⟩ := id F195
    have hin196 : ¬ ((3 : Int32) < 0 ∨ cl196.slots.size ≤ ((3 : Int32)).toNatClampNeg) := inb_of S196 ⟨by decide, by decide⟩
    have hat196 : cl196.slots[((3 : Int32)).toNatClampNeg]? = some (.int x3) := Has.at H196 hin196 rfl
    obtain ⟨cl197, Ar197, q197, S197, M197, H197, F197g⟩ := id J193
    have hin197 : ¬ ((3 : Int32) < 0 ∨ cl197.slots.size ≤ ((3 : Int32)).toNatClampNeg) := inb_of S197 ⟨by decide, by decide⟩
    obtain ⟨T197, h197, X197, e197, Wr197, st197⟩ := stC X193 hx hZ0 e193 Ar197 (j := (3 : Int32)) hin197 (g := (mkF m 134 #[.val (.ref c), .val (.int (4 : Int32))] [(.int x3), (.int (3 : Int32)), (.ref b181), (.ref b181), (.ref b179), (.ref b179)])) rfl rfl (hb hby d_method_3_134)
    have G197 : Arv Z h197 b181 k181 .char (4 : Int32) [(.int x0), (.int x1), (.int x2), (.int (nar .char x3))] (.int (0 : Int32)) := Arv.set Ar197 q197 S197 M197 H197 F197g (fits_nar_char _) Wr197 3 rfl (Nat.le_of_ble_eq_true rfl)
    have K197 := Keep.of_wr Wr197
    have N197 := Fr.snoc X197 N193 (Nat.le_trans Z0 (Nat.le_trans K179.1 (Nat.le_of_eq g181.symm)))
    have R198 : CHr Z EL_1 s.vm h0 s.vm h197 := R194.trans (CHr.keep K197 (sfS (Safe.arv hZ0.alike J193 (by intro q; cases q)) sf0) R194.1)
    have J197 : Arv Z h197 b181 k181 .char (4 : Int32) [(.int x0), (.int x1), (.int x2), (.int x3)] (.int (0 : Int32)) := by rw [own_nar8 (hb8 _ (List.mem_of_getElem? (i := 3) rfl))] at G197; exact G197
    have F199 : Exa Z h197 b179 "java/lang/String" := (((((A179.keep K181).keep K185).keep K189).keep K193).keep K197)
    have F200 : Fld Z h197 b179 "java/lang/String" "value" "[B" .null := (((((G179_value.keep K181 nin0).keep K185 (ninS (Nat.ne_of_lt (Nat.lt_of_lt_of_le A179.lt (Nat.le_of_eq g181.symm))) nin0)).keep K189 (ninS (Nat.ne_of_lt (Nat.lt_of_lt_of_le A179.lt (Nat.le_of_eq g181.symm))) nin0)).keep K193 (ninS (Nat.ne_of_lt (Nat.lt_of_lt_of_le A179.lt (Nat.le_of_eq g181.symm))) nin0)).keep K197 (ninS (Nat.ne_of_lt (Nat.lt_of_lt_of_le A179.lt (Nat.le_of_eq g181.symm))) nin0))
    have F201 : Fld Z h197 b179 "java/lang/String" "coder" "B" (.int (0 : Int32)) := (((((G179_coder.keep K181 nin0).keep K185 (ninS (Nat.ne_of_lt (Nat.lt_of_lt_of_le A179.lt (Nat.le_of_eq g181.symm))) nin0)).keep K189 (ninS (Nat.ne_of_lt (Nat.lt_of_lt_of_le A179.lt (Nat.le_of_eq g181.symm))) nin0)).keep K193 (ninS (Nat.ne_of_lt (Nat.lt_of_lt_of_le A179.lt (Nat.le_of_eq g181.symm))) nin0)).keep K197 (ninS (Nat.ne_of_lt (Nat.lt_of_lt_of_le A179.lt (Nat.le_of_eq g181.symm))) nin0))
    have O202 : Old Z n0 h197 := ((((((O0.keep K179 all0).keep K181 all0).keep K185 (allS (Nat.le_trans Z0 (Nat.le_trans K179.1 (Nat.le_of_eq g181.symm))) all0)).keep K189 (allS (Nat.le_trans Z0 (Nat.le_trans K179.1 (Nat.le_of_eq g181.symm))) all0)).keep K193 (allS (Nat.le_trans Z0 (Nat.le_trans K179.1 (Nat.le_of_eq g181.symm))) all0)).keep K197 (allS (Nat.le_trans Z0 (Nat.le_trans K179.1 (Nat.le_of_eq g181.symm))) all0))
    obtain ⟨_, _, ⟨T203, L203, k203, n203⟩, -, X203, ⟨Lc203, hQ203, l203, y203, z203⟩, st203⟩ := X197.specialBack hx (y := yn9) rfl hown0 (mvT hZ0 (w43 hw)) (mvT hZ0 (w44 hw)) (mvT hZ0 (w45 hw)) (by decide) (backOf (W := 1) (rm_sinit l Z a0 hw [] b179 b181 k181 ([x0, x1, x2, x3, x4].take 4) cS h197 n0 (Nat.le_trans Z0 (Nat.le_trans (Nat.le_trans (Nat.le_trans (Nat.le_trans (Nat.le_trans K179.1 K181.1) K185.1) K189.1) K193.1) K197.1)) O202 S_cs hcS F199 F200 F201 (Nat.le_trans Z0 (Nat.le_of_eq g179.symm)) J197 (hb8.tk 4).1 (Nat.le_of_ble_eq_true rfl) (Nat.le_of_ble_eq_true rfl) (Nat.ne_of_lt (Nat.lt_of_lt_of_le A179.lt (Nat.le_of_eq g181.symm))) (hb8.tk 4).2) hZ0 (w45 hw) (w7 hw) (by decide) (by decide)) (g := (mkF m 135 #[.val (.ref c), .val (.int (4 : Int32))] [(.ref b181), (.ref b179), (.ref b179)])) rfl (by rw [hml]; rfl) (Steps.refl _) (a := b179) (argsL := [(.ref b181)]) (rest := [(.ref b179)]) (lenOf pd__28__5b_C_29_V rfl) rfl (by show 2 * 0 + _ ≤ _; exact Nat.le_of_eq rfl) (hb hby d_method_3_135) (fun _ _ => ⟨rfl, e197, (Nat.le_of_ble_eq_true rfl), (Nat.le_of_ble_eq_true rfl)⟩)
    dsimp only [Pt.U, Pt.locs, Pt.cells, Pt.slots] at X203 l203 y203 z203 st203 hQ203
    subst l203 y203 z203
    obtain ⟨t_204, kb_205, rfl, Nq203, K203, P203_0, P203_1⟩ := hQ203
    have N203 := Fr.app N197 Nq203
    have Sf206 : Safe Z EL_1 s.vm h197 b179 := (Safe.keep K197 (sfS (Safe.arv hZ0.alike J193 (by intro q; cases q)) sf0) R194.1 (Safe.keep K193 (sfS (Safe.arv hZ0.alike J189 (by intro q; cases q)) sf0) R190.1 (Safe.keep K189 (sfS (Safe.arv hZ0.alike J185 (by intro q; cases q)) sf0) R186.1 (Safe.keep K185 (sfS (Safe.arv hZ0.alike G181 (by intro q; cases q)) sf0) R182.1 (Safe.keep K181 sf0 R180.1 (Safe.keep K179 sf0 R0.1 (Safe.new (Nat.le_of_eq g179.symm))))))))
    have R207 : CHr Z EL_1 s.vm h0 s.vm T203.heap := R198.trans (CHr.keep K203 (sfS Sf206 sf0) R198.1)
    have W208 : ∀ zQ, SS p e below T203 m 138 #[.val (.ref c), .val (.int (4 : Int32))] [(.ref b179)] zQ → Steps p.tables e below (s₁.setTop (entryFrame m #[(.ref c), (.int (4 : Int32))] 2)) zQ := by
      intro tt kt
      refine W0 tt ?_
      refine XS.iloadN X0.here hx rfl (hb hby d_method_3_0) rfl ?_
      refine XS.ifYes X0.here hx rfl (pc0 := 1) (pc' := 15) rfl (hb hby d_method_3_1) rfl ((if0 _ _).trans (feq (by decide)).2) (by decide) (by decide) ?_
      refine XS.iloadN X0.here hx rfl (hb hby d_method_3_15) rfl ?_
      refine XS.iconst X0.here hx rfl (hb hby d_method_3_16) ?_
      refine XS.icmpYes X0.here hx rfl (pc0 := 17) (pc' := 37) rfl (hb hby d_method_3_17) rfl (feq (by decide)).2 (by decide) (by decide) ?_
      refine XS.iloadN X0.here hx rfl (hb hby d_method_3_37) rfl ?_
      show SS p e below s₁ m 38 #[.val (.ref c), .val (.int (4 : Int32))] [(.int (4 : Int32))] _
      refine XS.iconst X0.here hx rfl (hb hby d_method_3_38) ?_
      refine XS.icmpYes X0.here hx rfl (pc0 := 39) (pc' := 65) rfl (hb hby d_method_3_39) rfl (feq (by decide)).2 (by decide) (by decide) ?_
      refine XS.iloadN X0.here hx rfl (hb hby d_method_3_65) rfl ?_
      refine XS.iconst X0.here hx rfl (hb hby d_method_3_66) ?_
      refine XS.icmpYes X0.here hx rfl (pc0 := 67) (pc' := 99) rfl (hb hby d_method_3_67) rfl (feq (by decide)).2 (by decide) (by decide) ?_
      refine XS.iloadN X0.here hx rfl (hb hby d_method_3_99) rfl ?_
      show SS p e below s₁ m 100 #[.val (.ref c), .val (.int (4 : Int32))] [(.int (4 : Int32))] _
      refine XS.iconst X0.here hx rfl (hb hby d_method_3_100) ?_
      refine XS.icmpNo X0.here hx rfl (hb hby d_method_3_101) rfl (teq (by decide)).2 ?_
      show SS p e below s₁ m 104 #[.val (.ref c), .val (.int (4 : Int32))] [] _
      refine st179 _ ?_
      refine XS.dup X179.here hx rfl (hb hby d_method_3_107) rfl rfl ?_
      refine XS.iconst X179.here hx rfl (hb hby d_method_3_108) ?_
      show SS p e below T179 m 109 #[.val (.ref c), .val (.int (4 : Int32))] [(.int (4 : Int32)), (.ref b179), (.ref b179)] _
      refine st181 _ ?_
      refine XS.dup X181.here hx rfl (hb hby d_method_3_111) rfl rfl ?_
      refine XS.iconst X181.here hx rfl (hb hby d_method_3_112) ?_
      refine XS.aloadN X181.here hx rfl (hb hby d_method_3_113) rfl rfl ?_
      refine XS.iconst X181.here hx rfl (hb hby d_method_3_114) ?_
      show SS p e below T181 m 115 #[.val (.ref c), .val (.int (4 : Int32))] [(.int (0 : Int32)), (.ref c), (.int (0 : Int32)), (.ref b181), (.ref b181), (.ref b179), (.ref b179)] _
      refine X181.caload hx (j := (0 : Int32)) (v := (.int x0)) (by first | exact Ar184.1 | (rw [e181]; exact Ar184.1)) (State.isArrayOf_alike hZ0.alike Ar184.2.1) Ar184.2.2 hin184 hat184 (g := (mkF m 115 #[.val (.ref c), .val (.int (4 : Int32))] [(.int (0 : Int32)), (.ref c), (.int (0 : Int32)), (.ref b181), (.ref b181), (.ref b179), (.ref b179)])) rfl rfl (hb hby d_method_3_115) _ ?_
      show SS p e below T181 m 116 #[.val (.ref c), .val (.int (4 : Int32))] [(.int x0), (.int (0 : Int32)), (.ref b181), (.ref b181), (.ref b179), (.ref b179)] _
      refine st185 _ ?_
      refine XS.dup X185.here hx rfl (hb hby d_method_3_117) rfl rfl ?_
      refine XS.iconst X185.here hx rfl (hb hby d_method_3_118) ?_
      refine XS.aloadN X185.here hx rfl (hb hby d_method_3_119) rfl rfl ?_
      refine XS.iconst X185.here hx rfl (hb hby d_method_3_120) ?_
      show SS p e below T185 m 121 #[.val (.ref c), .val (.int (4 : Int32))] [(.int (1 : Int32)), (.ref c), (.int (1 : Int32)), (.ref b181), (.ref b181), (.ref b179), (.ref b179)] _
      refine X185.caload hx (j := (1 : Int32)) (v := (.int x1)) (by first | exact Ar188.1 | (rw [e185]; exact Ar188.1)) (State.isArrayOf_alike hZ0.alike Ar188.2.1) Ar188.2.2 hin188 hat188 (g := (mkF m 121 #[.val (.ref c), .val (.int (4 : Int32))] [(.int (1 : Int32)), (.ref c), (.int (1 : Int32)), (.ref b181), (.ref b181), (.ref b179), (.ref b179)])) rfl rfl (hb hby d_method_3_121) _ ?_
      show SS p e below T185 m 122 #[.val (.ref c), .val (.int (4 : Int32))] [(.int x1), (.int (1 : Int32)), (.ref b181), (.ref b181), (.ref b179), (.ref b179)] _
      refine st189 _ ?_
      refine XS.dup X189.here hx rfl (hb hby d_method_3_123) rfl rfl ?_
      refine XS.iconst X189.here hx rfl (hb hby d_method_3_124) ?_
      refine XS.aloadN X189.here hx rfl (hb hby d_method_3_125) rfl rfl ?_
      refine XS.iconst X189.here hx rfl (hb hby d_method_3_126) ?_
      show SS p e below T189 m 127 #[.val (.ref c), .val (.int (4 : Int32))] [(.int (2 : Int32)), (.ref c), (.int (2 : Int32)), (.ref b181), (.ref b181), (.ref b179), (.ref b179)] _
      refine X189.caload hx (j := (2 : Int32)) (v := (.int x2)) (by first | exact Ar192.1 | (rw [e189]; exact Ar192.1)) (State.isArrayOf_alike hZ0.alike Ar192.2.1) Ar192.2.2 hin192 hat192 (g := (mkF m 127 #[.val (.ref c), .val (.int (4 : Int32))] [(.int (2 : Int32)), (.ref c), (.int (2 : Int32)), (.ref b181), (.ref b181), (.ref b179), (.ref b179)])) rfl rfl (hb hby d_method_3_127) _ ?_
      show SS p e below T189 m 128 #[.val (.ref c), .val (.int (4 : Int32))] [(.int x2), (.int (2 : Int32)), (.ref b181), (.ref b181), (.ref b179), (.ref b179)] _
      refine st193 _ ?_
      refine XS.dup X193.here hx rfl (hb hby d_method_3_129) rfl rfl ?_
      refine XS.iconst X193.here hx rfl (hb hby d_method_3_130) ?_
      refine XS.aloadN X193.here hx rfl (hb hby d_method_3_131) rfl rfl ?_
      refine XS.iconst X193.here hx rfl (hb hby d_method_3_132) ?_
      show SS p e below T193 m 133 #[.val (.ref c), .val (.int (4 : Int32))] [(.int (3 : Int32)), (.ref c), (.int (3 : Int32)), (.ref b181), (.ref b181), (.ref b179), (.ref b179)] _
      refine X193.caload hx (j := (3 : Int32)) (v := (.int x3)) (by first | exact Ar196.1 | (rw [e193]; exact Ar196.1)) (State.isArrayOf_alike hZ0.alike Ar196.2.1) Ar196.2.2 hin196 hat196 (g := (mkF m 133 #[.val (.ref c), .val (.int (4 : Int32))] [(.int (3 : Int32)), (.ref c), (.int (3 : Int32)), (.ref b181), (.ref b181), (.ref b179), (.ref b179)])) rfl rfl (hb hby d_method_3_133) _ ?_
      show SS p e below T193 m 134 #[.val (.ref c), .val (.int (4 : Int32))] [(.int x3), (.int (3 : Int32)), (.ref b181), (.ref b181), (.ref b179), (.ref b179)] _
      refine st197 _ ?_
      show SS p e below T197 m 135 #[.val (.ref c), .val (.int (4 : Int32))] [(.ref b181), (.ref b179), (.ref b179)] _
      refine st203.trans ?_
      exact kt
    obtain ⟨fs, hr, hrun, hended, hRW⟩ := Jvm.Stand.leaveW X203 hS0 (Nat.le_trans hk0 (Nat.le_trans (Nat.le_trans (Nat.le_trans (Nat.le_trans (Nat.le_trans (Nat.le_trans K179.1 K181.1) K185.1) K189.1) K193.1) K197.1) K203.1)) (v := some (.ref b179)) (fun h => by rw [Bd.returns] at h; cases h) (BodyLoose.notSynchronized Bd)
    refine ⟨_, _, W208 _ (own_retR X203 hx Bd.returns rfl rfl (hb hby d_method_3_138) hr), hrun, hended, _, _, rfl, ?_, own_chr (T := T203) R207 (CHv.at X203 hZ0 hEL R207.1) hh.symm rfl, own_rw hRW (by decide) (by decide)⟩
    show Q_make Z c (4 : Int32) kc x0 x1 x2 x3 x4 cS h0 n0 _ T203.heap _
    exact ⟨b179, t_204, kb_205, rfl, N203, (Keep.trans (Keep.trans (Keep.trans (Keep.trans (Keep.trans (Keep.trans (Keep.trans (Keep.refl h0 []) K179 all0) K181 all0) K185 (allS (Or.inr (Nat.le_trans K179.1 (Nat.le_of_eq g181.symm))) all0)) K189 (allS (Or.inr (Nat.le_trans K179.1 (Nat.le_of_eq g181.symm))) all0)) K193 (allS (Or.inr (Nat.le_trans K179.1 (Nat.le_of_eq g181.symm))) all0)) K197 (allS (Or.inr (Nat.le_trans K179.1 (Nat.le_of_eq g181.symm))) all0)) K203 (allS (Or.inr (Nat.le_of_eq g179.symm)) all0)), (Nat.le_of_eq g179.symm), P203_1⟩
  ·
    obtain ⟨T209, h209, X209, e209, E209, A209, D209, U209, st209⟩ := newO X0 hx hZ0 hown0 (w42 hw) (w8 hw) (w7 hw) e0 (g := (mkF m 139 #[.val (.ref c), .val (.int (5 : Int32))] [])) rfl (hb hby d_method_3_139) (by decide) (by decide)
    obtain ⟨b209, g209⟩ : ∃ z, z = h0.size := ⟨_, rfl⟩
    rw [← g209] at A209 D209 U209 st209
    have K209 := (Keep.refl h0 []).ext E209
    have R210 : CHr Z EL_1 s.vm h0 s.vm h209 := R0.trans (CHr.keep K209 sf0 R0.1)
    have G209_value : Fld Z h209 b209 "java/lang/String" "value" "[B" .null := D209 (Or.inr (w10 hw)) (ty := (.array .byte)) (by decide)
    have G209_coder : Fld Z h209 b209 "java/lang/String" "coder" "B" (.int (0 : Int32)) := D209 (Or.inr (w11 hw)) (ty := .byte) (by decide)
    obtain ⟨T211, h211, k211, X211, e211, E211, A211, st211⟩ := newP X209 hx hZ0 (aty := .char) (w1 hw) e209 (g := (mkF m 144 #[.val (.ref c), .val (.int (5 : Int32))] [(.int (5 : Int32)), (.ref b209), (.ref b209)])) rfl (hb hby d_method_3_144) (n := (5 : Int32)) rfl (by decide) (cap := 5) (by decide) (by decide) (by decide) (by decide)
    obtain ⟨b211, g211⟩ : ∃ z, z = h209.size := ⟨_, rfl⟩
    rw [← g211] at A211 st211
    have K211 := (Keep.refl h209 []).ext E211
    have R212 : CHr Z EL_1 s.vm h0 s.vm h211 := R210.trans (CHr.keep K211 sf0 R210.1)
    have G211 : Arv Z h211 b211 k211 .char (5 : Int32) [(.int (0 : Int32)), (.int (0 : Int32)), (.int (0 : Int32)), (.int (0 : Int32)), (.int (0 : Int32))] (.int (0 : Int32)) := (Arv.new A211 (by decide)).pad (pad_rep [] (.int (0 : Int32)) 5)
    have F213 : Arv Z h211 c kc .char (5 : Int32) [(.int x0), (.int x1), (.int x2), (.int x3), (.int x4)] (.int (0 : Int32)) := ((V1.keep K209 nin0).keep K211 nin0)
    obtain ⟨cl214, Ar214, q214, S214, M214, H214, F214g⟩ := id F213
    have hin214 : ¬ ((0 : Int32) < 0 ∨ cl214.slots.size ≤ ((0 : Int32)).toNatClampNeg) := inb_of S214 ⟨by decide, by decide⟩
    have hat214 : cl214.slots[((0 : Int32)).toNatClampNeg]? = some (.int x0) := Has.at H214 hin214 rfl
    obtain ⟨cl215, Ar215, q215, S215, M215, H215, F215g⟩ := id G211
    have hin215 : ¬ ((0 : Int32) < 0 ∨ cl215.slots.size ≤ ((0 : Int32)).toNatClampNeg) := inb_of S215 ⟨by decide, by decide⟩
    obtain ⟨T215, h215, X215, e215, Wr215, st215⟩ := stC X211 hx hZ0 e211 Ar215 (j := (0 : Int32)) hin215 (g := (mkF m 151 #[.val (.ref c), .val (.int (5 : Int32))] [(.int x0), (.int (0 : Int32)), (.ref b211), (.ref b211), (.ref b209), (.ref b209)])) rfl rfl (hb hby d_method_3_151)
    have G215 : Arv Z h215 b211 k211 .char (5 : Int32) [(.int (nar .char x0)), (.int (0 : Int32)), (.int (0 : Int32)), (.int (0 : Int32)), (.int (0 : Int32))] (.int (0 : Int32)) := Arv.set Ar215 q215 S215 M215 H215 F215g (fits_nar_char _) Wr215 0 rfl (Nat.le_of_ble_eq_true rfl)
    have K215 := Keep.of_wr Wr215
    have N215 := Fr.snoc X215 N0 (Nat.le_trans Z0 (Nat.le_trans K209.1 (Nat.le_of_eq g211.symm)))
    have R216 : CHr Z EL_1 s.vm h0 s.vm h215 := R212.trans (CHr.keep K215 (sfS (Safe.arv hZ0.alike G211 (by intro q; cases q)) sf0) R212.1)
    have J215 : Arv Z h215 b211 k211 .char (5 : Int32) [(.int x0), (.int (0 : Int32)), (.int (0 : Int32)), (.int (0 : Int32)), (.int (0 : Int32))] (.int (0 : Int32)) := by rw [own_nar8 (hb8 _ (List.mem_of_getElem? (i := 0) rfl))] at G215; exact G215
    have F217 : Arv Z h215 c kc .char (5 : Int32) [(.int x0), (.int x1), (.int x2), (.int x3), (.int x4)] (.int (0 : Int32)) := (F213.keep K215 (ninS (Nat.ne_of_lt (Nat.lt_of_lt_of_le (Nat.lt_of_lt_of_le V1.lt K209.1) (Nat.le_of_eq g211.symm))) nin0))
    obtain ⟨cl218, Ar218, q218, S218, M218, H218, F218g⟩ := id F217
    have hin218 : ¬ ((1 : Int32) < 0 ∨ cl218.slots.size ≤ ((1 : Int32)).toNatClampNeg) := inb_of S218 ⟨by decide, by decide⟩
    have hat218 : cl218.slots[((1 : Int32)).toNatClampNeg]? = some (.int x1) := Has.at H218 hin218 rfl
    obtain ⟨cl219, Ar219, q219, S219, M219, H219, F219g⟩ := id J215
    have hin219 : ¬ ((1 : Int32) < 0 ∨ cl219.slots.size ≤ ((1 : Int32)).toNatClampNeg) := inb_of S219 ⟨by decide, by decide⟩
    obtain ⟨T219, h219, X219, e219, Wr219, st219⟩ := stC X215 hx hZ0 e215 Ar219 (j := (1 : Int32)) hin219 (g := (mkF m 157 #[.val (.ref c), .val (.int (5 : Int32))] [(.int x1), (.int (1 : Int32)), (.ref b211), (.ref b211), (.ref b209), (.ref b209)])) rfl rfl (hb hby d_method_3_157)
    have G219 : Arv Z h219 b211 k211 .char (5 : Int32) [(.int x0), (.int (nar .char x1)), (.int (0 : Int32)), (.int (0 : Int32)), (.int (0 : Int32))] (.int (0 : Int32)) := Arv.set Ar219 q219 S219 M219 H219 F219g (fits_nar_char _) Wr219 1 rfl (Nat.le_of_ble_eq_true rfl)
    have K219 := Keep.of_wr Wr219
    have N219 := Fr.snoc X219 N215 (Nat.le_trans Z0 (Nat.le_trans K209.1 (Nat.le_of_eq g211.symm)))
    have R220 : CHr Z EL_1 s.vm h0 s.vm h219 := R216.trans (CHr.keep K219 (sfS (Safe.arv hZ0.alike J215 (by intro q; cases q)) sf0) R216.1)
    have J219 : Arv Z h219 b211 k211 .char (5 : Int32) [(.int x0), (.int x1), (.int (0 : Int32)), (.int (0 : Int32)), (.int (0 : Int32))] (.int (0 : Int32)) := by rw [own_nar8 (hb8 _ (List.mem_of_getElem? (i := 1) rfl))] at G219; exact G219
    have F221 : Arv Z h219 c kc .char (5 : Int32) [(.int x0), (.int x1), (.int x2), (.int x3), (.int x4)] (.int (0 : Int32)) := (F217.keep K219 (ninS (Nat.ne_of_lt (Nat.lt_of_lt_of_le (Nat.lt_of_lt_of_le V1.lt K209.1) (Nat.le_of_eq g211.symm))) nin0))
    obtain ⟨cl222, Ar222, q222, S222, M222, H222, F222g⟩ := id F221
    have hin222 : ¬ ((2 : Int32) < 0 ∨ cl222.slots.size ≤ ((2 : Int32)).toNatClampNeg) := inb_of S222 ⟨by decide, by decide⟩
    have hat222 : cl222.slots[((2 : Int32)).toNatClampNeg]? = some (.int x2) := Has.at H222 hin222 rfl
    obtain ⟨cl223, Ar223, q223, S223, M223, H223, F223g⟩ := id J219
    have hin223 : ¬ ((2 : Int32) < 0 ∨ cl223.slots.size ≤ ((2 : Int32)).toNatClampNeg) := inb_of S223 ⟨by decide, by decide⟩
    obtain ⟨T223, h223, X223, e223, Wr223, st223⟩ := stC X219 hx hZ0 e219 Ar223 (j := (2 : Int32)) hin223 (g := (mkF m 163 #[.val (.ref c), .val (.int (5 : Int32))] [(.int x2), (.int (2 : Int32)), (.ref b211), (.ref b211), (.ref b209), (.ref b209)])) rfl rfl (hb hby d_method_3_163)
    have G223 : Arv Z h223 b211 k211 .char (5 : Int32) [(.int x0), (.int x1), (.int (nar .char x2)), (.int (0 : Int32)), (.int (0 : Int32))] (.int (0 : Int32)) := Arv.set Ar223 q223 S223 M223 H223 F223g (fits_nar_char _) Wr223 2 rfl (Nat.le_of_ble_eq_true rfl)
    have K223 := Keep.of_wr Wr223
    have N223 := Fr.snoc X223 N219 (Nat.le_trans Z0 (Nat.le_trans K209.1 (Nat.le_of_eq g211.symm)))
    have R224 : CHr Z EL_1 s.vm h0 s.vm h223 := R220.trans (CHr.keep K223 (sfS (Safe.arv hZ0.alike J219 (by intro q; cases q)) sf0) R220.1)
    have J223 : Arv Z h223 b211 k211 .char (5 : Int32) [(.int x0), (.int x1), (.int x2), (.int (0 : Int32)), (.int (0 : Int32))] (.int (0 : Int32)) := by rw [own_nar8 (hb8 _ (List.mem_of_getElem? (i := 2) rfl))] at G223; exact G223
    have F225 : Arv Z h223 c kc .char (5 : Int32) [(.int x0), (.int x1), (.int x2), (.int x3), (.int x4)] (.int (0 : Int32)) := (F221.keep K223 (ninS (Nat.ne_of_lt (Nat.lt_of_lt_of_le (Nat.lt_of_lt_of_le V1.lt K209.1) (Nat.le_of_eq g211.symm))) nin0))
    obtain ⟨cl226, Ar226, q226, S226, M226, H226, F226g⟩ := id F225
    have hin226 : ¬ ((3 : Int32) < 0 ∨ cl226.slots.size ≤ ((3 : Int32)).toNatClampNeg) := inb_of S226 ⟨by decide, by decide⟩
    have hat226 : cl226.slots[((3 : Int32)).toNatClampNeg]? = some (.int x3) := Has.at H226 hin226 rfl
    obtain ⟨cl227, Ar227, q227, S227, M227, H227, F227g⟩ := id J223
    have hin227 : ¬ ((3 : Int32) < 0 ∨ cl227.slots.size ≤ ((3 : Int32)).toNatClampNeg) := inb_of S227 ⟨by decide, by decide⟩
    obtain ⟨T227, h227, X227, e227, Wr227, st227⟩ := stC X223 hx hZ0 e223 Ar227 (j := (3 : Int32)) hin227 (g := (mkF m 169 #[.val (.ref c), .val (.int (5 : Int32))] [(.int x3), (.int (3 : Int32)), (.ref b211), (.ref b211), (.ref b209), (.ref b209)])) rfl rfl (hb hby d_method_3_169)
    have G227 : Arv Z h227 b211 k211 .char (5 : Int32) [(.int x0), (.int x1), (.int x2), (.int (nar .char x3)), (.int (0 : Int32))] (.int (0 : Int32)) := Arv.set Ar227 q227 S227 M227 H227 F227g (fits_nar_char _) Wr227 3 rfl (Nat.le_of_ble_eq_true rfl)
    have K227 := Keep.of_wr Wr227
    have N227 := Fr.snoc X227 N223 (Nat.le_trans Z0 (Nat.le_trans K209.1 (Nat.le_of_eq g211.symm)))
    have R228 : CHr Z EL_1 s.vm h0 s.vm h227 := R224.trans (CHr.keep K227 (sfS (Safe.arv hZ0.alike J223 (by intro q; cases q)) sf0) R224.1)
    have J227 : Arv Z h227 b211 k211 .char (5 : Int32) [(.int x0), (.int x1), (.int x2), (.int x3), (.int (0 : Int32))] (.int (0 : Int32)) := by rw [own_nar8 (hb8 _ (List.mem_of_getElem? (i := 3) rfl))] at G227; exact G227
    have F229 : Arv Z h227 c kc .char (5 : Int32) [(.int x0), (.int x1), (.int x2), (.int x3), (.int x4)] (.int (0 : Int32)) := (F225.keep K227 (ninS (Nat.ne_of_lt (Nat.lt_of_lt_of_le (Nat.lt_of_lt_of_le V1.lt K209.1) (Nat.le_of_eq g211.symm))) nin0))
    obtain ⟨cl230, Ar230, q230, S230, M230, H230, F230g⟩ := id F229
    have hin230 : ¬ ((4 : Int32) < 0 ∨ cl230.slots.size ≤ ((4 : Int32)).toNatClampNeg) := inb_of S230 ⟨by decide, by decide⟩
    have hat230 : cl230.slots[((4 : Int32)).toNatClampNeg]? = some (.int x4) := Has.at H230 hin230 rfl
    obtain ⟨cl231, Ar231, q231, S231, M231, H231, F231g⟩ := id J227
    have hin231 : ¬ ((4 : Int32) < 0 ∨ cl231.slots.size ≤ ((4 : Int32)).toNatClampNeg) := inb_of S231 ⟨by decide, by decide⟩
    obtain ⟨T231, h231, X231, e231, Wr231, st231⟩ := stC X227 hx hZ0 e227 Ar231 (j := (4 : Int32)) hin231 (g := (mkF m 175 #[.val (.ref c), .val (.int (5 : Int32))] [(.int x4), (.int (4 : Int32)), (.ref b211), (.ref b211), (.ref b209), (.ref b209)])) rfl rfl (hb hby d_method_3_175)
    have G231 : Arv Z h231 b211 k211 .char (5 : Int32) [(.int x0), (.int x1), (.int x2), (.int x3), (.int (nar .char x4))] (.int (0 : Int32)) := Arv.set Ar231 q231 S231 M231 H231 F231g (fits_nar_char _) Wr231 4 rfl (Nat.le_of_ble_eq_true rfl)
    have K231 := Keep.of_wr Wr231
    have N231 := Fr.snoc X231 N227 (Nat.le_trans Z0 (Nat.le_trans K209.1 (Nat.le_of_eq g211.symm)))
    have R232 : CHr Z EL_1 s.vm h0 s.vm h231 := R228.trans (CHr.keep K231 (sfS (Safe.arv hZ0.alike J227 (by intro q; cases q)) sf0) R228.1)
    have J231 : Arv Z h231 b211 k211 .char (5 : Int32) [(.int x0), (.int x1), (.int x2), (.int x3), (.int x4)] (.int (0 : Int32)) := by rw [own_nar8 (hb8 _ (List.mem_of_getElem? (i := 4) rfl))] at G231; exact G231
    have F233 : Exa Z h231 b209 "java/lang/String" := ((((((A209.keep K211).keep K215).keep K219).keep K223).keep K227).keep K231)
    have F234 : Fld Z h231 b209 "java/lang/String" "value" "[B" .null := ((((((G209_value.keep K211 nin0).keep K215 (ninS (Nat.ne_of_lt (Nat.lt_of_lt_of_le A209.lt (Nat.le_of_eq g211.symm))) nin0)).keep K219 (ninS (Nat.ne_of_lt (Nat.lt_of_lt_of_le A209.lt (Nat.le_of_eq g211.symm))) nin0)).keep K223 (ninS (Nat.ne_of_lt (Nat.lt_of_lt_of_le A209.lt (Nat.le_of_eq g211.symm))) nin0)).keep K227 (ninS (Nat.ne_of_lt (Nat.lt_of_lt_of_le A209.lt (Nat.le_of_eq g211.symm))) nin0)).keep K231 (ninS (Nat.ne_of_lt (Nat.lt_of_lt_of_le A209.lt (Nat.le_of_eq g211.symm))) nin0))
    have F235 : Fld Z h231 b209 "java/lang/String" "coder" "B" (.int (0 : Int32)) := ((((((G209_coder.keep K211 nin0).keep K215 (ninS (Nat.ne_of_lt (Nat.lt_of_lt_of_le A209.lt (Nat.le_of_eq g211.symm))) nin0)).keep K219 (ninS (Nat.ne_of_lt (Nat.lt_of_lt_of_le A209.lt (Nat.le_of_eq g211.symm))) nin0)).keep K223 (ninS (Nat.ne_of_lt (Nat.lt_of_lt_of_le A209.lt (Nat.le_of_eq g211.symm))) nin0)).keep K227 (ninS (Nat.ne_of_lt (Nat.lt_of_lt_of_le A209.lt (Nat.le_of_eq g211.symm))) nin0)).keep K231 (ninS (Nat.ne_of_lt (Nat.lt_of_lt_of_le A209.lt (Nat.le_of_eq g211.symm))) nin0))
    have O236 : Old Z n0 h231 := (((((((O0.keep K209 all0).keep K211 all0).keep K215 (allS (Nat.le_trans Z0 (Nat.le_trans K209.1 (Nat.le_of_eq g211.symm))) all0)).keep K219 (allS (Nat.le_trans Z0 (Nat.le_trans K209.1 (Nat.le_of_eq g211.symm))) all0)).keep K223 (allS (Nat.le_trans Z0 (Nat.le_trans K209.1 (Nat.le_of_eq g211.symm))) all0)).keep K227 (allS (Nat.le_trans Z0 (Nat.le_trans K209.1 (Nat.le_of_eq g211.symm))) all0)).keep K231 (allS (Nat.le_trans Z0 (Nat.le_trans K209.1 (Nat.le_of_eq g211.symm))) all0))
    obtain ⟨_, _, ⟨T237, L237, k237, n237⟩, -, X237, ⟨Lc237, hQ237, l237, y237, z237⟩, st237⟩ := X231.specialBack hx (y := yn9) rfl hown0 (mvT hZ0 (w43 hw)) (mvT hZ0 (w44 hw)) (mvT hZ0 (w45 hw)) (by decide) (backOf (W := 1) (rm_sinit l Z a0 hw [] b209 b211 k211 ([x0, x1, x2, x3, x4].take 5) cS h231 n0 (Nat.le_trans Z0 (Nat.le_trans (Nat.le_trans (Nat.le_trans (Nat.le_trans (Nat.le_trans (Nat.le_trans K209.1 K211.1) K215.1) K219.1) K223.1) K227.1) K231.1)) O236 S_cs hcS F233 F234 F235 (Nat.le_trans Z0 (Nat.le_of_eq g209.symm)) J231 (hb8.tk 5).1 (Nat.le_of_ble_eq_true rfl) (Nat.le_of_ble_eq_true rfl) (Nat.ne_of_lt (Nat.lt_of_lt_of_le A209.lt (Nat.le_of_eq g211.symm))) (hb8.tk 5).2) hZ0 (w45 hw) (w7 hw) (by decide) (by decide)) (g := (mkF m 176 #[.val (.ref c), .val (.int (5 : Int32))] [(.ref b211), (.ref b209), (.ref b209)])) rfl (by rw [hml]; rfl) (Steps.refl _) (a := b209) (argsL := [(.ref b211)]) (rest := [(.ref b209)]) (lenOf pd__28__5b_C_29_V rfl) rfl (by show 2 * 0 + _ ≤ _; exact Nat.le_of_eq rfl) (hb hby d_method_3_176) (fun _ _ => ⟨rfl, e231, (Nat.le_of_ble_eq_true rfl), (Nat.le_of_ble_eq_true rfl)⟩)
    dsimp only [Pt.U, Pt.locs, Pt.cells, Pt.slots] at X237 l237 y237 z237 st237 hQ237
    subst l237 y237 z237
    obtain ⟨t_238, kb_239, rfl, Nq237, K237, P237_0, P237_1⟩ := hQ237
    have N237 := Fr.app N231 Nq237
    have Sf240 : Safe Z EL_1 s.vm h231 b209 := (Safe.keep K231 (sfS (Safe.arv hZ0.alike J227 (by intro q; cases q)) sf0) R228.1 (Safe.keep K227 (sfS (Safe.arv hZ0.alike J223 (by intro q; cases q)) sf0) R224.1 (Safe.keep K223 (sfS (Safe.arv hZ0.alike J219 (by intro q; cases q)) sf0) R220.1 (Safe.keep K219 (sfS (Safe.arv hZ0.alike J215 (by intro q; cases q)) sf0) R216.1 (Safe.keep K215 (sfS (Safe.arv hZ0.alike G211 (by intro q; cases q)) sf0) R212.1 (Safe.keep K211 sf0 R210.1 (Safe.keep K209 sf0 R0.1 (Safe.new (Nat.le_of_eq g209.symm)))))))))
    have R241 : CHr Z EL_1 s.vm h0 s.vm T237.heap := R232.trans (CHr.keep K237 (sfS Sf240 sf0) R232.1)
    have W242 : ∀ zQ, SS p e below T237 m 179 #[.val (.ref c), .val (.int (5 : Int32))] [(.ref b209)] zQ → Steps p.tables e below (s₁.setTop (entryFrame m #[(.ref c), (.int (5 : Int32))] 2)) zQ := by
      intro tt kt
      refine W0 tt ?_
      refine XS.iloadN X0.here hx rfl (hb hby d_method_3_0) rfl ?_
      refine XS.ifYes X0.here hx rfl (pc0 := 1) (pc' := 15) rfl (hb hby d_method_3_1) rfl ((if0 _ _).trans (feq (by decide)).2) (by decide) (by decide) ?_
      refine XS.iloadN X0.here hx rfl (hb hby d_method_3_15) rfl ?_
      refine XS.iconst X0.here hx rfl (hb hby d_method_3_16) ?_
      refine XS.icmpYes X0.here hx rfl (pc0 := 17) (pc' := 37) rfl (hb hby d_method_3_17) rfl (feq (by decide)).2 (by decide) (by decide) ?_
      refine XS.iloadN X0.here hx rfl (hb hby d_method_3_37) rfl ?_
      show SS p e below s₁ m 38 #[.val (.ref c), .val (.int (5 : Int32))] [(.int (5 : Int32))] _
      refine XS.iconst X0.here hx rfl (hb hby d_method_3_38) ?_
      refine XS.icmpYes X0.here hx rfl (pc0 := 39) (pc' := 65) rfl (hb hby d_method_3_39) rfl (feq (by decide)).2 (by decide) (by decide) ?_
      refine XS.iloadN X0.here hx rfl (hb hby d_method_3_65) rfl ?_
      refine XS.iconst X0.here hx rfl (hb hby d_method_3_66) ?_
      refine XS.icmpYes X0.here hx rfl (pc0 := 67) (pc' := 99) rfl (hb hby d_method_3_67) rfl (feq (by decide)).2 (by decide) (by decide) ?_
      refine XS.iloadN X0.here hx rfl (hb hby d_method_3_99) rfl ?_
      show SS p e below s₁ m 100 #[.val (.ref c), .val (.int (5 : Int32))] [(.int (5 : Int32))] _
      refine XS.iconst X0.here hx rfl (hb hby d_method_3_100) ?_
      refine XS.icmpYes X0.here hx rfl (pc0 := 101) (pc' := 139) rfl (hb hby d_method_3_101) rfl (feq (by decide)).2 (by decide) (by decide) ?_
      show SS p e below s₁ m 139 #[.val (.ref c), .val (.int (5 : Int32))] [] _
      refine st209 _ ?_
      refine XS.dup X209.here hx rfl (hb hby d_method_3_142) rfl rfl ?_
      refine XS.iconst X209.here hx rfl (hb hby d_method_3_143) ?_
      show SS p e below T209 m 144 #[.val (.ref c), .val (.int (5 : Int32))] [(.int (5 : Int32)), (.ref b209), (.ref b209)] _
      refine st211 _ ?_
      refine XS.dup X211.here hx rfl (hb hby d_method_3_146) rfl rfl ?_
      refine XS.iconst X211.here hx rfl (hb hby d_method_3_147) ?_
      refine XS.aloadN X211.here hx rfl (hb hby d_method_3_148) rfl rfl ?_
      refine XS.iconst X211.here hx rfl (hb hby d_method_3_149) ?_
      show SS p e below T211 m 150 #[.val (.ref c), .val (.int (5 : Int32))] [(.int (0 : Int32)), (.ref c), (.int (0 : Int32)), (.ref b211), (.ref b211), (.ref b209), (.ref b209)] _
      refine X211.caload hx (j := (0 : Int32)) (v := (.int x0)) (by first | exact Ar214.1 | (rw [e211]; exact Ar214.1)) (State.isArrayOf_alike hZ0.alike Ar214.2.1) Ar214.2.2 hin214 hat214 (g := (mkF m 150 #[.val (.ref c), .val (.int (5 : Int32))] [(.int (0 : Int32)), (.ref c), (.int (0 : Int32)), (.ref b211), (.ref b211), (.ref b209), (.ref b209)])) rfl rfl (hb hby d_method_3_150) _ ?_
      show SS p e below T211 m 151 #[.val (.ref c), .val (.int (5 : Int32))] [(.int x0), (.int (0 : Int32)), (.ref b211), (.ref b211), (.ref b209), (.ref b209)] _
      refine st215 _ ?_
      refine XS.dup X215.here hx rfl (hb hby d_method_3_152) rfl rfl ?_
      refine XS.iconst X215.here hx rfl (hb hby d_method_3_153) ?_
      refine XS.aloadN X215.here hx rfl (hb hby d_method_3_154) rfl rfl ?_
      refine XS.iconst X215.here hx rfl (hb hby d_method_3_155) ?_
      show SS p e below T215 m 156 #[.val (.ref c), .val (.int (5 : Int32))] [(.int (1 : Int32)), (.ref c), (.int (1 : Int32)), (.ref b211), (.ref b211), (.ref b209), (.ref b209)] _
      refine X215.caload hx (j := (1 : Int32)) (v := (.int x1)) (by first | exact Ar218.1 | (rw [e215]; exact Ar218.1)) (State.isArrayOf_alike hZ0.alike Ar218.2.1) Ar218.2.2 hin218 hat218 (g := (mkF m 156 #[.val (.ref c), .val (.int (5 : Int32))] [(.int (1 : Int32)), (.ref c), (.int (1 : Int32)), (.ref b211), (.ref b211), (.ref b209), (.ref b209)])) rfl rfl (hb hby d_method_3_156) _ ?_
      show SS p e below T215 m 157 #[.val (.ref c), .val (.int (5 : Int32))] [(.int x1), (.int (1 : Int32)), (.ref b211), (.ref b211), (.ref b209), (.ref b209)] _
      refine st219 _ ?_
      refine XS.dup X219.here hx rfl (hb hby d_method_3_158) rfl rfl ?_
      refine XS.iconst X219.here hx rfl (hb hby d_method_3_159) ?_
      refine XS.aloadN X219.here hx rfl (hb hby d_method_3_160) rfl rfl ?_
      refine XS.iconst X219.here hx rfl (hb hby d_method_3_161) ?_
      show SS p e below T219 m 162 #[.val (.ref c), .val (.int (5 : Int32))] [(.int (2 : Int32)), (.ref c), (.int (2 : Int32)), (.ref b211), (.ref b211), (.ref b209), (.ref b209)] _
      refine X219.caload hx (j := (2 : Int32)) (v := (.int x2)) (by first | exact Ar222.1 | (rw [e219]; exact Ar222.1)) (State.isArrayOf_alike hZ0.alike Ar222.2.1) Ar222.2.2 hin222 hat222 (g := (mkF m 162 #[.val (.ref c), .val (.int (5 : Int32))] [(.int (2 : Int32)), (.ref c), (.int (2 : Int32)), (.ref b211), (.ref b211), (.ref b209), (.ref b209)])) rfl rfl (hb hby d_method_3_162) _ ?_
      show SS p e below T219 m 163 #[.val (.ref c), .val (.int (5 : Int32))] [(.int x2), (.int (2 : Int32)), (.ref b211), (.ref b211), (.ref b209), (.ref b209)] _
      refine st223 _ ?_
      refine XS.dup X223.here hx rfl (hb hby d_method_3_164) rfl rfl ?_
      refine XS.iconst X223.here hx rfl (hb hby d_method_3_165) ?_
      refine XS.aloadN X223.here hx rfl (hb hby d_method_3_166) rfl rfl ?_
      refine XS.iconst X223.here hx rfl (hb hby d_method_3_167) ?_
      show SS p e below T223 m 168 #[.val (.ref c), .val (.int (5 : Int32))] [(.int (3 : Int32)), (.ref c), (.int (3 : Int32)), (.ref b211), (.ref b211), (.ref b209), (.ref b209)] _
      refine X223.caload hx (j := (3 : Int32)) (v := (.int x3)) (by first | exact Ar226.1 | (rw [e223]; exact Ar226.1)) (State.isArrayOf_alike hZ0.alike Ar226.2.1) Ar226.2.2 hin226 hat226 (g := (mkF m 168 #[.val (.ref c), .val (.int (5 : Int32))] [(.int (3 : Int32)), (.ref c), (.int (3 : Int32)), (.ref b211), (.ref b211), (.ref b209), (.ref b209)])) rfl rfl (hb hby d_method_3_168) _ ?_
      show SS p e below T223 m 169 #[.val (.ref c), .val (.int (5 : Int32))] [(.int x3), (.int (3 : Int32)), (.ref b211), (.ref b211), (.ref b209), (.ref b209)] _
      refine st227 _ ?_
      refine XS.dup X227.here hx rfl (hb hby d_method_3_170) rfl rfl ?_
      refine XS.iconst X227.here hx rfl (hb hby d_method_3_171) ?_
      refine XS.aloadN X227.here hx rfl (hb hby d_method_3_172) rfl rfl ?_
      refine XS.iconst X227.here hx rfl (hb hby d_method_3_173) ?_
      show SS p e below T227 m 174 #[.val (.ref c), .val (.int (5 : Int32))] [(.int (4 : Int32)), (.ref c), (.int (4 : Int32)), (.ref b211), (.ref b211), (.ref b209), (.ref b209)] _
      refine X227.caload hx (j := (4 : Int32)) (v := (.int x4)) (by first | exact Ar230.1 | (rw [e227]; exact Ar230.1)) (State.isArrayOf_alike hZ0.alike Ar230.2.1) Ar230.2.2 hin230 hat230 (g := (mkF m 174 #[.val (.ref c), .val (.int (5 : Int32))] [(.int (4 : Int32)), (.ref c), (.int (4 : Int32)), (.ref b211), (.ref b211), (.ref b209), (.ref b209)])) rfl rfl (hb hby d_method_3_174) _ ?_
      show SS p e below T227 m 175 #[.val (.ref c), .val (.int (5 : Int32))] [(.int x4), (.int (4 : Int32)), (.ref b211), (.ref b211), (.ref b209), (.ref b209)] _
      refine st231 _ ?_
      show SS p e below T231 m 176 #[.val (.ref c), .val (.int (5 : Int32))] [(.ref b211), (.ref b209), (.ref b209)] _
      refine st237.trans ?_
      exact kt
    obtain ⟨fs, hr, hrun, hended, hRW⟩ := Jvm.Stand.leaveW X237 hS0 (Nat.le_trans hk0 (Nat.le_trans (Nat.le_trans (Nat.le_trans (Nat.le_trans (Nat.le_trans (Nat.le_trans (Nat.le_trans K209.1 K211.1) K215.1) K219.1) K223.1) K227.1) K231.1) K237.1)) (v := some (.ref b209)) (fun h => by rw [Bd.returns] at h; cases h) (BodyLoose.notSynchronized Bd)
    refine ⟨_, _, W242 _ (own_retR X237 hx Bd.returns rfl rfl (hb hby d_method_3_179) hr), hrun, hended, _, _, rfl, ?_, own_chr (T := T237) R241 (CHv.at X237 hZ0 hEL R241.1) hh.symm rfl, own_rw hRW (by decide) (by decide)⟩
    show Q_make Z c (5 : Int32) kc x0 x1 x2 x3 x4 cS h0 n0 _ T237.heap _
    exact ⟨b209, t_238, kb_239, rfl, N237, (Keep.trans (Keep.trans (Keep.trans (Keep.trans (Keep.trans (Keep.trans (Keep.trans (Keep.trans (Keep.refl h0 []) K209 all0) K211 all0) K215 (allS (Or.inr (Nat.le_trans K209.1 (Nat.le_of_eq g211.symm))) all0)) K219 (allS (Or.inr (Nat.le_trans K209.1 (Nat.le_of_eq g211.symm))) all0)) K223 (allS (Or.inr (Nat.le_trans K209.1 (Nat.le_of_eq g211.symm))) all0)) K227 (allS (Or.inr (Nat.le_trans K209.1 (Nat.le_of_eq g211.symm))) all0)) K231 (allS (Or.inr (Nat.le_trans K209.1 (Nat.le_of_eq g211.symm))) all0)) K237 (allS (Or.inr (Nat.le_of_eq g209.symm)) all0)), (Nat.le_of_eq g209.symm), P237_1⟩
theorem own_ovn {o0 o1 o2 o3 o4 : Addr} {x0 x1 x2 x3 : Int32} (h0 : ¬ (x0 = (116 : Int32) ∧ x1 = (97 : Int32) ∧ x2 = (98 : Int32) ∧ x3 = (108 : Int32))) (h1 : ¬ (x0 = (100 : Int32) ∧ x1 = (100 : Int32) ∧ x2 = (108 : Int32) ∧ x3 = (115 : Int32))) (h2 : ¬ (x0 = (98 : Int32) ∧ x1 = (100 : Int32) ∧ x2 = (101 : Int32) ∧ x3 = (102 : Int32))) (h3 : ¬ (x0 = (115 : Int32) ∧ x1 = (114 : Int32) ∧ x2 = (118 : Int32) ∧ x3 = (100 : Int32))) (h4 : ¬ (x0 = (115 : Int32) ∧ x1 = (114 : Int32) ∧ x2 = (118 : Int32) ∧ x3 = (98 : Int32))) : ov o0 o1 o2 o3 o4 [x0, x1, x2, x3] = .null := by
  have e : ∀ {a b c d : Int32}, [a, b, c, d] = [x0, x1, x2, x3] → x0 = a ∧ x1 = b ∧ x2 = c ∧ x3 = d := fun q => by
    simp only [List.cons.injEq, and_true] at q; exact ⟨q.1.symm, q.2.1.symm, q.2.2.1.symm, q.2.2.2.symm⟩
  unfold ov
  rw [if_neg fun q : jn0 = [x0, x1, x2, x3] => h0 (e q), if_neg fun q : jn1 = [x0, x1, x2, x3] => h1 (e q), if_neg fun q : jn2 = [x0, x1, x2, x3] => h2 (e q), if_neg fun q : jn3 = [x0, x1, x2, x3] => h3 (e q), if_neg fun q : jn4 = [x0, x1, x2, x3] => h4 (e q)]
def Q_expect (Z : State) (c : Addr) (nz : Int32) (kc : ClassId) (x0 : Int32) (x1 : Int32) (x2 : Int32) (x3 : Int32) (x4 : Int32) (o0 : Addr) (o1 : Addr) (o2 : Addr) (o3 : Addr) (o4 : Addr) (h0 : Heap) (n0 : Nat) (vQ_ : Option Value) (hQ_ : Heap) (LQ_ : List Loc) : Prop := vQ_ = some (exv o0 o1 o2 o3 o4 x0 x1 x2 x3 nz) ∧ Fr n0 LQ_ ∧ hQ_ = h0
set_option maxRecDepth 65536 in
set_option maxHeartbeats 40000000 in
theorem rm_expect (l : Launch) (Z : State) (a0 : Array Value) (hw : HW a0 Z) (ws : List Jvm.Cond) (c : Addr) (nz : Int32) (kc : ClassId) (x0 : Int32) (x1 : Int32) (x2 : Int32) (x3 : Int32) (x4 : Int32) (o0 : Addr) (o1 : Addr) (o2 : Addr) (o3 : Addr) (o4 : Addr) (h0 : Heap) (n0 : Nat) (Z0 : n0 ≤ h0.size) (O0 : Old Z n0 h0) (S_0 : Sta Z Z.heap "com/example/composition/composition/definition/ObjectFormat" "TABLE" "Lcom/example/composition/composition/definition/ObjectFormat;" (.ref o0)) (S_1 : Sta Z Z.heap "com/example/composition/composition/definition/ObjectFormat" "DATA_DEFINITION" "Lcom/example/composition/composition/definition/ObjectFormat;" (.ref o1)) (S_2 : Sta Z Z.heap "com/example/composition/composition/definition/ObjectFormat" "BEHAVIOUR_DEFINITION" "Lcom/example/composition/composition/definition/ObjectFormat;" (.ref o2)) (S_3 : Sta Z Z.heap "com/example/composition/composition/definition/ObjectFormat" "SERVICE_DEFINITION" "Lcom/example/composition/composition/definition/ObjectFormat;" (.ref o3)) (S_4 : Sta Z Z.heap "com/example/composition/composition/definition/ObjectFormat" "SERVICE_BINDING" "Lcom/example/composition/composition/definition/ObjectFormat;" (.ref o4)) (V1 : Arv Z h0 c kc .char (5 : Int32) [(.int x0), (.int x1), (.int x2), (.int x3), (.int x4)] (.int (0 : Int32))) :
    MetFree l yn21 (head1 (Jvm.Cond.code yn21 method_4_code 6 (some (.object "com/example/composition/composition/definition/ObjectFormat")) :: ws) ({ frames := 0, cells := 0, slots := 0, locals := 0 } : Room)) (fun aQ_ UQ => aQ_ = #[(.ref c), (.int nz)] ∧ Z.Warmed39 UQ.vm ∧ UQ.heap = h0) (fun _ _ _ _ _ => True) (fun _ UQ oQ UQ' => ∃ vQ_ LQ_, oQ = .returned vQ_ ∧ Q_expect Z c nz kc x0 x1 x2 x3 x4 o0 o1 o2 o3 o4 h0 n0 vQ_ UQ'.heap LQ_ ∧ FrameEnd UQ oQ UQ' LQ_ ({ frames := 0, cells := 0, slots := 0, locals := 0 } : Room).cells ({ frames := 0, cells := 0, slots := 0, locals := 0 } : Room).slots) := by
  refine MetFree.of_bodySF (plainFor_of_name pn_com_example_composition_composition_definition_ObjectFormatOfTypePinLaw) hisR ?_
  intro p e s m args below meth cO s₁ Bd hml0 hP hK
  obtain ⟨rfl, hZ, hh⟩ := hP
  have hx := Bd.exec
  have hby := Bd.bytes
  have hml : cO.maxLocals = 6 := hml0
  have hown : s.vm.findClass "com/example/composition/composition/definition/ObjectFormatOfTypePinLaw" = some m.cls := findClass_of_methodNamed Bd.named
  have hnm := (name_of_methodNamed Bd.named Bd.method).1
  have X0 : Stand p l e ({ frames := 0, cells := 0, slots := 0, locals := 0 } : Room) s m #[(.ref c), (.int nz)] below meth cO s₁ [] 0 0 := Stand.of_body Bd
  have e0 : s₁.heap = h0 := by rw [← hh, Bd.state]; rfl
  have N0 := Fr.nil n0
  have W0 : ∀ zQ, SS p e below s₁ m 0 #[.val (.ref c), .val (.int nz), .unset, .unset, .unset, .unset] [] zQ → Steps p.tables e below (s₁.setTop (entryFrame m #[(.ref c), (.int nz)] 6)) zQ := fun tt kt => castTop (ef_expect m c nz) kt
  have W101 : ∀ zQ, SS p e below s₁ m 2 #[.val (.ref c), .val (.int nz), .unset, .unset, .unset, .unset] [(.int (4 : Int32)), (.int nz)] zQ → Steps p.tables e below (s₁.setTop (entryFrame m #[(.ref c), (.int nz)] 6)) zQ := by
    intro tt kt
    refine W0 tt ?_
    refine XS.iloadN X0.here hx rfl (hb hby d_method_4_0) rfl ?_
    refine XS.iconst X0.here hx rfl (hb hby d_method_4_1) ?_
    exact kt
  by_cases hc102 : nz = (4 : Int32)
  ·
    obtain ⟨cl103, Ar103, q103, S103, M103, H103, F103g⟩ := id V1
    have hin103 : ¬ ((0 : Int32) < 0 ∨ cl103.slots.size ≤ ((0 : Int32)).toNatClampNeg) := inb_of S103 ⟨by decide, by decide⟩
    have hat103 : cl103.slots[((0 : Int32)).toNatClampNeg]? = some (.int x0) := Has.at H103 hin103 rfl
    obtain ⟨cl104, Ar104, q104, S104, M104, H104, F104g⟩ := id V1
    have hin104 : ¬ ((1 : Int32) < 0 ∨ cl104.slots.size ≤ ((1 : Int32)).toNatClampNeg) := inb_of S104 ⟨by decide, by decide⟩
    have hat104 : cl104.slots[((1 : Int32)).toNatClampNeg]? = some (.int x1) := Has.at H104 hin104 rfl
    obtain ⟨cl105, Ar105, q105, S105, M105, H105, F105g⟩ := id V1
    have hin105 : ¬ ((2 : Int32) < 0 ∨ cl105.slots.size ≤ ((2 : Int32)).toNatClampNeg) := inb_of S105 ⟨by decide, by decide⟩
    have hat105 : cl105.slots[((2 : Int32)).toNatClampNeg]? = some (.int x2) := Has.at H105 hin105 rfl
    obtain ⟨cl106, Ar106, q106, S106, M106, H106, F106g⟩ := id V1
    have hin106 : ¬ ((3 : Int32) < 0 ∨ cl106.slots.size ≤ ((3 : Int32)).toNatClampNeg) := inb_of S106 ⟨by decide, by decide⟩
    have hat106 : cl106.slots[((3 : Int32)).toNatClampNeg]? = some (.int x3) := Has.at H106 hin106 rfl
    have W107 : ∀ zQ, SS p e below s₁ m 25 #[.val (.ref c), .val (.int nz), .val (.int x0), .val (.int x1), .val (.int x2), .val (.int x3)] [] zQ → Steps p.tables e below (s₁.setTop (entryFrame m #[(.ref c), (.int nz)] 6)) zQ := by
      intro tt kt
      refine W101 tt ?_
      refine XS.icmpYes X0.here hx rfl (pc0 := 2) (pc' := 7) rfl (hb hby d_method_4_2) rfl (teq hc102).1 (by decide) (by decide) ?_
      refine XS.aloadN X0.here hx rfl (hb hby d_method_4_7) rfl rfl ?_
      refine XS.iconst X0.here hx rfl (hb hby d_method_4_8) ?_
      show SS p e below s₁ m 9 #[.val (.ref c), .val (.int nz), .unset, .unset, .unset, .unset] [(.int (0 : Int32)), (.ref c)] _
      refine X0.caload hx (j := (0 : Int32)) (v := (.int x0)) (by first | exact Ar103.1 | (rw [e0]; exact Ar103.1)) (State.isArrayOf_alike hZ.alike Ar103.2.1) Ar103.2.2 hin103 hat103 (g := (mkF m 9 #[.val (.ref c), .val (.int nz), .unset, .unset, .unset, .unset] [(.int (0 : Int32)), (.ref c)])) rfl rfl (hb hby d_method_4_9) _ ?_
      refine XS.istoreN X0.here hx rfl (hb hby d_method_4_10) rfl (l' := #[.val (.ref c), .val (.int nz), .val (.int x0), .unset, .unset, .unset]) rfl ?_
      refine XS.aloadN X0.here hx rfl (hb hby d_method_4_11) rfl rfl ?_
      refine XS.iconst X0.here hx rfl (hb hby d_method_4_12) ?_
      show SS p e below s₁ m 13 #[.val (.ref c), .val (.int nz), .val (.int x0), .unset, .unset, .unset] [(.int (1 : Int32)), (.ref c)] _
      refine X0.caload hx (j := (1 : Int32)) (v := (.int x1)) (by first | exact Ar104.1 | (rw [e0]; exact Ar104.1)) (State.isArrayOf_alike hZ.alike Ar104.2.1) Ar104.2.2 hin104 hat104 (g := (mkF m 13 #[.val (.ref c), .val (.int nz), .val (.int x0), .unset, .unset, .unset] [(.int (1 : Int32)), (.ref c)])) rfl rfl (hb hby d_method_4_13) _ ?_
      refine XS.istoreN X0.here hx rfl (hb hby d_method_4_14) rfl (l' := #[.val (.ref c), .val (.int nz), .val (.int x0), .val (.int x1), .unset, .unset]) rfl ?_
      refine XS.aloadN X0.here hx rfl (hb hby d_method_4_15) rfl rfl ?_
      refine XS.iconst X0.here hx rfl (hb hby d_method_4_16) ?_
      show SS p e below s₁ m 17 #[.val (.ref c), .val (.int nz), .val (.int x0), .val (.int x1), .unset, .unset] [(.int (2 : Int32)), (.ref c)] _
      refine X0.caload hx (j := (2 : Int32)) (v := (.int x2)) (by first | exact Ar105.1 | (rw [e0]; exact Ar105.1)) (State.isArrayOf_alike hZ.alike Ar105.2.1) Ar105.2.2 hin105 hat105 (g := (mkF m 17 #[.val (.ref c), .val (.int nz), .val (.int x0), .val (.int x1), .unset, .unset] [(.int (2 : Int32)), (.ref c)])) rfl rfl (hb hby d_method_4_17) _ ?_
      refine XS.istore X0.here hx rfl (hb hby d_method_4_18) rfl (l' := #[.val (.ref c), .val (.int nz), .val (.int x0), .val (.int x1), .val (.int x2), .unset]) rfl ?_
      refine XS.aloadN X0.here hx rfl (hb hby d_method_4_20) rfl rfl ?_
      refine XS.iconst X0.here hx rfl (hb hby d_method_4_21) ?_
      show SS p e below s₁ m 22 #[.val (.ref c), .val (.int nz), .val (.int x0), .val (.int x1), .val (.int x2), .unset] [(.int (3 : Int32)), (.ref c)] _
      refine X0.caload hx (j := (3 : Int32)) (v := (.int x3)) (by first | exact Ar106.1 | (rw [e0]; exact Ar106.1)) (State.isArrayOf_alike hZ.alike Ar106.2.1) Ar106.2.2 hin106 hat106 (g := (mkF m 22 #[.val (.ref c), .val (.int nz), .val (.int x0), .val (.int x1), .val (.int x2), .unset] [(.int (3 : Int32)), (.ref c)])) rfl rfl (hb hby d_method_4_22) _ ?_
      refine XS.istore X0.here hx rfl (hb hby d_method_4_23) rfl (l' := #[.val (.ref c), .val (.int nz), .val (.int x0), .val (.int x1), .val (.int x2), .val (.int x3)]) rfl ?_
      exact kt
    by_cases hx108 : x0 = (116 : Int32) ∧ x1 = (97 : Int32) ∧ x2 = (98 : Int32) ∧ x3 = (108 : Int32)
    ·
      obtain ⟨rfl, rfl, rfl, rfl⟩ := hx108
      have F110 : Sta Z h0 "com/example/composition/composition/definition/ObjectFormat" "TABLE" "Lcom/example/composition/composition/definition/ObjectFormat;" (.ref o0) := S_0.ext O0.2
      obtain ⟨T109, X109, e109, st109⟩ := getS2 X0 hx hZ hown (host := "") (Or.inl (w133 hw)) Via.refl e0 F110 (g := (mkF m 51 #[.val (.ref c), .val (.int nz), .val (.int (116 : Int32)), .val (.int (97 : Int32)), .val (.int (98 : Int32)), .val (.int (108 : Int32))] [])) rfl (hb hby d_method_4_51)
      have W111 : ∀ zQ, SS p e below T109 m 54 #[.val (.ref c), .val (.int nz), .val (.int (116 : Int32)), .val (.int (97 : Int32)), .val (.int (98 : Int32)), .val (.int (108 : Int32))] [(.ref o0)] zQ → Steps p.tables e below (s₁.setTop (entryFrame m #[(.ref c), (.int nz)] 6)) zQ := by
        intro tt kt
        refine W107 tt ?_
        refine XS.iloadN X0.here hx rfl (hb hby d_method_4_25) rfl ?_
        refine XS.bipush X0.here hx rfl (hb hby d_method_4_26) ?_
        refine XS.icmpNo X0.here hx rfl (hb hby d_method_4_28) rfl (teq (by decide)).2 ?_
        refine XS.iloadN X0.here hx rfl (hb hby d_method_4_31) rfl ?_
        refine XS.bipush X0.here hx rfl (hb hby d_method_4_32) ?_
        refine XS.icmpNo X0.here hx rfl (hb hby d_method_4_34) rfl (teq (by decide)).2 ?_
        show SS p e below s₁ m 37 #[.val (.ref c), .val (.int nz), .val (.int (116 : Int32)), .val (.int (97 : Int32)), .val (.int (98 : Int32)), .val (.int (108 : Int32))] [] _
        refine XS.iload X0.here hx rfl (hb hby d_method_4_37) rfl ?_
        refine XS.bipush X0.here hx rfl (hb hby d_method_4_39) ?_
        refine XS.icmpNo X0.here hx rfl (hb hby d_method_4_41) rfl (teq (by decide)).2 ?_
        refine XS.iload X0.here hx rfl (hb hby d_method_4_44) rfl ?_
        refine XS.bipush X0.here hx rfl (hb hby d_method_4_46) ?_
        refine XS.icmpNo X0.here hx rfl (hb hby d_method_4_48) rfl (teq (by decide)).2 ?_
        show SS p e below s₁ m 51 #[.val (.ref c), .val (.int nz), .val (.int (116 : Int32)), .val (.int (97 : Int32)), .val (.int (98 : Int32)), .val (.int (108 : Int32))] [] _
        refine st109 _ ?_
        exact kt
      obtain ⟨fs, hr, hrun, hended, hW, hsame⟩ := X109.leave (v := some (.ref o0)) (fun h => by rw [Bd.returns] at h; cases h)
      refine ⟨_, _, W111 _ (own_retR X109 hx Bd.returns rfl rfl (hb hby d_method_4_54) hr), hrun, hended, _, _, rfl, ?_, ⟨_, rfl⟩, hW, hsame.mono (by decide) (by decide)⟩
      show Q_expect Z c nz kc (116 : Int32) (97 : Int32) (98 : Int32) (108 : Int32) x4 o0 o1 o2 o3 o4 h0 n0 _ T109.heap _
      rw [e109]
      exact ⟨(congrArg some (by simp only [exv, if_pos hc102]; rfl)), N0, rfl⟩
    ·
      by_cases hx112 : x0 = (100 : Int32) ∧ x1 = (100 : Int32) ∧ x2 = (108 : Int32) ∧ x3 = (115 : Int32)
      ·
        obtain ⟨rfl, rfl, rfl, rfl⟩ := hx112
        have F114 : Sta Z h0 "com/example/composition/composition/definition/ObjectFormat" "DATA_DEFINITION" "Lcom/example/composition/composition/definition/ObjectFormat;" (.ref o1) := S_1.ext O0.2
        obtain ⟨T113, X113, e113, st113⟩ := getS2 X0 hx hZ hown (host := "") (Or.inl (w136 hw)) Via.refl e0 F114 (g := (mkF m 81 #[.val (.ref c), .val (.int nz), .val (.int (100 : Int32)), .val (.int (100 : Int32)), .val (.int (108 : Int32)), .val (.int (115 : Int32))] [])) rfl (hb hby d_method_4_81)
        have W115 : ∀ zQ, SS p e below T113 m 84 #[.val (.ref c), .val (.int nz), .val (.int (100 : Int32)), .val (.int (100 : Int32)), .val (.int (108 : Int32)), .val (.int (115 : Int32))] [(.ref o1)] zQ → Steps p.tables e below (s₁.setTop (entryFrame m #[(.ref c), (.int nz)] 6)) zQ := by
          intro tt kt
          refine W107 tt ?_
          refine XS.iloadN X0.here hx rfl (hb hby d_method_4_25) rfl ?_
          refine XS.bipush X0.here hx rfl (hb hby d_method_4_26) ?_
          refine XS.icmpYes X0.here hx rfl (pc0 := 28) (pc' := 55) rfl (hb hby d_method_4_28) rfl (feq (by decide)).2 (by decide) (by decide) ?_
          refine XS.iloadN X0.here hx rfl (hb hby d_method_4_55) rfl ?_
          refine XS.bipush X0.here hx rfl (hb hby d_method_4_56) ?_
          refine XS.icmpNo X0.here hx rfl (hb hby d_method_4_58) rfl (teq (by decide)).2 ?_
          show SS p e below s₁ m 61 #[.val (.ref c), .val (.int nz), .val (.int (100 : Int32)), .val (.int (100 : Int32)), .val (.int (108 : Int32)), .val (.int (115 : Int32))] [] _
          refine XS.iloadN X0.here hx rfl (hb hby d_method_4_61) rfl ?_
          refine XS.bipush X0.here hx rfl (hb hby d_method_4_62) ?_
          refine XS.icmpNo X0.here hx rfl (hb hby d_method_4_64) rfl (teq (by decide)).2 ?_
          refine XS.iload X0.here hx rfl (hb hby d_method_4_67) rfl ?_
          refine XS.bipush X0.here hx rfl (hb hby d_method_4_69) ?_
          refine XS.icmpNo X0.here hx rfl (hb hby d_method_4_71) rfl (teq (by decide)).2 ?_
          show SS p e below s₁ m 74 #[.val (.ref c), .val (.int nz), .val (.int (100 : Int32)), .val (.int (100 : Int32)), .val (.int (108 : Int32)), .val (.int (115 : Int32))] [] _
          refine XS.iload X0.here hx rfl (hb hby d_method_4_74) rfl ?_
          refine XS.bipush X0.here hx rfl (hb hby d_method_4_76) ?_
          refine XS.icmpNo X0.here hx rfl (hb hby d_method_4_78) rfl (teq (by decide)).2 ?_
          show SS p e below s₁ m 81 #[.val (.ref c), .val (.int nz), .val (.int (100 : Int32)), .val (.int (100 : Int32)), .val (.int (108 : Int32)), .val (.int (115 : Int32))] [] _
          refine st113 _ ?_
          exact kt
        obtain ⟨fs, hr, hrun, hended, hW, hsame⟩ := X113.leave (v := some (.ref o1)) (fun h => by rw [Bd.returns] at h; cases h)
        refine ⟨_, _, W115 _ (own_retR X113 hx Bd.returns rfl rfl (hb hby d_method_4_84) hr), hrun, hended, _, _, rfl, ?_, ⟨_, rfl⟩, hW, hsame.mono (by decide) (by decide)⟩
        show Q_expect Z c nz kc (100 : Int32) (100 : Int32) (108 : Int32) (115 : Int32) x4 o0 o1 o2 o3 o4 h0 n0 _ T113.heap _
        rw [e113]
        exact ⟨(congrArg some (by simp only [exv, if_pos hc102]; rfl)), N0, rfl⟩
      ·
        by_cases hx116 : x0 = (98 : Int32) ∧ x1 = (100 : Int32) ∧ x2 = (101 : Int32) ∧ x3 = (102 : Int32)
        ·
          obtain ⟨rfl, rfl, rfl, rfl⟩ := hx116
          have F118 : Sta Z h0 "com/example/composition/composition/definition/ObjectFormat" "BEHAVIOUR_DEFINITION" "Lcom/example/composition/composition/definition/ObjectFormat;" (.ref o2) := S_2.ext O0.2
          obtain ⟨T117, X117, e117, st117⟩ := getS2 X0 hx hZ hown (host := "") (Or.inl (w134 hw)) Via.refl e0 F118 (g := (mkF m 111 #[.val (.ref c), .val (.int nz), .val (.int (98 : Int32)), .val (.int (100 : Int32)), .val (.int (101 : Int32)), .val (.int (102 : Int32))] [])) rfl (hb hby d_method_4_111)
          have W119 : ∀ zQ, SS p e below T117 m 114 #[.val (.ref c), .val (.int nz), .val (.int (98 : Int32)), .val (.int (100 : Int32)), .val (.int (101 : Int32)), .val (.int (102 : Int32))] [(.ref o2)] zQ → Steps p.tables e below (s₁.setTop (entryFrame m #[(.ref c), (.int nz)] 6)) zQ := by
            intro tt kt
            refine W107 tt ?_
            refine XS.iloadN X0.here hx rfl (hb hby d_method_4_25) rfl ?_
            refine XS.bipush X0.here hx rfl (hb hby d_method_4_26) ?_
            refine XS.icmpYes X0.here hx rfl (pc0 := 28) (pc' := 55) rfl (hb hby d_method_4_28) rfl (feq (by decide)).2 (by decide) (by decide) ?_
            refine XS.iloadN X0.here hx rfl (hb hby d_method_4_55) rfl ?_
            refine XS.bipush X0.here hx rfl (hb hby d_method_4_56) ?_
            refine XS.icmpYes X0.here hx rfl (pc0 := 58) (pc' := 85) rfl (hb hby d_method_4_58) rfl (feq (by decide)).2 (by decide) (by decide) ?_
            show SS p e below s₁ m 85 #[.val (.ref c), .val (.int nz), .val (.int (98 : Int32)), .val (.int (100 : Int32)), .val (.int (101 : Int32)), .val (.int (102 : Int32))] [] _
            refine XS.iloadN X0.here hx rfl (hb hby d_method_4_85) rfl ?_
            refine XS.bipush X0.here hx rfl (hb hby d_method_4_86) ?_
            refine XS.icmpNo X0.here hx rfl (hb hby d_method_4_88) rfl (teq (by decide)).2 ?_
            refine XS.iloadN X0.here hx rfl (hb hby d_method_4_91) rfl ?_
            refine XS.bipush X0.here hx rfl (hb hby d_method_4_92) ?_
            refine XS.icmpNo X0.here hx rfl (hb hby d_method_4_94) rfl (teq (by decide)).2 ?_
            show SS p e below s₁ m 97 #[.val (.ref c), .val (.int nz), .val (.int (98 : Int32)), .val (.int (100 : Int32)), .val (.int (101 : Int32)), .val (.int (102 : Int32))] [] _
            refine XS.iload X0.here hx rfl (hb hby d_method_4_97) rfl ?_
            refine XS.bipush X0.here hx rfl (hb hby d_method_4_99) ?_
            refine XS.icmpNo X0.here hx rfl (hb hby d_method_4_101) rfl (teq (by decide)).2 ?_
            refine XS.iload X0.here hx rfl (hb hby d_method_4_104) rfl ?_
            refine XS.bipush X0.here hx rfl (hb hby d_method_4_106) ?_
            refine XS.icmpNo X0.here hx rfl (hb hby d_method_4_108) rfl (teq (by decide)).2 ?_
            show SS p e below s₁ m 111 #[.val (.ref c), .val (.int nz), .val (.int (98 : Int32)), .val (.int (100 : Int32)), .val (.int (101 : Int32)), .val (.int (102 : Int32))] [] _
            refine st117 _ ?_
            exact kt
          obtain ⟨fs, hr, hrun, hended, hW, hsame⟩ := X117.leave (v := some (.ref o2)) (fun h => by rw [Bd.returns] at h; cases h)
          refine ⟨_, _, W119 _ (own_retR X117 hx Bd.returns rfl rfl (hb hby d_method_4_114) hr), hrun, hended, _, _, rfl, ?_, ⟨_, rfl⟩, hW, hsame.mono (by decide) (by decide)⟩
          show Q_expect Z c nz kc (98 : Int32) (100 : Int32) (101 : Int32) (102 : Int32) x4 o0 o1 o2 o3 o4 h0 n0 _ T117.heap _
          rw [e117]
          exact ⟨(congrArg some (by simp only [exv, if_pos hc102]; rfl)), N0, rfl⟩
        ·
          by_cases hx120 : x0 = (115 : Int32) ∧ x1 = (114 : Int32) ∧ x2 = (118 : Int32) ∧ x3 = (100 : Int32)
          ·
            obtain ⟨rfl, rfl, rfl, rfl⟩ := hx120
            have F122 : Sta Z h0 "com/example/composition/composition/definition/ObjectFormat" "SERVICE_DEFINITION" "Lcom/example/composition/composition/definition/ObjectFormat;" (.ref o3) := S_3.ext O0.2
            obtain ⟨T121, X121, e121, st121⟩ := getS2 X0 hx hZ hown (host := "") (Or.inl (w118 hw)) Via.refl e0 F122 (g := (mkF m 141 #[.val (.ref c), .val (.int nz), .val (.int (115 : Int32)), .val (.int (114 : Int32)), .val (.int (118 : Int32)), .val (.int (100 : Int32))] [])) rfl (hb hby d_method_4_141)
            have W123 : ∀ zQ, SS p e below T121 m 144 #[.val (.ref c), .val (.int nz), .val (.int (115 : Int32)), .val (.int (114 : Int32)), .val (.int (118 : Int32)), .val (.int (100 : Int32))] [(.ref o3)] zQ → Steps p.tables e below (s₁.setTop (entryFrame m #[(.ref c), (.int nz)] 6)) zQ := by
              intro tt kt
              refine W107 tt ?_
              refine XS.iloadN X0.here hx rfl (hb hby d_method_4_25) rfl ?_
              refine XS.bipush X0.here hx rfl (hb hby d_method_4_26) ?_
              refine XS.icmpYes X0.here hx rfl (pc0 := 28) (pc' := 55) rfl (hb hby d_method_4_28) rfl (feq (by decide)).2 (by decide) (by decide) ?_
              refine XS.iloadN X0.here hx rfl (hb hby d_method_4_55) rfl ?_
              refine XS.bipush X0.here hx rfl (hb hby d_method_4_56) ?_
              refine XS.icmpYes X0.here hx rfl (pc0 := 58) (pc' := 85) rfl (hb hby d_method_4_58) rfl (feq (by decide)).2 (by decide) (by decide) ?_
              show SS p e below s₁ m 85 #[.val (.ref c), .val (.int nz), .val (.int (115 : Int32)), .val (.int (114 : Int32)), .val (.int (118 : Int32)), .val (.int (100 : Int32))] [] _
              refine XS.iloadN X0.here hx rfl (hb hby d_method_4_85) rfl ?_
              refine XS.bipush X0.here hx rfl (hb hby d_method_4_86) ?_
              refine XS.icmpYes X0.here hx rfl (pc0 := 88) (pc' := 115) rfl (hb hby d_method_4_88) rfl (feq (by decide)).2 (by decide) (by decide) ?_
              refine XS.iloadN X0.here hx rfl (hb hby d_method_4_115) rfl ?_
              refine XS.bipush X0.here hx rfl (hb hby d_method_4_116) ?_
              refine XS.icmpNo X0.here hx rfl (hb hby d_method_4_118) rfl (teq (by decide)).2 ?_
              show SS p e below s₁ m 121 #[.val (.ref c), .val (.int nz), .val (.int (115 : Int32)), .val (.int (114 : Int32)), .val (.int (118 : Int32)), .val (.int (100 : Int32))] [] _
              refine XS.iloadN X0.here hx rfl (hb hby d_method_4_121) rfl ?_
              refine XS.bipush X0.here hx rfl (hb hby d_method_4_122) ?_
              refine XS.icmpNo X0.here hx rfl (hb hby d_method_4_124) rfl (teq (by decide)).2 ?_
              refine XS.iload X0.here hx rfl (hb hby d_method_4_127) rfl ?_
              refine XS.bipush X0.here hx rfl (hb hby d_method_4_129) ?_
              refine XS.icmpNo X0.here hx rfl (hb hby d_method_4_131) rfl (teq (by decide)).2 ?_
              show SS p e below s₁ m 134 #[.val (.ref c), .val (.int nz), .val (.int (115 : Int32)), .val (.int (114 : Int32)), .val (.int (118 : Int32)), .val (.int (100 : Int32))] [] _
              refine XS.iload X0.here hx rfl (hb hby d_method_4_134) rfl ?_
              refine XS.bipush X0.here hx rfl (hb hby d_method_4_136) ?_
              refine XS.icmpNo X0.here hx rfl (hb hby d_method_4_138) rfl (teq (by decide)).2 ?_
              show SS p e below s₁ m 141 #[.val (.ref c), .val (.int nz), .val (.int (115 : Int32)), .val (.int (114 : Int32)), .val (.int (118 : Int32)), .val (.int (100 : Int32))] [] _
              refine st121 _ ?_
              exact kt
            obtain ⟨fs, hr, hrun, hended, hW, hsame⟩ := X121.leave (v := some (.ref o3)) (fun h => by rw [Bd.returns] at h; cases h)
            refine ⟨_, _, W123 _ (own_retR X121 hx Bd.returns rfl rfl (hb hby d_method_4_144) hr), hrun, hended, _, _, rfl, ?_, ⟨_, rfl⟩, hW, hsame.mono (by decide) (by decide)⟩
            show Q_expect Z c nz kc (115 : Int32) (114 : Int32) (118 : Int32) (100 : Int32) x4 o0 o1 o2 o3 o4 h0 n0 _ T121.heap _
            rw [e121]
            exact ⟨(congrArg some (by simp only [exv, if_pos hc102]; rfl)), N0, rfl⟩
          ·
            by_cases hx124 : x0 = (115 : Int32) ∧ x1 = (114 : Int32) ∧ x2 = (118 : Int32) ∧ x3 = (98 : Int32)
            ·
              obtain ⟨rfl, rfl, rfl, rfl⟩ := hx124
              have F126 : Sta Z h0 "com/example/composition/composition/definition/ObjectFormat" "SERVICE_BINDING" "Lcom/example/composition/composition/definition/ObjectFormat;" (.ref o4) := S_4.ext O0.2
              obtain ⟨T125, X125, e125, st125⟩ := getS2 X0 hx hZ hown (host := "") (Or.inl (w135 hw)) Via.refl e0 F126 (g := (mkF m 152 #[.val (.ref c), .val (.int nz), .val (.int (115 : Int32)), .val (.int (114 : Int32)), .val (.int (118 : Int32)), .val (.int (98 : Int32))] [])) rfl (hb hby d_method_4_152)
              have W127 : ∀ zQ, SS p e below T125 m 155 #[.val (.ref c), .val (.int nz), .val (.int (115 : Int32)), .val (.int (114 : Int32)), .val (.int (118 : Int32)), .val (.int (98 : Int32))] [(.ref o4)] zQ → Steps p.tables e below (s₁.setTop (entryFrame m #[(.ref c), (.int nz)] 6)) zQ := by
                intro tt kt
                refine W107 tt ?_
                refine XS.iloadN X0.here hx rfl (hb hby d_method_4_25) rfl ?_
                refine XS.bipush X0.here hx rfl (hb hby d_method_4_26) ?_
                refine XS.icmpYes X0.here hx rfl (pc0 := 28) (pc' := 55) rfl (hb hby d_method_4_28) rfl (feq (by decide)).2 (by decide) (by decide) ?_
                refine XS.iloadN X0.here hx rfl (hb hby d_method_4_55) rfl ?_
                refine XS.bipush X0.here hx rfl (hb hby d_method_4_56) ?_
                refine XS.icmpYes X0.here hx rfl (pc0 := 58) (pc' := 85) rfl (hb hby d_method_4_58) rfl (feq (by decide)).2 (by decide) (by decide) ?_
                show SS p e below s₁ m 85 #[.val (.ref c), .val (.int nz), .val (.int (115 : Int32)), .val (.int (114 : Int32)), .val (.int (118 : Int32)), .val (.int (98 : Int32))] [] _
                refine XS.iloadN X0.here hx rfl (hb hby d_method_4_85) rfl ?_
                refine XS.bipush X0.here hx rfl (hb hby d_method_4_86) ?_
                refine XS.icmpYes X0.here hx rfl (pc0 := 88) (pc' := 115) rfl (hb hby d_method_4_88) rfl (feq (by decide)).2 (by decide) (by decide) ?_
                refine XS.iloadN X0.here hx rfl (hb hby d_method_4_115) rfl ?_
                refine XS.bipush X0.here hx rfl (hb hby d_method_4_116) ?_
                refine XS.icmpNo X0.here hx rfl (hb hby d_method_4_118) rfl (teq (by decide)).2 ?_
                show SS p e below s₁ m 121 #[.val (.ref c), .val (.int nz), .val (.int (115 : Int32)), .val (.int (114 : Int32)), .val (.int (118 : Int32)), .val (.int (98 : Int32))] [] _
                refine XS.iloadN X0.here hx rfl (hb hby d_method_4_121) rfl ?_
                refine XS.bipush X0.here hx rfl (hb hby d_method_4_122) ?_
                refine XS.icmpNo X0.here hx rfl (hb hby d_method_4_124) rfl (teq (by decide)).2 ?_
                refine XS.iload X0.here hx rfl (hb hby d_method_4_127) rfl ?_
                refine XS.bipush X0.here hx rfl (hb hby d_method_4_129) ?_
                refine XS.icmpNo X0.here hx rfl (hb hby d_method_4_131) rfl (teq (by decide)).2 ?_
                show SS p e below s₁ m 134 #[.val (.ref c), .val (.int nz), .val (.int (115 : Int32)), .val (.int (114 : Int32)), .val (.int (118 : Int32)), .val (.int (98 : Int32))] [] _
                refine XS.iload X0.here hx rfl (hb hby d_method_4_134) rfl ?_
                refine XS.bipush X0.here hx rfl (hb hby d_method_4_136) ?_
                refine XS.icmpYes X0.here hx rfl (pc0 := 138) (pc' := 145) rfl (hb hby d_method_4_138) rfl (feq (by decide)).2 (by decide) (by decide) ?_
                refine XS.iload X0.here hx rfl (hb hby d_method_4_145) rfl ?_
                refine XS.bipush X0.here hx rfl (hb hby d_method_4_147) ?_
                refine XS.icmpNo X0.here hx rfl (hb hby d_method_4_149) rfl (teq (by decide)).2 ?_
                show SS p e below s₁ m 152 #[.val (.ref c), .val (.int nz), .val (.int (115 : Int32)), .val (.int (114 : Int32)), .val (.int (118 : Int32)), .val (.int (98 : Int32))] [] _
                refine st125 _ ?_
                exact kt
              obtain ⟨fs, hr, hrun, hended, hW, hsame⟩ := X125.leave (v := some (.ref o4)) (fun h => by rw [Bd.returns] at h; cases h)
              refine ⟨_, _, W127 _ (own_retR X125 hx Bd.returns rfl rfl (hb hby d_method_4_155) hr), hrun, hended, _, _, rfl, ?_, ⟨_, rfl⟩, hW, hsame.mono (by decide) (by decide)⟩
              show Q_expect Z c nz kc (115 : Int32) (114 : Int32) (118 : Int32) (98 : Int32) x4 o0 o1 o2 o3 o4 h0 n0 _ T125.heap _
              rw [e125]
              exact ⟨(congrArg some (by simp only [exv, if_pos hc102]; rfl)), N0, rfl⟩
            ·
              have W128 : ∀ zQ, SS p e below s₁ m 28 #[.val (.ref c), .val (.int nz), .val (.int x0), .val (.int x1), .val (.int x2), .val (.int x3)] [(.int (116 : Int32)), (.int x0)] zQ → Steps p.tables e below (s₁.setTop (entryFrame m #[(.ref c), (.int nz)] 6)) zQ := by
                intro tt kt
                refine W107 tt ?_
                refine XS.iloadN X0.here hx rfl (hb hby d_method_4_25) rfl ?_
                refine XS.bipush X0.here hx rfl (hb hby d_method_4_26) ?_
                exact kt
              have W133 : ∀ zQ, SS p e below s₁ m 55 #[.val (.ref c), .val (.int nz), .val (.int x0), .val (.int x1), .val (.int x2), .val (.int x3)] [] zQ → Steps p.tables e below (s₁.setTop (entryFrame m #[(.ref c), (.int nz)] 6)) zQ := by
                intro tt kt
                refine W128 tt ?_
                by_cases hj129 : x0 = (116 : Int32)
                ·
                  refine XS.icmpNo X0.here hx rfl (hb hby d_method_4_28) rfl (teq hj129).2 ?_
                  refine XS.iloadN X0.here hx rfl (hb hby d_method_4_31) rfl ?_
                  refine XS.bipush X0.here hx rfl (hb hby d_method_4_32) ?_
                  by_cases hj130 : x1 = (97 : Int32)
                  ·
                    refine XS.icmpNo X0.here hx rfl (hb hby d_method_4_34) rfl (teq hj130).2 ?_
                    refine XS.iload X0.here hx rfl (hb hby d_method_4_37) rfl ?_
                    refine XS.bipush X0.here hx rfl (hb hby d_method_4_39) ?_
                    by_cases hj131 : x2 = (98 : Int32)
                    ·
                      refine XS.icmpNo X0.here hx rfl (hb hby d_method_4_41) rfl (teq hj131).2 ?_
                      refine XS.iload X0.here hx rfl (hb hby d_method_4_44) rfl ?_
                      refine XS.bipush X0.here hx rfl (hb hby d_method_4_46) ?_
                      by_cases hj132 : x3 = (108 : Int32)
                      ·
                        refine XS.icmpNo X0.here hx rfl (hb hby d_method_4_48) rfl (teq hj132).2 ?_
                        exact absurd ⟨hj129, hj130, hj131, hj132⟩ hx108
                      ·
                        refine XS.icmpYes X0.here hx rfl (pc0 := 48) (pc' := 55) rfl (hb hby d_method_4_48) rfl (feq hj132).2 (by decide) (by decide) ?_
                        exact castTop (by first | rfl | (simp only [if_pos hj129, if_pos hj130, if_pos hj131, if_neg hj132]; first | done | rfl)) kt
                    ·
                      refine XS.icmpYes X0.here hx rfl (pc0 := 41) (pc' := 55) rfl (hb hby d_method_4_41) rfl (feq hj131).2 (by decide) (by decide) ?_
                      exact castTop (by first | rfl | (simp only [if_pos hj129, if_pos hj130, if_neg hj131]; first | done | rfl)) kt
                  ·
                    refine XS.icmpYes X0.here hx rfl (pc0 := 34) (pc' := 55) rfl (hb hby d_method_4_34) rfl (feq hj130).2 (by decide) (by decide) ?_
                    exact castTop (by first | rfl | (simp only [if_pos hj129, if_neg hj130]; first | done | rfl)) kt
                ·
                  refine XS.icmpYes X0.here hx rfl (pc0 := 28) (pc' := 55) rfl (hb hby d_method_4_28) rfl (feq hj129).2 (by decide) (by decide) ?_
                  exact castTop (by first | rfl | (simp only [if_neg hj129]; first | done | rfl)) kt
              have W134 : ∀ zQ, SS p e below s₁ m 58 #[.val (.ref c), .val (.int nz), .val (.int x0), .val (.int x1), .val (.int x2), .val (.int x3)] [(.int (100 : Int32)), (.int x0)] zQ → Steps p.tables e below (s₁.setTop (entryFrame m #[(.ref c), (.int nz)] 6)) zQ := by
                intro tt kt
                refine W133 tt ?_
                refine XS.iloadN X0.here hx rfl (hb hby d_method_4_55) rfl ?_
                refine XS.bipush X0.here hx rfl (hb hby d_method_4_56) ?_
                exact kt
              have W139 : ∀ zQ, SS p e below s₁ m 85 #[.val (.ref c), .val (.int nz), .val (.int x0), .val (.int x1), .val (.int x2), .val (.int x3)] [] zQ → Steps p.tables e below (s₁.setTop (entryFrame m #[(.ref c), (.int nz)] 6)) zQ := by
                intro tt kt
                refine W134 tt ?_
                by_cases hj135 : x0 = (100 : Int32)
                ·
                  refine XS.icmpNo X0.here hx rfl (hb hby d_method_4_58) rfl (teq hj135).2 ?_
                  refine XS.iloadN X0.here hx rfl (hb hby d_method_4_61) rfl ?_
                  refine XS.bipush X0.here hx rfl (hb hby d_method_4_62) ?_
                  by_cases hj136 : x1 = (100 : Int32)
                  ·
                    refine XS.icmpNo X0.here hx rfl (hb hby d_method_4_64) rfl (teq hj136).2 ?_
                    refine XS.iload X0.here hx rfl (hb hby d_method_4_67) rfl ?_
                    refine XS.bipush X0.here hx rfl (hb hby d_method_4_69) ?_
                    by_cases hj137 : x2 = (108 : Int32)
                    ·
                      refine XS.icmpNo X0.here hx rfl (hb hby d_method_4_71) rfl (teq hj137).2 ?_
                      refine XS.iload X0.here hx rfl (hb hby d_method_4_74) rfl ?_
                      refine XS.bipush X0.here hx rfl (hb hby d_method_4_76) ?_
                      by_cases hj138 : x3 = (115 : Int32)
                      ·
                        refine XS.icmpNo X0.here hx rfl (hb hby d_method_4_78) rfl (teq hj138).2 ?_
                        exact absurd ⟨hj135, hj136, hj137, hj138⟩ hx112
                      ·
                        refine XS.icmpYes X0.here hx rfl (pc0 := 78) (pc' := 85) rfl (hb hby d_method_4_78) rfl (feq hj138).2 (by decide) (by decide) ?_
                        exact castTop (by first | rfl | (simp only [if_pos hj135, if_pos hj136, if_pos hj137, if_neg hj138]; first | done | rfl)) kt
                    ·
                      refine XS.icmpYes X0.here hx rfl (pc0 := 71) (pc' := 85) rfl (hb hby d_method_4_71) rfl (feq hj137).2 (by decide) (by decide) ?_
                      exact castTop (by first | rfl | (simp only [if_pos hj135, if_pos hj136, if_neg hj137]; first | done | rfl)) kt
                  ·
                    refine XS.icmpYes X0.here hx rfl (pc0 := 64) (pc' := 85) rfl (hb hby d_method_4_64) rfl (feq hj136).2 (by decide) (by decide) ?_
                    exact castTop (by first | rfl | (simp only [if_pos hj135, if_neg hj136]; first | done | rfl)) kt
                ·
                  refine XS.icmpYes X0.here hx rfl (pc0 := 58) (pc' := 85) rfl (hb hby d_method_4_58) rfl (feq hj135).2 (by decide) (by decide) ?_
                  exact castTop (by first | rfl | (simp only [if_neg hj135]; first | done | rfl)) kt
              have W140 : ∀ zQ, SS p e below s₁ m 88 #[.val (.ref c), .val (.int nz), .val (.int x0), .val (.int x1), .val (.int x2), .val (.int x3)] [(.int (98 : Int32)), (.int x0)] zQ → Steps p.tables e below (s₁.setTop (entryFrame m #[(.ref c), (.int nz)] 6)) zQ := by
                intro tt kt
                refine W139 tt ?_
                refine XS.iloadN X0.here hx rfl (hb hby d_method_4_85) rfl ?_
                refine XS.bipush X0.here hx rfl (hb hby d_method_4_86) ?_
                exact kt
              have W145 : ∀ zQ, SS p e below s₁ m 115 #[.val (.ref c), .val (.int nz), .val (.int x0), .val (.int x1), .val (.int x2), .val (.int x3)] [] zQ → Steps p.tables e below (s₁.setTop (entryFrame m #[(.ref c), (.int nz)] 6)) zQ := by
                intro tt kt
                refine W140 tt ?_
                by_cases hj141 : x0 = (98 : Int32)
                ·
                  refine XS.icmpNo X0.here hx rfl (hb hby d_method_4_88) rfl (teq hj141).2 ?_
                  refine XS.iloadN X0.here hx rfl (hb hby d_method_4_91) rfl ?_
                  refine XS.bipush X0.here hx rfl (hb hby d_method_4_92) ?_
                  by_cases hj142 : x1 = (100 : Int32)
                  ·
                    refine XS.icmpNo X0.here hx rfl (hb hby d_method_4_94) rfl (teq hj142).2 ?_
                    refine XS.iload X0.here hx rfl (hb hby d_method_4_97) rfl ?_
                    refine XS.bipush X0.here hx rfl (hb hby d_method_4_99) ?_
                    by_cases hj143 : x2 = (101 : Int32)
                    ·
                      refine XS.icmpNo X0.here hx rfl (hb hby d_method_4_101) rfl (teq hj143).2 ?_
                      refine XS.iload X0.here hx rfl (hb hby d_method_4_104) rfl ?_
                      refine XS.bipush X0.here hx rfl (hb hby d_method_4_106) ?_
                      by_cases hj144 : x3 = (102 : Int32)
                      ·
                        refine XS.icmpNo X0.here hx rfl (hb hby d_method_4_108) rfl (teq hj144).2 ?_
                        exact absurd ⟨hj141, hj142, hj143, hj144⟩ hx116
                      ·
                        refine XS.icmpYes X0.here hx rfl (pc0 := 108) (pc' := 115) rfl (hb hby d_method_4_108) rfl (feq hj144).2 (by decide) (by decide) ?_
                        exact castTop (by first | rfl | (simp only [if_pos hj141, if_pos hj142, if_pos hj143, if_neg hj144]; first | done | rfl)) kt
                    ·
                      refine XS.icmpYes X0.here hx rfl (pc0 := 101) (pc' := 115) rfl (hb hby d_method_4_101) rfl (feq hj143).2 (by decide) (by decide) ?_
                      exact castTop (by first | rfl | (simp only [if_pos hj141, if_pos hj142, if_neg hj143]; first | done | rfl)) kt
                  ·
                    refine XS.icmpYes X0.here hx rfl (pc0 := 94) (pc' := 115) rfl (hb hby d_method_4_94) rfl (feq hj142).2 (by decide) (by decide) ?_
                    exact castTop (by first | rfl | (simp only [if_pos hj141, if_neg hj142]; first | done | rfl)) kt
                ·
                  refine XS.icmpYes X0.here hx rfl (pc0 := 88) (pc' := 115) rfl (hb hby d_method_4_88) rfl (feq hj141).2 (by decide) (by decide) ?_
                  exact castTop (by first | rfl | (simp only [if_neg hj141]; first | done | rfl)) kt
              have W146 : ∀ zQ, SS p e below s₁ m 118 #[.val (.ref c), .val (.int nz), .val (.int x0), .val (.int x1), .val (.int x2), .val (.int x3)] [(.int (115 : Int32)), (.int x0)] zQ → Steps p.tables e below (s₁.setTop (entryFrame m #[(.ref c), (.int nz)] 6)) zQ := by
                intro tt kt
                refine W145 tt ?_
                refine XS.iloadN X0.here hx rfl (hb hby d_method_4_115) rfl ?_
                refine XS.bipush X0.here hx rfl (hb hby d_method_4_116) ?_
                exact kt
              have W152 : ∀ zQ, SS p e below s₁ m 156 #[.val (.ref c), .val (.int nz), .val (.int x0), .val (.int x1), .val (.int x2), .val (.int x3)] [] zQ → Steps p.tables e below (s₁.setTop (entryFrame m #[(.ref c), (.int nz)] 6)) zQ := by
                intro tt kt
                refine W146 tt ?_
                by_cases hj147 : x0 = (115 : Int32)
                ·
                  refine XS.icmpNo X0.here hx rfl (hb hby d_method_4_118) rfl (teq hj147).2 ?_
                  refine XS.iloadN X0.here hx rfl (hb hby d_method_4_121) rfl ?_
                  refine XS.bipush X0.here hx rfl (hb hby d_method_4_122) ?_
                  by_cases hj148 : x1 = (114 : Int32)
                  ·
                    refine XS.icmpNo X0.here hx rfl (hb hby d_method_4_124) rfl (teq hj148).2 ?_
                    refine XS.iload X0.here hx rfl (hb hby d_method_4_127) rfl ?_
                    refine XS.bipush X0.here hx rfl (hb hby d_method_4_129) ?_
                    by_cases hj149 : x2 = (118 : Int32)
                    ·
                      refine XS.icmpNo X0.here hx rfl (hb hby d_method_4_131) rfl (teq hj149).2 ?_
                      refine XS.iload X0.here hx rfl (hb hby d_method_4_134) rfl ?_
                      refine XS.bipush X0.here hx rfl (hb hby d_method_4_136) ?_
                      by_cases hj150 : x3 = (100 : Int32)
                      ·
                        refine XS.icmpNo X0.here hx rfl (hb hby d_method_4_138) rfl (teq hj150).2 ?_
                        exact absurd ⟨hj147, hj148, hj149, hj150⟩ hx120
                      ·
                        refine XS.icmpYes X0.here hx rfl (pc0 := 138) (pc' := 145) rfl (hb hby d_method_4_138) rfl (feq hj150).2 (by decide) (by decide) ?_
                        refine XS.iload X0.here hx rfl (hb hby d_method_4_145) rfl ?_
                        refine XS.bipush X0.here hx rfl (hb hby d_method_4_147) ?_
                        by_cases hj151 : x3 = (98 : Int32)
                        ·
                          refine XS.icmpNo X0.here hx rfl (hb hby d_method_4_149) rfl (teq hj151).2 ?_
                          exact absurd ⟨hj147, hj148, hj149, hj151⟩ hx124
                        ·
                          refine XS.icmpYes X0.here hx rfl (pc0 := 149) (pc' := 156) rfl (hb hby d_method_4_149) rfl (feq hj151).2 (by decide) (by decide) ?_
                          exact castTop (by first | rfl | (simp only [if_pos hj147, if_pos hj148, if_pos hj149, if_neg hj150, if_neg hj151]; first | done | rfl)) kt
                    ·
                      refine XS.icmpYes X0.here hx rfl (pc0 := 131) (pc' := 156) rfl (hb hby d_method_4_131) rfl (feq hj149).2 (by decide) (by decide) ?_
                      exact castTop (by first | rfl | (simp only [if_pos hj147, if_pos hj148, if_neg hj149]; first | done | rfl)) kt
                  ·
                    refine XS.icmpYes X0.here hx rfl (pc0 := 124) (pc' := 156) rfl (hb hby d_method_4_124) rfl (feq hj148).2 (by decide) (by decide) ?_
                    exact castTop (by first | rfl | (simp only [if_pos hj147, if_neg hj148]; first | done | rfl)) kt
                ·
                  refine XS.icmpYes X0.here hx rfl (pc0 := 118) (pc' := 156) rfl (hb hby d_method_4_118) rfl (feq hj147).2 (by decide) (by decide) ?_
                  exact castTop (by first | rfl | (simp only [if_neg hj147]; first | done | rfl)) kt
              have W153 : ∀ zQ, SS p e below s₁ m 157 #[.val (.ref c), .val (.int nz), .val (.int x0), .val (.int x1), .val (.int x2), .val (.int x3)] [.null] zQ → Steps p.tables e below (s₁.setTop (entryFrame m #[(.ref c), (.int nz)] 6)) zQ := by
                intro tt kt
                refine W152 tt ?_
                refine XS.aconstNull X0.here hx rfl (hb hby d_method_4_156) ?_
                exact kt
              obtain ⟨fs, hr, hrun, hended, hW, hsame⟩ := X0.leave (v := some .null) (fun h => by rw [Bd.returns] at h; cases h)
              refine ⟨_, _, W153 _ (own_retR X0 hx Bd.returns rfl rfl (hb hby d_method_4_157) hr), hrun, hended, _, _, rfl, ?_, ⟨_, rfl⟩, hW, hsame.mono (by decide) (by decide)⟩
              show Q_expect Z c nz kc x0 x1 x2 x3 x4 o0 o1 o2 o3 o4 h0 n0 _ s₁.heap _
              rw [e0]
              exact ⟨(congrArg some (by simp only [exv, if_pos hc102]; exact (own_ovn hx108 hx112 hx116 hx120 hx124).symm)), N0, rfl⟩
  ·
    have W154 : ∀ zQ, SS p e below s₁ m 6 #[.val (.ref c), .val (.int nz), .unset, .unset, .unset, .unset] [.null] zQ → Steps p.tables e below (s₁.setTop (entryFrame m #[(.ref c), (.int nz)] 6)) zQ := by
      intro tt kt
      refine W101 tt ?_
      refine XS.icmpNo X0.here hx rfl (hb hby d_method_4_2) rfl (feq hc102).1 ?_
      refine XS.aconstNull X0.here hx rfl (hb hby d_method_4_5) ?_
      exact kt
    obtain ⟨fs, hr, hrun, hended, hW, hsame⟩ := X0.leave (v := some .null) (fun h => by rw [Bd.returns] at h; cases h)
    refine ⟨_, _, W154 _ (own_retR X0 hx Bd.returns rfl rfl (hb hby d_method_4_6) hr), hrun, hended, _, _, rfl, ?_, ⟨_, rfl⟩, hW, hsame.mono (by decide) (by decide)⟩
    show Q_expect Z c nz kc x0 x1 x2 x3 x4 o0 o1 o2 o3 o4 h0 n0 _ s₁.heap _
    rw [e0]
    exact ⟨(congrArg some (by simp only [exv, if_neg hc102])), N0, rfl⟩
def Q_law (Z : State) (sel : Int32) (a : Int32) (bq : Int32) (c : Int32) (d : Int32) (e0_ : Int32) (o0 : Addr) (o1 : Addr) (o2 : Addr) (o3 : Addr) (o4 : Addr) (oV : Addr) (kV : ClassId) (j0 : Addr) (v0 : Addr) (kv0 : ClassId) (j1 : Addr) (v1 : Addr) (kv1 : ClassId) (j2 : Addr) (v2 : Addr) (kv2 : ClassId) (j3 : Addr) (v3 : Addr) (kv3 : ClassId) (j4 : Addr) (v4 : Addr) (kv4 : ClassId) (oE : Addr) (cS : Int32) (fm : Value) (h0 : Heap) (n0 : Nat) (vQ_ : Option Value) (hQ_ : Heap) (LQ_ : List Loc) : Prop := vQ_ = some (.int (1 : Int32)) ∧ Fr n0 LQ_ ∧ Keep h0 hQ_ []
set_option maxRecDepth 65536 in
set_option maxHeartbeats 40000000 in
theorem rm_law (l : Launch) (Z : State) (a0 : Array Value) (hw : HW a0 Z) (ws : List Jvm.Cond) (sel : Int32) (a : Int32) (bq : Int32) (c : Int32) (d : Int32) (e0_ : Int32) (o0 : Addr) (o1 : Addr) (o2 : Addr) (o3 : Addr) (o4 : Addr) (oV : Addr) (kV : ClassId) (j0 : Addr) (v0 : Addr) (kv0 : ClassId) (j1 : Addr) (v1 : Addr) (kv1 : ClassId) (j2 : Addr) (v2 : Addr) (kv2 : ClassId) (j3 : Addr) (v3 : Addr) (kv3 : ClassId) (j4 : Addr) (v4 : Addr) (kv4 : ClassId) (oE : Addr) (cS : Int32) (fm : Value) (h0 : Heap) (n0 : Nat) (Z0 : n0 ≤ h0.size) (O0 : Old Z n0 h0) (S_V : Sta Z Z.heap "com/example/composition/composition/definition/ObjectFormat" "$VALUES" "[Lcom/example/composition/composition/definition/ObjectFormat;" (.ref oV)) (S_0 : Sta Z Z.heap "com/example/composition/composition/definition/ObjectFormat" "TABLE" "Lcom/example/composition/composition/definition/ObjectFormat;" (.ref o0)) (S_1 : Sta Z Z.heap "com/example/composition/composition/definition/ObjectFormat" "DATA_DEFINITION" "Lcom/example/composition/composition/definition/ObjectFormat;" (.ref o1)) (S_2 : Sta Z Z.heap "com/example/composition/composition/definition/ObjectFormat" "BEHAVIOUR_DEFINITION" "Lcom/example/composition/composition/definition/ObjectFormat;" (.ref o2)) (S_3 : Sta Z Z.heap "com/example/composition/composition/definition/ObjectFormat" "SERVICE_DEFINITION" "Lcom/example/composition/composition/definition/ObjectFormat;" (.ref o3)) (S_4 : Sta Z Z.heap "com/example/composition/composition/definition/ObjectFormat" "SERVICE_BINDING" "Lcom/example/composition/composition/definition/ObjectFormat;" (.ref o4)) (E_V : Exa Z Z.heap oV "[Lcom/example/composition/composition/definition/ObjectFormat;") (V_V : Arv Z Z.heap oV kV (.object "com/example/composition/composition/definition/ObjectFormat") (5 : Int32) [(.ref o0), (.ref o1), (.ref o2), (.ref o3), (.ref o4)] .null) (E_0 : Exa Z Z.heap o0 "com/example/composition/composition/definition/ObjectFormat") (Fj_0 : Fld Z Z.heap o0 "com/example/composition/composition/definition/ObjectFormat" "type" "Ljava/lang/String;" (.ref j0)) (Ej_0 : Exa Z Z.heap j0 "java/lang/String") (Fc_0 : Fld Z Z.heap j0 "java/lang/String" "coder" "B" (.int (0 : Int32))) (Fv_0 : Fld Z Z.heap j0 "java/lang/String" "value" "[B" (.ref v0)) (Vv_0 : Arv Z Z.heap v0 kv0 .byte (4 : Int32) [(.int (116 : Int32)), (.int (97 : Int32)), (.int (98 : Int32)), (.int (108 : Int32))] (.int (0 : Int32))) (E_1 : Exa Z Z.heap o1 "com/example/composition/composition/definition/ObjectFormat") (Fj_1 : Fld Z Z.heap o1 "com/example/composition/composition/definition/ObjectFormat" "type" "Ljava/lang/String;" (.ref j1)) (Ej_1 : Exa Z Z.heap j1 "java/lang/String") (Fc_1 : Fld Z Z.heap j1 "java/lang/String" "coder" "B" (.int (0 : Int32))) (Fv_1 : Fld Z Z.heap j1 "java/lang/String" "value" "[B" (.ref v1)) (Vv_1 : Arv Z Z.heap v1 kv1 .byte (4 : Int32) [(.int (100 : Int32)), (.int (100 : Int32)), (.int (108 : Int32)), (.int (115 : Int32))] (.int (0 : Int32))) (E_2 : Exa Z Z.heap o2 "com/example/composition/composition/definition/ObjectFormat") (Fj_2 : Fld Z Z.heap o2 "com/example/composition/composition/definition/ObjectFormat" "type" "Ljava/lang/String;" (.ref j2)) (Ej_2 : Exa Z Z.heap j2 "java/lang/String") (Fc_2 : Fld Z Z.heap j2 "java/lang/String" "coder" "B" (.int (0 : Int32))) (Fv_2 : Fld Z Z.heap j2 "java/lang/String" "value" "[B" (.ref v2)) (Vv_2 : Arv Z Z.heap v2 kv2 .byte (4 : Int32) [(.int (98 : Int32)), (.int (100 : Int32)), (.int (101 : Int32)), (.int (102 : Int32))] (.int (0 : Int32))) (E_3 : Exa Z Z.heap o3 "com/example/composition/composition/definition/ObjectFormat") (Fj_3 : Fld Z Z.heap o3 "com/example/composition/composition/definition/ObjectFormat" "type" "Ljava/lang/String;" (.ref j3)) (Ej_3 : Exa Z Z.heap j3 "java/lang/String") (Fc_3 : Fld Z Z.heap j3 "java/lang/String" "coder" "B" (.int (0 : Int32))) (Fv_3 : Fld Z Z.heap j3 "java/lang/String" "value" "[B" (.ref v3)) (Vv_3 : Arv Z Z.heap v3 kv3 .byte (4 : Int32) [(.int (115 : Int32)), (.int (114 : Int32)), (.int (118 : Int32)), (.int (100 : Int32))] (.int (0 : Int32))) (E_4 : Exa Z Z.heap o4 "com/example/composition/composition/definition/ObjectFormat") (Fj_4 : Fld Z Z.heap o4 "com/example/composition/composition/definition/ObjectFormat" "type" "Ljava/lang/String;" (.ref j4)) (Ej_4 : Exa Z Z.heap j4 "java/lang/String") (Fc_4 : Fld Z Z.heap j4 "java/lang/String" "coder" "B" (.int (0 : Int32))) (Fv_4 : Fld Z Z.heap j4 "java/lang/String" "value" "[B" (.ref v4)) (Vv_4 : Arv Z Z.heap v4 kv4 .byte (4 : Int32) [(.int (115 : Int32)), (.int (114 : Int32)), (.int (118 : Int32)), (.int (98 : Int32))] (.int (0 : Int32))) (S_EMPTY : Sta Z Z.heap "java/util/Optional" "EMPTY" "Ljava/util/Optional;" (.ref oE)) (E_EMPTY : Exa Z Z.heap oE "java/util/Optional") (F_EMPTY : Fld Z Z.heap oE "java/util/Optional" "value" "Ljava/lang/Object;" .null) (S_cs : Sta Z Z.heap "java/lang/String" "COMPACT_STRINGS" "Z" (.int cS)) (hcS : ¬ (cS = (0 : Int32))) (S_fm : Sta Z Z.heap "jdk/internal/util/Preconditions" "SIOOBE_FORMATTER" "Ljava/util/function/BiFunction;" fm) (hfm : fm.isRef = true) :
    MetFree l x (head1 (Jvm.Cond.code x code maxLocals ret :: ws) room_1) (fun aQ_ UQ => aQ_ = #[(.int sel), (.int a), (.int bq), (.int c), (.int d), (.int e0_)] ∧ Z.Warmed39 UQ.vm ∧ UQ.heap = h0 ∧ CHv Z EL_1 UQ.vm h0) (fun _ _ _ _ _ => True) (fun _ UQ oQ UQ' => ∃ vQ_ LQ_, oQ = .returned vQ_ ∧ Q_law Z sel a bq c d e0_ o0 o1 o2 o3 o4 oV kV j0 v0 kv0 j1 v1 kv1 j2 v2 kv2 j3 v3 kv3 j4 v4 kv4 oE cS fm h0 n0 vQ_ UQ'.heap LQ_ ∧ CHr Z EL_1 UQ.vm UQ.heap UQ'.vm UQ'.heap ∧ ReturnedEndW UQ oQ UQ' LQ_ room_1.cells room_1.slots) := by
  refine MetFree.of_bodySF (plainFor_of_name pn_com_example_composition_composition_definition_ObjectFormatOfTypePinLaw) hisR ?_
  intro p e s m args below meth cO s₁ Bd hml0 hP hK
  obtain ⟨rfl, hZ, hh, hH⟩ := hP
  have hx := Bd.exec
  have hby := Bd.bytes
  have hml : cO.maxLocals = 12 := hml0
  have hown : s.vm.findClass "com/example/composition/composition/definition/ObjectFormatOfTypePinLaw" = some m.cls := findClass_of_methodNamed Bd.named
  have hnm := (name_of_methodNamed Bd.named Bd.method).1
  have X0 : Stand p l e room_1 (s.setVm s.vm) m #[(.int sel), (.int a), (.int bq), (.int c), (.int d), (.int e0_)] below meth cO s₁ [] 0 0 := Stand.of_body Bd
  have e0 : s₁.heap = h0 := by rw [← hh, Bd.state]; rfl
  have N0 := Fr.nil n0
  have hZ0 : Z.Warmed39 (s.setVm s.vm).vm := hZ
  have hown0 : (s.setVm s.vm).vm.findClass "com/example/composition/composition/definition/ObjectFormatOfTypePinLaw" = some m.cls := hown
  have hS0 : s.Since s.vm 0 := (State.WarmedH.refl s).since 0
  have hk0 : 0 ≤ h0.size := Nat.zero_le _
  have hEL : EW Z a0 EL_1 := own_EW hw
  have R0 : CHr Z EL_1 s.vm h0 s.vm h0 := CHr.refl hH
  have W0 : ∀ zQ, SS p e below s₁ m 0 #[.val (.int sel), .val (.int a), .val (.int bq), .val (.int c), .val (.int d), .val (.int e0_), .unset, .unset, .unset, .unset, .unset, .unset] [] zQ → Steps p.tables e below (s₁.setTop (entryFrame m #[(.int sel), (.int a), (.int bq), (.int c), (.int d), (.int e0_)] maxLocals)) zQ := fun tt kt => castTop (ef_law m sel a bq c d e0_) kt
  obtain ⟨kq, h_kq⟩ : ∃ z : Int32, z = ((sel &&& (2147483647 : Int32)) % (7 : Int32)) := ⟨_, rfl⟩
  have hk7 := own_r7 sel
  rw [← h_kq] at hk7
  have W101 : ∀ zQ, SS p e below s₁ m 13 #[.val (.int sel), .val (.int a), .val (.int bq), .val (.int c), .val (.int d), .val (.int e0_), .val (.int kq), .unset, .unset, .unset, .unset, .unset] [(.int (6 : Int32)), (.int kq)] zQ → Steps p.tables e below (s₁.setTop (entryFrame m #[(.int sel), (.int a), (.int bq), (.int c), (.int d), (.int e0_)] maxLocals)) zQ := by
    intro tt kt
    refine W0 tt ?_
    refine XS.iloadN X0.here hx rfl (hb hby at_0) rfl ?_
    show SS p e below s₁ m 1 #[.val (.int sel), .val (.int a), .val (.int bq), .val (.int c), .val (.int d), .val (.int e0_), .unset, .unset, .unset, .unset, .unset, .unset] [(.int sel)] _
    refine X0.ldcInt hx hown0 (mvT hZ0 (w0 hw)) (g := (mkF m 1 #[.val (.int sel), .val (.int a), .val (.int bq), .val (.int c), .val (.int d), .val (.int e0_), .unset, .unset, .unset, .unset, .unset, .unset] [(.int sel)])) rfl (hb hby at_1) _ ?_
    refine XS.iand X0.here hx rfl (hb hby at_3) rfl ?_
    refine XS.bipush X0.here hx rfl (hb hby at_4) ?_
    show SS p e below s₁ m 6 #[.val (.int sel), .val (.int a), .val (.int bq), .val (.int c), .val (.int d), .val (.int e0_), .unset, .unset, .unset, .unset, .unset, .unset] [(.int (7 : Int32)), (.int (sel &&& (2147483647 : Int32)))] _
    refine Jvm.RoadKit.iremM X0 hx rfl (hb hby at_6) rfl (by decide) ?_
    show SS p e below s₁ m 7 #[.val (.int sel), .val (.int a), .val (.int bq), .val (.int c), .val (.int d), .val (.int e0_), .unset, .unset, .unset, .unset, .unset, .unset] [(.int ((sel &&& (2147483647 : Int32)) % (7 : Int32)))] _
    rw [← h_kq]
    refine XS.istore X0.here hx rfl (hb hby at_7) rfl (l' := #[.val (.int sel), .val (.int a), .val (.int bq), .val (.int c), .val (.int d), .val (.int e0_), .val (.int kq), .unset, .unset, .unset, .unset, .unset]) rfl ?_
    refine XS.iload X0.here hx rfl (hb hby at_9) rfl ?_
    refine XS.bipush X0.here hx rfl (hb hby at_11) ?_
    exact kt
  by_cases hc102 : kq = (6 : Int32)
  ·
    obtain ⟨_, _, ⟨T103, L103, k103, n103⟩, -, X103, ⟨Lc103, hQ103, l103, y103, z103⟩, st103⟩ := Jvm.LawKit.callS X0 hx (y := yn18) hown0 (mvT hZ0 (w66 hw)) (mvT hZ0 (w67 hw)) (mvT hZ0 (w68 hw)) (mvT hZ0 (w69 hw)) (by decide) (backOf (W := 0) (rm_ofTypeN l Z a0 hw [] o0 o1 o2 o3 o4 oV kV j0 v0 kv0 j1 v1 kv1 j2 v2 kv2 j3 v3 kv3 j4 v4 kv4 oE h0 n0 Z0 O0 S_V S_0 S_1 S_2 S_3 S_4 E_V V_V E_0 Fj_0 Ej_0 Fc_0 Fv_0 Vv_0 E_1 Fj_1 Ej_1 Fc_1 Fv_1 Vv_1 E_2 Fj_2 Ej_2 Fc_2 Fv_2 Vv_2 E_3 Fj_3 Ej_3 Fc_3 Fv_3 Vv_3 E_4 Fj_4 Ej_4 Fc_4 Fv_4 Vv_4 S_EMPTY E_EMPTY F_EMPTY) hZ0 (w69 hw) (w68 hw) (by decide) (by decide)) (g := (mkF m 17 #[.val (.int sel), .val (.int a), .val (.int bq), .val (.int c), .val (.int d), .val (.int e0_), .val (.int kq), .unset, .unset, .unset, .unset, .unset] [.null])) rfl (by rw [hml]; rfl) (argsL := [.null]) (rest := []) (lenOf pd__28_Ljava_2f_lang_2f_String_3b__29_Ljava_2f_util_2f_Optional_3b_ rfl) rfl (by show 2 * 0 + _ ≤ _; exact Nat.le_of_eq rfl) (hb hby at_17) (fun _ _ => ⟨rfl, e0, (Nat.le_of_ble_eq_true rfl), (Nat.le_of_ble_eq_true rfl)⟩)
    dsimp only [Pt.U, Pt.locs, Pt.cells, Pt.slots] at X103 l103 y103 z103 st103 hQ103
    subst l103 y103 z103
    obtain ⟨rfl, Nq103, K103⟩ := hQ103
    have N103 := Fr.app N0 Nq103
    have R104 : CHr Z EL_1 s.vm h0 s.vm T103.heap := R0.trans (CHr.keep K103 sf0 R0.1)
    have O105 : Old Z n0 T103.heap := (O0.keep K103 all0)
    have F106 : Fld Z T103.heap oE "java/util/Optional" "value" "Ljava/lang/Object;" .null := F_EMPTY.ext O105.2
    have F108 : Exa Z T103.heap oE "java/util/Optional" := E_EMPTY.ext O105.2
    obtain ⟨cq107, kq107, q107a, q107b, q107c⟩ := isOf hZ0 rfl F108
    obtain ⟨_, _, ⟨T107, L107, k107, n107⟩, -, X107, ⟨Lc107, hQ107, l107, y107, z107⟩, st107⟩ := X103.virtualBack hx (y := yn16) (z := yn16) hown0 (mvT hZ0 (w106 hw)) (mvT hZ0 (w107 hw)) (notFace_of_selects (args := #[]) (mvT hZ0 (w109 hw))) (mvT hZ0 (w109 hw)) (mvT hZ0 (w108 hw)) (by decide) (backOf (W := 0) (rm_orElse l Z a0 hw [] oE Value.null T103.heap n0 (Nat.le_trans Z0 K103.1) F106 rfl) hZ0 (w110 hw) (w103 hw) (by decide) (by decide)) q107a q107c (g := (mkF m 25 #[.val (.int sel), .val (.int a), .val (.int bq), .val (.int c), .val (.int d), .val (.int e0_), .val (.int kq), .val (.ref oE), .unset, .unset, .unset, .unset] [.null, (.ref oE)])) rfl (by rw [hml]; rfl) (Steps.refl _) (argsL := [.null]) (rest := []) (lenOf pd__28_Ljava_2f_lang_2f_Object_3b__29_Ljava_2f_lang_2f_Object_3b_ rfl) rfl (by show 2 * 0 + _ ≤ _; exact Nat.le_of_eq rfl) (hb hby at_25) (fun _ _ => ⟨rfl, rfl, (Nat.le_of_ble_eq_true rfl), (Nat.le_of_ble_eq_true rfl)⟩)
    dsimp only [Pt.U, Pt.locs, Pt.cells, Pt.slots] at X107 l107 y107 z107 st107 hQ107
    subst l107 y107 z107
    obtain ⟨rfl, Nq107, eq107⟩ := hQ107
    have N107 := Fr.app N103 Nq107
    have W109 : ∀ zQ, SS p e below T107 m 36 #[.val (.int sel), .val (.int a), .val (.int bq), .val (.int c), .val (.int d), .val (.int e0_), .val (.int kq), .val (.ref oE), .unset, .unset, .unset, .unset] [(.int (1 : Int32))] zQ → Steps p.tables e below (s₁.setTop (entryFrame m #[(.int sel), (.int a), (.int bq), (.int c), (.int d), (.int e0_)] maxLocals)) zQ := by
      intro tt kt
      refine W101 tt ?_
      refine XS.icmpNo X0.here hx rfl (hb hby at_13) rfl (teq hc102).2 ?_
      refine XS.aconstNull X0.here hx rfl (hb hby at_16) ?_
      show SS p e below s₁ m 17 #[.val (.int sel), .val (.int a), .val (.int bq), .val (.int c), .val (.int d), .val (.int e0_), .val (.int kq), .unset, .unset, .unset, .unset, .unset] [.null] _
      refine st103 _ ?_
      refine XS.astore X103.here hx rfl (hb hby at_20) rfl rfl (l' := #[.val (.int sel), .val (.int a), .val (.int bq), .val (.int c), .val (.int d), .val (.int e0_), .val (.int kq), .val (.ref oE), .unset, .unset, .unset, .unset]) rfl ?_
      refine XS.aload X103.here hx rfl (hb hby at_22) rfl rfl ?_
      refine XS.aconstNull X103.here hx rfl (hb hby at_24) ?_
      show SS p e below T103 m 25 #[.val (.int sel), .val (.int a), .val (.int bq), .val (.int c), .val (.int d), .val (.int e0_), .val (.int kq), .val (.ref oE), .unset, .unset, .unset, .unset] [.null, (.ref oE)] _
      refine st107.trans ?_
      refine XS.ifnonnullNo X107.here hx rfl (hb hby at_28) rfl ?_
      refine XS.iconst X107.here hx rfl (hb hby at_31) ?_
      refine XS.goto X107.here hx rfl (pc0 := 32) (pc' := 36) rfl (hb hby at_32) (by decide) (by decide) ?_
      exact kt
    obtain ⟨fs, hr, hrun, hended, hRW⟩ := Jvm.Stand.leaveW X107 hS0 (by rw [eq107]; exact (Nat.le_trans hk0 K103.1)) (v := some (.int (nar .boolean (1 : Int32)))) (fun h => by rw [Bd.returns] at h; cases h) (BodyLoose.notSynchronized Bd)
    refine ⟨_, _, W109 _ (retN X107 hx (t := .boolean) Bd.returns (by simp) (hb hby at_36) hr), hrun, hended, _, _, rfl, ?_, own_chr (T := T107) R104 (CHv.at X107 hZ0 hEL R104.1) hh.symm eq107, own_rw hRW (by decide) (by decide)⟩
    show Q_law Z sel a bq c d e0_ o0 o1 o2 o3 o4 oV kV j0 v0 kv0 j1 v1 kv1 j2 v2 kv2 j3 v3 kv3 j4 v4 kv4 oE cS fm h0 n0 _ T107.heap _
    rw [eq107]
    exact ⟨rfl, N107, (Keep.trans (Keep.refl h0 []) K103 all0)⟩
  ·
    obtain ⟨T110, h110, k110, X110, e110, E110, A110, st110⟩ := newP X0 hx hZ0 (aty := .char) (w1 hw) e0 (g := (mkF m 38 #[.val (.int sel), .val (.int a), .val (.int bq), .val (.int c), .val (.int d), .val (.int e0_), .val (.int kq), .unset, .unset, .unset, .unset, .unset] [(.int (5 : Int32))])) rfl (hb hby at_38) (n := (5 : Int32)) rfl (by decide) (cap := 5) (by decide) (by decide) (by decide) (by decide)
    obtain ⟨b110, g110⟩ : ∃ z, z = h0.size := ⟨_, rfl⟩
    rw [← g110] at A110 st110
    have K110 := (Keep.refl h0 []).ext E110
    have R111 : CHr Z EL_1 s.vm h0 s.vm h110 := R0.trans (CHr.keep K110 sf0 R0.1)
    have G110 : Arv Z h110 b110 k110 .char (5 : Int32) [(.int (0 : Int32)), (.int (0 : Int32)), (.int (0 : Int32)), (.int (0 : Int32)), (.int (0 : Int32))] (.int (0 : Int32)) := (Arv.new A110 (by decide)).pad (pad_rep [] (.int (0 : Int32)) 5)
    have W112 : ∀ zQ, SS p e below T110 m 45 #[.val (.int sel), .val (.int a), .val (.int bq), .val (.int c), .val (.int d), .val (.int e0_), .val (.int kq), .val (.ref b110), .unset, .unset, .unset, .unset] [(.int (5 : Int32)), (.int kq)] zQ → Steps p.tables e below (s₁.setTop (entryFrame m #[(.int sel), (.int a), (.int bq), (.int c), (.int d), (.int e0_)] maxLocals)) zQ := by
      intro tt kt
      refine W101 tt ?_
      refine XS.icmpYes X0.here hx rfl (pc0 := 13) (pc' := 37) rfl (hb hby at_13) rfl (feq hc102).2 (by decide) (by decide) ?_
      refine XS.iconst X0.here hx rfl (hb hby at_37) ?_
      show SS p e below s₁ m 38 #[.val (.int sel), .val (.int a), .val (.int bq), .val (.int c), .val (.int d), .val (.int e0_), .val (.int kq), .unset, .unset, .unset, .unset, .unset] [(.int (5 : Int32))] _
      refine st110 _ ?_
      refine XS.astore X110.here hx rfl (hb hby at_40) rfl rfl (l' := #[.val (.int sel), .val (.int a), .val (.int bq), .val (.int c), .val (.int d), .val (.int e0_), .val (.int kq), .val (.ref b110), .unset, .unset, .unset, .unset]) rfl ?_
      refine XS.iload X110.here hx rfl (hb hby at_42) rfl ?_
      refine XS.iconst X110.here hx rfl (hb hby at_44) ?_
      exact kt
    by_cases hc113 : kq < (5 : Int32)
    ·
      obtain ⟨_, _, ⟨T114, L114, k114, n114⟩, -, X114', hS114', hgr114, ⟨Lc114, hQ114, l114, y114, z114, A114⟩, st114⟩ := callSS X110 hx (y := yn19) hown0 (mvT hZ0 (w2 hw)) (mvT hZ0 (w3 hw)) (mvT hZ0 (w4 hw)) (mvT hZ0 (w5 hw)) (by decide) (backOfSH (W := 0) (rm_lit l Z a0 hw [] kq h110 n0 (Nat.le_trans Z0 K110.1) (own_k5 hk7 hc113)) hZ0 (w5 hw) (w4 hw) (by decide) (by decide) hEL R111.1) (g := (mkF m 50 #[.val (.int sel), .val (.int a), .val (.int bq), .val (.int c), .val (.int d), .val (.int e0_), .val (.int kq), .val (.ref b110), .unset, .unset, .unset, .unset] [(.int kq)])) rfl (by rw [hml]; rfl) (argsL := [(.int kq)]) (rest := []) (lenOf pd__28_I_29_Ljava_2f_lang_2f_String_3b_ rfl) rfl (by show 2 * 0 + _ ≤ _; exact Nat.le_of_eq rfl) (hb hby at_50) (fun _ _ => ⟨rfl, e110, (Nat.le_of_ble_eq_true rfl), (Nat.le_of_ble_eq_true rfl)⟩)
      dsimp only [Pt.U, Pt.locs, Pt.cells, Pt.slots] at X114' hS114' hgr114 l114 y114 z114 st114 hQ114 A114
      subst l114 y114 z114
      obtain ⟨X114, hS114, hZ114, hown114⟩ := rebS hS0 (by rw [e110]; exact (Nat.le_trans hk0 K110.1)) X114' hS114' hgr114 hZ0 hown0
      obtain ⟨r_115, t_116, kb_117, rfl, Nq114, K114, P114_0⟩ := hQ114
      have N114 := Fr.app N0 Nq114
      have R118 : CHr Z EL_1 s.vm h0 T114.vm T114.heap := R111.trans A114
      have hk114 : T114.heap.size ≤ T114.heap.size := Nat.le_refl _
      have F120 : Arv Z T114.heap b110 k110 .char (5 : Int32) [(.int (0 : Int32)), (.int (0 : Int32)), (.int (0 : Int32)), (.int (0 : Int32)), (.int (0 : Int32))] (.int (0 : Int32)) := (G110.keep K114 nin0)
      have nb119 := own_nSA (w8 hw) P114_0 F120
      have O121 : Old Z n0 T114.heap := ((O0.keep K110 all0).keep K114 all0)
      obtain ⟨cq122, kq122, q122a, q122b, q122c⟩ := isOf hZ114 rfl P114_0.1
      obtain ⟨_, _, ⟨T122, L122, k122, n122⟩, -, X122, ⟨Lc122, hQ122, l122, y122, z122⟩, st122⟩ := X114.virtualBack hx (y := yn4) (z := yn4) hown114 (mvT hZ114 (w14 hw)) (mvT hZ114 (w15 hw)) (notFace_of_selects (args := #[]) (mvT hZ114 (w17 hw))) (mvT hZ114 (w17 hw)) (mvT hZ114 (w16 hw)) (by decide) (backOf (W := 2) (rm_charAt l Z a0 hw [] r_115 0 t_116 kb_117 (lt kq) cS fm T114.heap n0 (Nat.le_trans Z0 (Nat.le_trans K110.1 K114.1)) O121 S_cs hcS S_fm hfm P114_0 (by rw [lt_len]; decide) (lt_lat _)) hZ114 (w18 hw) (w7 hw) (by decide) (by decide)) q122a q122c (g := (mkF m 61 #[.val (.int sel), .val (.int a), .val (.int bq), .val (.int c), .val (.int d), .val (.int e0_), .val (.int kq), .val (.ref b110), .val (.ref r_115), .unset, .unset, .unset] [(.int (0 : Int32)), (.ref r_115), (.int (0 : Int32)), (.ref b110)])) rfl (by rw [hml]; rfl) (Steps.refl _) (argsL := [(.int (0 : Int32))]) (rest := [(.int (0 : Int32)), (.ref b110)]) (lenOf pd__28_I_29_C rfl) rfl (by show 2 * 0 + _ ≤ _; exact Nat.le_of_eq rfl) (hb hby at_61) (fun _ _ => ⟨rfl, rfl, (Nat.le_of_ble_eq_true rfl), (Nat.le_of_ble_eq_true rfl)⟩)
      dsimp only [Pt.U, Pt.locs, Pt.cells, Pt.slots] at X122 l122 y122 z122 st122 hQ122
      subst l122 y122 z122
      obtain ⟨rfl, Nq122, eq122⟩ := hQ122
      have N122 := Fr.app N114 Nq122
      obtain ⟨ca, h_ca⟩ : ∃ z : Int32, z = ((lt kq).getD 0 0) := ⟨_, rfl⟩
      have hb_ca : B8 ca := by rw [h_ca]; exact lt_at _ 0 (by decide)
      obtain ⟨cl123, Ar123, q123, S123, M123, H123, F123g⟩ := id F120
      have hin123 : ¬ ((0 : Int32) < 0 ∨ cl123.slots.size ≤ ((0 : Int32)).toNatClampNeg) := inb_of S123 ⟨by decide, by decide⟩
      obtain ⟨T123, h123, X123, e123, Wr123, st123⟩ := stC X122 hx hZ114 eq122 Ar123 (j := (0 : Int32)) hin123 (g := (mkF m 64 #[.val (.int sel), .val (.int a), .val (.int bq), .val (.int c), .val (.int d), .val (.int e0_), .val (.int kq), .val (.ref b110), .val (.ref r_115), .unset, .unset, .unset] [(.int ca), (.int (0 : Int32)), (.ref b110)])) rfl rfl (hb hby at_64)
      have G123 : Arv Z h123 b110 k110 .char (5 : Int32) [(.int (nar .char ca)), (.int (0 : Int32)), (.int (0 : Int32)), (.int (0 : Int32)), (.int (0 : Int32))] (.int (0 : Int32)) := Arv.set Ar123 q123 S123 M123 H123 F123g (fits_nar_char _) Wr123 0 rfl (Nat.le_of_ble_eq_true rfl)
      have K123 := Keep.of_wr Wr123
      have N123 := Fr.snoc X123 N122 (Nat.le_trans Z0 (Nat.le_of_eq g110.symm))
      have R124 : CHr Z EL_1 s.vm h0 T114.vm h123 := R118.trans (CHr.keep K123 (sfS (Safe.arv hZ114.alike F120 (by intro q; cases q)) sf0) R118.1)
      have J123 : Arv Z h123 b110 k110 .char (5 : Int32) [(.int ca), (.int (0 : Int32)), (.int (0 : Int32)), (.int (0 : Int32)), (.int (0 : Int32))] (.int (0 : Int32)) := by rw [own_nar8 hb_ca] at G123; exact G123
      have F125 : Str Z h123 r_115 t_116 kb_117 (lt kq) := (P114_0.keep K123 (ninS nb119.1 nin0) (ninS nb119.2 nin0))
      have O126 : Old Z n0 h123 := (O121.keep K123 (allS (Nat.le_trans Z0 (Nat.le_of_eq g110.symm)) all0))
      obtain ⟨cq127, kq127, q127a, q127b, q127c⟩ := isOf hZ114 e123 F125.1
      obtain ⟨_, _, ⟨T127, L127, k127, n127⟩, -, X127, ⟨Lc127, hQ127, l127, y127, z127⟩, st127⟩ := X123.virtualBack hx (y := yn4) (z := yn4) hown114 (mvT hZ114 (w14 hw)) (mvT hZ114 (w15 hw)) (notFace_of_selects (args := #[]) (mvT hZ114 (w17 hw))) (mvT hZ114 (w17 hw)) (mvT hZ114 (w16 hw)) (by decide) (backOf (W := 2) (rm_charAt l Z a0 hw [] r_115 1 t_116 kb_117 (lt kq) cS fm h123 n0 (Nat.le_trans Z0 (Nat.le_trans (Nat.le_trans K110.1 K114.1) K123.1)) O126 S_cs hcS S_fm hfm F125 (by rw [lt_len]; decide) (lt_lat _)) hZ114 (w18 hw) (w7 hw) (by decide) (by decide)) q127a q127c (g := (mkF m 71 #[.val (.int sel), .val (.int a), .val (.int bq), .val (.int c), .val (.int d), .val (.int e0_), .val (.int kq), .val (.ref b110), .val (.ref r_115), .unset, .unset, .unset] [(.int (1 : Int32)), (.ref r_115), (.int (1 : Int32)), (.ref b110)])) rfl (by rw [hml]; rfl) (Steps.refl _) (argsL := [(.int (1 : Int32))]) (rest := [(.int (1 : Int32)), (.ref b110)]) (lenOf pd__28_I_29_C rfl) rfl (by show 2 * 0 + _ ≤ _; exact Nat.le_of_eq rfl) (hb hby at_71) (fun _ _ => ⟨rfl, e123, (Nat.le_of_ble_eq_true rfl), (Nat.le_of_ble_eq_true rfl)⟩)
      dsimp only [Pt.U, Pt.locs, Pt.cells, Pt.slots] at X127 l127 y127 z127 st127 hQ127
      subst l127 y127 z127
      obtain ⟨rfl, Nq127, eq127⟩ := hQ127
      have N127 := Fr.app N123 Nq127
      obtain ⟨cb, h_cb⟩ : ∃ z : Int32, z = ((lt kq).getD 1 0) := ⟨_, rfl⟩
      have hb_cb : B8 cb := by rw [h_cb]; exact lt_at _ 1 (by decide)
      obtain ⟨cl128, Ar128, q128, S128, M128, H128, F128g⟩ := id J123
      have hin128 : ¬ ((1 : Int32) < 0 ∨ cl128.slots.size ≤ ((1 : Int32)).toNatClampNeg) := inb_of S128 ⟨by decide, by decide⟩
      obtain ⟨T128, h128, X128, e128, Wr128, st128⟩ := stC X127 hx hZ114 eq127 Ar128 (j := (1 : Int32)) hin128 (g := (mkF m 74 #[.val (.int sel), .val (.int a), .val (.int bq), .val (.int c), .val (.int d), .val (.int e0_), .val (.int kq), .val (.ref b110), .val (.ref r_115), .unset, .unset, .unset] [(.int cb), (.int (1 : Int32)), (.ref b110)])) rfl rfl (hb hby at_74)
      have G128 : Arv Z h128 b110 k110 .char (5 : Int32) [(.int ca), (.int (nar .char cb)), (.int (0 : Int32)), (.int (0 : Int32)), (.int (0 : Int32))] (.int (0 : Int32)) := Arv.set Ar128 q128 S128 M128 H128 F128g (fits_nar_char _) Wr128 1 rfl (Nat.le_of_ble_eq_true rfl)
      have K128 := Keep.of_wr Wr128
      have N128 := Fr.snoc X128 N127 (Nat.le_trans Z0 (Nat.le_of_eq g110.symm))
      have R129 : CHr Z EL_1 s.vm h0 T114.vm h128 := R124.trans (CHr.keep K128 (sfS (Safe.arv hZ114.alike J123 (by intro q; cases q)) sf0) R124.1)
      have J128 : Arv Z h128 b110 k110 .char (5 : Int32) [(.int ca), (.int cb), (.int (0 : Int32)), (.int (0 : Int32)), (.int (0 : Int32))] (.int (0 : Int32)) := by rw [own_nar8 hb_cb] at G128; exact G128
      have F130 : Str Z h128 r_115 t_116 kb_117 (lt kq) := (F125.keep K128 (ninS nb119.1 nin0) (ninS nb119.2 nin0))
      have O131 : Old Z n0 h128 := (O126.keep K128 (allS (Nat.le_trans Z0 (Nat.le_of_eq g110.symm)) all0))
      obtain ⟨cq132, kq132, q132a, q132b, q132c⟩ := isOf hZ114 e128 F130.1
      obtain ⟨_, _, ⟨T132, L132, k132, n132⟩, -, X132, ⟨Lc132, hQ132, l132, y132, z132⟩, st132⟩ := X128.virtualBack hx (y := yn4) (z := yn4) hown114 (mvT hZ114 (w14 hw)) (mvT hZ114 (w15 hw)) (notFace_of_selects (args := #[]) (mvT hZ114 (w17 hw))) (mvT hZ114 (w17 hw)) (mvT hZ114 (w16 hw)) (by decide) (backOf (W := 2) (rm_charAt l Z a0 hw [] r_115 2 t_116 kb_117 (lt kq) cS fm h128 n0 (Nat.le_trans Z0 (Nat.le_trans (Nat.le_trans (Nat.le_trans K110.1 K114.1) K123.1) K128.1)) O131 S_cs hcS S_fm hfm F130 (by rw [lt_len]; decide) (lt_lat _)) hZ114 (w18 hw) (w7 hw) (by decide) (by decide)) q132a q132c (g := (mkF m 81 #[.val (.int sel), .val (.int a), .val (.int bq), .val (.int c), .val (.int d), .val (.int e0_), .val (.int kq), .val (.ref b110), .val (.ref r_115), .unset, .unset, .unset] [(.int (2 : Int32)), (.ref r_115), (.int (2 : Int32)), (.ref b110)])) rfl (by rw [hml]; rfl) (Steps.refl _) (argsL := [(.int (2 : Int32))]) (rest := [(.int (2 : Int32)), (.ref b110)]) (lenOf pd__28_I_29_C rfl) rfl (by show 2 * 0 + _ ≤ _; exact Nat.le_of_eq rfl) (hb hby at_81) (fun _ _ => ⟨rfl, e128, (Nat.le_of_ble_eq_true rfl), (Nat.le_of_ble_eq_true rfl)⟩)
      dsimp only [Pt.U, Pt.locs, Pt.cells, Pt.slots] at X132 l132 y132 z132 st132 hQ132
      subst l132 y132 z132
      obtain ⟨rfl, Nq132, eq132⟩ := hQ132
      have N132 := Fr.app N128 Nq132
      obtain ⟨cc, h_cc⟩ : ∃ z : Int32, z = ((lt kq).getD 2 0) := ⟨_, rfl⟩
      have hb_cc : B8 cc := by rw [h_cc]; exact lt_at _ 2 (by decide)
      obtain ⟨cl133, Ar133, q133, S133, M133, H133, F133g⟩ := id J128
      have hin133 : ¬ ((2 : Int32) < 0 ∨ cl133.slots.size ≤ ((2 : Int32)).toNatClampNeg) := inb_of S133 ⟨by decide, by decide⟩
      obtain ⟨T133, h133, X133, e133, Wr133, st133⟩ := stC X132 hx hZ114 eq132 Ar133 (j := (2 : Int32)) hin133 (g := (mkF m 84 #[.val (.int sel), .val (.int a), .val (.int bq), .val (.int c), .val (.int d), .val (.int e0_), .val (.int kq), .val (.ref b110), .val (.ref r_115), .unset, .unset, .unset] [(.int cc), (.int (2 : Int32)), (.ref b110)])) rfl rfl (hb hby at_84)
      have G133 : Arv Z h133 b110 k110 .char (5 : Int32) [(.int ca), (.int cb), (.int (nar .char cc)), (.int (0 : Int32)), (.int (0 : Int32))] (.int (0 : Int32)) := Arv.set Ar133 q133 S133 M133 H133 F133g (fits_nar_char _) Wr133 2 rfl (Nat.le_of_ble_eq_true rfl)
      have K133 := Keep.of_wr Wr133
      have N133 := Fr.snoc X133 N132 (Nat.le_trans Z0 (Nat.le_of_eq g110.symm))
      have R134 : CHr Z EL_1 s.vm h0 T114.vm h133 := R129.trans (CHr.keep K133 (sfS (Safe.arv hZ114.alike J128 (by intro q; cases q)) sf0) R129.1)
      have J133 : Arv Z h133 b110 k110 .char (5 : Int32) [(.int ca), (.int cb), (.int cc), (.int (0 : Int32)), (.int (0 : Int32))] (.int (0 : Int32)) := by rw [own_nar8 hb_cc] at G133; exact G133
      have F135 : Str Z h133 r_115 t_116 kb_117 (lt kq) := (F130.keep K133 (ninS nb119.1 nin0) (ninS nb119.2 nin0))
      have O136 : Old Z n0 h133 := (O131.keep K133 (allS (Nat.le_trans Z0 (Nat.le_of_eq g110.symm)) all0))
      obtain ⟨cq137, kq137, q137a, q137b, q137c⟩ := isOf hZ114 e133 F135.1
      obtain ⟨_, _, ⟨T137, L137, k137, n137⟩, -, X137, ⟨Lc137, hQ137, l137, y137, z137⟩, st137⟩ := X133.virtualBack hx (y := yn4) (z := yn4) hown114 (mvT hZ114 (w14 hw)) (mvT hZ114 (w15 hw)) (notFace_of_selects (args := #[]) (mvT hZ114 (w17 hw))) (mvT hZ114 (w17 hw)) (mvT hZ114 (w16 hw)) (by decide) (backOf (W := 2) (rm_charAt l Z a0 hw [] r_115 3 t_116 kb_117 (lt kq) cS fm h133 n0 (Nat.le_trans Z0 (Nat.le_trans (Nat.le_trans (Nat.le_trans (Nat.le_trans K110.1 K114.1) K123.1) K128.1) K133.1)) O136 S_cs hcS S_fm hfm F135 (by rw [lt_len]; decide) (lt_lat _)) hZ114 (w18 hw) (w7 hw) (by decide) (by decide)) q137a q137c (g := (mkF m 91 #[.val (.int sel), .val (.int a), .val (.int bq), .val (.int c), .val (.int d), .val (.int e0_), .val (.int kq), .val (.ref b110), .val (.ref r_115), .unset, .unset, .unset] [(.int (3 : Int32)), (.ref r_115), (.int (3 : Int32)), (.ref b110)])) rfl (by rw [hml]; rfl) (Steps.refl _) (argsL := [(.int (3 : Int32))]) (rest := [(.int (3 : Int32)), (.ref b110)]) (lenOf pd__28_I_29_C rfl) rfl (by show 2 * 0 + _ ≤ _; exact Nat.le_of_eq rfl) (hb hby at_91) (fun _ _ => ⟨rfl, e133, (Nat.le_of_ble_eq_true rfl), (Nat.le_of_ble_eq_true rfl)⟩)
      dsimp only [Pt.U, Pt.locs, Pt.cells, Pt.slots] at X137 l137 y137 z137 st137 hQ137
      subst l137 y137 z137
      obtain ⟨rfl, Nq137, eq137⟩ := hQ137
      have N137 := Fr.app N133 Nq137
      obtain ⟨cd, h_cd⟩ : ∃ z : Int32, z = ((lt kq).getD 3 0) := ⟨_, rfl⟩
      have hb_cd : B8 cd := by rw [h_cd]; exact lt_at _ 3 (by decide)
      obtain ⟨cl138, Ar138, q138, S138, M138, H138, F138g⟩ := id J133
      have hin138 : ¬ ((3 : Int32) < 0 ∨ cl138.slots.size ≤ ((3 : Int32)).toNatClampNeg) := inb_of S138 ⟨by decide, by decide⟩
      obtain ⟨T138, h138, X138, e138, Wr138, st138⟩ := stC X137 hx hZ114 eq137 Ar138 (j := (3 : Int32)) hin138 (g := (mkF m 94 #[.val (.int sel), .val (.int a), .val (.int bq), .val (.int c), .val (.int d), .val (.int e0_), .val (.int kq), .val (.ref b110), .val (.ref r_115), .unset, .unset, .unset] [(.int cd), (.int (3 : Int32)), (.ref b110)])) rfl rfl (hb hby at_94)
      have G138 : Arv Z h138 b110 k110 .char (5 : Int32) [(.int ca), (.int cb), (.int cc), (.int (nar .char cd)), (.int (0 : Int32))] (.int (0 : Int32)) := Arv.set Ar138 q138 S138 M138 H138 F138g (fits_nar_char _) Wr138 3 rfl (Nat.le_of_ble_eq_true rfl)
      have K138 := Keep.of_wr Wr138
      have N138 := Fr.snoc X138 N137 (Nat.le_trans Z0 (Nat.le_of_eq g110.symm))
      have R139 : CHr Z EL_1 s.vm h0 T114.vm h138 := R134.trans (CHr.keep K138 (sfS (Safe.arv hZ114.alike J133 (by intro q; cases q)) sf0) R134.1)
      have J138 : Arv Z h138 b110 k110 .char (5 : Int32) [(.int ca), (.int cb), (.int cc), (.int cd), (.int (0 : Int32))] (.int (0 : Int32)) := by rw [own_nar8 hb_cd] at G138; exact G138
      obtain ⟨ce, h_ce⟩ : ∃ z : Int32, z = ((bq &&& (255 : Int32)).toUInt32.toUInt16.toUInt32.toInt32) := ⟨_, rfl⟩
      have hb_ce : B8 ce := by rw [h_ce]; exact own_c8 _
      obtain ⟨cl140, Ar140, q140, S140, M140, H140, F140g⟩ := id J138
      have hin140 : ¬ ((4 : Int32) < 0 ∨ cl140.slots.size ≤ ((4 : Int32)).toNatClampNeg) := inb_of S140 ⟨by decide, by decide⟩
      obtain ⟨T140, h140, X140, e140, Wr140, st140⟩ := stC X138 hx hZ114 e138 Ar140 (j := (4 : Int32)) hin140 (g := (mkF m 156 #[.val (.int sel), .val (.int a), .val (.int bq), .val (.int c), .val (.int d), .val (.int e0_), .val (.int kq), .val (.ref b110), .val (.ref r_115), .unset, .unset, .unset] [(.int ce), (.int (4 : Int32)), (.ref b110)])) rfl rfl (hb hby at_156)
      have G140 : Arv Z h140 b110 k110 .char (5 : Int32) [(.int ca), (.int cb), (.int cc), (.int cd), (.int (nar .char ce))] (.int (0 : Int32)) := Arv.set Ar140 q140 S140 M140 H140 F140g (fits_nar_char _) Wr140 4 rfl (Nat.le_of_ble_eq_true rfl)
      have K140 := Keep.of_wr Wr140
      have N140 := Fr.snoc X140 N138 (Nat.le_trans Z0 (Nat.le_of_eq g110.symm))
      have R141 : CHr Z EL_1 s.vm h0 T114.vm h140 := R139.trans (CHr.keep K140 (sfS (Safe.arv hZ114.alike J138 (by intro q; cases q)) sf0) R139.1)
      have J140 : Arv Z h140 b110 k110 .char (5 : Int32) [(.int ca), (.int cb), (.int cc), (.int cd), (.int ce)] (.int (0 : Int32)) := by rw [own_nar8 hb_ce] at G140; exact G140
      have hb8 : B85 ca cb cc cd ce := own_b5 hb_ca hb_cb hb_cc hb_cd hb_ce
      have W142 : ∀ zQ, SS p e below T140 m 160 #[.val (.int sel), .val (.int a), .val (.int bq), .val (.int c), .val (.int d), .val (.int e0_), .val (.int kq), .val (.ref b110), .val (.ref r_115), .unset, .unset, .unset] [(.int (c &&& (1 : Int32)))] zQ → Steps p.tables e below (s₁.setTop (entryFrame m #[(.int sel), (.int a), (.int bq), (.int c), (.int d), (.int e0_)] maxLocals)) zQ := by
        intro tt kt
        refine W112 tt ?_
        refine XS.icmpNo X110.here hx rfl (hb hby at_45) rfl (tlt hc113).2.1 ?_
        refine XS.iload X110.here hx rfl (hb hby at_48) rfl ?_
        show SS p e below T110 m 50 #[.val (.int sel), .val (.int a), .val (.int bq), .val (.int c), .val (.int d), .val (.int e0_), .val (.int kq), .val (.ref b110), .unset, .unset, .unset, .unset] [(.int kq)] _
        refine st114.trans ?_
        refine XS.astore X114.here hx rfl (hb hby at_53) rfl rfl (l' := #[.val (.int sel), .val (.int a), .val (.int bq), .val (.int c), .val (.int d), .val (.int e0_), .val (.int kq), .val (.ref b110), .val (.ref r_115), .unset, .unset, .unset]) rfl ?_
        refine XS.aload X114.here hx rfl (hb hby at_55) rfl rfl ?_
        refine XS.iconst X114.here hx rfl (hb hby at_57) ?_
        refine XS.aload X114.here hx rfl (hb hby at_58) rfl rfl ?_
        refine XS.iconst X114.here hx rfl (hb hby at_60) ?_
        show SS p e below T114 m 61 #[.val (.int sel), .val (.int a), .val (.int bq), .val (.int c), .val (.int d), .val (.int e0_), .val (.int kq), .val (.ref b110), .val (.ref r_115), .unset, .unset, .unset] [(.int (0 : Int32)), (.ref r_115), (.int (0 : Int32)), (.ref b110)] _
        refine st122.trans ?_
        show SS p e below T122 m 64 #[.val (.int sel), .val (.int a), .val (.int bq), .val (.int c), .val (.int d), .val (.int e0_), .val (.int kq), .val (.ref b110), .val (.ref r_115), .unset, .unset, .unset] [(.int ((lt kq).getD 0 0)), (.int (0 : Int32)), (.ref b110)] _
        rw [← h_ca]
        show SS p e below T122 m 64 #[.val (.int sel), .val (.int a), .val (.int bq), .val (.int c), .val (.int d), .val (.int e0_), .val (.int kq), .val (.ref b110), .val (.ref r_115), .unset, .unset, .unset] [(.int ca), (.int (0 : Int32)), (.ref b110)] _
        refine st123 _ ?_
        refine XS.aload X123.here hx rfl (hb hby at_65) rfl rfl ?_
        refine XS.iconst X123.here hx rfl (hb hby at_67) ?_
        refine XS.aload X123.here hx rfl (hb hby at_68) rfl rfl ?_
        refine XS.iconst X123.here hx rfl (hb hby at_70) ?_
        show SS p e below T123 m 71 #[.val (.int sel), .val (.int a), .val (.int bq), .val (.int c), .val (.int d), .val (.int e0_), .val (.int kq), .val (.ref b110), .val (.ref r_115), .unset, .unset, .unset] [(.int (1 : Int32)), (.ref r_115), (.int (1 : Int32)), (.ref b110)] _
        refine st127.trans ?_
        show SS p e below T127 m 74 #[.val (.int sel), .val (.int a), .val (.int bq), .val (.int c), .val (.int d), .val (.int e0_), .val (.int kq), .val (.ref b110), .val (.ref r_115), .unset, .unset, .unset] [(.int ((lt kq).getD 1 0)), (.int (1 : Int32)), (.ref b110)] _
        rw [← h_cb]
        show SS p e below T127 m 74 #[.val (.int sel), .val (.int a), .val (.int bq), .val (.int c), .val (.int d), .val (.int e0_), .val (.int kq), .val (.ref b110), .val (.ref r_115), .unset, .unset, .unset] [(.int cb), (.int (1 : Int32)), (.ref b110)] _
        refine st128 _ ?_
        refine XS.aload X128.here hx rfl (hb hby at_75) rfl rfl ?_
        refine XS.iconst X128.here hx rfl (hb hby at_77) ?_
        refine XS.aload X128.here hx rfl (hb hby at_78) rfl rfl ?_
        refine XS.iconst X128.here hx rfl (hb hby at_80) ?_
        show SS p e below T128 m 81 #[.val (.int sel), .val (.int a), .val (.int bq), .val (.int c), .val (.int d), .val (.int e0_), .val (.int kq), .val (.ref b110), .val (.ref r_115), .unset, .unset, .unset] [(.int (2 : Int32)), (.ref r_115), (.int (2 : Int32)), (.ref b110)] _
        refine st132.trans ?_
        show SS p e below T132 m 84 #[.val (.int sel), .val (.int a), .val (.int bq), .val (.int c), .val (.int d), .val (.int e0_), .val (.int kq), .val (.ref b110), .val (.ref r_115), .unset, .unset, .unset] [(.int ((lt kq).getD 2 0)), (.int (2 : Int32)), (.ref b110)] _
        rw [← h_cc]
        show SS p e below T132 m 84 #[.val (.int sel), .val (.int a), .val (.int bq), .val (.int c), .val (.int d), .val (.int e0_), .val (.int kq), .val (.ref b110), .val (.ref r_115), .unset, .unset, .unset] [(.int cc), (.int (2 : Int32)), (.ref b110)] _
        refine st133 _ ?_
        refine XS.aload X133.here hx rfl (hb hby at_85) rfl rfl ?_
        refine XS.iconst X133.here hx rfl (hb hby at_87) ?_
        refine XS.aload X133.here hx rfl (hb hby at_88) rfl rfl ?_
        refine XS.iconst X133.here hx rfl (hb hby at_90) ?_
        show SS p e below T133 m 91 #[.val (.int sel), .val (.int a), .val (.int bq), .val (.int c), .val (.int d), .val (.int e0_), .val (.int kq), .val (.ref b110), .val (.ref r_115), .unset, .unset, .unset] [(.int (3 : Int32)), (.ref r_115), (.int (3 : Int32)), (.ref b110)] _
        refine st137.trans ?_
        show SS p e below T137 m 94 #[.val (.int sel), .val (.int a), .val (.int bq), .val (.int c), .val (.int d), .val (.int e0_), .val (.int kq), .val (.ref b110), .val (.ref r_115), .unset, .unset, .unset] [(.int ((lt kq).getD 3 0)), (.int (3 : Int32)), (.ref b110)] _
        rw [← h_cd]
        show SS p e below T137 m 94 #[.val (.int sel), .val (.int a), .val (.int bq), .val (.int c), .val (.int d), .val (.int e0_), .val (.int kq), .val (.ref b110), .val (.ref r_115), .unset, .unset, .unset] [(.int cd), (.int (3 : Int32)), (.ref b110)] _
        refine st138 _ ?_
        refine XS.goto X138.here hx rfl (pc0 := 95) (pc' := 147) rfl (hb hby at_95) (by decide) (by decide) ?_
        refine XS.aload X138.here hx rfl (hb hby at_147) rfl rfl ?_
        refine XS.iconst X138.here hx rfl (hb hby at_149) ?_
        refine XS.iloadN X138.here hx rfl (hb hby at_150) rfl ?_
        refine XS.sipush X138.here hx rfl (hb hby at_151) ?_
        show SS p e below T138 m 154 #[.val (.int sel), .val (.int a), .val (.int bq), .val (.int c), .val (.int d), .val (.int e0_), .val (.int kq), .val (.ref b110), .val (.ref r_115), .unset, .unset, .unset] [(.int (255 : Int32)), (.int bq), (.int (4 : Int32)), (.ref b110)] _
        refine XS.iand X138.here hx rfl (hb hby at_154) rfl ?_
        refine XS.i2c X138.here hx rfl (hb hby at_155) rfl ?_
        show SS p e below T138 m 156 #[.val (.int sel), .val (.int a), .val (.int bq), .val (.int c), .val (.int d), .val (.int e0_), .val (.int kq), .val (.ref b110), .val (.ref r_115), .unset, .unset, .unset] [(.int ((bq &&& (255 : Int32)).toUInt32.toUInt16.toUInt32.toInt32)), (.int (4 : Int32)), (.ref b110)] _
        rw [← h_ce]
        show SS p e below T138 m 156 #[.val (.int sel), .val (.int a), .val (.int bq), .val (.int c), .val (.int d), .val (.int e0_), .val (.int kq), .val (.ref b110), .val (.ref r_115), .unset, .unset, .unset] [(.int ce), (.int (4 : Int32)), (.ref b110)] _
        refine st140 _ ?_
        refine XS.iloadN X140.here hx rfl (hb hby at_157) rfl ?_
        refine XS.iconst X140.here hx rfl (hb hby at_158) ?_
        refine XS.iand X140.here hx rfl (hb hby at_159) rfl ?_
        exact kt
      by_cases hc143 : (c &&& (1 : Int32)) = (0 : Int32)
      ·
        have W144 : ∀ zQ, SS p e below T140 m 189 #[.val (.int sel), .val (.int a), .val (.int bq), .val (.int c), .val (.int d), .val (.int e0_), .val (.int kq), .val (.ref b110), .val (.ref r_115), .unset, .unset, .unset] [(.int (e0_ &&& (1 : Int32)))] zQ → Steps p.tables e below (s₁.setTop (entryFrame m #[(.int sel), (.int a), (.int bq), (.int c), (.int d), (.int e0_)] maxLocals)) zQ := by
          intro tt kt
          refine W142 tt ?_
          refine XS.ifYes X140.here hx rfl (pc0 := 160) (pc' := 185) rfl (hb hby at_160) rfl ((if0 _ _).trans (teq hc143).1) (by decide) (by decide) ?_
          refine XS.iload X140.here hx rfl (hb hby at_185) rfl ?_
          refine XS.iconst X140.here hx rfl (hb hby at_187) ?_
          refine XS.iand X140.here hx rfl (hb hby at_188) rfl ?_
          exact kt
        have W146 : ∀ zQ, SS p e below T140 m 210 #[.val (.int sel), .val (.int a), .val (.int bq), .val (.int c), .val (.int d), .val (.int e0_), .val (.int kq), .val (.ref b110), .val (.int (if (e0_ &&& (1 : Int32)) = (0 : Int32) then (4 : Int32) else ((((e0_.toUInt32 >>> ((1 : Int32) &&& 31).toUInt32).toInt32) &&& (7 : Int32)) % (6 : Int32)))), .unset, .unset, .unset] [] zQ → Steps p.tables e below (s₁.setTop (entryFrame m #[(.int sel), (.int a), (.int bq), (.int c), (.int d), (.int e0_)] maxLocals)) zQ := by
          intro tt kt
          refine W144 tt ?_
          by_cases hj145 : (e0_ &&& (1 : Int32)) = (0 : Int32)
          ·
            refine XS.ifNo X140.here hx rfl (hb hby at_189) rfl ((if0 _ _).trans (teq hj145).2) ?_
            refine XS.iconst X140.here hx rfl (hb hby at_192) ?_
            refine XS.istore X140.here hx rfl (hb hby at_193) rfl (l' := #[.val (.int sel), .val (.int a), .val (.int bq), .val (.int c), .val (.int d), .val (.int e0_), .val (.int kq), .val (.ref b110), .val (.int (4 : Int32)), .unset, .unset, .unset]) rfl ?_
            refine XS.goto X140.here hx rfl (pc0 := 195) (pc' := 210) rfl (hb hby at_195) (by decide) (by decide) ?_
            exact castTop (by first | rfl | (simp only [if_pos hj145]; first | done | rfl)) kt
          ·
            refine XS.ifYes X140.here hx rfl (pc0 := 189) (pc' := 198) rfl (hb hby at_189) rfl ((if0 _ _).trans (feq hj145).2) (by decide) (by decide) ?_
            refine XS.iload X140.here hx rfl (hb hby at_198) rfl ?_
            refine XS.iconst X140.here hx rfl (hb hby at_200) ?_
            refine XS.iushr X140.here hx rfl (hb hby at_201) rfl ?_
            refine XS.bipush X140.here hx rfl (hb hby at_202) ?_
            refine XS.iand X140.here hx rfl (hb hby at_204) rfl ?_
            show SS p e below T140 m 205 #[.val (.int sel), .val (.int a), .val (.int bq), .val (.int c), .val (.int d), .val (.int e0_), .val (.int kq), .val (.ref b110), .val (.ref r_115), .unset, .unset, .unset] [(.int (((e0_.toUInt32 >>> ((1 : Int32) &&& 31).toUInt32).toInt32) &&& (7 : Int32)))] _
            refine XS.bipush X140.here hx rfl (hb hby at_205) ?_
            show SS p e below T140 m 207 #[.val (.int sel), .val (.int a), .val (.int bq), .val (.int c), .val (.int d), .val (.int e0_), .val (.int kq), .val (.ref b110), .val (.ref r_115), .unset, .unset, .unset] [(.int (6 : Int32)), (.int (((e0_.toUInt32 >>> ((1 : Int32) &&& 31).toUInt32).toInt32) &&& (7 : Int32)))] _
            refine Jvm.RoadKit.iremM X140 hx rfl (hb hby at_207) rfl (by decide) ?_
            refine XS.istore X140.here hx rfl (hb hby at_208) rfl (l' := #[.val (.int sel), .val (.int a), .val (.int bq), .val (.int c), .val (.int d), .val (.int e0_), .val (.int kq), .val (.ref b110), .val (.int ((((e0_.toUInt32 >>> ((1 : Int32) &&& 31).toUInt32).toInt32) &&& (7 : Int32)) % (6 : Int32))), .unset, .unset, .unset]) rfl ?_
            exact castTop (by first | rfl | (simp only [if_neg hj145]; first | done | rfl)) kt
        obtain ⟨nq, h_nq⟩ : ∃ z : Int32, z = (if (e0_ &&& (1 : Int32)) = (0 : Int32) then (4 : Int32) else ((((e0_.toUInt32 >>> ((1 : Int32) &&& 31).toUInt32).toInt32) &&& (7 : Int32)) % (6 : Int32))) := ⟨_, rfl⟩
        have O147 : Old Z n0 h140 := ((O136.keep K138 (allS (Nat.le_trans Z0 (Nat.le_of_eq g110.symm)) all0)).keep K140 (allS (Nat.le_trans Z0 (Nat.le_of_eq g110.symm)) all0))
        obtain ⟨_, _, ⟨T148, L148, k148, n148⟩, -, X148', hS148', hgr148, ⟨Lc148, hQ148, l148, y148, z148, A148⟩, st148⟩ := callSS X140 hx (y := yn20) hown114 (mvT hZ114 (w39 hw)) (mvT hZ114 (w40 hw)) (mvT hZ114 (w4 hw)) (mvT hZ114 (w41 hw)) (by decide) (backOfSH (W := 0) (rm_make l Z a0 hw [] b110 nq k110 ca cb cc cd ce cS h140 n0 (Nat.le_trans Z0 (Nat.le_trans (Nat.le_trans (Nat.le_trans (Nat.le_trans (Nat.le_trans (Nat.le_trans K110.1 K114.1) K123.1) K128.1) K133.1) K138.1) K140.1)) O147 S_cs hcS J140 hb8 (by rw [h_nq]; exact own_n6' _ _)) hZ114 (w41 hw) (w4 hw) (by decide) (by decide) hEL R141.1) (g := (mkF m 214 #[.val (.int sel), .val (.int a), .val (.int bq), .val (.int c), .val (.int d), .val (.int e0_), .val (.int kq), .val (.ref b110), .val (.int nq), .unset, .unset, .unset] [(.int nq), (.ref b110)])) rfl (by rw [hml]; rfl) (argsL := [(.ref b110), (.int nq)]) (rest := []) (lenOf pd__28__5b_CI_29_Ljava_2f_lang_2f_String_3b_ rfl) rfl (by show 2 * 0 + _ ≤ _; exact Nat.le_of_eq rfl) (hb hby at_214) (fun _ _ => ⟨rfl, e140, (Nat.le_of_ble_eq_true rfl), (Nat.le_of_ble_eq_true rfl)⟩)
        dsimp only [Pt.U, Pt.locs, Pt.cells, Pt.slots] at X148' hS148' hgr148 l148 y148 z148 st148 hQ148 A148
        subst l148 y148 z148
        obtain ⟨X148, hS148, hZ148, hown148⟩ := rebS hS114 (by rw [e140]; exact (Nat.le_trans hk114 (Nat.le_trans (Nat.le_trans (Nat.le_trans (Nat.le_trans K123.1 K128.1) K133.1) K138.1) K140.1))) X148' hS148' hgr148 hZ114 hown114
        obtain ⟨r_149, t_150, kb_151, rfl, Nq148, K148, P148_0, P148_1⟩ := hQ148
        have N148 := Fr.app N140 Nq148
        have R152 : CHr Z EL_1 s.vm h0 T148.vm T148.heap := R141.trans A148
        have hk148 : T148.heap.size ≤ T148.heap.size := Nat.le_refl _
        have F153 : Arv Z T148.heap b110 k110 .char (5 : Int32) [(.int ca), (.int cb), (.int cc), (.int cd), (.int ce)] (.int (0 : Int32)) := (J140.keep K148 nin0)
        have O154 : Old Z n0 T148.heap := (O147.keep K148 all0)
        obtain ⟨_, _, ⟨T155, L155, k155, n155⟩, -, X155, ⟨Lc155, hQ155, l155, y155, z155⟩, st155⟩ := Jvm.LawKit.callS X148 hx (y := yn21) hown148 (mvT hZ148 (w63 hw)) (mvT hZ148 (w64 hw)) (mvT hZ148 (w4 hw)) (mvT hZ148 (w65 hw)) (by decide) (backOf (W := 0) (rm_expect l Z a0 hw [] b110 nq k110 ca cb cc cd ce o0 o1 o2 o3 o4 T148.heap n0 (Nat.le_trans Z0 (Nat.le_trans (Nat.le_trans (Nat.le_trans (Nat.le_trans (Nat.le_trans (Nat.le_trans (Nat.le_trans K110.1 K114.1) K123.1) K128.1) K133.1) K138.1) K140.1) K148.1)) O154 S_0 S_1 S_2 S_3 S_4 F153) hZ148 (w65 hw) (w4 hw) (by decide) (by decide)) (g := (mkF m 223 #[.val (.int sel), .val (.int a), .val (.int bq), .val (.int c), .val (.int d), .val (.int e0_), .val (.int kq), .val (.ref b110), .val (.int nq), .val (.ref r_149), .unset, .unset] [(.int nq), (.ref b110)])) rfl (by rw [hml]; rfl) (argsL := [(.ref b110), (.int nq)]) (rest := []) (lenOf pd__28__5b_CI_29_Lcom_2f_example_2f_composition_2f_composition_2f_definition_2f_ObjectFormat_3b_ rfl) rfl (by show 2 * 0 + _ ≤ _; exact Nat.le_of_eq rfl) (hb hby at_223) (fun _ _ => ⟨rfl, rfl, (Nat.le_of_ble_eq_true rfl), (Nat.le_of_ble_eq_true rfl)⟩)
        dsimp only [Pt.U, Pt.locs, Pt.cells, Pt.slots] at X155 l155 y155 z155 st155 hQ155
        subst l155 y155 z155
        obtain ⟨rfl, Nq155, eq155⟩ := hQ155
        have N155 := Fr.app N148 Nq155
        obtain ⟨_, _, ⟨T156, L156, k156, n156⟩, -, X156, ⟨Lc156, hQ156, l156, y156, z156⟩, st156⟩ := Jvm.LawKit.callS X155 hx (y := yn18) hown148 (mvT hZ148 (w66 hw)) (mvT hZ148 (w67 hw)) (mvT hZ148 (w68 hw)) (mvT hZ148 (w69 hw)) (by decide) (backOf (W := 0) (rm_ofType l Z a0 hw [] r_149 t_150 kb_151 ([ca, cb, cc, cd, ce].take nq.toNatClampNeg) o0 o1 o2 o3 o4 oV kV j0 v0 kv0 j1 v1 kv1 j2 v2 kv2 j3 v3 kv3 j4 v4 kv4 oE cS T148.heap n0 (Nat.le_trans Z0 (Nat.le_trans (Nat.le_trans (Nat.le_trans (Nat.le_trans (Nat.le_trans (Nat.le_trans (Nat.le_trans K110.1 K114.1) K123.1) K128.1) K133.1) K138.1) K140.1) K148.1)) O154 S_V S_0 S_1 S_2 S_3 S_4 E_V V_V E_0 Fj_0 Ej_0 Fc_0 Fv_0 Vv_0 E_1 Fj_1 Ej_1 Fc_1 Fv_1 Vv_1 E_2 Fj_2 Ej_2 Fc_2 Fv_2 Vv_2 E_3 Fj_3 Ej_3 Fc_3 Fv_3 Vv_3 E_4 Fj_4 Ej_4 Fc_4 Fv_4 Vv_4 S_EMPTY E_EMPTY F_EMPTY S_cs hcS P148_1 (B85.tk hb8 _).2 (Nat.le_trans Z0 (Nat.le_trans (Nat.le_trans (Nat.le_trans (Nat.le_trans (Nat.le_trans (Nat.le_trans (Nat.le_trans K110.1 K114.1) K123.1) K128.1) K133.1) K138.1) K140.1) P148_0))) hZ148 (w69 hw) (w68 hw) (by decide) (by decide)) (g := (mkF m 230 #[.val (.int sel), .val (.int a), .val (.int bq), .val (.int c), .val (.int d), .val (.int e0_), .val (.int kq), .val (.ref b110), .val (.int nq), .val (.ref r_149), .val (exv o0 o1 o2 o3 o4 ca cb cc cd nq), .unset] [(.ref r_149)])) rfl (by rw [hml]; rfl) (argsL := [(.ref r_149)]) (rest := []) (lenOf pd__28_Ljava_2f_lang_2f_String_3b__29_Ljava_2f_util_2f_Optional_3b_ rfl) rfl (by show 2 * 0 + _ ≤ _; exact Nat.le_of_eq rfl) (hb hby at_230) (fun _ _ => ⟨rfl, eq155, (Nat.le_of_ble_eq_true rfl), (Nat.le_of_ble_eq_true rfl)⟩)
        dsimp only [Pt.U, Pt.locs, Pt.cells, Pt.slots] at X156 l156 y156 z156 st156 hQ156
        subst l156 y156 z156
        obtain ⟨r_157, rfl, Nq156, K156, P156_0, P156_1⟩ := hQ156
        have N156 := Fr.app N155 Nq156
        have R158 : CHr Z EL_1 s.vm h0 T148.vm T156.heap := R152.trans (CHr.keep K156 sf0 R152.1)
        obtain ⟨cq159, kq159, q159a, q159b, q159c⟩ := isOf hZ148 rfl P156_0
        obtain ⟨_, _, ⟨T159, L159, k159, n159⟩, -, X159, ⟨Lc159, hQ159, l159, y159, z159⟩, st159⟩ := X156.virtualBack hx (y := yn16) (z := yn16) hown148 (mvT hZ148 (w106 hw)) (mvT hZ148 (w107 hw)) (notFace_of_selects (args := #[]) (mvT hZ148 (w109 hw))) (mvT hZ148 (w109 hw)) (mvT hZ148 (w108 hw)) (by decide) (backOf (W := 0) (rm_orElse l Z a0 hw [] r_157 (ov o0 o1 o2 o3 o4 ([ca, cb, cc, cd, ce].take nq.toNatClampNeg)) T156.heap n0 (Nat.le_trans Z0 (Nat.le_trans (Nat.le_trans (Nat.le_trans (Nat.le_trans (Nat.le_trans (Nat.le_trans (Nat.le_trans (Nat.le_trans K110.1 K114.1) K123.1) K128.1) K133.1) K138.1) K140.1) K148.1) K156.1)) P156_1 (ov_ref ..)) hZ148 (w110 hw) (w103 hw) (by decide) (by decide)) q159a q159c (g := (mkF m 238 #[.val (.int sel), .val (.int a), .val (.int bq), .val (.int c), .val (.int d), .val (.int e0_), .val (.int kq), .val (.ref b110), .val (.int nq), .val (.ref r_149), .val (exv o0 o1 o2 o3 o4 ca cb cc cd nq), .val (.ref r_157)] [.null, (.ref r_157)])) rfl (by rw [hml]; rfl) (Steps.refl _) (argsL := [.null]) (rest := []) (lenOf pd__28_Ljava_2f_lang_2f_Object_3b__29_Ljava_2f_lang_2f_Object_3b_ rfl) rfl (by show 2 * 0 + _ ≤ _; exact Nat.le_of_eq rfl) (hb hby at_238) (fun _ _ => ⟨rfl, rfl, (Nat.le_of_ble_eq_true rfl), (Nat.le_of_ble_eq_true rfl)⟩)
        dsimp only [Pt.U, Pt.locs, Pt.cells, Pt.slots] at X159 l159 y159 z159 st159 hQ159
        subst l159 y159 z159
        obtain ⟨rfl, Nq159, eq159⟩ := hQ159
        have N159 := Fr.app N156 Nq159
        have W160 : ∀ zQ, SS p e below T159 m 251 #[.val (.int sel), .val (.int a), .val (.int bq), .val (.int c), .val (.int d), .val (.int e0_), .val (.int kq), .val (.ref b110), .val (.int nq), .val (.ref r_149), .val (exv o0 o1 o2 o3 o4 ca cb cc cd nq), .val (.ref r_157)] [(.int (1 : Int32))] zQ → Steps p.tables e below (s₁.setTop (entryFrame m #[(.int sel), (.int a), (.int bq), (.int c), (.int d), (.int e0_)] maxLocals)) zQ := by
          intro tt kt
          refine W146 tt ?_
          rw [← h_nq]
          refine XS.aload X140.here hx rfl (hb hby at_210) rfl rfl ?_
          refine XS.iload X140.here hx rfl (hb hby at_212) rfl ?_
          show SS p e below T140 m 214 #[.val (.int sel), .val (.int a), .val (.int bq), .val (.int c), .val (.int d), .val (.int e0_), .val (.int kq), .val (.ref b110), .val (.int nq), .unset, .unset, .unset] [(.int nq), (.ref b110)] _
          refine st148.trans ?_
          refine XS.astore X148.here hx rfl (hb hby at_217) rfl rfl (l' := #[.val (.int sel), .val (.int a), .val (.int bq), .val (.int c), .val (.int d), .val (.int e0_), .val (.int kq), .val (.ref b110), .val (.int nq), .val (.ref r_149), .unset, .unset]) rfl ?_
          refine XS.aload X148.here hx rfl (hb hby at_219) rfl rfl ?_
          refine XS.iload X148.here hx rfl (hb hby at_221) rfl ?_
          show SS p e below T148 m 223 #[.val (.int sel), .val (.int a), .val (.int bq), .val (.int c), .val (.int d), .val (.int e0_), .val (.int kq), .val (.ref b110), .val (.int nq), .val (.ref r_149), .unset, .unset] [(.int nq), (.ref b110)] _
          refine st155 _ ?_
          refine XS.astore X155.here hx rfl (hb hby at_226) rfl (exv_ref ..) (l' := #[.val (.int sel), .val (.int a), .val (.int bq), .val (.int c), .val (.int d), .val (.int e0_), .val (.int kq), .val (.ref b110), .val (.int nq), .val (.ref r_149), .val (exv o0 o1 o2 o3 o4 ca cb cc cd nq), .unset]) (XS.store1 rfl (Or.inl rfl) (XT.cat1 (exv_ref ..))) ?_
          refine XS.aload X155.here hx rfl (hb hby at_228) rfl rfl ?_
          show SS p e below T155 m 230 #[.val (.int sel), .val (.int a), .val (.int bq), .val (.int c), .val (.int d), .val (.int e0_), .val (.int kq), .val (.ref b110), .val (.int nq), .val (.ref r_149), .val (exv o0 o1 o2 o3 o4 ca cb cc cd nq), .unset] [(.ref r_149)] _
          refine st156 _ ?_
          refine XS.astore X156.here hx rfl (hb hby at_233) rfl rfl (l' := #[.val (.int sel), .val (.int a), .val (.int bq), .val (.int c), .val (.int d), .val (.int e0_), .val (.int kq), .val (.ref b110), .val (.int nq), .val (.ref r_149), .val (exv o0 o1 o2 o3 o4 ca cb cc cd nq), .val (.ref r_157)]) rfl ?_
          refine XS.aload X156.here hx rfl (hb hby at_235) rfl rfl ?_
          refine XS.aconstNull X156.here hx rfl (hb hby at_237) ?_
          show SS p e below T156 m 238 #[.val (.int sel), .val (.int a), .val (.int bq), .val (.int c), .val (.int d), .val (.int e0_), .val (.int kq), .val (.ref b110), .val (.int nq), .val (.ref r_149), .val (exv o0 o1 o2 o3 o4 ca cb cc cd nq), .val (.ref r_157)] [.null, (.ref r_157)] _
          refine st159.trans ?_
          refine XS.aload X159.here hx rfl (hb hby at_241) rfl (exv_ref ..) ?_
          show SS p e below T159 m 243 #[.val (.int sel), .val (.int a), .val (.int bq), .val (.int c), .val (.int d), .val (.int e0_), .val (.int kq), .val (.ref b110), .val (.int nq), .val (.ref r_149), .val (exv o0 o1 o2 o3 o4 ca cb cc cd nq), .val (.ref r_157)] [(exv o0 o1 o2 o3 o4 ca cb cc cd nq), (ov o0 o1 o2 o3 o4 ([ca, cb, cc, cd, ce].take nq.toNatClampNeg))] _
          refine Jvm.RoadKit.acmp (g := (mkF m 243 #[.val (.int sel), .val (.int a), .val (.int bq), .val (.int c), .val (.int d), .val (.int e0_), .val (.int kq), .val (.ref b110), .val (.int nq), .val (.ref r_149), .val (exv o0 o1 o2 o3 o4 ca cb cc cd nq), .val (.ref r_157)] [(exv o0 o1 o2 o3 o4 ca cb cc cd nq), (ov o0 o1 o2 o3 o4 ([ca, cb, cc, cd, ce].take nq.toNatClampNeg))])) X159 hx rfl (ov_ref ..) (exv_ref ..) (pc0 := 243) (pc' := 246) (same := true) rfl (hb hby at_243) rfl (decide_eq_true (own_oe _ _ _ _ _ _ _ _ _ _ _ (by rw [h_nq]; exact own_n6' _ _))) (by decide) (by decide) ?_
          refine XS.iconst X159.here hx rfl (hb hby at_246) ?_
          refine XS.goto X159.here hx rfl (pc0 := 247) (pc' := 251) rfl (hb hby at_247) (by decide) (by decide) ?_
          exact kt
        obtain ⟨fs, hr, hrun, hended, hRW⟩ := Jvm.Stand.leaveW X159 hS148 (by rw [eq159]; exact (Nat.le_trans hk148 K156.1)) (v := some (.int (nar .boolean (1 : Int32)))) (fun h => by rw [Bd.returns] at h; cases h) (BodyLoose.notSynchronized Bd)
        refine ⟨_, _, W160 _ (retN X159 hx (t := .boolean) Bd.returns (by simp) (hb hby at_251) hr), hrun, hended, _, _, rfl, ?_, own_chr (T := T159) R158 (CHv.at X159 hZ148 hEL R158.1) hh.symm eq159, own_rw hRW (by decide) (by decide)⟩
        show Q_law Z sel a bq c d e0_ o0 o1 o2 o3 o4 oV kV j0 v0 kv0 j1 v1 kv1 j2 v2 kv2 j3 v3 kv3 j4 v4 kv4 oE cS fm h0 n0 _ T159.heap _
        rw [eq159]
        exact ⟨rfl, N159, (Keep.trans (Keep.trans (Keep.trans (Keep.trans (Keep.trans (Keep.trans (Keep.trans (Keep.trans (Keep.trans (Keep.refl h0 []) K110 all0) K114 all0) K123 (allS (Or.inr (Nat.le_of_eq g110.symm)) all0)) K128 (allS (Or.inr (Nat.le_of_eq g110.symm)) all0)) K133 (allS (Or.inr (Nat.le_of_eq g110.symm)) all0)) K138 (allS (Or.inr (Nat.le_of_eq g110.symm)) all0)) K140 (allS (Or.inr (Nat.le_of_eq g110.symm)) all0)) K148 all0) K156 all0)⟩
      ·
        obtain ⟨pq, h_pq⟩ : ∃ z : Int32, z = ((((c.toUInt32 >>> ((1 : Int32) &&& 31).toUInt32).toInt32) &&& (7 : Int32)) % (5 : Int32)) := ⟨_, rfl⟩
        obtain ⟨cp, h_cp⟩ : ∃ z : Int32, z = ((d &&& (255 : Int32)).toUInt32.toUInt16.toUInt32.toInt32) := ⟨_, rfl⟩
        have hb_cp : B8 cp := by rw [h_cp]; exact own_c8 _
        obtain ⟨cl161, Ar161, q161, S161, M161, H161, F161g⟩ := id J140
        have hin161 : ¬ (pq < 0 ∨ cl161.slots.size ≤ (pq).toNatClampNeg) := inb_of S161 (by rw [h_pq]; exact (own_p5 _).1)
        obtain ⟨T161, h161, X161, e161, Wr161, st161⟩ := stC X140 hx hZ114 e140 Ar161 (j := pq) hin161 (g := (mkF m 184 #[.val (.int sel), .val (.int a), .val (.int bq), .val (.int c), .val (.int d), .val (.int e0_), .val (.int kq), .val (.ref b110), .val (.int pq), .unset, .unset, .unset] [(.int cp), (.int pq), (.ref b110)])) rfl rfl (hb hby at_184)
        have G161 : Arv Z h161 b110 k110 .char (5 : Int32) ([(.int ca), (.int cb), (.int cc), (.int cd), (.int ce)].set pq.toNatClampNeg (.int (nar .char cp))) (.int (0 : Int32)) := Arv.set Ar161 q161 S161 M161 H161 F161g (fits_nar_char _) Wr161 pq.toNatClampNeg rfl (by rw [h_pq]; exact (own_p5 _).2)
        have K161 := Keep.of_wr Wr161
        have N161 := Fr.snoc X161 N140 (Nat.le_trans Z0 (Nat.le_of_eq g110.symm))
        have R162 : CHr Z EL_1 s.vm h0 T114.vm h161 := R141.trans (CHr.keep K161 (sfS (Safe.arv hZ114.alike J140 (by intro q; cases q)) sf0) R141.1)
        obtain ⟨y0_163, y1_163, y2_163, y3_163, y4_163, hy163, hz163⟩ := own_set5 hb8 hb_cp pq.toNatClampNeg
        have J163 : Arv Z h161 b110 k110 .char (5 : Int32) [(.int y0_163), (.int y1_163), (.int y2_163), (.int y3_163), (.int y4_163)] (.int (0 : Int32)) := by have q := G161; rw [own_nar8 hb_cp, hy163] at q; exact q
        have W164 : ∀ zQ, SS p e below T161 m 189 #[.val (.int sel), .val (.int a), .val (.int bq), .val (.int c), .val (.int d), .val (.int e0_), .val (.int kq), .val (.ref b110), .val (.int pq), .unset, .unset, .unset] [(.int (e0_ &&& (1 : Int32)))] zQ → Steps p.tables e below (s₁.setTop (entryFrame m #[(.int sel), (.int a), (.int bq), (.int c), (.int d), (.int e0_)] maxLocals)) zQ := by
          intro tt kt
          refine W142 tt ?_
          refine XS.ifNo X140.here hx rfl (hb hby at_160) rfl ((if0 _ _).trans (feq hc143).1) ?_
          refine XS.iloadN X140.here hx rfl (hb hby at_163) rfl ?_
          refine XS.iconst X140.here hx rfl (hb hby at_164) ?_
          refine XS.iushr X140.here hx rfl (hb hby at_165) rfl ?_
          refine XS.bipush X140.here hx rfl (hb hby at_166) ?_
          refine XS.iand X140.here hx rfl (hb hby at_168) rfl ?_
          show SS p e below T140 m 169 #[.val (.int sel), .val (.int a), .val (.int bq), .val (.int c), .val (.int d), .val (.int e0_), .val (.int kq), .val (.ref b110), .val (.ref r_115), .unset, .unset, .unset] [(.int (((c.toUInt32 >>> ((1 : Int32) &&& 31).toUInt32).toInt32) &&& (7 : Int32)))] _
          refine XS.iconst X140.here hx rfl (hb hby at_169) ?_
          show SS p e below T140 m 170 #[.val (.int sel), .val (.int a), .val (.int bq), .val (.int c), .val (.int d), .val (.int e0_), .val (.int kq), .val (.ref b110), .val (.ref r_115), .unset, .unset, .unset] [(.int (5 : Int32)), (.int (((c.toUInt32 >>> ((1 : Int32) &&& 31).toUInt32).toInt32) &&& (7 : Int32)))] _
          refine Jvm.RoadKit.iremM X140 hx rfl (hb hby at_170) rfl (by decide) ?_
          show SS p e below T140 m 171 #[.val (.int sel), .val (.int a), .val (.int bq), .val (.int c), .val (.int d), .val (.int e0_), .val (.int kq), .val (.ref b110), .val (.ref r_115), .unset, .unset, .unset] [(.int ((((c.toUInt32 >>> ((1 : Int32) &&& 31).toUInt32).toInt32) &&& (7 : Int32)) % (5 : Int32)))] _
          rw [← h_pq]
          refine XS.istore X140.here hx rfl (hb hby at_171) rfl (l' := #[.val (.int sel), .val (.int a), .val (.int bq), .val (.int c), .val (.int d), .val (.int e0_), .val (.int kq), .val (.ref b110), .val (.int pq), .unset, .unset, .unset]) rfl ?_
          refine XS.aload X140.here hx rfl (hb hby at_173) rfl rfl ?_
          refine XS.iload X140.here hx rfl (hb hby at_175) rfl ?_
          refine XS.iload X140.here hx rfl (hb hby at_177) rfl ?_
          refine XS.sipush X140.here hx rfl (hb hby at_179) ?_
          show SS p e below T140 m 182 #[.val (.int sel), .val (.int a), .val (.int bq), .val (.int c), .val (.int d), .val (.int e0_), .val (.int kq), .val (.ref b110), .val (.int pq), .unset, .unset, .unset] [(.int (255 : Int32)), (.int d), (.int pq), (.ref b110)] _
          refine XS.iand X140.here hx rfl (hb hby at_182) rfl ?_
          refine XS.i2c X140.here hx rfl (hb hby at_183) rfl ?_
          show SS p e below T140 m 184 #[.val (.int sel), .val (.int a), .val (.int bq), .val (.int c), .val (.int d), .val (.int e0_), .val (.int kq), .val (.ref b110), .val (.int pq), .unset, .unset, .unset] [(.int ((d &&& (255 : Int32)).toUInt32.toUInt16.toUInt32.toInt32)), (.int pq), (.ref b110)] _
          rw [← h_cp]
          show SS p e below T140 m 184 #[.val (.int sel), .val (.int a), .val (.int bq), .val (.int c), .val (.int d), .val (.int e0_), .val (.int kq), .val (.ref b110), .val (.int pq), .unset, .unset, .unset] [(.int cp), (.int pq), (.ref b110)] _
          refine st161 _ ?_
          refine XS.iload X161.here hx rfl (hb hby at_185) rfl ?_
          refine XS.iconst X161.here hx rfl (hb hby at_187) ?_
          refine XS.iand X161.here hx rfl (hb hby at_188) rfl ?_
          exact kt
        have W166 : ∀ zQ, SS p e below T161 m 210 #[.val (.int sel), .val (.int a), .val (.int bq), .val (.int c), .val (.int d), .val (.int e0_), .val (.int kq), .val (.ref b110), .val (.int (if (e0_ &&& (1 : Int32)) = (0 : Int32) then (4 : Int32) else ((((e0_.toUInt32 >>> ((1 : Int32) &&& 31).toUInt32).toInt32) &&& (7 : Int32)) % (6 : Int32)))), .unset, .unset, .unset] [] zQ → Steps p.tables e below (s₁.setTop (entryFrame m #[(.int sel), (.int a), (.int bq), (.int c), (.int d), (.int e0_)] maxLocals)) zQ := by
          intro tt kt
          refine W164 tt ?_
          by_cases hj165 : (e0_ &&& (1 : Int32)) = (0 : Int32)
          ·
            refine XS.ifNo X161.here hx rfl (hb hby at_189) rfl ((if0 _ _).trans (teq hj165).2) ?_
            refine XS.iconst X161.here hx rfl (hb hby at_192) ?_
            refine XS.istore X161.here hx rfl (hb hby at_193) rfl (l' := #[.val (.int sel), .val (.int a), .val (.int bq), .val (.int c), .val (.int d), .val (.int e0_), .val (.int kq), .val (.ref b110), .val (.int (4 : Int32)), .unset, .unset, .unset]) rfl ?_
            refine XS.goto X161.here hx rfl (pc0 := 195) (pc' := 210) rfl (hb hby at_195) (by decide) (by decide) ?_
            exact castTop (by first | rfl | (simp only [if_pos hj165]; first | done | rfl)) kt
          ·
            refine XS.ifYes X161.here hx rfl (pc0 := 189) (pc' := 198) rfl (hb hby at_189) rfl ((if0 _ _).trans (feq hj165).2) (by decide) (by decide) ?_
            refine XS.iload X161.here hx rfl (hb hby at_198) rfl ?_
            refine XS.iconst X161.here hx rfl (hb hby at_200) ?_
            refine XS.iushr X161.here hx rfl (hb hby at_201) rfl ?_
            refine XS.bipush X161.here hx rfl (hb hby at_202) ?_
            refine XS.iand X161.here hx rfl (hb hby at_204) rfl ?_
            show SS p e below T161 m 205 #[.val (.int sel), .val (.int a), .val (.int bq), .val (.int c), .val (.int d), .val (.int e0_), .val (.int kq), .val (.ref b110), .val (.int pq), .unset, .unset, .unset] [(.int (((e0_.toUInt32 >>> ((1 : Int32) &&& 31).toUInt32).toInt32) &&& (7 : Int32)))] _
            refine XS.bipush X161.here hx rfl (hb hby at_205) ?_
            show SS p e below T161 m 207 #[.val (.int sel), .val (.int a), .val (.int bq), .val (.int c), .val (.int d), .val (.int e0_), .val (.int kq), .val (.ref b110), .val (.int pq), .unset, .unset, .unset] [(.int (6 : Int32)), (.int (((e0_.toUInt32 >>> ((1 : Int32) &&& 31).toUInt32).toInt32) &&& (7 : Int32)))] _
            refine Jvm.RoadKit.iremM X161 hx rfl (hb hby at_207) rfl (by decide) ?_
            refine XS.istore X161.here hx rfl (hb hby at_208) rfl (l' := #[.val (.int sel), .val (.int a), .val (.int bq), .val (.int c), .val (.int d), .val (.int e0_), .val (.int kq), .val (.ref b110), .val (.int ((((e0_.toUInt32 >>> ((1 : Int32) &&& 31).toUInt32).toInt32) &&& (7 : Int32)) % (6 : Int32))), .unset, .unset, .unset]) rfl ?_
            exact castTop (by first | rfl | (simp only [if_neg hj165]; first | done | rfl)) kt
        obtain ⟨nq, h_nq⟩ : ∃ z : Int32, z = (if (e0_ &&& (1 : Int32)) = (0 : Int32) then (4 : Int32) else ((((e0_.toUInt32 >>> ((1 : Int32) &&& 31).toUInt32).toInt32) &&& (7 : Int32)) % (6 : Int32))) := ⟨_, rfl⟩
        have O167 : Old Z n0 h161 := (((O136.keep K138 (allS (Nat.le_trans Z0 (Nat.le_of_eq g110.symm)) all0)).keep K140 (allS (Nat.le_trans Z0 (Nat.le_of_eq g110.symm)) all0)).keep K161 (allS (Nat.le_trans Z0 (Nat.le_of_eq g110.symm)) all0))
        obtain ⟨_, _, ⟨T168, L168, k168, n168⟩, -, X168', hS168', hgr168, ⟨Lc168, hQ168, l168, y168, z168, A168⟩, st168⟩ := callSS X161 hx (y := yn20) hown114 (mvT hZ114 (w39 hw)) (mvT hZ114 (w40 hw)) (mvT hZ114 (w4 hw)) (mvT hZ114 (w41 hw)) (by decide) (backOfSH (W := 0) (rm_make l Z a0 hw [] b110 nq k110 y0_163 y1_163 y2_163 y3_163 y4_163 cS h161 n0 (Nat.le_trans Z0 (Nat.le_trans (Nat.le_trans (Nat.le_trans (Nat.le_trans (Nat.le_trans (Nat.le_trans (Nat.le_trans K110.1 K114.1) K123.1) K128.1) K133.1) K138.1) K140.1) K161.1)) O167 S_cs hcS J163 hz163 (by rw [h_nq]; exact own_n6' _ _)) hZ114 (w41 hw) (w4 hw) (by decide) (by decide) hEL R162.1) (g := (mkF m 214 #[.val (.int sel), .val (.int a), .val (.int bq), .val (.int c), .val (.int d), .val (.int e0_), .val (.int kq), .val (.ref b110), .val (.int nq), .unset, .unset, .unset] [(.int nq), (.ref b110)])) rfl (by rw [hml]; rfl) (argsL := [(.ref b110), (.int nq)]) (rest := []) (lenOf pd__28__5b_CI_29_Ljava_2f_lang_2f_String_3b_ rfl) rfl (by show 2 * 0 + _ ≤ _; exact Nat.le_of_eq rfl) (hb hby at_214) (fun _ _ => ⟨rfl, e161, (Nat.le_of_ble_eq_true rfl), (Nat.le_of_ble_eq_true rfl)⟩)
        dsimp only [Pt.U, Pt.locs, Pt.cells, Pt.slots] at X168' hS168' hgr168 l168 y168 z168 st168 hQ168 A168
        subst l168 y168 z168
        obtain ⟨X168, hS168, hZ168, hown168⟩ := rebS hS114 (by rw [e161]; exact (Nat.le_trans hk114 (Nat.le_trans (Nat.le_trans (Nat.le_trans (Nat.le_trans (Nat.le_trans K123.1 K128.1) K133.1) K138.1) K140.1) K161.1))) X168' hS168' hgr168 hZ114 hown114
        obtain ⟨r_169, t_170, kb_171, rfl, Nq168, K168, P168_0, P168_1⟩ := hQ168
        have N168 := Fr.app N161 Nq168
        have R172 : CHr Z EL_1 s.vm h0 T168.vm T168.heap := R162.trans A168
        have hk168 : T168.heap.size ≤ T168.heap.size := Nat.le_refl _
        have F173 : Arv Z T168.heap b110 k110 .char (5 : Int32) [(.int y0_163), (.int y1_163), (.int y2_163), (.int y3_163), (.int y4_163)] (.int (0 : Int32)) := (J163.keep K168 nin0)
        have O174 : Old Z n0 T168.heap := (O167.keep K168 all0)
        obtain ⟨_, _, ⟨T175, L175, k175, n175⟩, -, X175, ⟨Lc175, hQ175, l175, y175, z175⟩, st175⟩ := Jvm.LawKit.callS X168 hx (y := yn21) hown168 (mvT hZ168 (w63 hw)) (mvT hZ168 (w64 hw)) (mvT hZ168 (w4 hw)) (mvT hZ168 (w65 hw)) (by decide) (backOf (W := 0) (rm_expect l Z a0 hw [] b110 nq k110 y0_163 y1_163 y2_163 y3_163 y4_163 o0 o1 o2 o3 o4 T168.heap n0 (Nat.le_trans Z0 (Nat.le_trans (Nat.le_trans (Nat.le_trans (Nat.le_trans (Nat.le_trans (Nat.le_trans (Nat.le_trans (Nat.le_trans K110.1 K114.1) K123.1) K128.1) K133.1) K138.1) K140.1) K161.1) K168.1)) O174 S_0 S_1 S_2 S_3 S_4 F173) hZ168 (w65 hw) (w4 hw) (by decide) (by decide)) (g := (mkF m 223 #[.val (.int sel), .val (.int a), .val (.int bq), .val (.int c), .val (.int d), .val (.int e0_), .val (.int kq), .val (.ref b110), .val (.int nq), .val (.ref r_169), .unset, .unset] [(.int nq), (.ref b110)])) rfl (by rw [hml]; rfl) (argsL := [(.ref b110), (.int nq)]) (rest := []) (lenOf pd__28__5b_CI_29_Lcom_2f_example_2f_composition_2f_composition_2f_definition_2f_ObjectFormat_3b_ rfl) rfl (by show 2 * 0 + _ ≤ _; exact Nat.le_of_eq rfl) (hb hby at_223) (fun _ _ => ⟨rfl, rfl, (Nat.le_of_ble_eq_true rfl), (Nat.le_of_ble_eq_true rfl)⟩)
        dsimp only [Pt.U, Pt.locs, Pt.cells, Pt.slots] at X175 l175 y175 z175 st175 hQ175
        subst l175 y175 z175
        obtain ⟨rfl, Nq175, eq175⟩ := hQ175
        have N175 := Fr.app N168 Nq175
        obtain ⟨_, _, ⟨T176, L176, k176, n176⟩, -, X176, ⟨Lc176, hQ176, l176, y176, z176⟩, st176⟩ := Jvm.LawKit.callS X175 hx (y := yn18) hown168 (mvT hZ168 (w66 hw)) (mvT hZ168 (w67 hw)) (mvT hZ168 (w68 hw)) (mvT hZ168 (w69 hw)) (by decide) (backOf (W := 0) (rm_ofType l Z a0 hw [] r_169 t_170 kb_171 ([y0_163, y1_163, y2_163, y3_163, y4_163].take nq.toNatClampNeg) o0 o1 o2 o3 o4 oV kV j0 v0 kv0 j1 v1 kv1 j2 v2 kv2 j3 v3 kv3 j4 v4 kv4 oE cS T168.heap n0 (Nat.le_trans Z0 (Nat.le_trans (Nat.le_trans (Nat.le_trans (Nat.le_trans (Nat.le_trans (Nat.le_trans (Nat.le_trans (Nat.le_trans K110.1 K114.1) K123.1) K128.1) K133.1) K138.1) K140.1) K161.1) K168.1)) O174 S_V S_0 S_1 S_2 S_3 S_4 E_V V_V E_0 Fj_0 Ej_0 Fc_0 Fv_0 Vv_0 E_1 Fj_1 Ej_1 Fc_1 Fv_1 Vv_1 E_2 Fj_2 Ej_2 Fc_2 Fv_2 Vv_2 E_3 Fj_3 Ej_3 Fc_3 Fv_3 Vv_3 E_4 Fj_4 Ej_4 Fc_4 Fv_4 Vv_4 S_EMPTY E_EMPTY F_EMPTY S_cs hcS P168_1 (B85.tk hz163 _).2 (Nat.le_trans Z0 (Nat.le_trans (Nat.le_trans (Nat.le_trans (Nat.le_trans (Nat.le_trans (Nat.le_trans (Nat.le_trans (Nat.le_trans K110.1 K114.1) K123.1) K128.1) K133.1) K138.1) K140.1) K161.1) P168_0))) hZ168 (w69 hw) (w68 hw) (by decide) (by decide)) (g := (mkF m 230 #[.val (.int sel), .val (.int a), .val (.int bq), .val (.int c), .val (.int d), .val (.int e0_), .val (.int kq), .val (.ref b110), .val (.int nq), .val (.ref r_169), .val (exv o0 o1 o2 o3 o4 y0_163 y1_163 y2_163 y3_163 nq), .unset] [(.ref r_169)])) rfl (by rw [hml]; rfl) (argsL := [(.ref r_169)]) (rest := []) (lenOf pd__28_Ljava_2f_lang_2f_String_3b__29_Ljava_2f_util_2f_Optional_3b_ rfl) rfl (by show 2 * 0 + _ ≤ _; exact Nat.le_of_eq rfl) (hb hby at_230) (fun _ _ => ⟨rfl, eq175, (Nat.le_of_ble_eq_true rfl), (Nat.le_of_ble_eq_true rfl)⟩)
        dsimp only [Pt.U, Pt.locs, Pt.cells, Pt.slots] at X176 l176 y176 z176 st176 hQ176
        subst l176 y176 z176
        obtain ⟨r_177, rfl, Nq176, K176, P176_0, P176_1⟩ := hQ176
        have N176 := Fr.app N175 Nq176
        have R178 : CHr Z EL_1 s.vm h0 T168.vm T176.heap := R172.trans (CHr.keep K176 sf0 R172.1)
        obtain ⟨cq179, kq179, q179a, q179b, q179c⟩ := isOf hZ168 rfl P176_0
        obtain ⟨_, _, ⟨T179, L179, k179, n179⟩, -, X179, ⟨Lc179, hQ179, l179, y179, z179⟩, st179⟩ := X176.virtualBack hx (y := yn16) (z := yn16) hown168 (mvT hZ168 (w106 hw)) (mvT hZ168 (w107 hw)) (notFace_of_selects (args := #[]) (mvT hZ168 (w109 hw))) (mvT hZ168 (w109 hw)) (mvT hZ168 (w108 hw)) (by decide) (backOf (W := 0) (rm_orElse l Z a0 hw [] r_177 (ov o0 o1 o2 o3 o4 ([y0_163, y1_163, y2_163, y3_163, y4_163].take nq.toNatClampNeg)) T176.heap n0 (Nat.le_trans Z0 (Nat.le_trans (Nat.le_trans (Nat.le_trans (Nat.le_trans (Nat.le_trans (Nat.le_trans (Nat.le_trans (Nat.le_trans (Nat.le_trans K110.1 K114.1) K123.1) K128.1) K133.1) K138.1) K140.1) K161.1) K168.1) K176.1)) P176_1 (ov_ref ..)) hZ168 (w110 hw) (w103 hw) (by decide) (by decide)) q179a q179c (g := (mkF m 238 #[.val (.int sel), .val (.int a), .val (.int bq), .val (.int c), .val (.int d), .val (.int e0_), .val (.int kq), .val (.ref b110), .val (.int nq), .val (.ref r_169), .val (exv o0 o1 o2 o3 o4 y0_163 y1_163 y2_163 y3_163 nq), .val (.ref r_177)] [.null, (.ref r_177)])) rfl (by rw [hml]; rfl) (Steps.refl _) (argsL := [.null]) (rest := []) (lenOf pd__28_Ljava_2f_lang_2f_Object_3b__29_Ljava_2f_lang_2f_Object_3b_ rfl) rfl (by show 2 * 0 + _ ≤ _; exact Nat.le_of_eq rfl) (hb hby at_238) (fun _ _ => ⟨rfl, rfl, (Nat.le_of_ble_eq_true rfl), (Nat.le_of_ble_eq_true rfl)⟩)
        dsimp only [Pt.U, Pt.locs, Pt.cells, Pt.slots] at X179 l179 y179 z179 st179 hQ179
        subst l179 y179 z179
        obtain ⟨rfl, Nq179, eq179⟩ := hQ179
        have N179 := Fr.app N176 Nq179
        have W180 : ∀ zQ, SS p e below T179 m 251 #[.val (.int sel), .val (.int a), .val (.int bq), .val (.int c), .val (.int d), .val (.int e0_), .val (.int kq), .val (.ref b110), .val (.int nq), .val (.ref r_169), .val (exv o0 o1 o2 o3 o4 y0_163 y1_163 y2_163 y3_163 nq), .val (.ref r_177)] [(.int (1 : Int32))] zQ → Steps p.tables e below (s₁.setTop (entryFrame m #[(.int sel), (.int a), (.int bq), (.int c), (.int d), (.int e0_)] maxLocals)) zQ := by
          intro tt kt
          refine W166 tt ?_
          rw [← h_nq]
          refine XS.aload X161.here hx rfl (hb hby at_210) rfl rfl ?_
          refine XS.iload X161.here hx rfl (hb hby at_212) rfl ?_
          show SS p e below T161 m 214 #[.val (.int sel), .val (.int a), .val (.int bq), .val (.int c), .val (.int d), .val (.int e0_), .val (.int kq), .val (.ref b110), .val (.int nq), .unset, .unset, .unset] [(.int nq), (.ref b110)] _
          refine st168.trans ?_
          refine XS.astore X168.here hx rfl (hb hby at_217) rfl rfl (l' := #[.val (.int sel), .val (.int a), .val (.int bq), .val (.int c), .val (.int d), .val (.int e0_), .val (.int kq), .val (.ref b110), .val (.int nq), .val (.ref r_169), .unset, .unset]) rfl ?_
          refine XS.aload X168.here hx rfl (hb hby at_219) rfl rfl ?_
          refine XS.iload X168.here hx rfl (hb hby at_221) rfl ?_
          show SS p e below T168 m 223 #[.val (.int sel), .val (.int a), .val (.int bq), .val (.int c), .val (.int d), .val (.int e0_), .val (.int kq), .val (.ref b110), .val (.int nq), .val (.ref r_169), .unset, .unset] [(.int nq), (.ref b110)] _
          refine st175 _ ?_
          refine XS.astore X175.here hx rfl (hb hby at_226) rfl (exv_ref ..) (l' := #[.val (.int sel), .val (.int a), .val (.int bq), .val (.int c), .val (.int d), .val (.int e0_), .val (.int kq), .val (.ref b110), .val (.int nq), .val (.ref r_169), .val (exv o0 o1 o2 o3 o4 y0_163 y1_163 y2_163 y3_163 nq), .unset]) (XS.store1 rfl (Or.inl rfl) (XT.cat1 (exv_ref ..))) ?_
          refine XS.aload X175.here hx rfl (hb hby at_228) rfl rfl ?_
          show SS p e below T175 m 230 #[.val (.int sel), .val (.int a), .val (.int bq), .val (.int c), .val (.int d), .val (.int e0_), .val (.int kq), .val (.ref b110), .val (.int nq), .val (.ref r_169), .val (exv o0 o1 o2 o3 o4 y0_163 y1_163 y2_163 y3_163 nq), .unset] [(.ref r_169)] _
          refine st176 _ ?_
          refine XS.astore X176.here hx rfl (hb hby at_233) rfl rfl (l' := #[.val (.int sel), .val (.int a), .val (.int bq), .val (.int c), .val (.int d), .val (.int e0_), .val (.int kq), .val (.ref b110), .val (.int nq), .val (.ref r_169), .val (exv o0 o1 o2 o3 o4 y0_163 y1_163 y2_163 y3_163 nq), .val (.ref r_177)]) rfl ?_
          refine XS.aload X176.here hx rfl (hb hby at_235) rfl rfl ?_
          refine XS.aconstNull X176.here hx rfl (hb hby at_237) ?_
          show SS p e below T176 m 238 #[.val (.int sel), .val (.int a), .val (.int bq), .val (.int c), .val (.int d), .val (.int e0_), .val (.int kq), .val (.ref b110), .val (.int nq), .val (.ref r_169), .val (exv o0 o1 o2 o3 o4 y0_163 y1_163 y2_163 y3_163 nq), .val (.ref r_177)] [.null, (.ref r_177)] _
          refine st179.trans ?_
          refine XS.aload X179.here hx rfl (hb hby at_241) rfl (exv_ref ..) ?_
          show SS p e below T179 m 243 #[.val (.int sel), .val (.int a), .val (.int bq), .val (.int c), .val (.int d), .val (.int e0_), .val (.int kq), .val (.ref b110), .val (.int nq), .val (.ref r_169), .val (exv o0 o1 o2 o3 o4 y0_163 y1_163 y2_163 y3_163 nq), .val (.ref r_177)] [(exv o0 o1 o2 o3 o4 y0_163 y1_163 y2_163 y3_163 nq), (ov o0 o1 o2 o3 o4 ([y0_163, y1_163, y2_163, y3_163, y4_163].take nq.toNatClampNeg))] _
          refine Jvm.RoadKit.acmp (g := (mkF m 243 #[.val (.int sel), .val (.int a), .val (.int bq), .val (.int c), .val (.int d), .val (.int e0_), .val (.int kq), .val (.ref b110), .val (.int nq), .val (.ref r_169), .val (exv o0 o1 o2 o3 o4 y0_163 y1_163 y2_163 y3_163 nq), .val (.ref r_177)] [(exv o0 o1 o2 o3 o4 y0_163 y1_163 y2_163 y3_163 nq), (ov o0 o1 o2 o3 o4 ([y0_163, y1_163, y2_163, y3_163, y4_163].take nq.toNatClampNeg))])) X179 hx rfl (ov_ref ..) (exv_ref ..) (pc0 := 243) (pc' := 246) (same := true) rfl (hb hby at_243) rfl (decide_eq_true (own_oe _ _ _ _ _ _ _ _ _ _ _ (by rw [h_nq]; exact own_n6' _ _))) (by decide) (by decide) ?_
          refine XS.iconst X179.here hx rfl (hb hby at_246) ?_
          refine XS.goto X179.here hx rfl (pc0 := 247) (pc' := 251) rfl (hb hby at_247) (by decide) (by decide) ?_
          exact kt
        obtain ⟨fs, hr, hrun, hended, hRW⟩ := Jvm.Stand.leaveW X179 hS168 (by rw [eq179]; exact (Nat.le_trans hk168 K176.1)) (v := some (.int (nar .boolean (1 : Int32)))) (fun h => by rw [Bd.returns] at h; cases h) (BodyLoose.notSynchronized Bd)
        refine ⟨_, _, W180 _ (retN X179 hx (t := .boolean) Bd.returns (by simp) (hb hby at_251) hr), hrun, hended, _, _, rfl, ?_, own_chr (T := T179) R178 (CHv.at X179 hZ168 hEL R178.1) hh.symm eq179, own_rw hRW (by decide) (by decide)⟩
        show Q_law Z sel a bq c d e0_ o0 o1 o2 o3 o4 oV kV j0 v0 kv0 j1 v1 kv1 j2 v2 kv2 j3 v3 kv3 j4 v4 kv4 oE cS fm h0 n0 _ T179.heap _
        rw [eq179]
        exact ⟨rfl, N179, (Keep.trans (Keep.trans (Keep.trans (Keep.trans (Keep.trans (Keep.trans (Keep.trans (Keep.trans (Keep.trans (Keep.trans (Keep.refl h0 []) K110 all0) K114 all0) K123 (allS (Or.inr (Nat.le_of_eq g110.symm)) all0)) K128 (allS (Or.inr (Nat.le_of_eq g110.symm)) all0)) K133 (allS (Or.inr (Nat.le_of_eq g110.symm)) all0)) K138 (allS (Or.inr (Nat.le_of_eq g110.symm)) all0)) K140 (allS (Or.inr (Nat.le_of_eq g110.symm)) all0)) K161 (allS (Or.inr (Nat.le_of_eq g110.symm)) all0)) K168 all0) K176 all0)⟩
    ·
      obtain ⟨ca, h_ca⟩ : ∃ z : Int32, z = ((a &&& (255 : Int32)).toUInt32.toUInt16.toUInt32.toInt32) := ⟨_, rfl⟩
      have hb_ca : B8 ca := by rw [h_ca]; exact own_c8 _
      obtain ⟨cl181, Ar181, q181, S181, M181, H181, F181g⟩ := id G110
      have hin181 : ¬ ((0 : Int32) < 0 ∨ cl181.slots.size ≤ ((0 : Int32)).toNatClampNeg) := inb_of S181 ⟨by decide, by decide⟩
      obtain ⟨T181, h181, X181, e181, Wr181, st181⟩ := stC X110 hx hZ0 e110 Ar181 (j := (0 : Int32)) hin181 (g := (mkF m 107 #[.val (.int sel), .val (.int a), .val (.int bq), .val (.int c), .val (.int d), .val (.int e0_), .val (.int kq), .val (.ref b110), .unset, .unset, .unset, .unset] [(.int ca), (.int (0 : Int32)), (.ref b110)])) rfl rfl (hb hby at_107)
      have G181 : Arv Z h181 b110 k110 .char (5 : Int32) [(.int (nar .char ca)), (.int (0 : Int32)), (.int (0 : Int32)), (.int (0 : Int32)), (.int (0 : Int32))] (.int (0 : Int32)) := Arv.set Ar181 q181 S181 M181 H181 F181g (fits_nar_char _) Wr181 0 rfl (Nat.le_of_ble_eq_true rfl)
      have K181 := Keep.of_wr Wr181
      have N181 := Fr.snoc X181 N0 (Nat.le_trans Z0 (Nat.le_of_eq g110.symm))
      have R182 : CHr Z EL_1 s.vm h0 s.vm h181 := R111.trans (CHr.keep K181 (sfS (Safe.arv hZ0.alike G110 (by intro q; cases q)) sf0) R111.1)
      have J181 : Arv Z h181 b110 k110 .char (5 : Int32) [(.int ca), (.int (0 : Int32)), (.int (0 : Int32)), (.int (0 : Int32)), (.int (0 : Int32))] (.int (0 : Int32)) := by rw [own_nar8 hb_ca] at G181; exact G181
      obtain ⟨cb, h_cb⟩ : ∃ z : Int32, z = ((((a.toUInt32 >>> ((8 : Int32) &&& 31).toUInt32).toInt32) &&& (255 : Int32)).toUInt32.toUInt16.toUInt32.toInt32) := ⟨_, rfl⟩
      have hb_cb : B8 cb := by rw [h_cb]; exact own_c8 _
      obtain ⟨cl183, Ar183, q183, S183, M183, H183, F183g⟩ := id J181
      have hin183 : ¬ ((1 : Int32) < 0 ∨ cl183.slots.size ≤ ((1 : Int32)).toNatClampNeg) := inb_of S183 ⟨by decide, by decide⟩
      obtain ⟨T183, h183, X183, e183, Wr183, st183⟩ := stC X181 hx hZ0 e181 Ar183 (j := (1 : Int32)) hin183 (g := (mkF m 120 #[.val (.int sel), .val (.int a), .val (.int bq), .val (.int c), .val (.int d), .val (.int e0_), .val (.int kq), .val (.ref b110), .unset, .unset, .unset, .unset] [(.int cb), (.int (1 : Int32)), (.ref b110)])) rfl rfl (hb hby at_120)
      have G183 : Arv Z h183 b110 k110 .char (5 : Int32) [(.int ca), (.int (nar .char cb)), (.int (0 : Int32)), (.int (0 : Int32)), (.int (0 : Int32))] (.int (0 : Int32)) := Arv.set Ar183 q183 S183 M183 H183 F183g (fits_nar_char _) Wr183 1 rfl (Nat.le_of_ble_eq_true rfl)
      have K183 := Keep.of_wr Wr183
      have N183 := Fr.snoc X183 N181 (Nat.le_trans Z0 (Nat.le_of_eq g110.symm))
      have R184 : CHr Z EL_1 s.vm h0 s.vm h183 := R182.trans (CHr.keep K183 (sfS (Safe.arv hZ0.alike J181 (by intro q; cases q)) sf0) R182.1)
      have J183 : Arv Z h183 b110 k110 .char (5 : Int32) [(.int ca), (.int cb), (.int (0 : Int32)), (.int (0 : Int32)), (.int (0 : Int32))] (.int (0 : Int32)) := by rw [own_nar8 hb_cb] at G183; exact G183
      obtain ⟨cc, h_cc⟩ : ∃ z : Int32, z = ((((a.toUInt32 >>> ((16 : Int32) &&& 31).toUInt32).toInt32) &&& (255 : Int32)).toUInt32.toUInt16.toUInt32.toInt32) := ⟨_, rfl⟩
      have hb_cc : B8 cc := by rw [h_cc]; exact own_c8 _
      obtain ⟨cl185, Ar185, q185, S185, M185, H185, F185g⟩ := id J183
      have hin185 : ¬ ((2 : Int32) < 0 ∨ cl185.slots.size ≤ ((2 : Int32)).toNatClampNeg) := inb_of S185 ⟨by decide, by decide⟩
      obtain ⟨T185, h185, X185, e185, Wr185, st185⟩ := stC X183 hx hZ0 e183 Ar185 (j := (2 : Int32)) hin185 (g := (mkF m 133 #[.val (.int sel), .val (.int a), .val (.int bq), .val (.int c), .val (.int d), .val (.int e0_), .val (.int kq), .val (.ref b110), .unset, .unset, .unset, .unset] [(.int cc), (.int (2 : Int32)), (.ref b110)])) rfl rfl (hb hby at_133)
      have G185 : Arv Z h185 b110 k110 .char (5 : Int32) [(.int ca), (.int cb), (.int (nar .char cc)), (.int (0 : Int32)), (.int (0 : Int32))] (.int (0 : Int32)) := Arv.set Ar185 q185 S185 M185 H185 F185g (fits_nar_char _) Wr185 2 rfl (Nat.le_of_ble_eq_true rfl)
      have K185 := Keep.of_wr Wr185
      have N185 := Fr.snoc X185 N183 (Nat.le_trans Z0 (Nat.le_of_eq g110.symm))
      have R186 : CHr Z EL_1 s.vm h0 s.vm h185 := R184.trans (CHr.keep K185 (sfS (Safe.arv hZ0.alike J183 (by intro q; cases q)) sf0) R184.1)
      have J185 : Arv Z h185 b110 k110 .char (5 : Int32) [(.int ca), (.int cb), (.int cc), (.int (0 : Int32)), (.int (0 : Int32))] (.int (0 : Int32)) := by rw [own_nar8 hb_cc] at G185; exact G185
      obtain ⟨cd, h_cd⟩ : ∃ z : Int32, z = ((((a.toUInt32 >>> ((24 : Int32) &&& 31).toUInt32).toInt32) &&& (255 : Int32)).toUInt32.toUInt16.toUInt32.toInt32) := ⟨_, rfl⟩
      have hb_cd : B8 cd := by rw [h_cd]; exact own_c8 _
      obtain ⟨cl187, Ar187, q187, S187, M187, H187, F187g⟩ := id J185
      have hin187 : ¬ ((3 : Int32) < 0 ∨ cl187.slots.size ≤ ((3 : Int32)).toNatClampNeg) := inb_of S187 ⟨by decide, by decide⟩
      obtain ⟨T187, h187, X187, e187, Wr187, st187⟩ := stC X185 hx hZ0 e185 Ar187 (j := (3 : Int32)) hin187 (g := (mkF m 146 #[.val (.int sel), .val (.int a), .val (.int bq), .val (.int c), .val (.int d), .val (.int e0_), .val (.int kq), .val (.ref b110), .unset, .unset, .unset, .unset] [(.int cd), (.int (3 : Int32)), (.ref b110)])) rfl rfl (hb hby at_146)
      have G187 : Arv Z h187 b110 k110 .char (5 : Int32) [(.int ca), (.int cb), (.int cc), (.int (nar .char cd)), (.int (0 : Int32))] (.int (0 : Int32)) := Arv.set Ar187 q187 S187 M187 H187 F187g (fits_nar_char _) Wr187 3 rfl (Nat.le_of_ble_eq_true rfl)
      have K187 := Keep.of_wr Wr187
      have N187 := Fr.snoc X187 N185 (Nat.le_trans Z0 (Nat.le_of_eq g110.symm))
      have R188 : CHr Z EL_1 s.vm h0 s.vm h187 := R186.trans (CHr.keep K187 (sfS (Safe.arv hZ0.alike J185 (by intro q; cases q)) sf0) R186.1)
      have J187 : Arv Z h187 b110 k110 .char (5 : Int32) [(.int ca), (.int cb), (.int cc), (.int cd), (.int (0 : Int32))] (.int (0 : Int32)) := by rw [own_nar8 hb_cd] at G187; exact G187
      obtain ⟨ce, h_ce⟩ : ∃ z : Int32, z = ((bq &&& (255 : Int32)).toUInt32.toUInt16.toUInt32.toInt32) := ⟨_, rfl⟩
      have hb_ce : B8 ce := by rw [h_ce]; exact own_c8 _
      obtain ⟨cl189, Ar189, q189, S189, M189, H189, F189g⟩ := id J187
      have hin189 : ¬ ((4 : Int32) < 0 ∨ cl189.slots.size ≤ ((4 : Int32)).toNatClampNeg) := inb_of S189 ⟨by decide, by decide⟩
      obtain ⟨T189, h189, X189, e189, Wr189, st189⟩ := stC X187 hx hZ0 e187 Ar189 (j := (4 : Int32)) hin189 (g := (mkF m 156 #[.val (.int sel), .val (.int a), .val (.int bq), .val (.int c), .val (.int d), .val (.int e0_), .val (.int kq), .val (.ref b110), .unset, .unset, .unset, .unset] [(.int ce), (.int (4 : Int32)), (.ref b110)])) rfl rfl (hb hby at_156)
      have G189 : Arv Z h189 b110 k110 .char (5 : Int32) [(.int ca), (.int cb), (.int cc), (.int cd), (.int (nar .char ce))] (.int (0 : Int32)) := Arv.set Ar189 q189 S189 M189 H189 F189g (fits_nar_char _) Wr189 4 rfl (Nat.le_of_ble_eq_true rfl)
      have K189 := Keep.of_wr Wr189
      have N189 := Fr.snoc X189 N187 (Nat.le_trans Z0 (Nat.le_of_eq g110.symm))
      have R190 : CHr Z EL_1 s.vm h0 s.vm h189 := R188.trans (CHr.keep K189 (sfS (Safe.arv hZ0.alike J187 (by intro q; cases q)) sf0) R188.1)
      have J189 : Arv Z h189 b110 k110 .char (5 : Int32) [(.int ca), (.int cb), (.int cc), (.int cd), (.int ce)] (.int (0 : Int32)) := by rw [own_nar8 hb_ce] at G189; exact G189
      have hb8 : B85 ca cb cc cd ce := own_b5 hb_ca hb_cb hb_cc hb_cd hb_ce
      have W191 : ∀ zQ, SS p e below T189 m 160 #[.val (.int sel), .val (.int a), .val (.int bq), .val (.int c), .val (.int d), .val (.int e0_), .val (.int kq), .val (.ref b110), .unset, .unset, .unset, .unset] [(.int (c &&& (1 : Int32)))] zQ → Steps p.tables e below (s₁.setTop (entryFrame m #[(.int sel), (.int a), (.int bq), (.int c), (.int d), (.int e0_)] maxLocals)) zQ := by
        intro tt kt
        refine W112 tt ?_
        refine XS.icmpYes X110.here hx rfl (pc0 := 45) (pc' := 98) rfl (hb hby at_45) rfl (flt hc113).2.1 (by decide) (by decide) ?_
        refine XS.aload X110.here hx rfl (hb hby at_98) rfl rfl ?_
        refine XS.iconst X110.here hx rfl (hb hby at_100) ?_
        refine XS.iloadN X110.here hx rfl (hb hby at_101) rfl ?_
        refine XS.sipush X110.here hx rfl (hb hby at_102) ?_
        refine XS.iand X110.here hx rfl (hb hby at_105) rfl ?_
        show SS p e below T110 m 106 #[.val (.int sel), .val (.int a), .val (.int bq), .val (.int c), .val (.int d), .val (.int e0_), .val (.int kq), .val (.ref b110), .unset, .unset, .unset, .unset] [(.int (a &&& (255 : Int32))), (.int (0 : Int32)), (.ref b110)] _
        refine XS.i2c X110.here hx rfl (hb hby at_106) rfl ?_
        show SS p e below T110 m 107 #[.val (.int sel), .val (.int a), .val (.int bq), .val (.int c), .val (.int d), .val (.int e0_), .val (.int kq), .val (.ref b110), .unset, .unset, .unset, .unset] [(.int ((a &&& (255 : Int32)).toUInt32.toUInt16.toUInt32.toInt32)), (.int (0 : Int32)), (.ref b110)] _
        rw [← h_ca]
        show SS p e below T110 m 107 #[.val (.int sel), .val (.int a), .val (.int bq), .val (.int c), .val (.int d), .val (.int e0_), .val (.int kq), .val (.ref b110), .unset, .unset, .unset, .unset] [(.int ca), (.int (0 : Int32)), (.ref b110)] _
        refine st181 _ ?_
        refine XS.aload X181.here hx rfl (hb hby at_108) rfl rfl ?_
        refine XS.iconst X181.here hx rfl (hb hby at_110) ?_
        refine XS.iloadN X181.here hx rfl (hb hby at_111) rfl ?_
        refine XS.bipush X181.here hx rfl (hb hby at_112) ?_
        refine XS.iushr X181.here hx rfl (hb hby at_114) rfl ?_
        show SS p e below T181 m 115 #[.val (.int sel), .val (.int a), .val (.int bq), .val (.int c), .val (.int d), .val (.int e0_), .val (.int kq), .val (.ref b110), .unset, .unset, .unset, .unset] [(.int ((a.toUInt32 >>> ((8 : Int32) &&& 31).toUInt32).toInt32)), (.int (1 : Int32)), (.ref b110)] _
        refine XS.sipush X181.here hx rfl (hb hby at_115) ?_
        refine XS.iand X181.here hx rfl (hb hby at_118) rfl ?_
        refine XS.i2c X181.here hx rfl (hb hby at_119) rfl ?_
        show SS p e below T181 m 120 #[.val (.int sel), .val (.int a), .val (.int bq), .val (.int c), .val (.int d), .val (.int e0_), .val (.int kq), .val (.ref b110), .unset, .unset, .unset, .unset] [(.int ((((a.toUInt32 >>> ((8 : Int32) &&& 31).toUInt32).toInt32) &&& (255 : Int32)).toUInt32.toUInt16.toUInt32.toInt32)), (.int (1 : Int32)), (.ref b110)] _
        rw [← h_cb]
        show SS p e below T181 m 120 #[.val (.int sel), .val (.int a), .val (.int bq), .val (.int c), .val (.int d), .val (.int e0_), .val (.int kq), .val (.ref b110), .unset, .unset, .unset, .unset] [(.int cb), (.int (1 : Int32)), (.ref b110)] _
        refine st183 _ ?_
        refine XS.aload X183.here hx rfl (hb hby at_121) rfl rfl ?_
        refine XS.iconst X183.here hx rfl (hb hby at_123) ?_
        refine XS.iloadN X183.here hx rfl (hb hby at_124) rfl ?_
        refine XS.bipush X183.here hx rfl (hb hby at_125) ?_
        refine XS.iushr X183.here hx rfl (hb hby at_127) rfl ?_
        show SS p e below T183 m 128 #[.val (.int sel), .val (.int a), .val (.int bq), .val (.int c), .val (.int d), .val (.int e0_), .val (.int kq), .val (.ref b110), .unset, .unset, .unset, .unset] [(.int ((a.toUInt32 >>> ((16 : Int32) &&& 31).toUInt32).toInt32)), (.int (2 : Int32)), (.ref b110)] _
        refine XS.sipush X183.here hx rfl (hb hby at_128) ?_
        refine XS.iand X183.here hx rfl (hb hby at_131) rfl ?_
        refine XS.i2c X183.here hx rfl (hb hby at_132) rfl ?_
        show SS p e below T183 m 133 #[.val (.int sel), .val (.int a), .val (.int bq), .val (.int c), .val (.int d), .val (.int e0_), .val (.int kq), .val (.ref b110), .unset, .unset, .unset, .unset] [(.int ((((a.toUInt32 >>> ((16 : Int32) &&& 31).toUInt32).toInt32) &&& (255 : Int32)).toUInt32.toUInt16.toUInt32.toInt32)), (.int (2 : Int32)), (.ref b110)] _
        rw [← h_cc]
        show SS p e below T183 m 133 #[.val (.int sel), .val (.int a), .val (.int bq), .val (.int c), .val (.int d), .val (.int e0_), .val (.int kq), .val (.ref b110), .unset, .unset, .unset, .unset] [(.int cc), (.int (2 : Int32)), (.ref b110)] _
        refine st185 _ ?_
        refine XS.aload X185.here hx rfl (hb hby at_134) rfl rfl ?_
        refine XS.iconst X185.here hx rfl (hb hby at_136) ?_
        refine XS.iloadN X185.here hx rfl (hb hby at_137) rfl ?_
        refine XS.bipush X185.here hx rfl (hb hby at_138) ?_
        refine XS.iushr X185.here hx rfl (hb hby at_140) rfl ?_
        show SS p e below T185 m 141 #[.val (.int sel), .val (.int a), .val (.int bq), .val (.int c), .val (.int d), .val (.int e0_), .val (.int kq), .val (.ref b110), .unset, .unset, .unset, .unset] [(.int ((a.toUInt32 >>> ((24 : Int32) &&& 31).toUInt32).toInt32)), (.int (3 : Int32)), (.ref b110)] _
        refine XS.sipush X185.here hx rfl (hb hby at_141) ?_
        refine XS.iand X185.here hx rfl (hb hby at_144) rfl ?_
        refine XS.i2c X185.here hx rfl (hb hby at_145) rfl ?_
        show SS p e below T185 m 146 #[.val (.int sel), .val (.int a), .val (.int bq), .val (.int c), .val (.int d), .val (.int e0_), .val (.int kq), .val (.ref b110), .unset, .unset, .unset, .unset] [(.int ((((a.toUInt32 >>> ((24 : Int32) &&& 31).toUInt32).toInt32) &&& (255 : Int32)).toUInt32.toUInt16.toUInt32.toInt32)), (.int (3 : Int32)), (.ref b110)] _
        rw [← h_cd]
        show SS p e below T185 m 146 #[.val (.int sel), .val (.int a), .val (.int bq), .val (.int c), .val (.int d), .val (.int e0_), .val (.int kq), .val (.ref b110), .unset, .unset, .unset, .unset] [(.int cd), (.int (3 : Int32)), (.ref b110)] _
        refine st187 _ ?_
        refine XS.aload X187.here hx rfl (hb hby at_147) rfl rfl ?_
        refine XS.iconst X187.here hx rfl (hb hby at_149) ?_
        refine XS.iloadN X187.here hx rfl (hb hby at_150) rfl ?_
        refine XS.sipush X187.here hx rfl (hb hby at_151) ?_
        refine XS.iand X187.here hx rfl (hb hby at_154) rfl ?_
        show SS p e below T187 m 155 #[.val (.int sel), .val (.int a), .val (.int bq), .val (.int c), .val (.int d), .val (.int e0_), .val (.int kq), .val (.ref b110), .unset, .unset, .unset, .unset] [(.int (bq &&& (255 : Int32))), (.int (4 : Int32)), (.ref b110)] _
        refine XS.i2c X187.here hx rfl (hb hby at_155) rfl ?_
        show SS p e below T187 m 156 #[.val (.int sel), .val (.int a), .val (.int bq), .val (.int c), .val (.int d), .val (.int e0_), .val (.int kq), .val (.ref b110), .unset, .unset, .unset, .unset] [(.int ((bq &&& (255 : Int32)).toUInt32.toUInt16.toUInt32.toInt32)), (.int (4 : Int32)), (.ref b110)] _
        rw [← h_ce]
        show SS p e below T187 m 156 #[.val (.int sel), .val (.int a), .val (.int bq), .val (.int c), .val (.int d), .val (.int e0_), .val (.int kq), .val (.ref b110), .unset, .unset, .unset, .unset] [(.int ce), (.int (4 : Int32)), (.ref b110)] _
        refine st189 _ ?_
        refine XS.iloadN X189.here hx rfl (hb hby at_157) rfl ?_
        refine XS.iconst X189.here hx rfl (hb hby at_158) ?_
        refine XS.iand X189.here hx rfl (hb hby at_159) rfl ?_
        exact kt
      by_cases hc192 : (c &&& (1 : Int32)) = (0 : Int32)
      ·
        have W193 : ∀ zQ, SS p e below T189 m 189 #[.val (.int sel), .val (.int a), .val (.int bq), .val (.int c), .val (.int d), .val (.int e0_), .val (.int kq), .val (.ref b110), .unset, .unset, .unset, .unset] [(.int (e0_ &&& (1 : Int32)))] zQ → Steps p.tables e below (s₁.setTop (entryFrame m #[(.int sel), (.int a), (.int bq), (.int c), (.int d), (.int e0_)] maxLocals)) zQ := by
          intro tt kt
          refine W191 tt ?_
          refine XS.ifYes X189.here hx rfl (pc0 := 160) (pc' := 185) rfl (hb hby at_160) rfl ((if0 _ _).trans (teq hc192).1) (by decide) (by decide) ?_
          refine XS.iload X189.here hx rfl (hb hby at_185) rfl ?_
          refine XS.iconst X189.here hx rfl (hb hby at_187) ?_
          refine XS.iand X189.here hx rfl (hb hby at_188) rfl ?_
          exact kt
        have W195 : ∀ zQ, SS p e below T189 m 210 #[.val (.int sel), .val (.int a), .val (.int bq), .val (.int c), .val (.int d), .val (.int e0_), .val (.int kq), .val (.ref b110), .val (.int (if (e0_ &&& (1 : Int32)) = (0 : Int32) then (4 : Int32) else ((((e0_.toUInt32 >>> ((1 : Int32) &&& 31).toUInt32).toInt32) &&& (7 : Int32)) % (6 : Int32)))), .unset, .unset, .unset] [] zQ → Steps p.tables e below (s₁.setTop (entryFrame m #[(.int sel), (.int a), (.int bq), (.int c), (.int d), (.int e0_)] maxLocals)) zQ := by
          intro tt kt
          refine W193 tt ?_
          by_cases hj194 : (e0_ &&& (1 : Int32)) = (0 : Int32)
          ·
            refine XS.ifNo X189.here hx rfl (hb hby at_189) rfl ((if0 _ _).trans (teq hj194).2) ?_
            refine XS.iconst X189.here hx rfl (hb hby at_192) ?_
            refine XS.istore X189.here hx rfl (hb hby at_193) rfl (l' := #[.val (.int sel), .val (.int a), .val (.int bq), .val (.int c), .val (.int d), .val (.int e0_), .val (.int kq), .val (.ref b110), .val (.int (4 : Int32)), .unset, .unset, .unset]) rfl ?_
            refine XS.goto X189.here hx rfl (pc0 := 195) (pc' := 210) rfl (hb hby at_195) (by decide) (by decide) ?_
            exact castTop (by first | rfl | (simp only [if_pos hj194]; first | done | rfl)) kt
          ·
            refine XS.ifYes X189.here hx rfl (pc0 := 189) (pc' := 198) rfl (hb hby at_189) rfl ((if0 _ _).trans (feq hj194).2) (by decide) (by decide) ?_
            refine XS.iload X189.here hx rfl (hb hby at_198) rfl ?_
            refine XS.iconst X189.here hx rfl (hb hby at_200) ?_
            refine XS.iushr X189.here hx rfl (hb hby at_201) rfl ?_
            refine XS.bipush X189.here hx rfl (hb hby at_202) ?_
            refine XS.iand X189.here hx rfl (hb hby at_204) rfl ?_
            show SS p e below T189 m 205 #[.val (.int sel), .val (.int a), .val (.int bq), .val (.int c), .val (.int d), .val (.int e0_), .val (.int kq), .val (.ref b110), .unset, .unset, .unset, .unset] [(.int (((e0_.toUInt32 >>> ((1 : Int32) &&& 31).toUInt32).toInt32) &&& (7 : Int32)))] _
            refine XS.bipush X189.here hx rfl (hb hby at_205) ?_
            show SS p e below T189 m 207 #[.val (.int sel), .val (.int a), .val (.int bq), .val (.int c), .val (.int d), .val (.int e0_), .val (.int kq), .val (.ref b110), .unset, .unset, .unset, .unset] [(.int (6 : Int32)), (.int (((e0_.toUInt32 >>> ((1 : Int32) &&& 31).toUInt32).toInt32) &&& (7 : Int32)))] _
            refine Jvm.RoadKit.iremM X189 hx rfl (hb hby at_207) rfl (by decide) ?_
            refine XS.istore X189.here hx rfl (hb hby at_208) rfl (l' := #[.val (.int sel), .val (.int a), .val (.int bq), .val (.int c), .val (.int d), .val (.int e0_), .val (.int kq), .val (.ref b110), .val (.int ((((e0_.toUInt32 >>> ((1 : Int32) &&& 31).toUInt32).toInt32) &&& (7 : Int32)) % (6 : Int32))), .unset, .unset, .unset]) rfl ?_
            exact castTop (by first | rfl | (simp only [if_neg hj194]; first | done | rfl)) kt
        obtain ⟨nq, h_nq⟩ : ∃ z : Int32, z = (if (e0_ &&& (1 : Int32)) = (0 : Int32) then (4 : Int32) else ((((e0_.toUInt32 >>> ((1 : Int32) &&& 31).toUInt32).toInt32) &&& (7 : Int32)) % (6 : Int32))) := ⟨_, rfl⟩
        have O196 : Old Z n0 h189 := ((((((O0.keep K110 all0).keep K181 (allS (Nat.le_trans Z0 (Nat.le_of_eq g110.symm)) all0)).keep K183 (allS (Nat.le_trans Z0 (Nat.le_of_eq g110.symm)) all0)).keep K185 (allS (Nat.le_trans Z0 (Nat.le_of_eq g110.symm)) all0)).keep K187 (allS (Nat.le_trans Z0 (Nat.le_of_eq g110.symm)) all0)).keep K189 (allS (Nat.le_trans Z0 (Nat.le_of_eq g110.symm)) all0))
        obtain ⟨_, _, ⟨T197, L197, k197, n197⟩, -, X197', hS197', hgr197, ⟨Lc197, hQ197, l197, y197, z197, A197⟩, st197⟩ := callSS X189 hx (y := yn20) hown0 (mvT hZ0 (w39 hw)) (mvT hZ0 (w40 hw)) (mvT hZ0 (w4 hw)) (mvT hZ0 (w41 hw)) (by decide) (backOfSH (W := 0) (rm_make l Z a0 hw [] b110 nq k110 ca cb cc cd ce cS h189 n0 (Nat.le_trans Z0 (Nat.le_trans (Nat.le_trans (Nat.le_trans (Nat.le_trans (Nat.le_trans K110.1 K181.1) K183.1) K185.1) K187.1) K189.1)) O196 S_cs hcS J189 hb8 (by rw [h_nq]; exact own_n6' _ _)) hZ0 (w41 hw) (w4 hw) (by decide) (by decide) hEL R190.1) (g := (mkF m 214 #[.val (.int sel), .val (.int a), .val (.int bq), .val (.int c), .val (.int d), .val (.int e0_), .val (.int kq), .val (.ref b110), .val (.int nq), .unset, .unset, .unset] [(.int nq), (.ref b110)])) rfl (by rw [hml]; rfl) (argsL := [(.ref b110), (.int nq)]) (rest := []) (lenOf pd__28__5b_CI_29_Ljava_2f_lang_2f_String_3b_ rfl) rfl (by show 2 * 0 + _ ≤ _; exact Nat.le_of_eq rfl) (hb hby at_214) (fun _ _ => ⟨rfl, e189, (Nat.le_of_ble_eq_true rfl), (Nat.le_of_ble_eq_true rfl)⟩)
        dsimp only [Pt.U, Pt.locs, Pt.cells, Pt.slots] at X197' hS197' hgr197 l197 y197 z197 st197 hQ197 A197
        subst l197 y197 z197
        obtain ⟨X197, hS197, hZ197, hown197⟩ := rebS hS0 (by rw [e189]; exact (Nat.le_trans hk0 (Nat.le_trans (Nat.le_trans (Nat.le_trans (Nat.le_trans (Nat.le_trans K110.1 K181.1) K183.1) K185.1) K187.1) K189.1))) X197' hS197' hgr197 hZ0 hown0
        obtain ⟨r_198, t_199, kb_200, rfl, Nq197, K197, P197_0, P197_1⟩ := hQ197
        have N197 := Fr.app N189 Nq197
        have R201 : CHr Z EL_1 s.vm h0 T197.vm T197.heap := R190.trans A197
        have hk197 : T197.heap.size ≤ T197.heap.size := Nat.le_refl _
        have F202 : Arv Z T197.heap b110 k110 .char (5 : Int32) [(.int ca), (.int cb), (.int cc), (.int cd), (.int ce)] (.int (0 : Int32)) := (J189.keep K197 nin0)
        have O203 : Old Z n0 T197.heap := (O196.keep K197 all0)
        obtain ⟨_, _, ⟨T204, L204, k204, n204⟩, -, X204, ⟨Lc204, hQ204, l204, y204, z204⟩, st204⟩ := Jvm.LawKit.callS X197 hx (y := yn21) hown197 (mvT hZ197 (w63 hw)) (mvT hZ197 (w64 hw)) (mvT hZ197 (w4 hw)) (mvT hZ197 (w65 hw)) (by decide) (backOf (W := 0) (rm_expect l Z a0 hw [] b110 nq k110 ca cb cc cd ce o0 o1 o2 o3 o4 T197.heap n0 (Nat.le_trans Z0 (Nat.le_trans (Nat.le_trans (Nat.le_trans (Nat.le_trans (Nat.le_trans (Nat.le_trans K110.1 K181.1) K183.1) K185.1) K187.1) K189.1) K197.1)) O203 S_0 S_1 S_2 S_3 S_4 F202) hZ197 (w65 hw) (w4 hw) (by decide) (by decide)) (g := (mkF m 223 #[.val (.int sel), .val (.int a), .val (.int bq), .val (.int c), .val (.int d), .val (.int e0_), .val (.int kq), .val (.ref b110), .val (.int nq), .val (.ref r_198), .unset, .unset] [(.int nq), (.ref b110)])) rfl (by rw [hml]; rfl) (argsL := [(.ref b110), (.int nq)]) (rest := []) (lenOf pd__28__5b_CI_29_Lcom_2f_example_2f_composition_2f_composition_2f_definition_2f_ObjectFormat_3b_ rfl) rfl (by show 2 * 0 + _ ≤ _; exact Nat.le_of_eq rfl) (hb hby at_223) (fun _ _ => ⟨rfl, rfl, (Nat.le_of_ble_eq_true rfl), (Nat.le_of_ble_eq_true rfl)⟩)
        dsimp only [Pt.U, Pt.locs, Pt.cells, Pt.slots] at X204 l204 y204 z204 st204 hQ204
        subst l204 y204 z204
        obtain ⟨rfl, Nq204, eq204⟩ := hQ204
        have N204 := Fr.app N197 Nq204
        obtain ⟨_, _, ⟨T205, L205, k205, n205⟩, -, X205, ⟨Lc205, hQ205, l205, y205, z205⟩, st205⟩ := Jvm.LawKit.callS X204 hx (y := yn18) hown197 (mvT hZ197 (w66 hw)) (mvT hZ197 (w67 hw)) (mvT hZ197 (w68 hw)) (mvT hZ197 (w69 hw)) (by decide) (backOf (W := 0) (rm_ofType l Z a0 hw [] r_198 t_199 kb_200 ([ca, cb, cc, cd, ce].take nq.toNatClampNeg) o0 o1 o2 o3 o4 oV kV j0 v0 kv0 j1 v1 kv1 j2 v2 kv2 j3 v3 kv3 j4 v4 kv4 oE cS T197.heap n0 (Nat.le_trans Z0 (Nat.le_trans (Nat.le_trans (Nat.le_trans (Nat.le_trans (Nat.le_trans (Nat.le_trans K110.1 K181.1) K183.1) K185.1) K187.1) K189.1) K197.1)) O203 S_V S_0 S_1 S_2 S_3 S_4 E_V V_V E_0 Fj_0 Ej_0 Fc_0 Fv_0 Vv_0 E_1 Fj_1 Ej_1 Fc_1 Fv_1 Vv_1 E_2 Fj_2 Ej_2 Fc_2 Fv_2 Vv_2 E_3 Fj_3 Ej_3 Fc_3 Fv_3 Vv_3 E_4 Fj_4 Ej_4 Fc_4 Fv_4 Vv_4 S_EMPTY E_EMPTY F_EMPTY S_cs hcS P197_1 (B85.tk hb8 _).2 (Nat.le_trans Z0 (Nat.le_trans (Nat.le_trans (Nat.le_trans (Nat.le_trans (Nat.le_trans (Nat.le_trans K110.1 K181.1) K183.1) K185.1) K187.1) K189.1) P197_0))) hZ197 (w69 hw) (w68 hw) (by decide) (by decide)) (g := (mkF m 230 #[.val (.int sel), .val (.int a), .val (.int bq), .val (.int c), .val (.int d), .val (.int e0_), .val (.int kq), .val (.ref b110), .val (.int nq), .val (.ref r_198), .val (exv o0 o1 o2 o3 o4 ca cb cc cd nq), .unset] [(.ref r_198)])) rfl (by rw [hml]; rfl) (argsL := [(.ref r_198)]) (rest := []) (lenOf pd__28_Ljava_2f_lang_2f_String_3b__29_Ljava_2f_util_2f_Optional_3b_ rfl) rfl (by show 2 * 0 + _ ≤ _; exact Nat.le_of_eq rfl) (hb hby at_230) (fun _ _ => ⟨rfl, eq204, (Nat.le_of_ble_eq_true rfl), (Nat.le_of_ble_eq_true rfl)⟩)
        dsimp only [Pt.U, Pt.locs, Pt.cells, Pt.slots] at X205 l205 y205 z205 st205 hQ205
        subst l205 y205 z205
        obtain ⟨r_206, rfl, Nq205, K205, P205_0, P205_1⟩ := hQ205
        have N205 := Fr.app N204 Nq205
        have R207 : CHr Z EL_1 s.vm h0 T197.vm T205.heap := R201.trans (CHr.keep K205 sf0 R201.1)
        obtain ⟨cq208, kq208, q208a, q208b, q208c⟩ := isOf hZ197 rfl P205_0
        obtain ⟨_, _, ⟨T208, L208, k208, n208⟩, -, X208, ⟨Lc208, hQ208, l208, y208, z208⟩, st208⟩ := X205.virtualBack hx (y := yn16) (z := yn16) hown197 (mvT hZ197 (w106 hw)) (mvT hZ197 (w107 hw)) (notFace_of_selects (args := #[]) (mvT hZ197 (w109 hw))) (mvT hZ197 (w109 hw)) (mvT hZ197 (w108 hw)) (by decide) (backOf (W := 0) (rm_orElse l Z a0 hw [] r_206 (ov o0 o1 o2 o3 o4 ([ca, cb, cc, cd, ce].take nq.toNatClampNeg)) T205.heap n0 (Nat.le_trans Z0 (Nat.le_trans (Nat.le_trans (Nat.le_trans (Nat.le_trans (Nat.le_trans (Nat.le_trans (Nat.le_trans K110.1 K181.1) K183.1) K185.1) K187.1) K189.1) K197.1) K205.1)) P205_1 (ov_ref ..)) hZ197 (w110 hw) (w103 hw) (by decide) (by decide)) q208a q208c (g := (mkF m 238 #[.val (.int sel), .val (.int a), .val (.int bq), .val (.int c), .val (.int d), .val (.int e0_), .val (.int kq), .val (.ref b110), .val (.int nq), .val (.ref r_198), .val (exv o0 o1 o2 o3 o4 ca cb cc cd nq), .val (.ref r_206)] [.null, (.ref r_206)])) rfl (by rw [hml]; rfl) (Steps.refl _) (argsL := [.null]) (rest := []) (lenOf pd__28_Ljava_2f_lang_2f_Object_3b__29_Ljava_2f_lang_2f_Object_3b_ rfl) rfl (by show 2 * 0 + _ ≤ _; exact Nat.le_of_eq rfl) (hb hby at_238) (fun _ _ => ⟨rfl, rfl, (Nat.le_of_ble_eq_true rfl), (Nat.le_of_ble_eq_true rfl)⟩)
        dsimp only [Pt.U, Pt.locs, Pt.cells, Pt.slots] at X208 l208 y208 z208 st208 hQ208
        subst l208 y208 z208
        obtain ⟨rfl, Nq208, eq208⟩ := hQ208
        have N208 := Fr.app N205 Nq208
        have W209 : ∀ zQ, SS p e below T208 m 251 #[.val (.int sel), .val (.int a), .val (.int bq), .val (.int c), .val (.int d), .val (.int e0_), .val (.int kq), .val (.ref b110), .val (.int nq), .val (.ref r_198), .val (exv o0 o1 o2 o3 o4 ca cb cc cd nq), .val (.ref r_206)] [(.int (1 : Int32))] zQ → Steps p.tables e below (s₁.setTop (entryFrame m #[(.int sel), (.int a), (.int bq), (.int c), (.int d), (.int e0_)] maxLocals)) zQ := by
          intro tt kt
          refine W195 tt ?_
          rw [← h_nq]
          refine XS.aload X189.here hx rfl (hb hby at_210) rfl rfl ?_
          refine XS.iload X189.here hx rfl (hb hby at_212) rfl ?_
          show SS p e below T189 m 214 #[.val (.int sel), .val (.int a), .val (.int bq), .val (.int c), .val (.int d), .val (.int e0_), .val (.int kq), .val (.ref b110), .val (.int nq), .unset, .unset, .unset] [(.int nq), (.ref b110)] _
          refine st197.trans ?_
          refine XS.astore X197.here hx rfl (hb hby at_217) rfl rfl (l' := #[.val (.int sel), .val (.int a), .val (.int bq), .val (.int c), .val (.int d), .val (.int e0_), .val (.int kq), .val (.ref b110), .val (.int nq), .val (.ref r_198), .unset, .unset]) rfl ?_
          refine XS.aload X197.here hx rfl (hb hby at_219) rfl rfl ?_
          refine XS.iload X197.here hx rfl (hb hby at_221) rfl ?_
          show SS p e below T197 m 223 #[.val (.int sel), .val (.int a), .val (.int bq), .val (.int c), .val (.int d), .val (.int e0_), .val (.int kq), .val (.ref b110), .val (.int nq), .val (.ref r_198), .unset, .unset] [(.int nq), (.ref b110)] _
          refine st204 _ ?_
          refine XS.astore X204.here hx rfl (hb hby at_226) rfl (exv_ref ..) (l' := #[.val (.int sel), .val (.int a), .val (.int bq), .val (.int c), .val (.int d), .val (.int e0_), .val (.int kq), .val (.ref b110), .val (.int nq), .val (.ref r_198), .val (exv o0 o1 o2 o3 o4 ca cb cc cd nq), .unset]) (XS.store1 rfl (Or.inl rfl) (XT.cat1 (exv_ref ..))) ?_
          refine XS.aload X204.here hx rfl (hb hby at_228) rfl rfl ?_
          show SS p e below T204 m 230 #[.val (.int sel), .val (.int a), .val (.int bq), .val (.int c), .val (.int d), .val (.int e0_), .val (.int kq), .val (.ref b110), .val (.int nq), .val (.ref r_198), .val (exv o0 o1 o2 o3 o4 ca cb cc cd nq), .unset] [(.ref r_198)] _
          refine st205 _ ?_
          refine XS.astore X205.here hx rfl (hb hby at_233) rfl rfl (l' := #[.val (.int sel), .val (.int a), .val (.int bq), .val (.int c), .val (.int d), .val (.int e0_), .val (.int kq), .val (.ref b110), .val (.int nq), .val (.ref r_198), .val (exv o0 o1 o2 o3 o4 ca cb cc cd nq), .val (.ref r_206)]) rfl ?_
          refine XS.aload X205.here hx rfl (hb hby at_235) rfl rfl ?_
          refine XS.aconstNull X205.here hx rfl (hb hby at_237) ?_
          show SS p e below T205 m 238 #[.val (.int sel), .val (.int a), .val (.int bq), .val (.int c), .val (.int d), .val (.int e0_), .val (.int kq), .val (.ref b110), .val (.int nq), .val (.ref r_198), .val (exv o0 o1 o2 o3 o4 ca cb cc cd nq), .val (.ref r_206)] [.null, (.ref r_206)] _
          refine st208.trans ?_
          refine XS.aload X208.here hx rfl (hb hby at_241) rfl (exv_ref ..) ?_
          show SS p e below T208 m 243 #[.val (.int sel), .val (.int a), .val (.int bq), .val (.int c), .val (.int d), .val (.int e0_), .val (.int kq), .val (.ref b110), .val (.int nq), .val (.ref r_198), .val (exv o0 o1 o2 o3 o4 ca cb cc cd nq), .val (.ref r_206)] [(exv o0 o1 o2 o3 o4 ca cb cc cd nq), (ov o0 o1 o2 o3 o4 ([ca, cb, cc, cd, ce].take nq.toNatClampNeg))] _
          refine Jvm.RoadKit.acmp (g := (mkF m 243 #[.val (.int sel), .val (.int a), .val (.int bq), .val (.int c), .val (.int d), .val (.int e0_), .val (.int kq), .val (.ref b110), .val (.int nq), .val (.ref r_198), .val (exv o0 o1 o2 o3 o4 ca cb cc cd nq), .val (.ref r_206)] [(exv o0 o1 o2 o3 o4 ca cb cc cd nq), (ov o0 o1 o2 o3 o4 ([ca, cb, cc, cd, ce].take nq.toNatClampNeg))])) X208 hx rfl (ov_ref ..) (exv_ref ..) (pc0 := 243) (pc' := 246) (same := true) rfl (hb hby at_243) rfl (decide_eq_true (own_oe _ _ _ _ _ _ _ _ _ _ _ (by rw [h_nq]; exact own_n6' _ _))) (by decide) (by decide) ?_
          refine XS.iconst X208.here hx rfl (hb hby at_246) ?_
          refine XS.goto X208.here hx rfl (pc0 := 247) (pc' := 251) rfl (hb hby at_247) (by decide) (by decide) ?_
          exact kt
        obtain ⟨fs, hr, hrun, hended, hRW⟩ := Jvm.Stand.leaveW X208 hS197 (by rw [eq208]; exact (Nat.le_trans hk197 K205.1)) (v := some (.int (nar .boolean (1 : Int32)))) (fun h => by rw [Bd.returns] at h; cases h) (BodyLoose.notSynchronized Bd)
        refine ⟨_, _, W209 _ (retN X208 hx (t := .boolean) Bd.returns (by simp) (hb hby at_251) hr), hrun, hended, _, _, rfl, ?_, own_chr (T := T208) R207 (CHv.at X208 hZ197 hEL R207.1) hh.symm eq208, own_rw hRW (by decide) (by decide)⟩
        show Q_law Z sel a bq c d e0_ o0 o1 o2 o3 o4 oV kV j0 v0 kv0 j1 v1 kv1 j2 v2 kv2 j3 v3 kv3 j4 v4 kv4 oE cS fm h0 n0 _ T208.heap _
        rw [eq208]
        exact ⟨rfl, N208, (Keep.trans (Keep.trans (Keep.trans (Keep.trans (Keep.trans (Keep.trans (Keep.trans (Keep.trans (Keep.refl h0 []) K110 all0) K181 (allS (Or.inr (Nat.le_of_eq g110.symm)) all0)) K183 (allS (Or.inr (Nat.le_of_eq g110.symm)) all0)) K185 (allS (Or.inr (Nat.le_of_eq g110.symm)) all0)) K187 (allS (Or.inr (Nat.le_of_eq g110.symm)) all0)) K189 (allS (Or.inr (Nat.le_of_eq g110.symm)) all0)) K197 all0) K205 all0)⟩
      ·
        obtain ⟨pq, h_pq⟩ : ∃ z : Int32, z = ((((c.toUInt32 >>> ((1 : Int32) &&& 31).toUInt32).toInt32) &&& (7 : Int32)) % (5 : Int32)) := ⟨_, rfl⟩
        obtain ⟨cp, h_cp⟩ : ∃ z : Int32, z = ((d &&& (255 : Int32)).toUInt32.toUInt16.toUInt32.toInt32) := ⟨_, rfl⟩
        have hb_cp : B8 cp := by rw [h_cp]; exact own_c8 _
        obtain ⟨cl210, Ar210, q210, S210, M210, H210, F210g⟩ := id J189
        have hin210 : ¬ (pq < 0 ∨ cl210.slots.size ≤ (pq).toNatClampNeg) := inb_of S210 (by rw [h_pq]; exact (own_p5 _).1)
        obtain ⟨T210, h210, X210, e210, Wr210, st210⟩ := stC X189 hx hZ0 e189 Ar210 (j := pq) hin210 (g := (mkF m 184 #[.val (.int sel), .val (.int a), .val (.int bq), .val (.int c), .val (.int d), .val (.int e0_), .val (.int kq), .val (.ref b110), .val (.int pq), .unset, .unset, .unset] [(.int cp), (.int pq), (.ref b110)])) rfl rfl (hb hby at_184)
        have G210 : Arv Z h210 b110 k110 .char (5 : Int32) ([(.int ca), (.int cb), (.int cc), (.int cd), (.int ce)].set pq.toNatClampNeg (.int (nar .char cp))) (.int (0 : Int32)) := Arv.set Ar210 q210 S210 M210 H210 F210g (fits_nar_char _) Wr210 pq.toNatClampNeg rfl (by rw [h_pq]; exact (own_p5 _).2)
        have K210 := Keep.of_wr Wr210
        have N210 := Fr.snoc X210 N189 (Nat.le_trans Z0 (Nat.le_of_eq g110.symm))
        have R211 : CHr Z EL_1 s.vm h0 s.vm h210 := R190.trans (CHr.keep K210 (sfS (Safe.arv hZ0.alike J189 (by intro q; cases q)) sf0) R190.1)
        obtain ⟨y0_212, y1_212, y2_212, y3_212, y4_212, hy212, hz212⟩ := own_set5 hb8 hb_cp pq.toNatClampNeg
        have J212 : Arv Z h210 b110 k110 .char (5 : Int32) [(.int y0_212), (.int y1_212), (.int y2_212), (.int y3_212), (.int y4_212)] (.int (0 : Int32)) := by have q := G210; rw [own_nar8 hb_cp, hy212] at q; exact q
        have W213 : ∀ zQ, SS p e below T210 m 189 #[.val (.int sel), .val (.int a), .val (.int bq), .val (.int c), .val (.int d), .val (.int e0_), .val (.int kq), .val (.ref b110), .val (.int pq), .unset, .unset, .unset] [(.int (e0_ &&& (1 : Int32)))] zQ → Steps p.tables e below (s₁.setTop (entryFrame m #[(.int sel), (.int a), (.int bq), (.int c), (.int d), (.int e0_)] maxLocals)) zQ := by
          intro tt kt
          refine W191 tt ?_
          refine XS.ifNo X189.here hx rfl (hb hby at_160) rfl ((if0 _ _).trans (feq hc192).1) ?_
          refine XS.iloadN X189.here hx rfl (hb hby at_163) rfl ?_
          refine XS.iconst X189.here hx rfl (hb hby at_164) ?_
          refine XS.iushr X189.here hx rfl (hb hby at_165) rfl ?_
          refine XS.bipush X189.here hx rfl (hb hby at_166) ?_
          refine XS.iand X189.here hx rfl (hb hby at_168) rfl ?_
          show SS p e below T189 m 169 #[.val (.int sel), .val (.int a), .val (.int bq), .val (.int c), .val (.int d), .val (.int e0_), .val (.int kq), .val (.ref b110), .unset, .unset, .unset, .unset] [(.int (((c.toUInt32 >>> ((1 : Int32) &&& 31).toUInt32).toInt32) &&& (7 : Int32)))] _
          refine XS.iconst X189.here hx rfl (hb hby at_169) ?_
          show SS p e below T189 m 170 #[.val (.int sel), .val (.int a), .val (.int bq), .val (.int c), .val (.int d), .val (.int e0_), .val (.int kq), .val (.ref b110), .unset, .unset, .unset, .unset] [(.int (5 : Int32)), (.int (((c.toUInt32 >>> ((1 : Int32) &&& 31).toUInt32).toInt32) &&& (7 : Int32)))] _
          refine Jvm.RoadKit.iremM X189 hx rfl (hb hby at_170) rfl (by decide) ?_
          show SS p e below T189 m 171 #[.val (.int sel), .val (.int a), .val (.int bq), .val (.int c), .val (.int d), .val (.int e0_), .val (.int kq), .val (.ref b110), .unset, .unset, .unset, .unset] [(.int ((((c.toUInt32 >>> ((1 : Int32) &&& 31).toUInt32).toInt32) &&& (7 : Int32)) % (5 : Int32)))] _
          rw [← h_pq]
          refine XS.istore X189.here hx rfl (hb hby at_171) rfl (l' := #[.val (.int sel), .val (.int a), .val (.int bq), .val (.int c), .val (.int d), .val (.int e0_), .val (.int kq), .val (.ref b110), .val (.int pq), .unset, .unset, .unset]) rfl ?_
          refine XS.aload X189.here hx rfl (hb hby at_173) rfl rfl ?_
          refine XS.iload X189.here hx rfl (hb hby at_175) rfl ?_
          refine XS.iload X189.here hx rfl (hb hby at_177) rfl ?_
          refine XS.sipush X189.here hx rfl (hb hby at_179) ?_
          show SS p e below T189 m 182 #[.val (.int sel), .val (.int a), .val (.int bq), .val (.int c), .val (.int d), .val (.int e0_), .val (.int kq), .val (.ref b110), .val (.int pq), .unset, .unset, .unset] [(.int (255 : Int32)), (.int d), (.int pq), (.ref b110)] _
          refine XS.iand X189.here hx rfl (hb hby at_182) rfl ?_
          refine XS.i2c X189.here hx rfl (hb hby at_183) rfl ?_
          show SS p e below T189 m 184 #[.val (.int sel), .val (.int a), .val (.int bq), .val (.int c), .val (.int d), .val (.int e0_), .val (.int kq), .val (.ref b110), .val (.int pq), .unset, .unset, .unset] [(.int ((d &&& (255 : Int32)).toUInt32.toUInt16.toUInt32.toInt32)), (.int pq), (.ref b110)] _
          rw [← h_cp]
          show SS p e below T189 m 184 #[.val (.int sel), .val (.int a), .val (.int bq), .val (.int c), .val (.int d), .val (.int e0_), .val (.int kq), .val (.ref b110), .val (.int pq), .unset, .unset, .unset] [(.int cp), (.int pq), (.ref b110)] _
          refine st210 _ ?_
          refine XS.iload X210.here hx rfl (hb hby at_185) rfl ?_
          refine XS.iconst X210.here hx rfl (hb hby at_187) ?_
          refine XS.iand X210.here hx rfl (hb hby at_188) rfl ?_
          exact kt
        have W215 : ∀ zQ, SS p e below T210 m 210 #[.val (.int sel), .val (.int a), .val (.int bq), .val (.int c), .val (.int d), .val (.int e0_), .val (.int kq), .val (.ref b110), .val (.int (if (e0_ &&& (1 : Int32)) = (0 : Int32) then (4 : Int32) else ((((e0_.toUInt32 >>> ((1 : Int32) &&& 31).toUInt32).toInt32) &&& (7 : Int32)) % (6 : Int32)))), .unset, .unset, .unset] [] zQ → Steps p.tables e below (s₁.setTop (entryFrame m #[(.int sel), (.int a), (.int bq), (.int c), (.int d), (.int e0_)] maxLocals)) zQ := by
          intro tt kt
          refine W213 tt ?_
          by_cases hj214 : (e0_ &&& (1 : Int32)) = (0 : Int32)
          ·
            refine XS.ifNo X210.here hx rfl (hb hby at_189) rfl ((if0 _ _).trans (teq hj214).2) ?_
            refine XS.iconst X210.here hx rfl (hb hby at_192) ?_
            refine XS.istore X210.here hx rfl (hb hby at_193) rfl (l' := #[.val (.int sel), .val (.int a), .val (.int bq), .val (.int c), .val (.int d), .val (.int e0_), .val (.int kq), .val (.ref b110), .val (.int (4 : Int32)), .unset, .unset, .unset]) rfl ?_
            refine XS.goto X210.here hx rfl (pc0 := 195) (pc' := 210) rfl (hb hby at_195) (by decide) (by decide) ?_
            exact castTop (by first | rfl | (simp only [if_pos hj214]; first | done | rfl)) kt
          ·
            refine XS.ifYes X210.here hx rfl (pc0 := 189) (pc' := 198) rfl (hb hby at_189) rfl ((if0 _ _).trans (feq hj214).2) (by decide) (by decide) ?_
            refine XS.iload X210.here hx rfl (hb hby at_198) rfl ?_
            refine XS.iconst X210.here hx rfl (hb hby at_200) ?_
            refine XS.iushr X210.here hx rfl (hb hby at_201) rfl ?_
            refine XS.bipush X210.here hx rfl (hb hby at_202) ?_
            refine XS.iand X210.here hx rfl (hb hby at_204) rfl ?_
            show SS p e below T210 m 205 #[.val (.int sel), .val (.int a), .val (.int bq), .val (.int c), .val (.int d), .val (.int e0_), .val (.int kq), .val (.ref b110), .val (.int pq), .unset, .unset, .unset] [(.int (((e0_.toUInt32 >>> ((1 : Int32) &&& 31).toUInt32).toInt32) &&& (7 : Int32)))] _
            refine XS.bipush X210.here hx rfl (hb hby at_205) ?_
            show SS p e below T210 m 207 #[.val (.int sel), .val (.int a), .val (.int bq), .val (.int c), .val (.int d), .val (.int e0_), .val (.int kq), .val (.ref b110), .val (.int pq), .unset, .unset, .unset] [(.int (6 : Int32)), (.int (((e0_.toUInt32 >>> ((1 : Int32) &&& 31).toUInt32).toInt32) &&& (7 : Int32)))] _
            refine Jvm.RoadKit.iremM X210 hx rfl (hb hby at_207) rfl (by decide) ?_
            refine XS.istore X210.here hx rfl (hb hby at_208) rfl (l' := #[.val (.int sel), .val (.int a), .val (.int bq), .val (.int c), .val (.int d), .val (.int e0_), .val (.int kq), .val (.ref b110), .val (.int ((((e0_.toUInt32 >>> ((1 : Int32) &&& 31).toUInt32).toInt32) &&& (7 : Int32)) % (6 : Int32))), .unset, .unset, .unset]) rfl ?_
            exact castTop (by first | rfl | (simp only [if_neg hj214]; first | done | rfl)) kt
        obtain ⟨nq, h_nq⟩ : ∃ z : Int32, z = (if (e0_ &&& (1 : Int32)) = (0 : Int32) then (4 : Int32) else ((((e0_.toUInt32 >>> ((1 : Int32) &&& 31).toUInt32).toInt32) &&& (7 : Int32)) % (6 : Int32))) := ⟨_, rfl⟩
        have O216 : Old Z n0 h210 := (((((((O0.keep K110 all0).keep K181 (allS (Nat.le_trans Z0 (Nat.le_of_eq g110.symm)) all0)).keep K183 (allS (Nat.le_trans Z0 (Nat.le_of_eq g110.symm)) all0)).keep K185 (allS (Nat.le_trans Z0 (Nat.le_of_eq g110.symm)) all0)).keep K187 (allS (Nat.le_trans Z0 (Nat.le_of_eq g110.symm)) all0)).keep K189 (allS (Nat.le_trans Z0 (Nat.le_of_eq g110.symm)) all0)).keep K210 (allS (Nat.le_trans Z0 (Nat.le_of_eq g110.symm)) all0))
        obtain ⟨_, _, ⟨T217, L217, k217, n217⟩, -, X217', hS217', hgr217, ⟨Lc217, hQ217, l217, y217, z217, A217⟩, st217⟩ := callSS X210 hx (y := yn20) hown0 (mvT hZ0 (w39 hw)) (mvT hZ0 (w40 hw)) (mvT hZ0 (w4 hw)) (mvT hZ0 (w41 hw)) (by decide) (backOfSH (W := 0) (rm_make l Z a0 hw [] b110 nq k110 y0_212 y1_212 y2_212 y3_212 y4_212 cS h210 n0 (Nat.le_trans Z0 (Nat.le_trans (Nat.le_trans (Nat.le_trans (Nat.le_trans (Nat.le_trans (Nat.le_trans K110.1 K181.1) K183.1) K185.1) K187.1) K189.1) K210.1)) O216 S_cs hcS J212 hz212 (by rw [h_nq]; exact own_n6' _ _)) hZ0 (w41 hw) (w4 hw) (by decide) (by decide) hEL R211.1) (g := (mkF m 214 #[.val (.int sel), .val (.int a), .val (.int bq), .val (.int c), .val (.int d), .val (.int e0_), .val (.int kq), .val (.ref b110), .val (.int nq), .unset, .unset, .unset] [(.int nq), (.ref b110)])) rfl (by rw [hml]; rfl) (argsL := [(.ref b110), (.int nq)]) (rest := []) (lenOf pd__28__5b_CI_29_Ljava_2f_lang_2f_String_3b_ rfl) rfl (by show 2 * 0 + _ ≤ _; exact Nat.le_of_eq rfl) (hb hby at_214) (fun _ _ => ⟨rfl, e210, (Nat.le_of_ble_eq_true rfl), (Nat.le_of_ble_eq_true rfl)⟩)
        dsimp only [Pt.U, Pt.locs, Pt.cells, Pt.slots] at X217' hS217' hgr217 l217 y217 z217 st217 hQ217 A217
        subst l217 y217 z217
        obtain ⟨X217, hS217, hZ217, hown217⟩ := rebS hS0 (by rw [e210]; exact (Nat.le_trans hk0 (Nat.le_trans (Nat.le_trans (Nat.le_trans (Nat.le_trans (Nat.le_trans (Nat.le_trans K110.1 K181.1) K183.1) K185.1) K187.1) K189.1) K210.1))) X217' hS217' hgr217 hZ0 hown0
        obtain ⟨r_218, t_219, kb_220, rfl, Nq217, K217, P217_0, P217_1⟩ := hQ217
        have N217 := Fr.app N210 Nq217
        have R221 : CHr Z EL_1 s.vm h0 T217.vm T217.heap := R211.trans A217
        have hk217 : T217.heap.size ≤ T217.heap.size := Nat.le_refl _
        have F222 : Arv Z T217.heap b110 k110 .char (5 : Int32) [(.int y0_212), (.int y1_212), (.int y2_212), (.int y3_212), (.int y4_212)] (.int (0 : Int32)) := (J212.keep K217 nin0)
        have O223 : Old Z n0 T217.heap := (O216.keep K217 all0)
        obtain ⟨_, _, ⟨T224, L224, k224, n224⟩, -, X224, ⟨Lc224, hQ224, l224, y224, z224⟩, st224⟩ := Jvm.LawKit.callS X217 hx (y := yn21) hown217 (mvT hZ217 (w63 hw)) (mvT hZ217 (w64 hw)) (mvT hZ217 (w4 hw)) (mvT hZ217 (w65 hw)) (by decide) (backOf (W := 0) (rm_expect l Z a0 hw [] b110 nq k110 y0_212 y1_212 y2_212 y3_212 y4_212 o0 o1 o2 o3 o4 T217.heap n0 (Nat.le_trans Z0 (Nat.le_trans (Nat.le_trans (Nat.le_trans (Nat.le_trans (Nat.le_trans (Nat.le_trans (Nat.le_trans K110.1 K181.1) K183.1) K185.1) K187.1) K189.1) K210.1) K217.1)) O223 S_0 S_1 S_2 S_3 S_4 F222) hZ217 (w65 hw) (w4 hw) (by decide) (by decide)) (g := (mkF m 223 #[.val (.int sel), .val (.int a), .val (.int bq), .val (.int c), .val (.int d), .val (.int e0_), .val (.int kq), .val (.ref b110), .val (.int nq), .val (.ref r_218), .unset, .unset] [(.int nq), (.ref b110)])) rfl (by rw [hml]; rfl) (argsL := [(.ref b110), (.int nq)]) (rest := []) (lenOf pd__28__5b_CI_29_Lcom_2f_example_2f_composition_2f_composition_2f_definition_2f_ObjectFormat_3b_ rfl) rfl (by show 2 * 0 + _ ≤ _; exact Nat.le_of_eq rfl) (hb hby at_223) (fun _ _ => ⟨rfl, rfl, (Nat.le_of_ble_eq_true rfl), (Nat.le_of_ble_eq_true rfl)⟩)
        dsimp only [Pt.U, Pt.locs, Pt.cells, Pt.slots] at X224 l224 y224 z224 st224 hQ224
        subst l224 y224 z224
        obtain ⟨rfl, Nq224, eq224⟩ := hQ224
        have N224 := Fr.app N217 Nq224
        obtain ⟨_, _, ⟨T225, L225, k225, n225⟩, -, X225, ⟨Lc225, hQ225, l225, y225, z225⟩, st225⟩ := Jvm.LawKit.callS X224 hx (y := yn18) hown217 (mvT hZ217 (w66 hw)) (mvT hZ217 (w67 hw)) (mvT hZ217 (w68 hw)) (mvT hZ217 (w69 hw)) (by decide) (backOf (W := 0) (rm_ofType l Z a0 hw [] r_218 t_219 kb_220 ([y0_212, y1_212, y2_212, y3_212, y4_212].take nq.toNatClampNeg) o0 o1 o2 o3 o4 oV kV j0 v0 kv0 j1 v1 kv1 j2 v2 kv2 j3 v3 kv3 j4 v4 kv4 oE cS T217.heap n0 (Nat.le_trans Z0 (Nat.le_trans (Nat.le_trans (Nat.le_trans (Nat.le_trans (Nat.le_trans (Nat.le_trans (Nat.le_trans K110.1 K181.1) K183.1) K185.1) K187.1) K189.1) K210.1) K217.1)) O223 S_V S_0 S_1 S_2 S_3 S_4 E_V V_V E_0 Fj_0 Ej_0 Fc_0 Fv_0 Vv_0 E_1 Fj_1 Ej_1 Fc_1 Fv_1 Vv_1 E_2 Fj_2 Ej_2 Fc_2 Fv_2 Vv_2 E_3 Fj_3 Ej_3 Fc_3 Fv_3 Vv_3 E_4 Fj_4 Ej_4 Fc_4 Fv_4 Vv_4 S_EMPTY E_EMPTY F_EMPTY S_cs hcS P217_1 (B85.tk hz212 _).2 (Nat.le_trans Z0 (Nat.le_trans (Nat.le_trans (Nat.le_trans (Nat.le_trans (Nat.le_trans (Nat.le_trans (Nat.le_trans K110.1 K181.1) K183.1) K185.1) K187.1) K189.1) K210.1) P217_0))) hZ217 (w69 hw) (w68 hw) (by decide) (by decide)) (g := (mkF m 230 #[.val (.int sel), .val (.int a), .val (.int bq), .val (.int c), .val (.int d), .val (.int e0_), .val (.int kq), .val (.ref b110), .val (.int nq), .val (.ref r_218), .val (exv o0 o1 o2 o3 o4 y0_212 y1_212 y2_212 y3_212 nq), .unset] [(.ref r_218)])) rfl (by rw [hml]; rfl) (argsL := [(.ref r_218)]) (rest := []) (lenOf pd__28_Ljava_2f_lang_2f_String_3b__29_Ljava_2f_util_2f_Optional_3b_ rfl) rfl (by show 2 * 0 + _ ≤ _; exact Nat.le_of_eq rfl) (hb hby at_230) (fun _ _ => ⟨rfl, eq224, (Nat.le_of_ble_eq_true rfl), (Nat.le_of_ble_eq_true rfl)⟩)
        dsimp only [Pt.U, Pt.locs, Pt.cells, Pt.slots] at X225 l225 y225 z225 st225 hQ225
        subst l225 y225 z225
        obtain ⟨r_226, rfl, Nq225, K225, P225_0, P225_1⟩ := hQ225
        have N225 := Fr.app N224 Nq225
        have R227 : CHr Z EL_1 s.vm h0 T217.vm T225.heap := R221.trans (CHr.keep K225 sf0 R221.1)
        obtain ⟨cq228, kq228, q228a, q228b, q228c⟩ := isOf hZ217 rfl P225_0
        obtain ⟨_, _, ⟨T228, L228, k228, n228⟩, -, X228, ⟨Lc228, hQ228, l228, y228, z228⟩, st228⟩ := X225.virtualBack hx (y := yn16) (z := yn16) hown217 (mvT hZ217 (w106 hw)) (mvT hZ217 (w107 hw)) (notFace_of_selects (args := #[]) (mvT hZ217 (w109 hw))) (mvT hZ217 (w109 hw)) (mvT hZ217 (w108 hw)) (by decide) (backOf (W := 0) (rm_orElse l Z a0 hw [] r_226 (ov o0 o1 o2 o3 o4 ([y0_212, y1_212, y2_212, y3_212, y4_212].take nq.toNatClampNeg)) T225.heap n0 (Nat.le_trans Z0 (Nat.le_trans (Nat.le_trans (Nat.le_trans (Nat.le_trans (Nat.le_trans (Nat.le_trans (Nat.le_trans (Nat.le_trans K110.1 K181.1) K183.1) K185.1) K187.1) K189.1) K210.1) K217.1) K225.1)) P225_1 (ov_ref ..)) hZ217 (w110 hw) (w103 hw) (by decide) (by decide)) q228a q228c (g := (mkF m 238 #[.val (.int sel), .val (.int a), .val (.int bq), .val (.int c), .val (.int d), .val (.int e0_), .val (.int kq), .val (.ref b110), .val (.int nq), .val (.ref r_218), .val (exv o0 o1 o2 o3 o4 y0_212 y1_212 y2_212 y3_212 nq), .val (.ref r_226)] [.null, (.ref r_226)])) rfl (by rw [hml]; rfl) (Steps.refl _) (argsL := [.null]) (rest := []) (lenOf pd__28_Ljava_2f_lang_2f_Object_3b__29_Ljava_2f_lang_2f_Object_3b_ rfl) rfl (by show 2 * 0 + _ ≤ _; exact Nat.le_of_eq rfl) (hb hby at_238) (fun _ _ => ⟨rfl, rfl, (Nat.le_of_ble_eq_true rfl), (Nat.le_of_ble_eq_true rfl)⟩)
        dsimp only [Pt.U, Pt.locs, Pt.cells, Pt.slots] at X228 l228 y228 z228 st228 hQ228
        subst l228 y228 z228
        obtain ⟨rfl, Nq228, eq228⟩ := hQ228
        have N228 := Fr.app N225 Nq228
        have W229 : ∀ zQ, SS p e below T228 m 251 #[.val (.int sel), .val (.int a), .val (.int bq), .val (.int c), .val (.int d), .val (.int e0_), .val (.int kq), .val (.ref b110), .val (.int nq), .val (.ref r_218), .val (exv o0 o1 o2 o3 o4 y0_212 y1_212 y2_212 y3_212 nq), .val (.ref r_226)] [(.int (1 : Int32))] zQ → Steps p.tables e below (s₁.setTop (entryFrame m #[(.int sel), (.int a), (.int bq), (.int c), (.int d), (.int e0_)] maxLocals)) zQ := by
          intro tt kt
          refine W215 tt ?_
          rw [← h_nq]
          refine XS.aload X210.here hx rfl (hb hby at_210) rfl rfl ?_
          refine XS.iload X210.here hx rfl (hb hby at_212) rfl ?_
          show SS p e below T210 m 214 #[.val (.int sel), .val (.int a), .val (.int bq), .val (.int c), .val (.int d), .val (.int e0_), .val (.int kq), .val (.ref b110), .val (.int nq), .unset, .unset, .unset] [(.int nq), (.ref b110)] _
          refine st217.trans ?_
          refine XS.astore X217.here hx rfl (hb hby at_217) rfl rfl (l' := #[.val (.int sel), .val (.int a), .val (.int bq), .val (.int c), .val (.int d), .val (.int e0_), .val (.int kq), .val (.ref b110), .val (.int nq), .val (.ref r_218), .unset, .unset]) rfl ?_
          refine XS.aload X217.here hx rfl (hb hby at_219) rfl rfl ?_
          refine XS.iload X217.here hx rfl (hb hby at_221) rfl ?_
          show SS p e below T217 m 223 #[.val (.int sel), .val (.int a), .val (.int bq), .val (.int c), .val (.int d), .val (.int e0_), .val (.int kq), .val (.ref b110), .val (.int nq), .val (.ref r_218), .unset, .unset] [(.int nq), (.ref b110)] _
          refine st224 _ ?_
          refine XS.astore X224.here hx rfl (hb hby at_226) rfl (exv_ref ..) (l' := #[.val (.int sel), .val (.int a), .val (.int bq), .val (.int c), .val (.int d), .val (.int e0_), .val (.int kq), .val (.ref b110), .val (.int nq), .val (.ref r_218), .val (exv o0 o1 o2 o3 o4 y0_212 y1_212 y2_212 y3_212 nq), .unset]) (XS.store1 rfl (Or.inl rfl) (XT.cat1 (exv_ref ..))) ?_
          refine XS.aload X224.here hx rfl (hb hby at_228) rfl rfl ?_
          show SS p e below T224 m 230 #[.val (.int sel), .val (.int a), .val (.int bq), .val (.int c), .val (.int d), .val (.int e0_), .val (.int kq), .val (.ref b110), .val (.int nq), .val (.ref r_218), .val (exv o0 o1 o2 o3 o4 y0_212 y1_212 y2_212 y3_212 nq), .unset] [(.ref r_218)] _
          refine st225 _ ?_
          refine XS.astore X225.here hx rfl (hb hby at_233) rfl rfl (l' := #[.val (.int sel), .val (.int a), .val (.int bq), .val (.int c), .val (.int d), .val (.int e0_), .val (.int kq), .val (.ref b110), .val (.int nq), .val (.ref r_218), .val (exv o0 o1 o2 o3 o4 y0_212 y1_212 y2_212 y3_212 nq), .val (.ref r_226)]) rfl ?_
          refine XS.aload X225.here hx rfl (hb hby at_235) rfl rfl ?_
          refine XS.aconstNull X225.here hx rfl (hb hby at_237) ?_
          show SS p e below T225 m 238 #[.val (.int sel), .val (.int a), .val (.int bq), .val (.int c), .val (.int d), .val (.int e0_), .val (.int kq), .val (.ref b110), .val (.int nq), .val (.ref r_218), .val (exv o0 o1 o2 o3 o4 y0_212 y1_212 y2_212 y3_212 nq), .val (.ref r_226)] [.null, (.ref r_226)] _
          refine st228.trans ?_
          refine XS.aload X228.here hx rfl (hb hby at_241) rfl (exv_ref ..) ?_
          show SS p e below T228 m 243 #[.val (.int sel), .val (.int a), .val (.int bq), .val (.int c), .val (.int d), .val (.int e0_), .val (.int kq), .val (.ref b110), .val (.int nq), .val (.ref r_218), .val (exv o0 o1 o2 o3 o4 y0_212 y1_212 y2_212 y3_212 nq), .val (.ref r_226)] [(exv o0 o1 o2 o3 o4 y0_212 y1_212 y2_212 y3_212 nq), (ov o0 o1 o2 o3 o4 ([y0_212, y1_212, y2_212, y3_212, y4_212].take nq.toNatClampNeg))] _
          refine Jvm.RoadKit.acmp (g := (mkF m 243 #[.val (.int sel), .val (.int a), .val (.int bq), .val (.int c), .val (.int d), .val (.int e0_), .val (.int kq), .val (.ref b110), .val (.int nq), .val (.ref r_218), .val (exv o0 o1 o2 o3 o4 y0_212 y1_212 y2_212 y3_212 nq), .val (.ref r_226)] [(exv o0 o1 o2 o3 o4 y0_212 y1_212 y2_212 y3_212 nq), (ov o0 o1 o2 o3 o4 ([y0_212, y1_212, y2_212, y3_212, y4_212].take nq.toNatClampNeg))])) X228 hx rfl (ov_ref ..) (exv_ref ..) (pc0 := 243) (pc' := 246) (same := true) rfl (hb hby at_243) rfl (decide_eq_true (own_oe _ _ _ _ _ _ _ _ _ _ _ (by rw [h_nq]; exact own_n6' _ _))) (by decide) (by decide) ?_
          refine XS.iconst X228.here hx rfl (hb hby at_246) ?_
          refine XS.goto X228.here hx rfl (pc0 := 247) (pc' := 251) rfl (hb hby at_247) (by decide) (by decide) ?_
          exact kt
        obtain ⟨fs, hr, hrun, hended, hRW⟩ := Jvm.Stand.leaveW X228 hS217 (by rw [eq228]; exact (Nat.le_trans hk217 K225.1)) (v := some (.int (nar .boolean (1 : Int32)))) (fun h => by rw [Bd.returns] at h; cases h) (BodyLoose.notSynchronized Bd)
        refine ⟨_, _, W229 _ (retN X228 hx (t := .boolean) Bd.returns (by simp) (hb hby at_251) hr), hrun, hended, _, _, rfl, ?_, own_chr (T := T228) R227 (CHv.at X228 hZ217 hEL R227.1) hh.symm eq228, own_rw hRW (by decide) (by decide)⟩
        show Q_law Z sel a bq c d e0_ o0 o1 o2 o3 o4 oV kV j0 v0 kv0 j1 v1 kv1 j2 v2 kv2 j3 v3 kv3 j4 v4 kv4 oE cS fm h0 n0 _ T228.heap _
        rw [eq228]
        exact ⟨rfl, N228, (Keep.trans (Keep.trans (Keep.trans (Keep.trans (Keep.trans (Keep.trans (Keep.trans (Keep.trans (Keep.trans (Keep.refl h0 []) K110 all0) K181 (allS (Or.inr (Nat.le_of_eq g110.symm)) all0)) K183 (allS (Or.inr (Nat.le_of_eq g110.symm)) all0)) K185 (allS (Or.inr (Nat.le_of_eq g110.symm)) all0)) K187 (allS (Or.inr (Nat.le_of_eq g110.symm)) all0)) K189 (allS (Or.inr (Nat.le_of_eq g110.symm)) all0)) K210 (allS (Or.inr (Nat.le_of_eq g110.symm)) all0)) K217 all0) K225 all0)⟩
theorem own_eqint {args : Array Value} {s : State} {t : Term} {n : Int32} (h : (Jvm.Cond.eq t (Jvm.Term.int n)).value args s none s [] = some true) : t.eval args s none [] s = some (.int n) := by
  simp only [Cond.value, Term.eval] at h
  cases ht : t.eval args s none [] s with
  | none => simp [ht] at h
  | some x => cases x <;> simp [ht] at h ⊢; exact h
theorem own_eqlong {args : Array Value} {s : State} {t : Term} {n : Int64} (h : (Jvm.Cond.eq t (Jvm.Term.long n)).value args s none s [] = some true) : t.eval args s none [] s = some (.long n) := by
  simp only [Cond.value, Term.eval] at h
  cases ht : t.eval args s none [] s with
  | none => simp [ht] at h
  | some x => cases x <;> simp [ht] at h ⊢; exact h
theorem own_neint {args : Array Value} {s : State} {t : Term} {n x : Int32} (h : (Jvm.Cond.not (Jvm.Cond.eq t (Jvm.Term.int n))).value args s none s [] = some true) (e : t.eval args s none [] s = some (.int x)) : ¬ (x = n) := by
  simpa [Cond.value, Term.eval, e] using h
theorem own_eqref {args : Array Value} {s : State} {t u : Term} {b : Addr} (h : (Jvm.Cond.eq t u).value args s none s [] = some true) (hu : u.eval args s none [] s = some (.ref b)) : t.eval args s none [] s = some (.ref b) := by
  simp only [Cond.value, hu] at h
  cases ht : t.eval args s none [] s with
  | none => simp [ht] at h
  | some x => cases x <;> simp [ht] at h ⊢; exact h
theorem own_arrlen {args : Array Value} {s : State} {t : Term} {a : Addr} {cl : Cell} {ty : FieldType} {z : Int32} (ev : t.eval args s none [] s = some (.ref a)) (A : Arr s s.heap a cl ty) (h : (Term.length t).eval args s none [] s = some (.int z)) : cl.slots.size < 2 ^ 31 ∧ cl.slots.size.toInt32 = z := by
  have e := Arr.fin (U := s) (Vm.Alike.refl _) A
  simp only [Term.eval, ev, Option.bind_eq_bind, Option.bind_some, e] at h
  by_cases q : cl.slots.size < 2 ^ 31
  · simp [q] at h; exact ⟨q, h⟩
  · simp [q] at h
set_option maxRecDepth 65536 in
set_option maxHeartbeats 40000000 in
theorem comes_1 {Post : Tables → Env → Array Value → State → Outcome → State → Prop} (hpost : ∀ tb e args s v u, (limb_1_1.after args s (.returned v) u = true ∧ limb_1_2.after args s (.returned v) u = true ∧ True) → ReturnedEndW s (.returned v) u (Jvm.fieldLocs frame_1_writes args s ++ Jvm.arrayLocs frame_1_arrays args s ++ Jvm.staticLocs frame_1_statics s) 32 6336 → Post tb e args s (.returned v) u) :
    ArmFor flags0 classFile x code maxLocals ret World_1 tables_1 room_1 Calls_1 rest_1 Pre_1 Post := by
  intro l hfl _ _ p e ha hc hk s m args below hf hA hF happ hP
  obtain ⟨hcalls, hrest, hpre⟩ := hP
  obtain ⟨-, -, -, hnamed, -, -, -, hat⟩ := (Spec.applies_iff hf).mp happ
  obtain ⟨hg, hn⟩ := and_e (Cond.before_iff.mp (show (Jvm.Cond.and given_1 narrow_1).before args s = true from hpre))
  obtain ⟨g1, g2⟩ := and_e hg
  obtain ⟨g3, g4⟩ := and_e g2
  obtain ⟨g5, g6⟩ := and_e g4
  obtain ⟨g7, g8⟩ := and_e g6
  obtain ⟨g9, g10⟩ := and_e g8
  obtain ⟨g11, g12⟩ := and_e g10
  obtain ⟨g13, g14⟩ := and_e hn
  obtain ⟨g15, g16⟩ := and_e g14
  obtain ⟨g17, g18⟩ := and_e g16
  obtain ⟨g19, g20⟩ := and_e g18
  obtain ⟨g21, g22⟩ := and_e g20
  obtain ⟨g23, g24⟩ := and_e g22
  obtain ⟨g25, g26⟩ := and_e g24
  obtain ⟨g27, g28⟩ := and_e g26
  obtain ⟨g29, g30⟩ := and_e g28
  obtain ⟨g31, g32⟩ := and_e g30
  obtain ⟨g33, g34⟩ := and_e g32
  obtain ⟨g35, g36⟩ := and_e g34
  obtain ⟨g37, g38⟩ := and_e g36
  obtain ⟨g39, g40⟩ := and_e g38
  obtain ⟨g41, g42⟩ := and_e g40
  obtain ⟨g43, g44⟩ := and_e g42
  obtain ⟨g45, g46⟩ := and_e g44
  obtain ⟨g47, g48⟩ := and_e g46
  obtain ⟨g49, g50⟩ := and_e g48
  obtain ⟨g51, g52⟩ := and_e g50
  obtain ⟨g53, g54⟩ := and_e g52
  obtain ⟨g55, g56⟩ := and_e g54
  obtain ⟨g57, g58⟩ := and_e g56
  obtain ⟨g59, g60⟩ := and_e g58
  obtain ⟨g61, g62⟩ := and_e g60
  obtain ⟨g63, g64⟩ := and_e g62
  obtain ⟨g65, g66⟩ := and_e g64
  obtain ⟨g67, g68⟩ := and_e g66
  obtain ⟨g69, g70⟩ := and_e g68
  obtain ⟨g71, g72⟩ := and_e g70
  obtain ⟨g73, g74⟩ := and_e g72
  obtain ⟨g75, g76⟩ := and_e g74
  obtain ⟨g77, g78⟩ := and_e g76
  obtain ⟨g79, g80⟩ := and_e g78
  obtain ⟨g81, g82⟩ := and_e g80
  obtain ⟨g83, g84⟩ := and_e g82
  obtain ⟨g85, g86⟩ := and_e g84
  obtain ⟨g87, g88⟩ := and_e g86
  obtain ⟨g89, g90⟩ := and_e g88
  obtain ⟨g91, g92⟩ := and_e g90
  obtain ⟨g93, g94⟩ := and_e g92
  obtain ⟨g95, g96⟩ := and_e g94
  obtain ⟨g97, g98⟩ := and_e g96
  obtain ⟨g99, g100⟩ := and_e g98
  obtain ⟨g101, g102⟩ := and_e g100
  obtain ⟨g103, g104⟩ := and_e g102
  obtain ⟨g105, g106⟩ := and_e g104
  obtain ⟨g107, g108⟩ := and_e g106
  obtain ⟨g109, g110⟩ := and_e g108
  obtain ⟨g111, g112⟩ := and_e g110
  obtain ⟨g113, g114⟩ := and_e g112
  obtain ⟨g115, g116⟩ := and_e g114
  obtain ⟨w0, w1, w2, w3, w4, w5, rfl⟩ : ∃ w0 w1 w2 w3 w4 w5 : Value, args = #[w0, w1, w2, w3, w4, w5] := by
    have hs : args.size = 6 := by simpa [Cond.value, given_1] using g1
    obtain ⟨L⟩ := args
    match L, hs with
    | [w0, w1, w2, w3, w4, w5], _ => exact ⟨w0, w1, w2, w3, w4, w5, rfl⟩
  have hw := fun d (hd : d ∈ tables_1) => atoms_spec (ws := Jvm.Cond.code x code maxLocals ret :: tables_1) hat d (List.mem_cons_of_mem _ hd)
  have hfit : Fit s := fun {y c} hc i hi => by
    obtain ⟨ha, rfl⟩ := Array.getElem?_eq_some_iff.mp hc
    have q := List.all_eq_true.mp ((Array.all_eq_true_iff_forall_mem.mp hF) _ (Array.getElem_mem ha)) i (List.mem_range.mpr hi)
    simpa [Array.getElem?_eq_getElem hi] using q
  obtain ⟨hsets, hown0⟩ := atoms_of _ (rest_1_c_eq ▸ (show rest_1_c.before _ s = true from hrest))
  obtain ⟨i0, ei0⟩ := is_v g3
  obtain rfl : w0 = (.int i0) := Option.some.inj ei0
  obtain ⟨i1, ei1⟩ := is_v g5
  obtain rfl : w1 = (.int i1) := Option.some.inj ei1
  obtain ⟨i2, ei2⟩ := is_v g7
  obtain rfl : w2 = (.int i2) := Option.some.inj ei2
  obtain ⟨i3, ei3⟩ := is_v g9
  obtain rfl : w3 = (.int i3) := Option.some.inj ei3
  obtain ⟨i4, ei4⟩ := is_v g11
  obtain rfl : w4 = (.int i4) := Option.some.inj ei4
  obtain ⟨i5, ei5⟩ := is_v g12
  obtain rfl : w5 = (.int i5) := Option.some.inj ei5
  obtain ⟨A_oV, e117⟩ := exa_v g15
  have B118 : Sta s s.heap "com/example/composition/composition/definition/ObjectFormat" "$VALUES" "[Lcom/example/composition/composition/definition/ObjectFormat;" (.ref A_oV) := Sta.start e117 (Or.inl (w87 hw))
  obtain ⟨A_o0, e119⟩ := exa_v g19
  have B120 : Sta s s.heap "com/example/composition/composition/definition/ObjectFormat" "TABLE" "Lcom/example/composition/composition/definition/ObjectFormat;" (.ref A_o0) := Sta.start e119 (Or.inr ⟨(w68 hw), (w82 hw)⟩)
  obtain ⟨A_o1, e121⟩ := exa_v g23
  have B122 : Sta s s.heap "com/example/composition/composition/definition/ObjectFormat" "DATA_DEFINITION" "Lcom/example/composition/composition/definition/ObjectFormat;" (.ref A_o1) := Sta.start e121 (Or.inr ⟨(w68 hw), (w83 hw)⟩)
  obtain ⟨A_o2, e123⟩ := exa_v g27
  have B124 : Sta s s.heap "com/example/composition/composition/definition/ObjectFormat" "BEHAVIOUR_DEFINITION" "Lcom/example/composition/composition/definition/ObjectFormat;" (.ref A_o2) := Sta.start e123 (Or.inr ⟨(w68 hw), (w84 hw)⟩)
  obtain ⟨A_o3, e125⟩ := exa_v g31
  have B126 : Sta s s.heap "com/example/composition/composition/definition/ObjectFormat" "SERVICE_DEFINITION" "Lcom/example/composition/composition/definition/ObjectFormat;" (.ref A_o3) := Sta.start e125 (Or.inr ⟨(w68 hw), (w85 hw)⟩)
  obtain ⟨A_o4, e127⟩ := exa_v g35
  have B128 : Sta s s.heap "com/example/composition/composition/definition/ObjectFormat" "SERVICE_BINDING" "Lcom/example/composition/composition/definition/ObjectFormat;" (.ref A_o4) := Sta.start e127 (Or.inr ⟨(w68 hw), (w86 hw)⟩)
  have B129 : Exa s s.heap A_oV "[Lcom/example/composition/composition/definition/ObjectFormat;" := Exa.start e117 g15
  obtain ⟨cl_oV, Ar_oV⟩ := Arr.start e117 g13
  have ln_oV := own_arrlen e117 Ar_oV (own_eqint g17)
  have B130 : Arv s s.heap A_oV cl_oV.cls (.object "com/example/composition/composition/definition/ObjectFormat") (5 : Int32) [(.ref A_o0), (.ref A_o1), (.ref A_o2), (.ref A_o3), (.ref A_o4)] .null := Arv.start hfit Ar_oV ln_oV.1 ln_oV.2 (by decide) rfl ⟨(elem_in (own_eqref g21 e119) e117 (Term.int_eval (0)) Ar_oV.1).2, (elem_in (own_eqref g25 e121) e117 (Term.int_eval (1)) Ar_oV.1).2, (elem_in (own_eqref g29 e123) e117 (Term.int_eval (2)) Ar_oV.1).2, (elem_in (own_eqref g33 e125) e117 (Term.int_eval (3)) Ar_oV.1).2, (elem_in (own_eqref g37 e127) e117 (Term.int_eval (4)) Ar_oV.1).2, trivial⟩
  have B131 : Exa s s.heap A_o0 "com/example/composition/composition/definition/ObjectFormat" := Exa.start e119 g19
  obtain ⟨A_j0, e133⟩ := exa_v g39
  have B132 : Fld s s.heap A_o0 "com/example/composition/composition/definition/ObjectFormat" "type" "Ljava/lang/String;" (.ref A_j0) := Fld.start ((fld_at e119).symm.trans (e133))
  have B134 : Exa s s.heap A_j0 "java/lang/String" := Exa.start e133 g39
  have B135 : Fld s s.heap A_j0 "java/lang/String" "coder" "B" (.int (0 : Int32)) := Fld.start ((fld_at e133).symm.trans (own_eqint g41))
  obtain ⟨A_v0, e137⟩ := arr_v g43
  have B136 : Fld s s.heap A_j0 "java/lang/String" "value" "[B" (.ref A_v0) := Fld.start ((fld_at e133).symm.trans (e137))
  obtain ⟨cl_v0, Ar_v0⟩ := Arr.start e137 g43
  have ln_v0 := own_arrlen e137 Ar_v0 (own_eqint g45)
  have B138 : Arv s s.heap A_v0 cl_v0.cls .byte (4 : Int32) [(.int (116 : Int32)), (.int (97 : Int32)), (.int (98 : Int32)), (.int (108 : Int32))] (.int (0 : Int32)) := Arv.start hfit Ar_v0 ln_v0.1 ln_v0.2 (by decide) rfl ⟨(elem_in (own_eqint g79) e137 (Term.int_eval (0)) Ar_v0.1).2, (elem_in (own_eqint g107) e137 (Term.int_eval (1)) Ar_v0.1).2, (elem_in (own_eqint g109) e137 (Term.int_eval (2)) Ar_v0.1).2, (elem_in (own_eqint g111) e137 (Term.int_eval (3)) Ar_v0.1).2, trivial⟩
  have B139 : Exa s s.heap A_o1 "com/example/composition/composition/definition/ObjectFormat" := Exa.start e121 g23
  obtain ⟨A_j1, e141⟩ := exa_v g47
  have B140 : Fld s s.heap A_o1 "com/example/composition/composition/definition/ObjectFormat" "type" "Ljava/lang/String;" (.ref A_j1) := Fld.start ((fld_at e121).symm.trans (e141))
  have B142 : Exa s s.heap A_j1 "java/lang/String" := Exa.start e141 g47
  have B143 : Fld s s.heap A_j1 "java/lang/String" "coder" "B" (.int (0 : Int32)) := Fld.start ((fld_at e141).symm.trans (own_eqint g49))
  obtain ⟨A_v1, e145⟩ := arr_v g51
  have B144 : Fld s s.heap A_j1 "java/lang/String" "value" "[B" (.ref A_v1) := Fld.start ((fld_at e141).symm.trans (e145))
  obtain ⟨cl_v1, Ar_v1⟩ := Arr.start e145 g51
  have ln_v1 := own_arrlen e145 Ar_v1 (own_eqint g53)
  have B146 : Arv s s.heap A_v1 cl_v1.cls .byte (4 : Int32) [(.int (100 : Int32)), (.int (100 : Int32)), (.int (108 : Int32)), (.int (115 : Int32))] (.int (0 : Int32)) := Arv.start hfit Ar_v1 ln_v1.1 ln_v1.2 (by decide) rfl ⟨(elem_in (own_eqint g81) e145 (Term.int_eval (0)) Ar_v1.1).2, (elem_in (own_eqint g101) e145 (Term.int_eval (1)) Ar_v1.1).2, (elem_in (own_eqint g103) e145 (Term.int_eval (2)) Ar_v1.1).2, (elem_in (own_eqint g105) e145 (Term.int_eval (3)) Ar_v1.1).2, trivial⟩
  have B147 : Exa s s.heap A_o2 "com/example/composition/composition/definition/ObjectFormat" := Exa.start e123 g27
  obtain ⟨A_j2, e149⟩ := exa_v g55
  have B148 : Fld s s.heap A_o2 "com/example/composition/composition/definition/ObjectFormat" "type" "Ljava/lang/String;" (.ref A_j2) := Fld.start ((fld_at e123).symm.trans (e149))
  have B150 : Exa s s.heap A_j2 "java/lang/String" := Exa.start e149 g55
  have B151 : Fld s s.heap A_j2 "java/lang/String" "coder" "B" (.int (0 : Int32)) := Fld.start ((fld_at e149).symm.trans (own_eqint g57))
  obtain ⟨A_v2, e153⟩ := arr_v g59
  have B152 : Fld s s.heap A_j2 "java/lang/String" "value" "[B" (.ref A_v2) := Fld.start ((fld_at e149).symm.trans (e153))
  obtain ⟨cl_v2, Ar_v2⟩ := Arr.start e153 g59
  have ln_v2 := own_arrlen e153 Ar_v2 (own_eqint g61)
  have B154 : Arv s s.heap A_v2 cl_v2.cls .byte (4 : Int32) [(.int (98 : Int32)), (.int (100 : Int32)), (.int (101 : Int32)), (.int (102 : Int32))] (.int (0 : Int32)) := Arv.start hfit Ar_v2 ln_v2.1 ln_v2.2 (by decide) rfl ⟨(elem_in (own_eqint g83) e153 (Term.int_eval (0)) Ar_v2.1).2, (elem_in (own_eqint g113) e153 (Term.int_eval (1)) Ar_v2.1).2, (elem_in (own_eqint g115) e153 (Term.int_eval (2)) Ar_v2.1).2, (elem_in (own_eqint g116) e153 (Term.int_eval (3)) Ar_v2.1).2, trivial⟩
  have B155 : Exa s s.heap A_o3 "com/example/composition/composition/definition/ObjectFormat" := Exa.start e125 g31
  obtain ⟨A_j3, e157⟩ := exa_v g63
  have B156 : Fld s s.heap A_o3 "com/example/composition/composition/definition/ObjectFormat" "type" "Ljava/lang/String;" (.ref A_j3) := Fld.start ((fld_at e125).symm.trans (e157))
  have B158 : Exa s s.heap A_j3 "java/lang/String" := Exa.start e157 g63
  have B159 : Fld s s.heap A_j3 "java/lang/String" "coder" "B" (.int (0 : Int32)) := Fld.start ((fld_at e157).symm.trans (own_eqint g65))
  obtain ⟨A_v3, e161⟩ := arr_v g67
  have B160 : Fld s s.heap A_j3 "java/lang/String" "value" "[B" (.ref A_v3) := Fld.start ((fld_at e157).symm.trans (e161))
  obtain ⟨cl_v3, Ar_v3⟩ := Arr.start e161 g67
  have ln_v3 := own_arrlen e161 Ar_v3 (own_eqint g69)
  have B162 : Arv s s.heap A_v3 cl_v3.cls .byte (4 : Int32) [(.int (115 : Int32)), (.int (114 : Int32)), (.int (118 : Int32)), (.int (100 : Int32))] (.int (0 : Int32)) := Arv.start hfit Ar_v3 ln_v3.1 ln_v3.2 (by decide) rfl ⟨(elem_in (own_eqint g85) e161 (Term.int_eval (0)) Ar_v3.1).2, (elem_in (own_eqint g87) e161 (Term.int_eval (1)) Ar_v3.1).2, (elem_in (own_eqint g89) e161 (Term.int_eval (2)) Ar_v3.1).2, (elem_in (own_eqint g91) e161 (Term.int_eval (3)) Ar_v3.1).2, trivial⟩
  have B163 : Exa s s.heap A_o4 "com/example/composition/composition/definition/ObjectFormat" := Exa.start e127 g35
  obtain ⟨A_j4, e165⟩ := exa_v g71
  have B164 : Fld s s.heap A_o4 "com/example/composition/composition/definition/ObjectFormat" "type" "Ljava/lang/String;" (.ref A_j4) := Fld.start ((fld_at e127).symm.trans (e165))
  have B166 : Exa s s.heap A_j4 "java/lang/String" := Exa.start e165 g71
  have B167 : Fld s s.heap A_j4 "java/lang/String" "coder" "B" (.int (0 : Int32)) := Fld.start ((fld_at e165).symm.trans (own_eqint g73))
  obtain ⟨A_v4, e169⟩ := arr_v g75
  have B168 : Fld s s.heap A_j4 "java/lang/String" "value" "[B" (.ref A_v4) := Fld.start ((fld_at e165).symm.trans (e169))
  obtain ⟨cl_v4, Ar_v4⟩ := Arr.start e169 g75
  have ln_v4 := own_arrlen e169 Ar_v4 (own_eqint g77)
  have B170 : Arv s s.heap A_v4 cl_v4.cls .byte (4 : Int32) [(.int (115 : Int32)), (.int (114 : Int32)), (.int (118 : Int32)), (.int (98 : Int32))] (.int (0 : Int32)) := Arv.start hfit Ar_v4 ln_v4.1 ln_v4.2 (by decide) rfl ⟨(elem_in (own_eqint g93) e169 (Term.int_eval (0)) Ar_v4.1).2, (elem_in (own_eqint g95) e169 (Term.int_eval (1)) Ar_v4.1).2, (elem_in (own_eqint g97) e169 (Term.int_eval (2)) Ar_v4.1).2, (elem_in (own_eqint g99) e169 (Term.int_eval (3)) Ar_v4.1).2, trivial⟩
  obtain ⟨A_oE, e171⟩ := exa_v (Cond.before_iff.mp (hsets _ (List.mem_of_getElem? (i := 11) rfl)))
  have B172 : Sta s s.heap "java/util/Optional" "EMPTY" "Ljava/util/Optional;" (.ref A_oE) := Sta.start e171 (Or.inl (hsets _ (List.mem_of_getElem? (i := 10) rfl)))
  have B173 : Exa s s.heap A_oE "java/util/Optional" := Exa.start e171 (Cond.before_iff.mp (hsets _ (List.mem_of_getElem? (i := 11) rfl)))
  have B174 : Fld s s.heap A_oE "java/util/Optional" "value" "Ljava/lang/Object;" .null := Fld.start ((fld_at e171).symm.trans (null_v (Cond.before_iff.mp (hsets _ (List.mem_of_getElem? (i := 12) rfl)))))
  obtain ⟨A_cS, e175⟩ := is_v (Cond.before_iff.mp (hsets _ (List.mem_of_getElem? (i := 1) rfl)))
  have B176 : Sta s s.heap "java/lang/String" "COMPACT_STRINGS" "Z" (.int A_cS) := Sta.start e175 (Or.inl (hsets _ (List.mem_of_getElem? (i := 0) rfl)))
  have B177 : ¬ (A_cS = (0 : Int32)) := own_neint (Cond.before_iff.mp (hsets _ (List.mem_of_getElem? (i := 2) rfl))) e175
  obtain ⟨A_fm, e178, e178'⟩ := isR_v (Cond.before_iff.mp (hsets _ (List.mem_of_getElem? (i := 8) rfl)))
  have B179 : Sta s s.heap "jdk/internal/util/Preconditions" "SIOOBE_FORMATTER" "Ljava/util/function/BiFunction;" A_fm := Sta.start e178 (Or.inl (hsets _ (List.mem_of_getElem? (i := 7) rfl)))
  have B180 : A_fm.isRef = true := e178'
  obtain ⟨n, o, h1, h2, h3, _, L, rfl, ⟨rfl, N, _⟩, -, hq⟩ := rm_law l s _ hw tables_1 i0 i1 i2 i3 i4 i5 A_o0 A_o1 A_o2 A_o3 A_o4 A_oV cl_oV.cls A_j0 A_v0 cl_v0.cls A_j1 A_v1 cl_v1.cls A_j2 A_v2 cl_v2.cls A_j3 A_v3 cl_v3.cls A_j4 A_v4 cl_v4.cls A_oE A_cS A_fm s.heap s.heap.size (Nat.le_refl _) (Old.start s) B118 B120 B122 B124 B126 B128 B129 B130 B131 B132 B134 B135 B136 B138 B139 B140 B142 B143 B144 B146 B147 B148 B150 B151 B152 B154 B155 B156 B158 B159 B160 B162 B163 B164 B166 B167 B168 B170 B172 B173 B174 B176 B177 B179 B180 p e ha hc hk s m _ below hf ((Spec.applies_iff_loose hf).mp happ).1 ⟨rfl, State.Warmed39.refl s, rfl, own_chv hw hcalls.1 (Cond.before_iff.mpr (Cond.before_iff.mp (hsets _ (List.mem_of_getElem? (i := 2) rfl))))⟩ trivial
  refine ⟨n, _, h1, h2, h3, hpost _ _ _ _ _ _ ⟨Cond.after_iff.mpr rfl, Cond.after_iff.mpr (eq_i res_at (Term.int_eval (1)) rfl), trivial⟩ ⟨hq.1, hq.2.1, hq.2.2.1, (hq.2.2.2.sift fun y hy => Or.inr (N y hy)).mono (by decide) (by decide)⟩⟩
theorem main_1_1 : Claimed_1_1 := comes_1 fun _ _ _ _ _ _ h hF => ⟨h.1, hF⟩
theorem main_1_2 : Claimed_1_2 := comes_1 fun _ _ _ _ _ _ h hF => ⟨h.2.1, hF⟩

end Jvm.Pilot.@@N@@
namespace Jvm.Pilot.@@N@@
open Jvm Jvm.ClassFile Sem Op Lib Jvm.Free Jvm.Stand Jvm.Pilot.@@N@@.Jvm.D
/-! MADE BY PROGRAM (witnessworld.py) out of the Statement's table words and the real class files: 24 classes; the members and pool entries that the words name. The judged class is class 1, her method 4. -/
namespace start1
open Jvm.ClassFile
def u (s : String) : CpInfo := .utf8 (stringToUtf16 s)
/-- a pool by its gaps: so many unusable entries, then the entry; so many at the end -/
def gap : Nat → List CpInfo → List CpInfo
  | 0, r => r
  | n + 1, r => .unusable :: gap n r
def poolList (es : List (Nat × CpInfo)) (last : Nat) : List CpInfo := es.foldr (fun e r => gap e.1 (e.2 :: r)) (gap last [])
def pool (es : List (Nat × CpInfo)) (last : Nat) : Array CpInfo := ⟨poolList es last⟩
def fileOf (pool : Array CpInfo) (this : Nat) (attrs : Array Attribute := #[]) (ms : Array MethodInfo := #[]) (fl : Nat := 33) (sup : Nat := 0) (ifs : Array Nat := #[]) (fds : Array FieldInfo := #[]) : ClassFile where
  minorVersion := 0
  majorVersion := 65
  constantPool := pool
  accessFlags := fl
  thisClass := this
  superClass := sup
  interfaces := ifs
  fields := fds
  methods := ms
  attributes := attrs
def plain (name : String) (sup : Option ClassId) : Class where
  name := name
  kind := .ordinary
  loader := none
  accessFlags := 33
  super := sup
  interfaces := #[]
  cf := none
  fields := #[]
  methods := #[]
  instanceTypes := #[]
  staticTypes := #[]
  resolved := #[]
  callSites := []
  init := .initialized
  statics := none
  mirror := none

def pool0 : Array CpInfo := pool [(5, u "<init>"), (0, u "()V"), (1, .class_ 10), (1, u "java/lang/Object"), (85, u "clone"), (0, u "()Ljava/lang/Object;")] 26

def k0c0 : Code := { maxStack := 0, maxLocals := 1, code := object_method_1_code, exceptionTable := #[], attributes := #[] }
def k0m0 : Method := { name := "<init>", desc := "()V", sig := { parameters := [], returnType := none }, accessFlags := 1, code := some k0c0 }
def k0m1 : Method := { name := "clone", desc := "()Ljava/lang/Object;", sig := { parameters := [], returnType := some (.object "java/lang/Object") }, accessFlags := 260, code := none }
/-- java/lang/Object -/
def k0 : Class := { plain "java/lang/Object" none with
  accessFlags := 33
  interfaces := #[]
  cf := some (fileOf pool0 8 #[] #[{ accessFlags := 1, nameIndex := 5, descriptorIndex := 6, attributes := #[] }, { accessFlags := 260, nameIndex := 96, descriptorIndex := 97, attributes := #[] }] 33 0 #[] #[])
  fields := #[]
  methods := #[k0m0, k0m1]
  instanceTypes := #[]
  staticTypes := #[]
  resolved := Array.replicate 124 none
  statics := none }

def pool1 : Array CpInfo := pool [(2, .class_ 4), (1, u "java/lang/Object"), (0, u "<init>"), (0, u "()V"), (0, .string 8), (0, u "tabl"), (0, .string 10), (0, u "ddls"), (0, .string 12), (0, u "bdef"), (0, .string 14), (0, u "srvd"), (0, .string 16), (0, u "srvb"), (0, .class_ 18), (0, u "java/lang/String"), (0, .methodref 17 20), (0, .nameAndType 5 21), (0, u "([C)V"), (0, .fieldref 23 24), (0, .class_ 25), (0, .nameAndType 26 27), (0, u "com/example/composition/composition/definition/ObjectFormat"), (0, u "TABLE"), (0, u "Lcom/example/composition/composition/definition/ObjectFormat;"), (0, .fieldref 23 29), (0, .nameAndType 30 27), (0, u "DATA_DEFINITION"), (0, .fieldref 23 32), (0, .nameAndType 33 27), (0, u "BEHAVIOUR_DEFINITION"), (0, .fieldref 23 35), (0, .nameAndType 36 27), (0, u "SERVICE_DEFINITION"), (0, .fieldref 23 38), (0, .nameAndType 39 27), (0, u "SERVICE_BINDING"), (0, .integer 2147483647), (0, .methodref 23 42), (0, .nameAndType 43 44), (0, u "ofType"), (0, u "(Ljava/lang/String;)Ljava/util/Optional;"), (0, .methodref 46 47), (0, .class_ 48), (0, .nameAndType 49 50), (0, u "java/util/Optional"), (0, u "orElse"), (0, u "(Ljava/lang/Object;)Ljava/lang/Object;"), (0, .methodref 52 53), (0, .class_ 54), (0, .nameAndType 55 56), (0, u "com/example/composition/composition/definition/ObjectFormatOfTypePinLaw"), (0, u "lit"), (0, u "(I)Ljava/lang/String;"), (0, .methodref 17 58), (0, .nameAndType 59 60), (0, u "charAt"), (0, u "(I)C"), (0, .methodref 52 62), (0, .nameAndType 63 64), (0, u "make"), (0, u "([CI)Ljava/lang/String;"), (0, .methodref 52 66), (0, .nameAndType 67 68), (0, u "expect"), (0, u "([CI)Lcom/example/composition/composition/definition/ObjectFormat;"), (5, u "law"), (0, u "(IIIIII)Z")] 2

def k1m0 : Method := { name := "<init>", desc := "()V", sig := { parameters := [], returnType := none }, accessFlags := 1, code := none }
def k1c1 : Code := { maxStack := 2, maxLocals := 1, code := method_2_code, exceptionTable := #[], attributes := #[] }
def k1m1 : Method := { name := "lit", desc := "(I)Ljava/lang/String;", sig := { parameters := [.int], returnType := some (.object "java/lang/String") }, accessFlags := 10, code := some k1c1 }
def k1c2 : Code := { maxStack := 7, maxLocals := 2, code := method_3_code, exceptionTable := #[], attributes := #[] }
def k1m2 : Method := { name := "make", desc := "([CI)Ljava/lang/String;", sig := { parameters := [(.array .char), .int], returnType := some (.object "java/lang/String") }, accessFlags := 10, code := some k1c2 }
def k1c3 : Code := { maxStack := 2, maxLocals := 6, code := method_4_code, exceptionTable := #[], attributes := #[] }
def k1m3 : Method := { name := "expect", desc := "([CI)Lcom/example/composition/composition/definition/ObjectFormat;", sig := { parameters := [(.array .char), .int], returnType := some (.object "com/example/composition/composition/definition/ObjectFormat") }, accessFlags := 10, code := some k1c3 }
def k1c4 : Code := { maxStack := 4, maxLocals := 12, code := code, exceptionTable := #[], attributes := #[] }
def k1m4 : Method := { name := "law", desc := "(IIIIII)Z", sig := { parameters := [.int, .int, .int, .int, .int, .int], returnType := some .boolean }, accessFlags := 9, code := some k1c4 }
/-- com/example/composition/composition/definition/ObjectFormatOfTypePinLaw -/
def k1 : Class := { plain "com/example/composition/composition/definition/ObjectFormatOfTypePinLaw" (some 0) with
  accessFlags := 49
  interfaces := #[]
  cf := some (fileOf pool1 52 #[] #[{ accessFlags := 1, nameIndex := 5, descriptorIndex := 6, attributes := #[] }, { accessFlags := 10, nameIndex := 55, descriptorIndex := 56, attributes := #[] }, { accessFlags := 10, nameIndex := 63, descriptorIndex := 64, attributes := #[] }, { accessFlags := 10, nameIndex := 67, descriptorIndex := 68, attributes := #[] }, { accessFlags := 9, nameIndex := 74, descriptorIndex := 75, attributes := #[] }] 49 2 #[] #[])
  fields := #[]
  methods := #[k1m0, k1m1, k1m2, k1m3, k1m4]
  instanceTypes := #[]
  staticTypes := #[]
  resolved := Array.replicate 78 none
  statics := none }

def pool2 : Array CpInfo := pool [(1, .class_ 2), (0, u "java/io/Serializable"), (0, .class_ 4), (0, u "java/lang/Object")] 2

/-- java/io/Serializable -/
def k2 : Class := { plain "java/io/Serializable" (some 0) with
  accessFlags := 1537
  interfaces := #[]
  cf := some (fileOf pool2 1 #[] #[] 1537 3 #[] #[])
  fields := #[]
  methods := #[]
  instanceTypes := #[]
  staticTypes := #[]
  resolved := Array.replicate 7 none
  statics := none }

def pool3 : Array CpInfo := pool [(1, .class_ 2), (0, u "java/lang/Comparable"), (0, .class_ 4), (0, u "java/lang/Object")] 7

/-- java/lang/Comparable -/
def k3 : Class := { plain "java/lang/Comparable" (some 0) with
  accessFlags := 1537
  interfaces := #[]
  cf := some (fileOf pool3 1 #[] #[] 1537 3 #[] #[])
  fields := #[]
  methods := #[]
  instanceTypes := #[]
  staticTypes := #[]
  resolved := Array.replicate 12 none
  statics := none }

def pool4 : Array CpInfo := pool [(2, .class_ 4), (1, u "java/lang/CharSequence"), (42, .class_ 48), (0, u "java/lang/CharSequence$1CodePointIterator"), (10, .class_ 60), (0, u "java/lang/CharSequence$1CharIterator"), (5, .class_ 67), (0, u "java/lang/Object")] 63

/-- java/lang/CharSequence -/
def k4 : Class := { plain "java/lang/CharSequence" (some 0) with
  accessFlags := 1537
  interfaces := #[]
  cf := some (fileOf pool4 2 #[.nestMembers #[47, 59]] #[] 1537 66 #[] #[])
  fields := #[]
  methods := #[]
  instanceTypes := #[]
  staticTypes := #[]
  resolved := Array.replicate 131 none
  statics := none }

def pool5 : Array CpInfo := pool [(1, .class_ 2), (0, u "java/lang/constant/Constable"), (0, .class_ 4), (0, u "java/lang/Object")] 6

/-- java/lang/constant/Constable -/
def k5 : Class := { plain "java/lang/constant/Constable" (some 0) with
  accessFlags := 1537
  interfaces := #[]
  cf := some (fileOf pool5 1 #[] #[] 1537 3 #[] #[])
  fields := #[]
  methods := #[]
  instanceTypes := #[]
  staticTypes := #[]
  resolved := Array.replicate 11 none
  statics := none }

def pool6 : Array CpInfo := pool [(1, .class_ 2), (0, u "java/lang/constant/ConstantDesc"), (0, .class_ 4), (0, u "java/lang/Object")] 32

/-- java/lang/constant/ConstantDesc -/
def k6 : Class := { plain "java/lang/constant/ConstantDesc" (some 0) with
  accessFlags := 1537
  interfaces := #[]
  cf := some (fileOf pool6 1 #[] #[] 1537 3 #[] #[])
  fields := #[]
  methods := #[]
  instanceTypes := #[]
  staticTypes := #[]
  resolved := Array.replicate 37 none
  statics := none }

def pool7 : Array CpInfo := pool [(1, .methodref 2 3), (0, .class_ 4), (0, .nameAndType 5 6), (0, u "java/lang/Object"), (0, u "<init>"), (0, u "()V"), (0, .string 8), (0, u ""), (0, .fieldref 10 11), (0, .class_ 12), (0, .nameAndType 13 14), (0, u "java/lang/String"), (0, u "value"), (0, u "[B"), (0, .fieldref 10 16), (0, .nameAndType 17 18), (0, u "coder"), (0, u "B"), (2, u "hash"), (0, u "I"), (2, u "hashIsZero"), (0, u "Z"), (0, .methodref 10 28), (0, .nameAndType 5 29), (0, u "([CIILjava/lang/Void;)V"), (8, .fieldref 10 39), (0, .nameAndType 40 26), (0, u "COMPACT_STRINGS"), (1, .class_ 44), (1, u "java/lang/StringUTF16"), (0, u "compress"), (1, .methodref 42 48), (0, .nameAndType 49 50), (0, u "coderFromArrayLen"), (0, u "([BI)B"), (56, .class_ 109), (1, u "java/lang/StringLatin1"), (32, u "()Z"), (34, .methodref 42 178), (0, .nameAndType 45 179), (0, u "([CII)[B"), (183, u "([BI)C"), (27, u "(II)V"), (35, u "(I)C"), (64, .methodref 10 493), (0, .nameAndType 494 142), (0, u "isLatin1"), (0, .methodref 107 496), (0, .nameAndType 497 363), (0, u "charAt"), (3, u "checkIndex"), (39, .methodref 107 542), (0, .nameAndType 543 544), (0, u "equals"), (0, u "([B[B)Z"), (28, u "(Ljava/lang/Object;)Z"), (1, .class_ 576), (0, u "java/lang/CharSequence"), (22, u "CASE_INSENSITIVE_ORDER"), (0, u "Ljava/util/Comparator;"), (409, u "([C)V"), (42, .fieldref 1054 1055), (0, .class_ 1056), (0, .nameAndType 1057 1058), (0, u "jdk/internal/util/Preconditions"), (0, u "SIOOBE_FORMATTER"), (0, u "Ljava/util/function/BiFunction;"), (0, .methodref 1054 1060), (0, .nameAndType 501 1061), (0, u "(IILjava/util/function/BiFunction;)I"), (39, u "serialPersistentFields"), (0, u "[Ljava/io/ObjectStreamField;"), (0, .class_ 1104), (0, u "java/lang/String$CaseInsensitiveComparator"), (1, .class_ 1107), (0, u "java/io/Serializable"), (0, .class_ 1109), (0, u "java/lang/Comparable"), (0, .class_ 1111), (0, u "java/lang/constant/Constable"), (0, .class_ 1113), (0, u "java/lang/constant/ConstantDesc"), (2, u "serialVersionUID"), (0, u "J"), (3, u "REPL"), (0, u "C"), (2, u "LATIN1"), (1, u "UTF16")] 323

def k7m0 : Method := { name := "<init>", desc := "()V", sig := { parameters := [], returnType := none }, accessFlags := 1, code := none }
def k7c1 : Code := { maxStack := 5, maxLocals := 2, code := jdk_42_method_3_code, exceptionTable := #[], attributes := #[] }
def k7m1 : Method := { name := "<init>", desc := "([C)V", sig := { parameters := [(.array .char)], returnType := none }, accessFlags := 1, code := some k7c1 }
def k7c2 : Code := { maxStack := 2, maxLocals := 2, code := jdk_42_method_56_code, exceptionTable := #[], attributes := #[] }
def k7m2 : Method := { name := "charAt", desc := "(I)C", sig := { parameters := [.int], returnType := some .char }, accessFlags := 1, code := some k7c2 }
def k7c3 : Code := { maxStack := 2, maxLocals := 3, code := jdk_42_method_66_code, exceptionTable := #[], attributes := #[] }
def k7m3 : Method := { name := "equals", desc := "(Ljava/lang/Object;)Z", sig := { parameters := [(.object "java/lang/Object")], returnType := some .boolean }, accessFlags := 1, code := some k7c3 }
def k7c4 : Code := { maxStack := 4, maxLocals := 6, code := jdk_42_method_149_code, exceptionTable := #[], attributes := #[] }
def k7m4 : Method := { name := "<init>", desc := "([CIILjava/lang/Void;)V", sig := { parameters := [(.array .char), .int, .int, (.object "java/lang/Void")], returnType := none }, accessFlags := 2, code := some k7c4 }
def k7c5 : Code := { maxStack := 1, maxLocals := 1, code := jdk_42_method_154_code, exceptionTable := #[], attributes := #[] }
def k7m5 : Method := { name := "isLatin1", desc := "()Z", sig := { parameters := [], returnType := some .boolean }, accessFlags := 0, code := some k7c5 }
def k7c6 : Code := { maxStack := 3, maxLocals := 2, code := jdk_42_method_155_code, exceptionTable := #[], attributes := #[] }
def k7m6 : Method := { name := "checkIndex", desc := "(II)V", sig := { parameters := [.int, .int], returnType := none }, accessFlags := 8, code := some k7c6 }
/-- java/lang/String -/
def k7 : Class := { plain "java/lang/String" (some 0) with
  accessFlags := 49
  interfaces := #[2, 3, 4, 5, 6]
  cf := some (fileOf pool7 10 #[.nestMembers #[1103]] #[{ accessFlags := 1, nameIndex := 5, descriptorIndex := 6, attributes := #[] }, { accessFlags := 1, nameIndex := 5, descriptorIndex := 1010, attributes := #[] }, { accessFlags := 1, nameIndex := 497, descriptorIndex := 427, attributes := #[] }, { accessFlags := 1, nameIndex := 543, descriptorIndex := 573, attributes := #[] }, { accessFlags := 2, nameIndex := 5, descriptorIndex := 29, attributes := #[] }, { accessFlags := 0, nameIndex := 494, descriptorIndex := 142, attributes := #[] }, { accessFlags := 8, nameIndex := 501, descriptorIndex := 391, attributes := #[] }] 49 2 #[1106, 1108, 575, 1110, 1112] #[{ accessFlags := 18, nameIndex := 13, descriptorIndex := 14, attributes := #[] }, { accessFlags := 18, nameIndex := 17, descriptorIndex := 18, attributes := #[] }, { accessFlags := 2, nameIndex := 21, descriptorIndex := 22, attributes := #[] }, { accessFlags := 2, nameIndex := 25, descriptorIndex := 26, attributes := #[] }, { accessFlags := 26, nameIndex := 1116, descriptorIndex := 1117, attributes := #[] }, { accessFlags := 24, nameIndex := 40, descriptorIndex := 26, attributes := #[] }, { accessFlags := 26, nameIndex := 1101, descriptorIndex := 1102, attributes := #[] }, { accessFlags := 26, nameIndex := 1121, descriptorIndex := 1122, attributes := #[] }, { accessFlags := 25, nameIndex := 599, descriptorIndex := 600, attributes := #[] }, { accessFlags := 24, nameIndex := 1125, descriptorIndex := 18, attributes := #[] }, { accessFlags := 24, nameIndex := 1127, descriptorIndex := 18, attributes := #[] }])
  fields := #[{ name := "value", type := (.array .byte), accessFlags := 18, slot := 0, constantValue := 0 }, { name := "coder", type := .byte, accessFlags := 18, slot := 1, constantValue := 0 }, { name := "hash", type := .int, accessFlags := 2, slot := 2, constantValue := 0 }, { name := "hashIsZero", type := .boolean, accessFlags := 2, slot := 3, constantValue := 0 }, { name := "serialVersionUID", type := .long, accessFlags := 26, slot := 0, constantValue := 0 }, { name := "COMPACT_STRINGS", type := .boolean, accessFlags := 24, slot := 1, constantValue := 0 }, { name := "serialPersistentFields", type := (.array (.object "java/io/ObjectStreamField")), accessFlags := 26, slot := 2, constantValue := 0 }, { name := "REPL", type := .char, accessFlags := 26, slot := 3, constantValue := 0 }, { name := "CASE_INSENSITIVE_ORDER", type := (.object "java/util/Comparator"), accessFlags := 25, slot := 4, constantValue := 0 }, { name := "LATIN1", type := .byte, accessFlags := 24, slot := 5, constantValue := 0 }, { name := "UTF16", type := .byte, accessFlags := 24, slot := 6, constantValue := 0 }]
  methods := #[k7m0, k7m1, k7m2, k7m3, k7m4, k7m5, k7m6]
  instanceTypes := #[(.array .byte), .byte, .int, .boolean]
  staticTypes := #[.long, .boolean, (.array (.object "java/io/ObjectStreamField")), .char, (.object "java/util/Comparator"), .byte, .byte]
  resolved := Array.replicate 1451 none
  statics := some 0 }

def pool8 : Array CpInfo := pool [(1, .class_ 2), (0, u "java/lang/String"), (1, .class_ 6), (1, u "java/lang/Object"), (0, u "<init>"), (0, u "()V"), (0, .methodref 1 10), (0, .nameAndType 11 12), (0, u "checkIndex"), (0, u "(II)V"), (1, .class_ 16), (1, u "java/lang/StringLatin1"), (36, u "([BI)C"), (67, u "$assertionsDisabled"), (0, u "Z"), (98, .class_ 223), (1, u "java/lang/StringLatin1$LinesSpliterator"), (28, u "charAt"), (28, u "equals"), (0, u "([B[B)Z"), (107, .class_ 391), (0, u "java/lang/StringLatin1$CharsSpliterator")] 3

def k8m0 : Method := { name := "<init>", desc := "()V", sig := { parameters := [], returnType := none }, accessFlags := 0, code := none }
def k8c1 : Code := { maxStack := 2, maxLocals := 2, code := jdk_43_method_2_code, exceptionTable := #[], attributes := #[] }
def k8m1 : Method := { name := "charAt", desc := "([BI)C", sig := { parameters := [(.array .byte), .int], returnType := some .char }, accessFlags := 9, code := some k8c1 }
def k8c2 : Code := { maxStack := 3, maxLocals := 3, code := jdk_43_method_13_code, exceptionTable := #[], attributes := #[] }
def k8m2 : Method := { name := "equals", desc := "([B[B)Z", sig := { parameters := [(.array .byte), (.array .byte)], returnType := some .boolean }, accessFlags := 9, code := some k8c2 }
/-- java/lang/StringLatin1 -/
def k8 : Class := { plain "java/lang/StringLatin1" (some 0) with
  accessFlags := 48
  interfaces := #[]
  cf := some (fileOf pool8 14 #[.nestMembers #[390, 221]] #[{ accessFlags := 0, nameIndex := 7, descriptorIndex := 8, attributes := #[] }, { accessFlags := 9, nameIndex := 252, descriptorIndex := 53, attributes := #[] }, { accessFlags := 9, nameIndex := 281, descriptorIndex := 282, attributes := #[] }] 48 4 #[] #[{ accessFlags := 4120, nameIndex := 121, descriptorIndex := 122, attributes := #[] }])
  fields := #[{ name := "$assertionsDisabled", type := .boolean, accessFlags := 4120, slot := 0, constantValue := 0 }]
  methods := #[k8m0, k8m1, k8m2]
  instanceTypes := #[]
  staticTypes := #[.boolean]
  resolved := Array.replicate 395 none
  statics := none }

def pool9 : Array CpInfo := pool [(2, .class_ 4), (1, u "java/lang/Object"), (0, u "<init>"), (0, u "()V"), (17, .class_ 26), (1, u "jdk/internal/util/Preconditions"), (6, u "checkIndex"), (21, .class_ 56), (0, u "jdk/internal/util/Preconditions$4"), (57, .class_ 115), (0, u "jdk/internal/util/Preconditions$1"), (7, u "SIOOBE_FORMATTER"), (0, u "Ljava/util/function/BiFunction;"), (0, .class_ 126), (0, u "jdk/internal/util/Preconditions$2"), (3, u "AIOOBE_FORMATTER"), (0, .class_ 132), (0, u "jdk/internal/util/Preconditions$3"), (3, u "IOOBE_FORMATTER"), (41, u "(IILjava/util/function/BiFunction;)I")] 15

def k9m0 : Method := { name := "<init>", desc := "()V", sig := { parameters := [], returnType := none }, accessFlags := 1, code := none }
def k9c1 : Code := { maxStack := 3, maxLocals := 3, code := jdk_41_method_11_code, exceptionTable := #[], attributes := #[] }
def k9m1 : Method := { name := "checkIndex", desc := "(IILjava/util/function/BiFunction;)I", sig := { parameters := [.int, .int, (.object "java/util/function/BiFunction")], returnType := some .int }, accessFlags := 9, code := some k9c1 }
/-- jdk/internal/util/Preconditions -/
def k9 : Class := { plain "jdk/internal/util/Preconditions" (some 0) with
  accessFlags := 33
  interfaces := #[]
  cf := some (fileOf pool9 24 #[.nestMembers #[55, 131, 125, 114]] #[{ accessFlags := 1, nameIndex := 5, descriptorIndex := 6, attributes := #[] }, { accessFlags := 9, nameIndex := 33, descriptorIndex := 178, attributes := #[] }] 33 2 #[] #[{ accessFlags := 25, nameIndex := 123, descriptorIndex := 124, attributes := #[] }, { accessFlags := 25, nameIndex := 130, descriptorIndex := 124, attributes := #[] }, { accessFlags := 25, nameIndex := 136, descriptorIndex := 124, attributes := #[] }])
  fields := #[{ name := "SIOOBE_FORMATTER", type := (.object "java/util/function/BiFunction"), accessFlags := 25, slot := 0, constantValue := 0 }, { name := "AIOOBE_FORMATTER", type := (.object "java/util/function/BiFunction"), accessFlags := 25, slot := 1, constantValue := 0 }, { name := "IOOBE_FORMATTER", type := (.object "java/util/function/BiFunction"), accessFlags := 25, slot := 2, constantValue := 0 }]
  methods := #[k9m0, k9m1]
  instanceTypes := #[]
  staticTypes := #[(.object "java/util/function/BiFunction"), (.object "java/util/function/BiFunction"), (.object "java/util/function/BiFunction")]
  resolved := Array.replicate 194 none
  statics := some 1 }

def pool10 : Array CpInfo := pool [(6, .class_ 8), (1, u "java/lang/Object"), (0, u "<init>"), (0, u "()V"), (1, .class_ 14), (1, u "java/lang/StringUTF16"), (31, u "$assertionsDisabled"), (0, u "Z"), (13, u "HI_BYTE_SHIFT"), (0, u "I"), (2, u "LO_BYTE_SHIFT"), (49, .methodref 12 116), (0, .nameAndType 117 118), (0, u "compress"), (0, u "([CI[BII)I"), (3, u "([CII)[B"), (138, u "coderFromArrayLen"), (0, u "([BI)B"), (106, .class_ 371), (1, u "java/lang/StringUTF16$LinesSpliterator"), (58, u "MAX_LENGTH"), (196, .class_ 628), (0, u "java/lang/StringUTF16$CodePointsSpliterator"), (0, .class_ 630), (0, u "java/lang/StringUTF16$CharsSpliterator")] 4

def k10m0 : Method := { name := "<init>", desc := "()V", sig := { parameters := [], returnType := none }, accessFlags := 0, code := none }
def k10c1 : Code := { maxStack := 2, maxLocals := 2, code := jdk_52_method_15_code, exceptionTable := #[], attributes := #[] }
def k10m1 : Method := { name := "coderFromArrayLen", desc := "([BI)B", sig := { parameters := [(.array .byte), .int], returnType := some .byte }, accessFlags := 8, code := some k10c1 }
def k10c2 : Code := { maxStack := 5, maxLocals := 6, code := jdk_52_method_16_code, exceptionTable := #[], attributes := #[] }
def k10m2 : Method := { name := "compress", desc := "([CII)[B", sig := { parameters := [(.array .char), .int, .int], returnType := some (.array .byte) }, accessFlags := 9, code := some k10c2 }
def k10c3 : Code := { maxStack := 3, maxLocals := 7, code := jdk_52_method_21_code, exceptionTable := #[], attributes := #[] }
def k10m3 : Method := { name := "compress", desc := "([CI[BII)I", sig := { parameters := [(.array .char), .int, (.array .byte), .int, .int], returnType := some .int }, accessFlags := 9, code := some k10c3 }
/-- java/lang/StringUTF16 -/
def k10 : Class := { plain "java/lang/StringUTF16" (some 0) with
  accessFlags := 48
  interfaces := #[]
  cf := some (fileOf pool10 12 #[.nestMembers #[627, 629, 369]] #[{ accessFlags := 0, nameIndex := 9, descriptorIndex := 10, attributes := #[] }, { accessFlags := 8, nameIndex := 261, descriptorIndex := 262, attributes := #[] }, { accessFlags := 9, nameIndex := 117, descriptorIndex := 122, attributes := #[] }, { accessFlags := 9, nameIndex := 117, descriptorIndex := 118, attributes := #[] }] 48 6 #[] #[{ accessFlags := 26, nameIndex := 61, descriptorIndex := 62, attributes := #[] }, { accessFlags := 26, nameIndex := 65, descriptorIndex := 62, attributes := #[] }, { accessFlags := 24, nameIndex := 430, descriptorIndex := 62, attributes := #[] }, { accessFlags := 4120, nameIndex := 46, descriptorIndex := 47, attributes := #[] }])
  fields := #[{ name := "HI_BYTE_SHIFT", type := .int, accessFlags := 26, slot := 0, constantValue := 0 }, { name := "LO_BYTE_SHIFT", type := .int, accessFlags := 26, slot := 1, constantValue := 0 }, { name := "MAX_LENGTH", type := .int, accessFlags := 24, slot := 2, constantValue := 0 }, { name := "$assertionsDisabled", type := .boolean, accessFlags := 4120, slot := 3, constantValue := 0 }]
  methods := #[k10m0, k10m1, k10m2, k10m3]
  instanceTypes := #[]
  staticTypes := #[.int, .int, .int, .boolean]
  resolved := Array.replicate 635 none
  statics := none }

def pool11 : Array CpInfo := pool [(2, .class_ 4), (1, u "java/lang/Enum"), (0, u "name"), (0, u "Ljava/lang/String;"), (2, u "ordinal"), (0, u "I"), (1, .class_ 14), (1, u "java/lang/Object"), (4, u "hash"), (86, .class_ 108), (1, u "java/lang/Enum$EnumDesc"), (2, .class_ 112), (0, u "java/lang/constant/Constable"), (0, .class_ 114), (0, u "java/lang/Comparable"), (0, .class_ 116), (0, u "java/io/Serializable")] 87

/-- java/lang/Enum -/
def k11 : Class := { plain "java/lang/Enum" (some 0) with
  accessFlags := 1057
  interfaces := #[5, 3, 2]
  cf := some (fileOf pool11 2 #[.nestMembers #[106]] #[] 1057 12 #[111, 113, 115] #[{ accessFlags := 18, nameIndex := 5, descriptorIndex := 6, attributes := #[] }, { accessFlags := 18, nameIndex := 9, descriptorIndex := 10, attributes := #[] }, { accessFlags := 2, nameIndex := 19, descriptorIndex := 10, attributes := #[] }])
  fields := #[{ name := "name", type := (.object "java/lang/String"), accessFlags := 18, slot := 0, constantValue := 0 }, { name := "ordinal", type := .int, accessFlags := 18, slot := 1, constantValue := 0 }, { name := "hash", type := .int, accessFlags := 2, slot := 2, constantValue := 0 }]
  methods := #[]
  instanceTypes := #[(.object "java/lang/String"), .int, .int]
  staticTypes := #[]
  resolved := Array.replicate 204 none
  statics := none }

def pool12 : Array CpInfo := pool [(1, .class_ 2), (0, u "com/example/composition/composition/definition/ObjectFormat"), (2, u "TABLE"), (0, u "Lcom/example/composition/composition/definition/ObjectFormat;"), (2, u "DATA_DEFINITION"), (2, u "BEHAVIOUR_DEFINITION"), (2, u "SERVICE_DEFINITION"), (2, u "SERVICE_BINDING"), (0, .fieldref 1 20), (0, .nameAndType 21 22), (0, u "$VALUES"), (0, u "[Lcom/example/composition/composition/definition/ObjectFormat;"), (0, .methodref 24 25), (0, .class_ 22), (0, .nameAndType 26 27), (0, u "clone"), (0, u "()Ljava/lang/Object;"), (1, .class_ 31), (1, u "java/lang/Enum"), (6, .fieldref 1 39), (0, .nameAndType 40 41), (0, u "type"), (0, u "Ljava/lang/String;"), (2, u "sourceExtension"), (2, u "kind"), (1, .class_ 51), (1, u "java/util/Optional"), (1, u "(Ljava/lang/Object;)Ljava/util/Optional;"), (0, .methodref 1 55), (0, .nameAndType 56 57), (0, u "values"), (0, u "()[Lcom/example/composition/composition/definition/ObjectFormat;"), (0, .methodref 59 60), (0, .class_ 61), (0, .nameAndType 62 63), (0, u "java/lang/String"), (0, u "equals"), (0, u "(Ljava/lang/Object;)Z"), (0, .methodref 49 65), (0, .nameAndType 66 53), (0, u "of"), (0, .methodref 49 68), (0, .nameAndType 69 70), (0, u "empty"), (0, u "()Ljava/util/Optional;"), (45, u "ofType"), (0, u "(Ljava/lang/String;)Ljava/util/Optional;")] 7

def k12c0 : Code := { maxStack := 1, maxLocals := 0, code := prog_14_method_1_code, exceptionTable := #[], attributes := #[] }
def k12m0 : Method := { name := "values", desc := "()[Lcom/example/composition/composition/definition/ObjectFormat;", sig := { parameters := [], returnType := some (.array (.object "com/example/composition/composition/definition/ObjectFormat")) }, accessFlags := 9, code := some k12c0 }
def k12c1 : Code := { maxStack := 2, maxLocals := 5, code := prog_14_method_7_code, exceptionTable := #[], attributes := #[] }
def k12m1 : Method := { name := "ofType", desc := "(Ljava/lang/String;)Ljava/util/Optional;", sig := { parameters := [(.object "java/lang/String")], returnType := some (.object "java/util/Optional") }, accessFlags := 8, code := some k12c1 }
/-- com/example/composition/composition/definition/ObjectFormat -/
def k12 : Class := { plain "com/example/composition/composition/definition/ObjectFormat" (some 11) with
  accessFlags := 16432
  interfaces := #[]
  cf := some (fileOf pool12 1 #[] #[{ accessFlags := 9, nameIndex := 56, descriptorIndex := 57, attributes := #[] }, { accessFlags := 8, nameIndex := 116, descriptorIndex := 117, attributes := #[] }] 16432 29 #[] #[{ accessFlags := 16409, nameIndex := 5, descriptorIndex := 6, attributes := #[] }, { accessFlags := 16409, nameIndex := 9, descriptorIndex := 6, attributes := #[] }, { accessFlags := 16409, nameIndex := 12, descriptorIndex := 6, attributes := #[] }, { accessFlags := 16409, nameIndex := 15, descriptorIndex := 6, attributes := #[] }, { accessFlags := 16409, nameIndex := 18, descriptorIndex := 6, attributes := #[] }, { accessFlags := 18, nameIndex := 40, descriptorIndex := 41, attributes := #[] }, { accessFlags := 18, nameIndex := 44, descriptorIndex := 41, attributes := #[] }, { accessFlags := 18, nameIndex := 47, descriptorIndex := 41, attributes := #[] }, { accessFlags := 4122, nameIndex := 21, descriptorIndex := 22, attributes := #[] }])
  fields := #[{ name := "TABLE", type := (.object "com/example/composition/composition/definition/ObjectFormat"), accessFlags := 16409, slot := 0, constantValue := 0 }, { name := "DATA_DEFINITION", type := (.object "com/example/composition/composition/definition/ObjectFormat"), accessFlags := 16409, slot := 1, constantValue := 0 }, { name := "BEHAVIOUR_DEFINITION", type := (.object "com/example/composition/composition/definition/ObjectFormat"), accessFlags := 16409, slot := 2, constantValue := 0 }, { name := "SERVICE_DEFINITION", type := (.object "com/example/composition/composition/definition/ObjectFormat"), accessFlags := 16409, slot := 3, constantValue := 0 }, { name := "SERVICE_BINDING", type := (.object "com/example/composition/composition/definition/ObjectFormat"), accessFlags := 16409, slot := 4, constantValue := 0 }, { name := "type", type := (.object "java/lang/String"), accessFlags := 18, slot := 3, constantValue := 0 }, { name := "sourceExtension", type := (.object "java/lang/String"), accessFlags := 18, slot := 4, constantValue := 0 }, { name := "kind", type := (.object "java/lang/String"), accessFlags := 18, slot := 5, constantValue := 0 }, { name := "$VALUES", type := (.array (.object "com/example/composition/composition/definition/ObjectFormat")), accessFlags := 4122, slot := 5, constantValue := 0 }]
  methods := #[k12m0, k12m1]
  instanceTypes := #[(.object "java/lang/String"), .int, .int, (.object "java/lang/String"), (.object "java/lang/String"), (.object "java/lang/String")]
  staticTypes := #[(.object "com/example/composition/composition/definition/ObjectFormat"), (.object "com/example/composition/composition/definition/ObjectFormat"), (.object "com/example/composition/composition/definition/ObjectFormat"), (.object "com/example/composition/composition/definition/ObjectFormat"), (.object "com/example/composition/composition/definition/ObjectFormat"), (.array (.object "com/example/composition/composition/definition/ObjectFormat"))]
  resolved := Array.replicate 125 none
  statics := some 2 }

def pool13 : Array CpInfo := pool [(1, .class_ 2), (0, u "java/lang/Cloneable"), (0, .class_ 4), (0, u "java/lang/Object")] 2

/-- java/lang/Cloneable -/
def k13 : Class := { plain "java/lang/Cloneable" (some 0) with
  accessFlags := 1537
  interfaces := #[]
  cf := some (fileOf pool13 1 #[] #[] 1537 3 #[] #[])
  fields := #[]
  methods := #[]
  instanceTypes := #[]
  staticTypes := #[]
  resolved := Array.replicate 7 none
  statics := none }

def pool14 : Array CpInfo := pool [(1, .fieldref 2 3), (0, .class_ 4), (0, .nameAndType 5 6), (0, u "java/util/Optional"), (0, u "EMPTY"), (0, u "Ljava/util/Optional;"), (0, .methodref 8 9), (0, .class_ 10), (0, .nameAndType 11 12), (0, u "java/lang/Object"), (0, u "<init>"), (0, u "()V"), (0, .fieldref 2 14), (0, .nameAndType 15 16), (0, u "value"), (0, u "Ljava/lang/Object;"), (0, .methodref 18 19), (0, .class_ 20), (0, .nameAndType 21 22), (0, u "java/util/Objects"), (0, u "requireNonNull"), (0, u "(Ljava/lang/Object;)Ljava/lang/Object;"), (0, .methodref 2 24), (0, .nameAndType 11 25), (0, u "(Ljava/lang/Object;)V"), (29, u "empty"), (0, u "()Ljava/util/Optional;"), (8, u "(Ljava/lang/Object;)Ljava/util/Optional;"), (16, u "of"), (82, u "orElse")] 21

def k14c0 : Code := { maxStack := 1, maxLocals := 1, code := jdk_32_method_1_code, exceptionTable := #[], attributes := #[] }
def k14m0 : Method := { name := "empty", desc := "()Ljava/util/Optional;", sig := { parameters := [], returnType := some (.object "java/util/Optional") }, accessFlags := 9, code := some k14c0 }
def k14c1 : Code := { maxStack := 2, maxLocals := 2, code := jdk_32_method_2_code, exceptionTable := #[], attributes := #[] }
def k14m1 : Method := { name := "<init>", desc := "(Ljava/lang/Object;)V", sig := { parameters := [(.object "java/lang/Object")], returnType := none }, accessFlags := 2, code := some k14c1 }
def k14c2 : Code := { maxStack := 3, maxLocals := 1, code := jdk_32_method_3_code, exceptionTable := #[], attributes := #[] }
def k14m2 : Method := { name := "of", desc := "(Ljava/lang/Object;)Ljava/util/Optional;", sig := { parameters := [(.object "java/lang/Object")], returnType := some (.object "java/util/Optional") }, accessFlags := 9, code := some k14c2 }
def k14c3 : Code := { maxStack := 1, maxLocals := 2, code := jdk_32_method_15_code, exceptionTable := #[], attributes := #[] }
def k14m3 : Method := { name := "orElse", desc := "(Ljava/lang/Object;)Ljava/lang/Object;", sig := { parameters := [(.object "java/lang/Object")], returnType := some (.object "java/lang/Object") }, accessFlags := 1, code := some k14c3 }
/-- java/util/Optional -/
def k14 : Class := { plain "java/util/Optional" (some 0) with
  accessFlags := 49
  interfaces := #[]
  cf := some (fileOf pool14 2 #[] #[{ accessFlags := 9, nameIndex := 55, descriptorIndex := 56, attributes := #[] }, { accessFlags := 2, nameIndex := 11, descriptorIndex := 25, attributes := #[] }, { accessFlags := 9, nameIndex := 82, descriptorIndex := 65, attributes := #[] }, { accessFlags := 1, nameIndex := 165, descriptorIndex := 22, attributes := #[] }] 49 8 #[] #[{ accessFlags := 26, nameIndex := 5, descriptorIndex := 6, attributes := #[] }, { accessFlags := 18, nameIndex := 15, descriptorIndex := 16, attributes := #[] }])
  fields := #[{ name := "EMPTY", type := (.object "java/util/Optional"), accessFlags := 26, slot := 0, constantValue := 0 }, { name := "value", type := (.object "java/lang/Object"), accessFlags := 18, slot := 0, constantValue := 0 }]
  methods := #[k14m0, k14m1, k14m2, k14m3]
  instanceTypes := #[(.object "java/lang/Object")]
  staticTypes := #[(.object "java/util/Optional")]
  resolved := Array.replicate 187 none
  statics := some 3 }

def pool15 : Array CpInfo := pool [(2, .class_ 4), (1, u "java/lang/Object"), (0, u "<init>"), (0, u "()V"), (35, .class_ 44), (1, u "java/util/Objects"), (0, u "requireNonNull"), (0, u "(Ljava/lang/Object;)Ljava/lang/Object;")] 137

def k15m0 : Method := { name := "<init>", desc := "()V", sig := { parameters := [], returnType := none }, accessFlags := 2, code := none }
def k15c1 : Code := { maxStack := 2, maxLocals := 1, code := jdk_31_method_10_code, exceptionTable := #[], attributes := #[] }
def k15m1 : Method := { name := "requireNonNull", desc := "(Ljava/lang/Object;)Ljava/lang/Object;", sig := { parameters := [(.object "java/lang/Object")], returnType := some (.object "java/lang/Object") }, accessFlags := 9, code := some k15c1 }
/-- java/util/Objects -/
def k15 : Class := { plain "java/util/Objects" (some 0) with
  accessFlags := 49
  interfaces := #[]
  cf := some (fileOf pool15 42 #[] #[{ accessFlags := 2, nameIndex := 5, descriptorIndex := 6, attributes := #[] }, { accessFlags := 9, nameIndex := 45, descriptorIndex := 46, attributes := #[] }] 49 2 #[] #[])
  fields := #[]
  methods := #[k15m0, k15m1]
  instanceTypes := #[]
  staticTypes := #[]
  resolved := Array.replicate 184 none
  statics := none }

def pool16 : Array CpInfo := pool [(9, u "<init>"), (6, .class_ 18), (1, u "java/lang/Object"), (0, u "()V"), (1, .class_ 23), (1, u "jdk/internal/util/ArraysSupport"), (0, u "LOG2_ARRAY_LONG_INDEX_SCALE"), (0, u "I"), (2, u "U"), (0, u "Ljdk/internal/misc/Unsafe;"), (8, u "BIG_ENDIAN"), (0, u "Z"), (8, u "LOG2_BYTE_BIT_SIZE"), (4, u "LOG2_ARRAY_INT_INDEX_SCALE"), (54, u "JLA"), (0, u "Ljdk/internal/access/JavaLangAccess;"), (11, u "LOG2_ARRAY_BOOLEAN_INDEX_SCALE"), (9, u "LOG2_ARRAY_BYTE_INDEX_SCALE"), (5, u "LOG2_ARRAY_CHAR_INDEX_SCALE"), (5, u "LOG2_ARRAY_SHORT_INDEX_SCALE"), (18, u "LOG2_ARRAY_FLOAT_INDEX_SCALE"), (24, u "LOG2_ARRAY_DOUBLE_INDEX_SCALE"), (89, u "T_BOOLEAN"), (2, u "T_CHAR"), (1, u "T_FLOAT"), (1, u "T_DOUBLE"), (1, u "T_BYTE"), (1, u "T_SHORT"), (1, u "T_INT"), (1, u "T_LONG"), (1, u "SOFT_MAX_ARRAY_LENGTH")] 83

def k16m0 : Method := { name := "<init>", desc := "()V", sig := { parameters := [], returnType := none }, accessFlags := 2, code := none }
/-- jdk/internal/util/ArraysSupport -/
def k16 : Class := { plain "jdk/internal/util/ArraysSupport" (some 0) with
  accessFlags := 33
  interfaces := #[]
  cf := some (fileOf pool16 21 #[] #[{ accessFlags := 2, nameIndex := 9, descriptorIndex := 19, attributes := #[] }] 33 16 #[] #[{ accessFlags := 24, nameIndex := 28, descriptorIndex := 29, attributes := #[] }, { accessFlags := 26, nameIndex := 38, descriptorIndex := 39, attributes := #[] }, { accessFlags := 25, nameIndex := 121, descriptorIndex := 25, attributes := #[] }, { accessFlags := 25, nameIndex := 131, descriptorIndex := 25, attributes := #[] }, { accessFlags := 25, nameIndex := 137, descriptorIndex := 25, attributes := #[] }, { accessFlags := 25, nameIndex := 143, descriptorIndex := 25, attributes := #[] }, { accessFlags := 25, nameIndex := 53, descriptorIndex := 25, attributes := #[] }, { accessFlags := 25, nameIndex := 24, descriptorIndex := 25, attributes := #[] }, { accessFlags := 25, nameIndex := 162, descriptorIndex := 25, attributes := #[] }, { accessFlags := 25, nameIndex := 187, descriptorIndex := 25, attributes := #[] }, { accessFlags := 26, nameIndex := 48, descriptorIndex := 25, attributes := #[] }, { accessFlags := 25, nameIndex := 277, descriptorIndex := 25, attributes := #[] }, { accessFlags := 25, nameIndex := 280, descriptorIndex := 25, attributes := #[] }, { accessFlags := 25, nameIndex := 282, descriptorIndex := 25, attributes := #[] }, { accessFlags := 25, nameIndex := 284, descriptorIndex := 25, attributes := #[] }, { accessFlags := 25, nameIndex := 286, descriptorIndex := 25, attributes := #[] }, { accessFlags := 25, nameIndex := 288, descriptorIndex := 25, attributes := #[] }, { accessFlags := 25, nameIndex := 290, descriptorIndex := 25, attributes := #[] }, { accessFlags := 25, nameIndex := 292, descriptorIndex := 25, attributes := #[] }, { accessFlags := 26, nameIndex := 108, descriptorIndex := 109, attributes := #[] }, { accessFlags := 25, nameIndex := 294, descriptorIndex := 25, attributes := #[] }])
  fields := #[{ name := "U", type := (.object "jdk/internal/misc/Unsafe"), accessFlags := 24, slot := 0, constantValue := 0 }, { name := "BIG_ENDIAN", type := .boolean, accessFlags := 26, slot := 1, constantValue := 0 }, { name := "LOG2_ARRAY_BOOLEAN_INDEX_SCALE", type := .int, accessFlags := 25, slot := 2, constantValue := 0 }, { name := "LOG2_ARRAY_BYTE_INDEX_SCALE", type := .int, accessFlags := 25, slot := 3, constantValue := 0 }, { name := "LOG2_ARRAY_CHAR_INDEX_SCALE", type := .int, accessFlags := 25, slot := 4, constantValue := 0 }, { name := "LOG2_ARRAY_SHORT_INDEX_SCALE", type := .int, accessFlags := 25, slot := 5, constantValue := 0 }, { name := "LOG2_ARRAY_INT_INDEX_SCALE", type := .int, accessFlags := 25, slot := 6, constantValue := 0 }, { name := "LOG2_ARRAY_LONG_INDEX_SCALE", type := .int, accessFlags := 25, slot := 7, constantValue := 0 }, { name := "LOG2_ARRAY_FLOAT_INDEX_SCALE", type := .int, accessFlags := 25, slot := 8, constantValue := 0 }, { name := "LOG2_ARRAY_DOUBLE_INDEX_SCALE", type := .int, accessFlags := 25, slot := 9, constantValue := 0 }, { name := "LOG2_BYTE_BIT_SIZE", type := .int, accessFlags := 26, slot := 10, constantValue := 0 }, { name := "T_BOOLEAN", type := .int, accessFlags := 25, slot := 11, constantValue := 0 }, { name := "T_CHAR", type := .int, accessFlags := 25, slot := 12, constantValue := 0 }, { name := "T_FLOAT", type := .int, accessFlags := 25, slot := 13, constantValue := 0 }, { name := "T_DOUBLE", type := .int, accessFlags := 25, slot := 14, constantValue := 0 }, { name := "T_BYTE", type := .int, accessFlags := 25, slot := 15, constantValue := 0 }, { name := "T_SHORT", type := .int, accessFlags := 25, slot := 16, constantValue := 0 }, { name := "T_INT", type := .int, accessFlags := 25, slot := 17, constantValue := 0 }, { name := "T_LONG", type := .int, accessFlags := 25, slot := 18, constantValue := 0 }, { name := "JLA", type := (.object "jdk/internal/access/JavaLangAccess"), accessFlags := 26, slot := 19, constantValue := 0 }, { name := "SOFT_MAX_ARRAY_LENGTH", type := .int, accessFlags := 25, slot := 20, constantValue := 0 }]
  methods := #[k16m0]
  instanceTypes := #[]
  staticTypes := #[(.object "jdk/internal/misc/Unsafe"), .boolean, .int, .int, .int, .int, .int, .int, .int, .int, .int, .int, .int, .int, .int, .int, .int, .int, .int, (.object "jdk/internal/access/JavaLangAccess"), .int]
  resolved := Array.replicate 378 none
  statics := none }

/-- the primitive byte -/
def k17 : Class := { plain "byte" none with kind := .primitive 'B', accessFlags := 0x411 }
/-- [B -/
def k18 : Class := { plain "[B" (some 0) with kind := .array 17 .byte, interfaces := #[13, 2], accessFlags := 1041 }

/-- the primitive char -/
def k19 : Class := { plain "char" none with kind := .primitive 'C', accessFlags := 0x411 }
/-- [C -/
def k20 : Class := { plain "[C" (some 0) with kind := .array 19 .char, interfaces := #[13, 2], accessFlags := 1041 }

/-- the primitive int -/
def k21 : Class := { plain "int" none with kind := .primitive 'I', accessFlags := 0x411 }
/-- [I -/
def k22 : Class := { plain "[I" (some 0) with kind := .array 21 .int, interfaces := #[13, 2], accessFlags := 1041 }

/-- [Lcom/example/composition/composition/definition/ObjectFormat; -/
def k23 : Class := { plain "[Lcom/example/composition/composition/definition/ObjectFormat;" (some 0) with kind := .array 12 (.object "com/example/composition/composition/definition/ObjectFormat"), interfaces := #[13, 2], accessFlags := 1041 }

def heap : Heap := #[{ cls := 7, slots := #[.long 0, .int 1, .null, .int 0, .null, .int 0, .int 0], vm := .statics 7 },
  { cls := 9, slots := #[.null, .null, .null], vm := .statics 9 },
  { cls := 12, slots := #[.ref 5, .ref 6, .ref 7, .ref 8, .ref 9, .ref 4], vm := .statics 12 },
  { cls := 14, slots := #[.ref 20], vm := .statics 14 },
  { cls := 23, slots := #[.ref 5, .ref 6, .ref 7, .ref 8, .ref 9], vm := .none },
  { cls := 12, slots := #[.null, .int 0, .int 0, .ref 10, .null, .null], vm := .none },
  { cls := 12, slots := #[.null, .int 0, .int 0, .ref 11, .null, .null], vm := .none },
  { cls := 12, slots := #[.null, .int 0, .int 0, .ref 12, .null, .null], vm := .none },
  { cls := 12, slots := #[.null, .int 0, .int 0, .ref 13, .null, .null], vm := .none },
  { cls := 12, slots := #[.null, .int 0, .int 0, .ref 14, .null, .null], vm := .none },
  { cls := 7, slots := #[.ref 15, .int 0, .int 0, .int 0], vm := .none },
  { cls := 7, slots := #[.ref 16, .int 0, .int 0, .int 0], vm := .none },
  { cls := 7, slots := #[.ref 17, .int 0, .int 0, .int 0], vm := .none },
  { cls := 7, slots := #[.ref 18, .int 0, .int 0, .int 0], vm := .none },
  { cls := 7, slots := #[.ref 19, .int 0, .int 0, .int 0], vm := .none },
  { cls := 18, slots := #[.int 116, .int 97, .int 98, .int 108], vm := .none },
  { cls := 18, slots := #[.int 100, .int 100, .int 108, .int 115], vm := .none },
  { cls := 18, slots := #[.int 98, .int 100, .int 101, .int 102], vm := .none },
  { cls := 18, slots := #[.int 115, .int 114, .int 118, .int 100], vm := .none },
  { cls := 18, slots := #[.int 115, .int 114, .int 118, .int 98], vm := .none },
  { cls := 14, slots := #[.null], vm := .none }]
def classes : Array Class := #[k0, k1, k2, k3, k4, k5, k6, k7, k8, k9, k10, k11, k12, k13, k14, k15, k16, k17, k18, k19, k20, k21, k22, k23]
def interned : List (Array UInt16 × Addr) := []
def slotsUsed : Nat := 93
def theMethod : MethodId := ⟨1, 4⟩
def args0 : Array Value := #[.int 5, .int 5, .int 5, .int 5, .int 5, .int 5]
def aboutOver (below : List Frame) : State where
  vm := { classes := classes, interned := interned.toArray }
  heap := heap
  slotsUsed := slotsUsed
  threads := #[{ frames := .invoking theMethod args0 :: below }]
def below0 : List Frame := [.native { method := ⟨0, 0⟩, args := #[] }]
def about1 : State := aboutOver below0
def p0 : Program := .bare "" "" ""
def e0 : Env := launch0.env 0 0 0
theorem w_frames : about1.frames = Frame.invoking theMethod args0 :: below0 := rfl
set_option maxRecDepth 65536 in
theorem w_args : argsFit about1.vm theMethod args0 = true := by decide +kernel
set_option maxRecDepth 65536 in
theorem w_heap : heapFits about1 = true := by decide +kernel
set_option maxRecDepth 65536 in
theorem w_runnable : about1.curStatus? = some .runnable := by decide +kernel
set_option maxRecDepth 65536 in
theorem w_alone : about1.alone = true := by decide +kernel
set_option maxRecDepth 65536 in
theorem w_named : about1.methodNamed? x = some theMethod := by decide +kernel
set_option maxRecDepth 65536 in
theorem w_hears : about1.hears theMethod below0 = true := by decide +kernel
set_option maxRecDepth 65536 in
theorem w_ripe : about1.ripe theMethod args0 below0 = true := by decide +kernel
theorem w_running : about1.status = .running := rfl
set_option maxRecDepth 65536 in
theorem w_room : about1.hasRoom e0.platform room_1 = true :=
  launch0.hasRoom_least _ room_1 (by decide +kernel) (by decide +kernel) (by decide +kernel) (by decide +kernel) (by decide +kernel) (by decide +kernel)
theorem allAtoms_all (ts : List Jvm.Cond) (a : Array Jvm.Value) (st : Jvm.State) : (allAtoms ts).before a st = ts.all (fun c => c.before a st) := by
  induction ts with
  | nil => rfl
  | cons c t ih =>
    show (Jvm.Cond.and c (allAtoms t)).before a st = _
    rw [Jvm.Cond.before_and, ih, List.all_cons]
def words1 : List Jvm.Cond := Jvm.Cond.code x code maxLocals ret :: tables_1
/-- a 'code' word, met by the world's own term for the bytes: nothing is compared byte by byte -/
theorem code_word {y : MethodName} {bytes : ByteArray} {mx : Nat} {rt : Option FieldType} {a : Array Value} {s : State} {m : MethodId} {meth : Method} {c : Code} (h1 : s.methodNamed? y = some m) (h2 : s.vm.method? m = some meth) (h3 : meth.code = some c) (h4 : c.code = bytes)
    (h5 : (c.maxLocals == mx && c.exceptionTable.isEmpty && decide (c.maxStack ≤ mostOperands) && decide (meth.sig.returnType = rt) && !meth.locks && decide (parseMethodDescriptor y.desc = some meth.sig)) = true) : (Jvm.Cond.code y bytes mx rt).before a s = true := by
  simp only [Bool.and_eq_true, beq_iff_eq, Bool.not_eq_true', decide_eq_true_eq] at h5
  obtain ⟨⟨⟨⟨⟨g1, g2⟩, g3⟩, g4⟩, g5⟩, g6⟩ := h5
  simp [Cond.before, Cond.holds, Cond.value, h1, h2, h3, h4, g1, g2, g3, g4, g5, g6]
def isCode : Jvm.Cond → Bool
  | .code _ _ _ _ => true
  | _ => false
theorem all_split {L : List Jvm.Cond} {P : Jvm.Cond → Bool} (h1 : L.all (fun c => isCode c || P c) = true) (h2 : ∀ c ∈ L.filter isCode, P c = true) : L.all P = true := by
  refine List.all_eq_true.mpr fun c hc => ?_
  have h := List.all_eq_true.mp h1 c hc
  rcases Bool.eq_false_or_eq_true (isCode c) with hi | hi
  · exact h2 c (List.mem_filter.mpr ⟨hc, hi⟩)
  · simpa [hi] using h
set_option maxRecDepth 65536 in
theorem w_c0 : (Jvm.Cond.code x code maxLocals ret).before args0 about1 = true := code_word (m := ⟨1, 4⟩) (meth := k1m4) (c := k1c4) (by decide +kernel) rfl rfl rfl (by decide +kernel)
set_option maxRecDepth 65536 in
theorem w_c1 : (Jvm.Cond.code ({ cls := "com/example/composition/composition/definition/ObjectFormatOfTypePinLaw", name := "lit", desc := "(I)Ljava/lang/String;" } : Jvm.MethodName) method_2_code (1 : Nat) (Option.some (Jvm.ClassFile.FieldType.object "java/lang/String"))).before args0 about1 = true := code_word (m := ⟨1, 1⟩) (meth := k1m1) (c := k1c1) (by decide +kernel) rfl rfl rfl (by decide +kernel)
set_option maxRecDepth 65536 in
theorem w_c2 : (Jvm.Cond.code ({ cls := "java/lang/String", name := "charAt", desc := "(I)C" } : Jvm.MethodName) jdk_42_method_56_code (2 : Nat) (Option.some Jvm.ClassFile.FieldType.char)).before args0 about1 = true := code_word (m := ⟨7, 2⟩) (meth := k7m2) (c := k7c2) (by decide +kernel) rfl rfl rfl (by decide +kernel)
set_option maxRecDepth 65536 in
theorem w_c3 : (Jvm.Cond.code ({ cls := "java/lang/String", name := "isLatin1", desc := "()Z" } : Jvm.MethodName) jdk_42_method_154_code (1 : Nat) (Option.some Jvm.ClassFile.FieldType.boolean)).before args0 about1 = true := code_word (m := ⟨7, 5⟩) (meth := k7m5) (c := k7c5) (by decide +kernel) rfl rfl rfl (by decide +kernel)
set_option maxRecDepth 65536 in
theorem w_c4 : (Jvm.Cond.code ({ cls := "java/lang/StringLatin1", name := "charAt", desc := "([BI)C" } : Jvm.MethodName) jdk_43_method_2_code (2 : Nat) (Option.some Jvm.ClassFile.FieldType.char)).before args0 about1 = true := code_word (m := ⟨8, 1⟩) (meth := k8m1) (c := k8c1) (by decide +kernel) rfl rfl rfl (by decide +kernel)
set_option maxRecDepth 65536 in
theorem w_c5 : (Jvm.Cond.code ({ cls := "java/lang/String", name := "checkIndex", desc := "(II)V" } : Jvm.MethodName) jdk_42_method_155_code (2 : Nat) (Option.none : Option Jvm.ClassFile.FieldType)).before args0 about1 = true := code_word (m := ⟨7, 6⟩) (meth := k7m6) (c := k7c6) (by decide +kernel) rfl rfl rfl (by decide +kernel)
set_option maxRecDepth 65536 in
theorem w_c6 : (Jvm.Cond.code ({ cls := "jdk/internal/util/Preconditions", name := "checkIndex", desc := "(IILjava/util/function/BiFunction;)I" } : Jvm.MethodName) jdk_41_method_11_code (3 : Nat) (Option.some Jvm.ClassFile.FieldType.int)).before args0 about1 = true := code_word (m := ⟨9, 1⟩) (meth := k9m1) (c := k9c1) (by decide +kernel) rfl rfl rfl (by decide +kernel)
set_option maxRecDepth 65536 in
theorem w_c7 : (Jvm.Cond.code ({ cls := "com/example/composition/composition/definition/ObjectFormatOfTypePinLaw", name := "make", desc := "([CI)Ljava/lang/String;" } : Jvm.MethodName) method_3_code (2 : Nat) (Option.some (Jvm.ClassFile.FieldType.object "java/lang/String"))).before args0 about1 = true := code_word (m := ⟨1, 2⟩) (meth := k1m2) (c := k1c2) (by decide +kernel) rfl rfl rfl (by decide +kernel)
set_option maxRecDepth 65536 in
theorem w_c8 : (Jvm.Cond.code ({ cls := "java/lang/String", name := "<init>", desc := "([C)V" } : Jvm.MethodName) jdk_42_method_3_code (2 : Nat) (Option.none : Option Jvm.ClassFile.FieldType)).before args0 about1 = true := code_word (m := ⟨7, 1⟩) (meth := k7m1) (c := k7c1) (by decide +kernel) rfl rfl rfl (by decide +kernel)
set_option maxRecDepth 65536 in
theorem w_c9 : (Jvm.Cond.code ({ cls := "java/lang/String", name := "<init>", desc := "([CIILjava/lang/Void;)V" } : Jvm.MethodName) jdk_42_method_149_code (6 : Nat) (Option.none : Option Jvm.ClassFile.FieldType)).before args0 about1 = true := code_word (m := ⟨7, 4⟩) (meth := k7m4) (c := k7c4) (by decide +kernel) rfl rfl rfl (by decide +kernel)
set_option maxRecDepth 65536 in
theorem w_c10 : (Jvm.Cond.code ({ cls := "java/lang/Object", name := "<init>", desc := "()V" } : Jvm.MethodName) object_method_1_code (1 : Nat) (Option.none : Option Jvm.ClassFile.FieldType)).before args0 about1 = true := code_word (m := ⟨0, 0⟩) (meth := k0m0) (c := k0c0) (by decide +kernel) rfl rfl rfl (by decide +kernel)
set_option maxRecDepth 65536 in
theorem w_c11 : (Jvm.Cond.code ({ cls := "java/lang/StringUTF16", name := "compress", desc := "([CII)[B" } : Jvm.MethodName) jdk_52_method_16_code (6 : Nat) (Option.some (Jvm.ClassFile.FieldType.array Jvm.ClassFile.FieldType.byte))).before args0 about1 = true := code_word (m := ⟨10, 2⟩) (meth := k10m2) (c := k10c2) (by decide +kernel) rfl rfl rfl (by decide +kernel)
set_option maxRecDepth 65536 in
theorem w_c12 : (Jvm.Cond.code ({ cls := "java/lang/StringUTF16", name := "compress", desc := "([CI[BII)I" } : Jvm.MethodName) jdk_52_method_21_code (7 : Nat) (Option.some Jvm.ClassFile.FieldType.int)).before args0 about1 = true := code_word (m := ⟨10, 3⟩) (meth := k10m3) (c := k10c3) (by decide +kernel) rfl rfl rfl (by decide +kernel)
set_option maxRecDepth 65536 in
theorem w_c13 : (Jvm.Cond.code ({ cls := "java/lang/StringUTF16", name := "coderFromArrayLen", desc := "([BI)B" } : Jvm.MethodName) jdk_52_method_15_code (2 : Nat) (Option.some Jvm.ClassFile.FieldType.byte)).before args0 about1 = true := code_word (m := ⟨10, 1⟩) (meth := k10m1) (c := k10c1) (by decide +kernel) rfl rfl rfl (by decide +kernel)
set_option maxRecDepth 65536 in
theorem w_c14 : (Jvm.Cond.code ({ cls := "com/example/composition/composition/definition/ObjectFormatOfTypePinLaw", name := "expect", desc := "([CI)Lcom/example/composition/composition/definition/ObjectFormat;" } : Jvm.MethodName) method_4_code (6 : Nat) (Option.some (Jvm.ClassFile.FieldType.object "com/example/composition/composition/definition/ObjectFormat"))).before args0 about1 = true := code_word (m := ⟨1, 3⟩) (meth := k1m3) (c := k1c3) (by decide +kernel) rfl rfl rfl (by decide +kernel)
set_option maxRecDepth 65536 in
theorem w_c15 : (Jvm.Cond.code ({ cls := "com/example/composition/composition/definition/ObjectFormat", name := "ofType", desc := "(Ljava/lang/String;)Ljava/util/Optional;" } : Jvm.MethodName) prog_14_method_7_code (5 : Nat) (Option.some (Jvm.ClassFile.FieldType.object "java/util/Optional"))).before args0 about1 = true := code_word (m := ⟨12, 1⟩) (meth := k12m1) (c := k12c1) (by decide +kernel) rfl rfl rfl (by decide +kernel)
set_option maxRecDepth 65536 in
theorem w_c16 : (Jvm.Cond.code ({ cls := "com/example/composition/composition/definition/ObjectFormat", name := "values", desc := "()[Lcom/example/composition/composition/definition/ObjectFormat;" } : Jvm.MethodName) prog_14_method_1_code (0 : Nat) (Option.some (Jvm.ClassFile.FieldType.array (Jvm.ClassFile.FieldType.object "com/example/composition/composition/definition/ObjectFormat")))).before args0 about1 = true := code_word (m := ⟨12, 0⟩) (meth := k12m0) (c := k12c0) (by decide +kernel) rfl rfl rfl (by decide +kernel)
set_option maxRecDepth 65536 in
theorem w_c17 : (Jvm.Cond.code ({ cls := "java/lang/String", name := "equals", desc := "(Ljava/lang/Object;)Z" } : Jvm.MethodName) jdk_42_method_66_code (3 : Nat) (Option.some Jvm.ClassFile.FieldType.boolean)).before args0 about1 = true := code_word (m := ⟨7, 3⟩) (meth := k7m3) (c := k7c3) (by decide +kernel) rfl rfl rfl (by decide +kernel)
set_option maxRecDepth 65536 in
theorem w_c18 : (Jvm.Cond.code ({ cls := "java/lang/StringLatin1", name := "equals", desc := "([B[B)Z" } : Jvm.MethodName) jdk_43_method_13_code (3 : Nat) (Option.some Jvm.ClassFile.FieldType.boolean)).before args0 about1 = true := code_word (m := ⟨8, 2⟩) (meth := k8m2) (c := k8c2) (by decide +kernel) rfl rfl rfl (by decide +kernel)
set_option maxRecDepth 65536 in
theorem w_c19 : (Jvm.Cond.code ({ cls := "java/util/Optional", name := "empty", desc := "()Ljava/util/Optional;" } : Jvm.MethodName) jdk_32_method_1_code (1 : Nat) (Option.some (Jvm.ClassFile.FieldType.object "java/util/Optional"))).before args0 about1 = true := code_word (m := ⟨14, 0⟩) (meth := k14m0) (c := k14c0) (by decide +kernel) rfl rfl rfl (by decide +kernel)
set_option maxRecDepth 65536 in
theorem w_c20 : (Jvm.Cond.code ({ cls := "java/util/Optional", name := "orElse", desc := "(Ljava/lang/Object;)Ljava/lang/Object;" } : Jvm.MethodName) jdk_32_method_15_code (2 : Nat) (Option.some (Jvm.ClassFile.FieldType.object "java/lang/Object"))).before args0 about1 = true := code_word (m := ⟨14, 3⟩) (meth := k14m3) (c := k14c3) (by decide +kernel) rfl rfl rfl (by decide +kernel)
set_option maxRecDepth 65536 in
theorem w_c21 : (Jvm.Cond.code ({ cls := "java/util/Optional", name := "of", desc := "(Ljava/lang/Object;)Ljava/util/Optional;" } : Jvm.MethodName) jdk_32_method_3_code (1 : Nat) (Option.some (Jvm.ClassFile.FieldType.object "java/util/Optional"))).before args0 about1 = true := code_word (m := ⟨14, 2⟩) (meth := k14m2) (c := k14c2) (by decide +kernel) rfl rfl rfl (by decide +kernel)
set_option maxRecDepth 65536 in
theorem w_c22 : (Jvm.Cond.code ({ cls := "java/util/Objects", name := "requireNonNull", desc := "(Ljava/lang/Object;)Ljava/lang/Object;" } : Jvm.MethodName) jdk_31_method_10_code (1 : Nat) (Option.some (Jvm.ClassFile.FieldType.object "java/lang/Object"))).before args0 about1 = true := code_word (m := ⟨15, 1⟩) (meth := k15m1) (c := k15c1) (by decide +kernel) rfl rfl rfl (by decide +kernel)
set_option maxRecDepth 65536 in
theorem w_c23 : (Jvm.Cond.code ({ cls := "java/util/Optional", name := "<init>", desc := "(Ljava/lang/Object;)V" } : Jvm.MethodName) jdk_32_method_2_code (2 : Nat) (Option.none : Option Jvm.ClassFile.FieldType)).before args0 about1 = true := code_word (m := ⟨14, 1⟩) (meth := k14m1) (c := k14c1) (by decide +kernel) rfl rfl rfl (by decide +kernel)
def codes1 : List Jvm.Cond := [Jvm.Cond.code x code maxLocals ret, Jvm.Cond.code ({ cls := "com/example/composition/composition/definition/ObjectFormatOfTypePinLaw", name := "lit", desc := "(I)Ljava/lang/String;" } : Jvm.MethodName) method_2_code (1 : Nat) (Option.some (Jvm.ClassFile.FieldType.object "java/lang/String")), Jvm.Cond.code ({ cls := "java/lang/String", name := "charAt", desc := "(I)C" } : Jvm.MethodName) jdk_42_method_56_code (2 : Nat) (Option.some Jvm.ClassFile.FieldType.char), Jvm.Cond.code ({ cls := "java/lang/String", name := "isLatin1", desc := "()Z" } : Jvm.MethodName) jdk_42_method_154_code (1 : Nat) (Option.some Jvm.ClassFile.FieldType.boolean), Jvm.Cond.code ({ cls := "java/lang/StringLatin1", name := "charAt", desc := "([BI)C" } : Jvm.MethodName) jdk_43_method_2_code (2 : Nat) (Option.some Jvm.ClassFile.FieldType.char), Jvm.Cond.code ({ cls := "java/lang/String", name := "checkIndex", desc := "(II)V" } : Jvm.MethodName) jdk_42_method_155_code (2 : Nat) (Option.none : Option Jvm.ClassFile.FieldType), Jvm.Cond.code ({ cls := "jdk/internal/util/Preconditions", name := "checkIndex", desc := "(IILjava/util/function/BiFunction;)I" } : Jvm.MethodName) jdk_41_method_11_code (3 : Nat) (Option.some Jvm.ClassFile.FieldType.int), Jvm.Cond.code ({ cls := "com/example/composition/composition/definition/ObjectFormatOfTypePinLaw", name := "make", desc := "([CI)Ljava/lang/String;" } : Jvm.MethodName) method_3_code (2 : Nat) (Option.some (Jvm.ClassFile.FieldType.object "java/lang/String")), Jvm.Cond.code ({ cls := "java/lang/String", name := "<init>", desc := "([C)V" } : Jvm.MethodName) jdk_42_method_3_code (2 : Nat) (Option.none : Option Jvm.ClassFile.FieldType), Jvm.Cond.code ({ cls := "java/lang/String", name := "<init>", desc := "([CIILjava/lang/Void;)V" } : Jvm.MethodName) jdk_42_method_149_code (6 : Nat) (Option.none : Option Jvm.ClassFile.FieldType), Jvm.Cond.code ({ cls := "java/lang/Object", name := "<init>", desc := "()V" } : Jvm.MethodName) object_method_1_code (1 : Nat) (Option.none : Option Jvm.ClassFile.FieldType), Jvm.Cond.code ({ cls := "java/lang/StringUTF16", name := "compress", desc := "([CII)[B" } : Jvm.MethodName) jdk_52_method_16_code (6 : Nat) (Option.some (Jvm.ClassFile.FieldType.array Jvm.ClassFile.FieldType.byte)), Jvm.Cond.code ({ cls := "java/lang/StringUTF16", name := "compress", desc := "([CI[BII)I" } : Jvm.MethodName) jdk_52_method_21_code (7 : Nat) (Option.some Jvm.ClassFile.FieldType.int), Jvm.Cond.code ({ cls := "java/lang/StringUTF16", name := "coderFromArrayLen", desc := "([BI)B" } : Jvm.MethodName) jdk_52_method_15_code (2 : Nat) (Option.some Jvm.ClassFile.FieldType.byte), Jvm.Cond.code ({ cls := "com/example/composition/composition/definition/ObjectFormatOfTypePinLaw", name := "expect", desc := "([CI)Lcom/example/composition/composition/definition/ObjectFormat;" } : Jvm.MethodName) method_4_code (6 : Nat) (Option.some (Jvm.ClassFile.FieldType.object "com/example/composition/composition/definition/ObjectFormat")), Jvm.Cond.code ({ cls := "com/example/composition/composition/definition/ObjectFormat", name := "ofType", desc := "(Ljava/lang/String;)Ljava/util/Optional;" } : Jvm.MethodName) prog_14_method_7_code (5 : Nat) (Option.some (Jvm.ClassFile.FieldType.object "java/util/Optional")), Jvm.Cond.code ({ cls := "com/example/composition/composition/definition/ObjectFormat", name := "values", desc := "()[Lcom/example/composition/composition/definition/ObjectFormat;" } : Jvm.MethodName) prog_14_method_1_code (0 : Nat) (Option.some (Jvm.ClassFile.FieldType.array (Jvm.ClassFile.FieldType.object "com/example/composition/composition/definition/ObjectFormat"))), Jvm.Cond.code ({ cls := "java/lang/String", name := "equals", desc := "(Ljava/lang/Object;)Z" } : Jvm.MethodName) jdk_42_method_66_code (3 : Nat) (Option.some Jvm.ClassFile.FieldType.boolean), Jvm.Cond.code ({ cls := "java/lang/StringLatin1", name := "equals", desc := "([B[B)Z" } : Jvm.MethodName) jdk_43_method_13_code (3 : Nat) (Option.some Jvm.ClassFile.FieldType.boolean), Jvm.Cond.code ({ cls := "java/util/Optional", name := "empty", desc := "()Ljava/util/Optional;" } : Jvm.MethodName) jdk_32_method_1_code (1 : Nat) (Option.some (Jvm.ClassFile.FieldType.object "java/util/Optional")), Jvm.Cond.code ({ cls := "java/util/Optional", name := "orElse", desc := "(Ljava/lang/Object;)Ljava/lang/Object;" } : Jvm.MethodName) jdk_32_method_15_code (2 : Nat) (Option.some (Jvm.ClassFile.FieldType.object "java/lang/Object")), Jvm.Cond.code ({ cls := "java/util/Optional", name := "of", desc := "(Ljava/lang/Object;)Ljava/util/Optional;" } : Jvm.MethodName) jdk_32_method_3_code (1 : Nat) (Option.some (Jvm.ClassFile.FieldType.object "java/util/Optional")), Jvm.Cond.code ({ cls := "java/util/Objects", name := "requireNonNull", desc := "(Ljava/lang/Object;)Ljava/lang/Object;" } : Jvm.MethodName) jdk_31_method_10_code (1 : Nat) (Option.some (Jvm.ClassFile.FieldType.object "java/lang/Object")), Jvm.Cond.code ({ cls := "java/util/Optional", name := "<init>", desc := "(Ljava/lang/Object;)V" } : Jvm.MethodName) jdk_32_method_2_code (2 : Nat) (Option.none : Option Jvm.ClassFile.FieldType)]
set_option maxRecDepth 65536 in
theorem codes_eq : words1.filter isCode = codes1 := rfl
theorem w_codes : ∀ c ∈ words1.filter isCode, c.before args0 about1 = true := by
  rw [codes_eq]
  intro c hc
  simp only [codes1, List.mem_cons, List.not_mem_nil, or_false] at hc
  rcases hc with rfl | rfl | rfl | rfl | rfl | rfl | rfl | rfl | rfl | rfl | rfl | rfl | rfl | rfl | rfl | rfl | rfl | rfl | rfl | rfl | rfl | rfl | rfl | rfl
  · exact w_c0
  · exact w_c1
  · exact w_c2
  · exact w_c3
  · exact w_c4
  · exact w_c5
  · exact w_c6
  · exact w_c7
  · exact w_c8
  · exact w_c9
  · exact w_c10
  · exact w_c11
  · exact w_c12
  · exact w_c13
  · exact w_c14
  · exact w_c15
  · exact w_c16
  · exact w_c17
  · exact w_c18
  · exact w_c19
  · exact w_c20
  · exact w_c21
  · exact w_c22
  · exact w_c23
set_option maxRecDepth 65536 in
theorem w_t1 : (words1.take 24).all (fun c => isCode c || c.before args0 about1) = true := by decide +kernel
set_option maxRecDepth 65536 in
theorem w_t2 : ((words1.drop 24).take 24).all (fun c => isCode c || c.before args0 about1) = true := by decide +kernel
set_option maxRecDepth 65536 in
theorem w_t3 : (((words1.drop 24).drop 24).take 24).all (fun c => isCode c || c.before args0 about1) = true := by decide +kernel
set_option maxRecDepth 65536 in
theorem w_t4 : ((((words1.drop 24).drop 24).drop 24).take 24).all (fun c => isCode c || c.before args0 about1) = true := by decide +kernel
set_option maxRecDepth 65536 in
theorem w_t5 : (((((words1.drop 24).drop 24).drop 24).drop 24).take 24).all (fun c => isCode c || c.before args0 about1) = true := by decide +kernel
set_option maxRecDepth 65536 in
theorem w_t6 : (((((words1.drop 24).drop 24).drop 24).drop 24).drop 24).all (fun c => isCode c || c.before args0 about1) = true := by decide +kernel
theorem w_tables : (allAtoms (Jvm.Cond.code x code maxLocals ret :: tables_1)).before args0 about1 = true := by
  rw [allAtoms_all]
  show words1.all (fun c => c.before args0 about1) = true
  refine all_split ?_ w_codes
  rw [← List.take_append_drop 24 words1, List.all_append, w_t1, ← List.take_append_drop 24 (words1.drop 24), List.all_append, w_t2, ← List.take_append_drop 24 ((words1.drop 24).drop 24), List.all_append, w_t3, ← List.take_append_drop 24 (((words1.drop 24).drop 24).drop 24), List.all_append, w_t4, ← List.take_append_drop 24 ((((words1.drop 24).drop 24).drop 24).drop 24), List.all_append, w_t5, w_t6]
  rfl
set_option maxRecDepth 65536 in
theorem w_rest : rest_1_c.before args0 about1 = true := by decide +kernel
set_option maxRecDepth 65536 in
theorem w_case : (Jvm.Cond.and given_1 narrow_1).before args0 about1 = true := by decide +kernel
set_option maxRecDepth 65536 in
theorem w_consts : constsHeld consts_1 about1 := Jvm.Lit.constsHeldB_iff.mp (by decide +kernel)
theorem w_applies : (headSpec (Jvm.Cond.code x code maxLocals ret :: tables_1) room_1).applies x e0.platform about1 = true :=
  (Spec.applies_iff w_frames).mpr ⟨w_running, w_runnable, w_alone, w_named, w_hears, w_ripe, w_room, w_tables⟩
theorem atStart : AtStart classFile x code maxLocals ret World_1 tables_1 room_1 Calls_1 rest_1 Pre_1 launch0 p0 e0 about1 theMethod args0 below0 :=
  ⟨lists_1, trivial, launch0.admits_env _ _ _, launch0.least_env, fairChoices_fair.cas, fairChoices_fair.clock, w_frames, w_args, w_heap, w_applies, ⟨w_consts, trivial⟩, w_rest, w_case⟩
end start1
theorem witness_1 : WitnessClaimed_1 := ⟨start1.p0, start1.e0, start1.about1, start1.theMethod, start1.args0, start1.below0, start1.atStart⟩
end Jvm.Pilot.@@N@@
