import JvmDerived
import JvmDerived.Pilot.@@N@@Statement
import JvmDerived.Pilot.@@N@@Code
set_option linter.unusedVariables false
set_option linter.unusedSimpArgs false
namespace Jvm.RoadKit
open Sem ClassFile Op Lib Jvm.Stand Jvm.Free Jvm.LawKit
section New
variable {p : Program} {l : Launch} {e : Env} {R : Room} {s : State} {m : MethodId} {args : Array Value} {below : List Frame} {meth : Method} {c : Code} {T : State} {locs : List Loc} {cells slots : Nat}
theorem retI (X : Stand p l e R s m args below meth c T locs cells slots) (hx : p.tables.exec = Jvm.exec) {pc : Nat} {Ls : Array Slot} {z : Int32} {rest : List Value} (hret : meth.sig.returnType = some .int) (hd : decode c.code pc = .ok (.ireturn, 1)) {fs : List Frame}
    (hl : ∀ (f : JFrame) (acts : List Action), f.method = m → f.locked = none → f.entered = [] → (doReturn e (T.setTop f) acts (some (.int z))).1 = T.setFrames fs) : Steps p.tables e below (T.setTop (mkF m pc Ls (.int z :: rest))) (T.setFrames fs) := by
  have hm' : T.vm.method? m = some meth := X.method'
  have hn : narrow .int (.int z) = .int z := rfl
  show Steps p.tables e below (T.setTop { method := m, pc := pc, locals := Ls, stack := _ :: rest, locked := none }) _
  jvm_step X.here [X.here.top, hx, hd, hm', hret, hn]
  first | (intro acts; rw [hl _ acts rfl rfl rfl]) | rw [hl _ _ rfl rfl rfl]
  exact Steps.refl _
theorem own_retJ (X : Stand p l e R s m args below meth c T locs cells slots) (hx : p.tables.exec = Jvm.exec) {pc : Nat} {Ls : Array Slot} {z : Int64} {rest : List Value} (hret : meth.sig.returnType = some .long) (hd : decode c.code pc = .ok (.lreturn, 1)) {fs : List Frame}
    (hl : ∀ (f : JFrame) (acts : List Action), f.method = m → f.locked = none → f.entered = [] → (doReturn e (T.setTop f) acts (some (.long z))).1 = T.setFrames fs) : Steps p.tables e below (T.setTop (mkF m pc Ls (.long z :: rest))) (T.setFrames fs) := by
  have hm' : T.vm.method? m = some meth := X.method'
  have hn : narrow .long (.long z) = .long z := rfl
  show Steps p.tables e below (T.setTop { method := m, pc := pc, locals := Ls, stack := _ :: rest, locked := none }) _
  jvm_step X.here [X.here.top, hx, hd, hm', hret, hn]
  first | (intro acts; rw [hl _ acts rfl rfl rfl]) | rw [hl _ _ rfl rfl rfl]
  exact Steps.refl _
theorem own_retD (X : Stand p l e R s m args below meth c T locs cells slots) (hx : p.tables.exec = Jvm.exec) {pc : Nat} {Ls : Array Slot} {z : UInt64} {rest : List Value} (hret : meth.sig.returnType = some .double) (hd : decode c.code pc = .ok (.dreturn, 1)) {fs : List Frame}
    (hl : ∀ (f : JFrame) (acts : List Action), f.method = m → f.locked = none → f.entered = [] → (doReturn e (T.setTop f) acts (some (.double z))).1 = T.setFrames fs) : Steps p.tables e below (T.setTop (mkF m pc Ls (.double z :: rest))) (T.setFrames fs) := by
  have hm' : T.vm.method? m = some meth := X.method'
  have hn : narrow .double (.double z) = .double z := rfl
  show Steps p.tables e below (T.setTop { method := m, pc := pc, locals := Ls, stack := _ :: rest, locked := none }) _
  jvm_step X.here [X.here.top, hx, hd, hm', hret, hn]
  first | (intro acts; rw [hl _ acts rfl rfl rfl]) | rw [hl _ _ rfl rfl rfl]
  exact Steps.refl _
theorem own_retR (X : Stand p l e R s m args below meth c T locs cells slots) (hx : p.tables.exec = Jvm.exec) {pc : Nat} {Ls : Array Slot} {w : Value} {t : FieldType} {rest : List Value} (hret : meth.sig.returnType = some t) (ht : t.isReference = true) (hw : w.isRef = true) (hd : decode c.code pc = .ok (.areturn, 1)) {fs : List Frame}
    (hl : ∀ (f : JFrame) (acts : List Action), f.method = m → f.locked = none → f.entered = [] → (doReturn e (T.setTop f) acts (some w)).1 = T.setFrames fs) : Steps p.tables e below (T.setTop (mkF m pc Ls (w :: rest))) (T.setFrames fs) := by
  have hm' : T.vm.method? m = some meth := X.method'
  rcases ref_cases hw with rfl | ⟨a, rfl⟩
  all_goals
    show Steps p.tables e below (T.setTop { method := m, pc := pc, locals := Ls, stack := _ :: rest, locked := none }) _
    jvm_step X.here [X.here.top, hx, hd, hm', hret, ht, Value.isRef]
    first | (intro acts; rw [hl _ acts rfl rfl rfl]) | rw [hl _ _ rfl rfl rfl]
    exact Steps.refl _
end New
end Jvm.RoadKit
namespace Jvm.Pilot.@@N@@
open Jvm Jvm.ClassFile Sem Op Lib Jvm.Free Jvm.Stand Jvm.LawKit Jvm.RoadKit Bundle Jvm.Pilot.@@N@@.Jvm.D
abbrev SS (p : Program) (e : Env) (below : List Frame) (T : State) (m : MethodId) (pc : Nat) (ls : Array Slot) (st : List Value) (t : State) : Prop := Steps p.tables e below (T.setTop (mkF m pc ls st)) t
theorem own_bool {P : Prop} [Decidable P] : nar .boolean (if P then (1 : Int32) else (0 : Int32)) = if P then (1 : Int32) else (0 : Int32) := by split <;> decide
abbrev HW (a0 : Array Value) (Z : State) : Prop := ∀ d ∈ tables_1, d.before a0 Z = true
section
variable {a0 : Array Value} {Z : State}
theorem mw (hw : HW a0 Z) {d : Jvm.Cond} (i : Nat) (h : tables_1[i]? = some d) : d.before a0 Z = true := hw d (List.mem_of_getElem? h)
theorem w0 (hw : HW a0 Z) : (Jvm.Cond.constant "com/example/composition/composition/definition/AbapLanguageVersionOfJsonNamePinLaw" (19 : Nat) (2147483647 : Int32)).before a0 Z = true := mw hw 0 rfl
theorem w1 (hw : HW a0 Z) : (Jvm.Cond.constant "com/example/composition/composition/definition/AbapLanguageVersionOfJsonNamePinLaw" (20 : Nat) (16777215 : Int32)).before a0 Z = true := mw hw 1 rfl
theorem w2 (hw : HW a0 Z) : (Jvm.Cond.classLink "com/example/composition/composition/definition/AbapLanguageVersionOfJsonNamePinLaw" (21 : Nat) "java/lang/String").before a0 Z = true := mw hw 2 rfl
theorem w3 (hw : HW a0 Z) : (Jvm.Cond.instantiable "java/lang/String" (4 : Nat)).before a0 Z = true := mw hw 3 rfl
theorem w4 (hw : HW a0 Z) : (Jvm.Cond.initialized "java/lang/String").before a0 Z = true := mw hw 4 rfl
theorem w5 (hw : HW a0 Z) : (Jvm.Cond.methodLink "com/example/composition/composition/definition/AbapLanguageVersionOfJsonNamePinLaw" (23 : Nat) ({ cls := "com/example/composition/composition/definition/AbapLanguageVersionOfJsonNamePinLaw", name := "full", desc := "(I)[C" } : Jvm.MethodName)).before a0 Z = true := mw hw 5 rfl
theorem w6 (hw : HW a0 Z) : (Jvm.Cond.static ({ cls := "com/example/composition/composition/definition/AbapLanguageVersionOfJsonNamePinLaw", name := "full", desc := "(I)[C" } : Jvm.MethodName)).before a0 Z = true := mw hw 6 rfl
theorem w7 (hw : HW a0 Z) : (Jvm.Cond.initialized "com/example/composition/composition/definition/AbapLanguageVersionOfJsonNamePinLaw").before a0 Z = true := mw hw 7 rfl
theorem w8 (hw : HW a0 Z) : (Jvm.Cond.code ({ cls := "com/example/composition/composition/definition/AbapLanguageVersionOfJsonNamePinLaw", name := "full", desc := "(I)[C" } : Jvm.MethodName) method_2_code (1 : Nat) (Option.some (Jvm.ClassFile.FieldType.array Jvm.ClassFile.FieldType.char))).before a0 Z = true := mw hw 8 rfl
theorem w9 (hw : HW a0 Z) : (Jvm.Cond.arrayClass Jvm.ClassFile.FieldType.char).before a0 Z = true := mw hw 9 rfl
theorem w10 (hw : HW a0 Z) : (Jvm.Cond.methodLink "com/example/composition/composition/definition/AbapLanguageVersionOfJsonNamePinLaw" (29 : Nat) ({ cls := "java/lang/String", name := "<init>", desc := "([C)V" } : Jvm.MethodName)).before a0 Z = true := mw hw 10 rfl
theorem w11 (hw : HW a0 Z) : (Jvm.Cond.instanceMethod ({ cls := "java/lang/String", name := "<init>", desc := "([C)V" } : Jvm.MethodName)).before a0 Z = true := mw hw 11 rfl
theorem w12 (hw : HW a0 Z) : (Jvm.Cond.code ({ cls := "java/lang/String", name := "<init>", desc := "([C)V" } : Jvm.MethodName) jdk_42_method_3_code (2 : Nat) (Option.none : Option Jvm.ClassFile.FieldType)).before a0 Z = true := mw hw 12 rfl
theorem w13 (hw : HW a0 Z) : (Jvm.Cond.methodLink "java/lang/String" (27 : Nat) ({ cls := "java/lang/String", name := "<init>", desc := "([CIILjava/lang/Void;)V" } : Jvm.MethodName)).before a0 Z = true := mw hw 13 rfl
theorem w14 (hw : HW a0 Z) : (Jvm.Cond.instanceMethod ({ cls := "java/lang/String", name := "<init>", desc := "([CIILjava/lang/Void;)V" } : Jvm.MethodName)).before a0 Z = true := mw hw 14 rfl
theorem w16 (hw : HW a0 Z) : (Jvm.Cond.code ({ cls := "java/lang/String", name := "<init>", desc := "([CIILjava/lang/Void;)V" } : Jvm.MethodName) jdk_42_method_149_code (6 : Nat) (Option.none : Option Jvm.ClassFile.FieldType)).before a0 Z = true := mw hw 16 rfl
theorem w17 (hw : HW a0 Z) : (Jvm.Cond.methodLink "java/lang/String" (1 : Nat) ({ cls := "java/lang/Object", name := "<init>", desc := "()V" } : Jvm.MethodName)).before a0 Z = true := mw hw 17 rfl
theorem w18 (hw : HW a0 Z) : (Jvm.Cond.instanceMethod ({ cls := "java/lang/Object", name := "<init>", desc := "()V" } : Jvm.MethodName)).before a0 Z = true := mw hw 18 rfl
theorem w19 (hw : HW a0 Z) : (Jvm.Cond.code ({ cls := "java/lang/Object", name := "<init>", desc := "()V" } : Jvm.MethodName) object_method_1_code (1 : Nat) (Option.none : Option Jvm.ClassFile.FieldType)).before a0 Z = true := mw hw 19 rfl
theorem w20 (hw : HW a0 Z) : (Jvm.Cond.fieldLink "java/lang/String" (38 : Nat) "java/lang/String" "COMPACT_STRINGS" "Z").before a0 Z = true := mw hw 20 rfl
theorem w21 (hw : HW a0 Z) : (Jvm.Cond.methodLink "java/lang/String" (177 : Nat) ({ cls := "java/lang/StringUTF16", name := "compress", desc := "([CII)[B" } : Jvm.MethodName)).before a0 Z = true := mw hw 21 rfl
theorem w22 (hw : HW a0 Z) : (Jvm.Cond.static ({ cls := "java/lang/StringUTF16", name := "compress", desc := "([CII)[B" } : Jvm.MethodName)).before a0 Z = true := mw hw 22 rfl
theorem w23 (hw : HW a0 Z) : (Jvm.Cond.initialized "java/lang/StringUTF16").before a0 Z = true := mw hw 23 rfl
theorem w24 (hw : HW a0 Z) : (Jvm.Cond.code ({ cls := "java/lang/StringUTF16", name := "compress", desc := "([CII)[B" } : Jvm.MethodName) jdk_52_method_16_code (6 : Nat) (Option.some (Jvm.ClassFile.FieldType.array Jvm.ClassFile.FieldType.byte))).before a0 Z = true := mw hw 24 rfl
theorem w25 (hw : HW a0 Z) : (Jvm.Cond.arrayClass Jvm.ClassFile.FieldType.byte).before a0 Z = true := mw hw 25 rfl
theorem w26 (hw : HW a0 Z) : (Jvm.Cond.methodLink "java/lang/StringUTF16" (115 : Nat) ({ cls := "java/lang/StringUTF16", name := "compress", desc := "([CI[BII)I" } : Jvm.MethodName)).before a0 Z = true := mw hw 26 rfl
theorem w27 (hw : HW a0 Z) : (Jvm.Cond.static ({ cls := "java/lang/StringUTF16", name := "compress", desc := "([CI[BII)I" } : Jvm.MethodName)).before a0 Z = true := mw hw 27 rfl
theorem w28 (hw : HW a0 Z) : (Jvm.Cond.code ({ cls := "java/lang/StringUTF16", name := "compress", desc := "([CI[BII)I" } : Jvm.MethodName) jdk_52_method_21_code (7 : Nat) (Option.some Jvm.ClassFile.FieldType.int)).before a0 Z = true := mw hw 28 rfl
theorem w29 (hw : HW a0 Z) : (Jvm.Cond.methodLink "java/lang/String" (47 : Nat) ({ cls := "java/lang/StringUTF16", name := "coderFromArrayLen", desc := "([BI)B" } : Jvm.MethodName)).before a0 Z = true := mw hw 29 rfl
theorem w30 (hw : HW a0 Z) : (Jvm.Cond.static ({ cls := "java/lang/StringUTF16", name := "coderFromArrayLen", desc := "([BI)B" } : Jvm.MethodName)).before a0 Z = true := mw hw 30 rfl
theorem w31 (hw : HW a0 Z) : (Jvm.Cond.code ({ cls := "java/lang/StringUTF16", name := "coderFromArrayLen", desc := "([BI)B" } : Jvm.MethodName) jdk_52_method_15_code (2 : Nat) (Option.some Jvm.ClassFile.FieldType.byte)).before a0 Z = true := mw hw 31 rfl
theorem w32 (hw : HW a0 Z) : (Jvm.Cond.fieldLink "java/lang/String" (15 : Nat) "java/lang/String" "coder" "B").before a0 Z = true := mw hw 32 rfl
theorem w33 (hw : HW a0 Z) : (Jvm.Cond.laysFinal "java/lang/String" "java/lang/String" "coder" "B").before a0 Z = true := mw hw 33 rfl
theorem w34 (hw : HW a0 Z) : (Jvm.Cond.fieldLink "java/lang/String" (9 : Nat) "java/lang/String" "value" "[B").before a0 Z = true := mw hw 34 rfl
theorem w35 (hw : HW a0 Z) : (Jvm.Cond.laysFinal "java/lang/String" "java/lang/String" "value" "[B").before a0 Z = true := mw hw 35 rfl
theorem w36 (hw : HW a0 Z) : (Jvm.Cond.methodLink "com/example/composition/composition/definition/AbapLanguageVersionOfJsonNamePinLaw" (43 : Nat) ({ cls := "com/example/composition/composition/definition/AbapLanguageVersion", name := "ofJsonName", desc := "(Ljava/lang/String;)Ljava/util/Optional;" } : Jvm.MethodName)).before a0 Z = true := mw hw 36 rfl
theorem w37 (hw : HW a0 Z) : (Jvm.Cond.static ({ cls := "com/example/composition/composition/definition/AbapLanguageVersion", name := "ofJsonName", desc := "(Ljava/lang/String;)Ljava/util/Optional;" } : Jvm.MethodName)).before a0 Z = true := mw hw 37 rfl
theorem w38 (hw : HW a0 Z) : (Jvm.Cond.initialized "com/example/composition/composition/definition/AbapLanguageVersion").before a0 Z = true := mw hw 38 rfl
theorem w39 (hw : HW a0 Z) : (Jvm.Cond.code ({ cls := "com/example/composition/composition/definition/AbapLanguageVersion", name := "ofJsonName", desc := "(Ljava/lang/String;)Ljava/util/Optional;" } : Jvm.MethodName) prog_11_method_6_code (5 : Nat) (Option.some (Jvm.ClassFile.FieldType.object "java/util/Optional"))).before a0 Z = true := mw hw 39 rfl
theorem w40 (hw : HW a0 Z) : (Jvm.Cond.methodLink "com/example/composition/composition/definition/AbapLanguageVersion" (36 : Nat) ({ cls := "com/example/composition/composition/definition/AbapLanguageVersion", name := "values", desc := "()[Lcom/example/composition/composition/definition/AbapLanguageVersion;" } : Jvm.MethodName)).before a0 Z = true := mw hw 40 rfl
theorem w41 (hw : HW a0 Z) : (Jvm.Cond.static ({ cls := "com/example/composition/composition/definition/AbapLanguageVersion", name := "values", desc := "()[Lcom/example/composition/composition/definition/AbapLanguageVersion;" } : Jvm.MethodName)).before a0 Z = true := mw hw 41 rfl
theorem w42 (hw : HW a0 Z) : (Jvm.Cond.code ({ cls := "com/example/composition/composition/definition/AbapLanguageVersion", name := "values", desc := "()[Lcom/example/composition/composition/definition/AbapLanguageVersion;" } : Jvm.MethodName) prog_11_method_1_code (0 : Nat) (Option.some (Jvm.ClassFile.FieldType.array (Jvm.ClassFile.FieldType.object "com/example/composition/composition/definition/AbapLanguageVersion")))).before a0 Z = true := mw hw 42 rfl
theorem w43 (hw : HW a0 Z) : (Jvm.Cond.fieldLink "com/example/composition/composition/definition/AbapLanguageVersion" (13 : Nat) "com/example/composition/composition/definition/AbapLanguageVersion" "$VALUES" "[Lcom/example/composition/composition/definition/AbapLanguageVersion;").before a0 Z = true := mw hw 43 rfl
theorem w45 (hw : HW a0 Z) : (Jvm.Cond.methodLink "com/example/composition/composition/definition/AbapLanguageVersion" (17 : Nat) ({ cls := "[Lcom/example/composition/composition/definition/AbapLanguageVersion;", name := "clone", desc := "()Ljava/lang/Object;" } : Jvm.MethodName)).before a0 Z = true := mw hw 45 rfl
theorem w46 (hw : HW a0 Z) : (Jvm.Cond.sameMethod "[Lcom/example/composition/composition/definition/AbapLanguageVersion;" "java/lang/Object" "clone" "()Ljava/lang/Object;").before a0 Z = true := mw hw 46 rfl
theorem w48 (hw : HW a0 Z) : (Jvm.Cond.instanceMethod ({ cls := "java/lang/Object", name := "clone", desc := "()Ljava/lang/Object;" } : Jvm.MethodName)).before a0 Z = true := mw hw 48 rfl
theorem w49 (hw : HW a0 Z) : (Jvm.Cond.selects "[Lcom/example/composition/composition/definition/AbapLanguageVersion;" ({ cls := "[Lcom/example/composition/composition/definition/AbapLanguageVersion;", name := "clone", desc := "()Ljava/lang/Object;" } : Jvm.MethodName) ({ cls := "java/lang/Object", name := "clone", desc := "()Ljava/lang/Object;" } : Jvm.MethodName)).before a0 Z = true := mw hw 49 rfl
theorem w50 (hw : HW a0 Z) : (Jvm.Cond.native ({ cls := "java/lang/Object", name := "clone", desc := "()Ljava/lang/Object;" } : Jvm.MethodName)).before a0 Z = true := mw hw 50 rfl
theorem w51 (hw : HW a0 Z) : (Jvm.Cond.castable "[Lcom/example/composition/composition/definition/AbapLanguageVersion;" "java/lang/Cloneable").before a0 Z = true := mw hw 51 rfl
theorem w52 (hw : HW a0 Z) : (Jvm.Cond.laysStatic "com/example/composition/composition/definition/AbapLanguageVersion" "STANDARD" "Lcom/example/composition/composition/definition/AbapLanguageVersion;").before a0 Z = true := mw hw 52 rfl
theorem w53 (hw : HW a0 Z) : (Jvm.Cond.laysStatic "com/example/composition/composition/definition/AbapLanguageVersion" "KEY_USER" "Lcom/example/composition/composition/definition/AbapLanguageVersion;").before a0 Z = true := mw hw 53 rfl
theorem w54 (hw : HW a0 Z) : (Jvm.Cond.laysStatic "com/example/composition/composition/definition/AbapLanguageVersion" "CLOUD_DEVELOPMENT" "Lcom/example/composition/composition/definition/AbapLanguageVersion;").before a0 Z = true := mw hw 54 rfl
theorem w55 (hw : HW a0 Z) : (Jvm.Cond.initializedFor "com/example/composition/composition/definition/AbapLanguageVersion" "$VALUES" "[Lcom/example/composition/composition/definition/AbapLanguageVersion;").before a0 Z = true := mw hw 55 rfl
theorem w56 (hw : HW a0 Z) : (Jvm.Cond.classLink "com/example/composition/composition/definition/AbapLanguageVersion" (18 : Nat) "[Lcom/example/composition/composition/definition/AbapLanguageVersion;").before a0 Z = true := mw hw 56 rfl
theorem w58 (hw : HW a0 Z) : (Jvm.Cond.fieldLink "com/example/composition/composition/definition/AbapLanguageVersion" (32 : Nat) "com/example/composition/composition/definition/AbapLanguageVersion" "jsonName" "Ljava/lang/String;").before a0 Z = true := mw hw 58 rfl
theorem w60 (hw : HW a0 Z) : (Jvm.Cond.methodLink "com/example/composition/composition/definition/AbapLanguageVersion" (60 : Nat) ({ cls := "java/lang/String", name := "equals", desc := "(Ljava/lang/Object;)Z" } : Jvm.MethodName)).before a0 Z = true := mw hw 60 rfl
theorem w61 (hw : HW a0 Z) : (Jvm.Cond.declares ({ cls := "java/lang/String", name := "equals", desc := "(Ljava/lang/Object;)Z" } : Jvm.MethodName)).before a0 Z = true := mw hw 61 rfl
theorem w62 (hw : HW a0 Z) : (Jvm.Cond.instanceMethod ({ cls := "java/lang/String", name := "equals", desc := "(Ljava/lang/Object;)Z" } : Jvm.MethodName)).before a0 Z = true := mw hw 62 rfl
theorem w63 (hw : HW a0 Z) : (Jvm.Cond.selects "java/lang/String" ({ cls := "java/lang/String", name := "equals", desc := "(Ljava/lang/Object;)Z" } : Jvm.MethodName) ({ cls := "java/lang/String", name := "equals", desc := "(Ljava/lang/Object;)Z" } : Jvm.MethodName)).before a0 Z = true := mw hw 63 rfl
theorem w64 (hw : HW a0 Z) : (Jvm.Cond.code ({ cls := "java/lang/String", name := "equals", desc := "(Ljava/lang/Object;)Z" } : Jvm.MethodName) jdk_42_method_66_code (3 : Nat) (Option.some Jvm.ClassFile.FieldType.boolean)).before a0 Z = true := mw hw 64 rfl
theorem w65 (hw : HW a0 Z) : (Jvm.Cond.classLink "java/lang/String" (10 : Nat) "java/lang/String").before a0 Z = true := mw hw 65 rfl
theorem w66 (hw : HW a0 Z) : (Jvm.Cond.methodLink "java/lang/String" (541 : Nat) ({ cls := "java/lang/StringLatin1", name := "equals", desc := "([B[B)Z" } : Jvm.MethodName)).before a0 Z = true := mw hw 66 rfl
theorem w67 (hw : HW a0 Z) : (Jvm.Cond.static ({ cls := "java/lang/StringLatin1", name := "equals", desc := "([B[B)Z" } : Jvm.MethodName)).before a0 Z = true := mw hw 67 rfl
theorem w68 (hw : HW a0 Z) : (Jvm.Cond.initialized "java/lang/StringLatin1").before a0 Z = true := mw hw 68 rfl
theorem w69 (hw : HW a0 Z) : (Jvm.Cond.code ({ cls := "java/lang/StringLatin1", name := "equals", desc := "([B[B)Z" } : Jvm.MethodName) jdk_43_method_13_code (3 : Nat) (Option.some Jvm.ClassFile.FieldType.boolean)).before a0 Z = true := mw hw 69 rfl
theorem w70 (hw : HW a0 Z) : (Jvm.Cond.methodLink "com/example/composition/composition/definition/AbapLanguageVersion" (66 : Nat) ({ cls := "java/util/Optional", name := "of", desc := "(Ljava/lang/Object;)Ljava/util/Optional;" } : Jvm.MethodName)).before a0 Z = true := mw hw 70 rfl
theorem w71 (hw : HW a0 Z) : (Jvm.Cond.static ({ cls := "java/util/Optional", name := "of", desc := "(Ljava/lang/Object;)Ljava/util/Optional;" } : Jvm.MethodName)).before a0 Z = true := mw hw 71 rfl
theorem w72 (hw : HW a0 Z) : (Jvm.Cond.initialized "java/util/Optional").before a0 Z = true := mw hw 72 rfl
theorem w73 (hw : HW a0 Z) : (Jvm.Cond.code ({ cls := "java/util/Optional", name := "of", desc := "(Ljava/lang/Object;)Ljava/util/Optional;" } : Jvm.MethodName) jdk_32_method_3_code (1 : Nat) (Option.some (Jvm.ClassFile.FieldType.object "java/util/Optional"))).before a0 Z = true := mw hw 73 rfl
theorem w74 (hw : HW a0 Z) : (Jvm.Cond.classLink "java/util/Optional" (2 : Nat) "java/util/Optional").before a0 Z = true := mw hw 74 rfl
theorem w75 (hw : HW a0 Z) : (Jvm.Cond.instantiable "java/util/Optional" (1 : Nat)).before a0 Z = true := mw hw 75 rfl
theorem w76 (hw : HW a0 Z) : (Jvm.Cond.methodLink "java/util/Optional" (17 : Nat) ({ cls := "java/util/Objects", name := "requireNonNull", desc := "(Ljava/lang/Object;)Ljava/lang/Object;" } : Jvm.MethodName)).before a0 Z = true := mw hw 76 rfl
theorem w77 (hw : HW a0 Z) : (Jvm.Cond.static ({ cls := "java/util/Objects", name := "requireNonNull", desc := "(Ljava/lang/Object;)Ljava/lang/Object;" } : Jvm.MethodName)).before a0 Z = true := mw hw 77 rfl
theorem w78 (hw : HW a0 Z) : (Jvm.Cond.initialized "java/util/Objects").before a0 Z = true := mw hw 78 rfl
theorem w79 (hw : HW a0 Z) : (Jvm.Cond.code ({ cls := "java/util/Objects", name := "requireNonNull", desc := "(Ljava/lang/Object;)Ljava/lang/Object;" } : Jvm.MethodName) jdk_31_method_10_code (1 : Nat) (Option.some (Jvm.ClassFile.FieldType.object "java/lang/Object"))).before a0 Z = true := mw hw 79 rfl
theorem w80 (hw : HW a0 Z) : (Jvm.Cond.methodLink "java/util/Optional" (23 : Nat) ({ cls := "java/util/Optional", name := "<init>", desc := "(Ljava/lang/Object;)V" } : Jvm.MethodName)).before a0 Z = true := mw hw 80 rfl
theorem w81 (hw : HW a0 Z) : (Jvm.Cond.instanceMethod ({ cls := "java/util/Optional", name := "<init>", desc := "(Ljava/lang/Object;)V" } : Jvm.MethodName)).before a0 Z = true := mw hw 81 rfl
theorem w83 (hw : HW a0 Z) : (Jvm.Cond.code ({ cls := "java/util/Optional", name := "<init>", desc := "(Ljava/lang/Object;)V" } : Jvm.MethodName) jdk_32_method_2_code (2 : Nat) (Option.none : Option Jvm.ClassFile.FieldType)).before a0 Z = true := mw hw 83 rfl
theorem w84 (hw : HW a0 Z) : (Jvm.Cond.methodLink "java/util/Optional" (7 : Nat) ({ cls := "java/lang/Object", name := "<init>", desc := "()V" } : Jvm.MethodName)).before a0 Z = true := mw hw 84 rfl
theorem w85 (hw : HW a0 Z) : (Jvm.Cond.fieldLink "java/util/Optional" (13 : Nat) "java/util/Optional" "value" "Ljava/lang/Object;").before a0 Z = true := mw hw 85 rfl
theorem w86 (hw : HW a0 Z) : (Jvm.Cond.laysFinal "java/util/Optional" "java/util/Optional" "value" "Ljava/lang/Object;").before a0 Z = true := mw hw 86 rfl
theorem w87 (hw : HW a0 Z) : (Jvm.Cond.methodLink "com/example/composition/composition/definition/AbapLanguageVersionOfJsonNamePinLaw" (47 : Nat) ({ cls := "java/util/Optional", name := "isPresent", desc := "()Z" } : Jvm.MethodName)).before a0 Z = true := mw hw 87 rfl
theorem w88 (hw : HW a0 Z) : (Jvm.Cond.declares ({ cls := "java/util/Optional", name := "isPresent", desc := "()Z" } : Jvm.MethodName)).before a0 Z = true := mw hw 88 rfl
theorem w89 (hw : HW a0 Z) : (Jvm.Cond.instanceMethod ({ cls := "java/util/Optional", name := "isPresent", desc := "()Z" } : Jvm.MethodName)).before a0 Z = true := mw hw 89 rfl
theorem w90 (hw : HW a0 Z) : (Jvm.Cond.selects "java/util/Optional" ({ cls := "java/util/Optional", name := "isPresent", desc := "()Z" } : Jvm.MethodName) ({ cls := "java/util/Optional", name := "isPresent", desc := "()Z" } : Jvm.MethodName)).before a0 Z = true := mw hw 90 rfl
theorem w91 (hw : HW a0 Z) : (Jvm.Cond.code ({ cls := "java/util/Optional", name := "isPresent", desc := "()Z" } : Jvm.MethodName) jdk_32_method_6_code (1 : Nat) (Option.some Jvm.ClassFile.FieldType.boolean)).before a0 Z = true := mw hw 91 rfl
theorem w92 (hw : HW a0 Z) : (Jvm.Cond.methodLink "com/example/composition/composition/definition/AbapLanguageVersionOfJsonNamePinLaw" (53 : Nat) ({ cls := "java/util/Optional", name := "get", desc := "()Ljava/lang/Object;" } : Jvm.MethodName)).before a0 Z = true := mw hw 92 rfl
theorem w93 (hw : HW a0 Z) : (Jvm.Cond.declares ({ cls := "java/util/Optional", name := "get", desc := "()Ljava/lang/Object;" } : Jvm.MethodName)).before a0 Z = true := mw hw 93 rfl
theorem w94 (hw : HW a0 Z) : (Jvm.Cond.instanceMethod ({ cls := "java/util/Optional", name := "get", desc := "()Ljava/lang/Object;" } : Jvm.MethodName)).before a0 Z = true := mw hw 94 rfl
theorem w95 (hw : HW a0 Z) : (Jvm.Cond.selects "java/util/Optional" ({ cls := "java/util/Optional", name := "get", desc := "()Ljava/lang/Object;" } : Jvm.MethodName) ({ cls := "java/util/Optional", name := "get", desc := "()Ljava/lang/Object;" } : Jvm.MethodName)).before a0 Z = true := mw hw 95 rfl
theorem w96 (hw : HW a0 Z) : (Jvm.Cond.code ({ cls := "java/util/Optional", name := "get", desc := "()Ljava/lang/Object;" } : Jvm.MethodName) jdk_32_method_5_code (1 : Nat) (Option.some (Jvm.ClassFile.FieldType.object "java/lang/Object"))).before a0 Z = true := mw hw 96 rfl
theorem w97 (hw : HW a0 Z) : (Jvm.Cond.methodLink "com/example/composition/composition/definition/AbapLanguageVersionOfJsonNamePinLaw" (57 : Nat) ({ cls := "com/example/composition/composition/definition/AbapLanguageVersionOfJsonNamePinLaw", name := "constant", desc := "(I)Lcom/example/composition/composition/definition/AbapLanguageVersion;" } : Jvm.MethodName)).before a0 Z = true := mw hw 97 rfl
theorem w98 (hw : HW a0 Z) : (Jvm.Cond.static ({ cls := "com/example/composition/composition/definition/AbapLanguageVersionOfJsonNamePinLaw", name := "constant", desc := "(I)Lcom/example/composition/composition/definition/AbapLanguageVersion;" } : Jvm.MethodName)).before a0 Z = true := mw hw 98 rfl
theorem w99 (hw : HW a0 Z) : (Jvm.Cond.code ({ cls := "com/example/composition/composition/definition/AbapLanguageVersionOfJsonNamePinLaw", name := "constant", desc := "(I)Lcom/example/composition/composition/definition/AbapLanguageVersion;" } : Jvm.MethodName) method_5_code (1 : Nat) (Option.some (Jvm.ClassFile.FieldType.object "com/example/composition/composition/definition/AbapLanguageVersion"))).before a0 Z = true := mw hw 99 rfl
theorem w100 (hw : HW a0 Z) : (Jvm.Cond.fieldLink "com/example/composition/composition/definition/AbapLanguageVersionOfJsonNamePinLaw" (7 : Nat) "com/example/composition/composition/definition/AbapLanguageVersion" "STANDARD" "Lcom/example/composition/composition/definition/AbapLanguageVersion;").before a0 Z = true := mw hw 100 rfl
theorem w101 (hw : HW a0 Z) : (Jvm.Cond.fieldLink "com/example/composition/composition/definition/AbapLanguageVersionOfJsonNamePinLaw" (13 : Nat) "com/example/composition/composition/definition/AbapLanguageVersion" "KEY_USER" "Lcom/example/composition/composition/definition/AbapLanguageVersion;").before a0 Z = true := mw hw 101 rfl
theorem w102 (hw : HW a0 Z) : (Jvm.Cond.methodLink "com/example/composition/composition/definition/AbapLanguageVersionOfJsonNamePinLaw" (35 : Nat) ({ cls := "com/example/composition/composition/definition/AbapLanguageVersionOfJsonNamePinLaw", name := "extended", desc := "(IC)[C" } : Jvm.MethodName)).before a0 Z = true := mw hw 102 rfl
theorem w103 (hw : HW a0 Z) : (Jvm.Cond.static ({ cls := "com/example/composition/composition/definition/AbapLanguageVersionOfJsonNamePinLaw", name := "extended", desc := "(IC)[C" } : Jvm.MethodName)).before a0 Z = true := mw hw 103 rfl
theorem w104 (hw : HW a0 Z) : (Jvm.Cond.code ({ cls := "com/example/composition/composition/definition/AbapLanguageVersionOfJsonNamePinLaw", name := "extended", desc := "(IC)[C" } : Jvm.MethodName) method_4_code (2 : Nat) (Option.some (Jvm.ClassFile.FieldType.array Jvm.ClassFile.FieldType.char))).before a0 Z = true := mw hw 104 rfl
theorem w105 (hw : HW a0 Z) : (Jvm.Cond.methodLink "com/example/composition/composition/definition/AbapLanguageVersion" (72 : Nat) ({ cls := "java/util/Optional", name := "empty", desc := "()Ljava/util/Optional;" } : Jvm.MethodName)).before a0 Z = true := mw hw 105 rfl
theorem w106 (hw : HW a0 Z) : (Jvm.Cond.static ({ cls := "java/util/Optional", name := "empty", desc := "()Ljava/util/Optional;" } : Jvm.MethodName)).before a0 Z = true := mw hw 106 rfl
theorem w107 (hw : HW a0 Z) : (Jvm.Cond.code ({ cls := "java/util/Optional", name := "empty", desc := "()Ljava/util/Optional;" } : Jvm.MethodName) jdk_32_method_1_code (1 : Nat) (Option.some (Jvm.ClassFile.FieldType.object "java/util/Optional"))).before a0 Z = true := mw hw 107 rfl
theorem w108 (hw : HW a0 Z) : (Jvm.Cond.fieldLink "java/util/Optional" (1 : Nat) "java/util/Optional" "EMPTY" "Ljava/util/Optional;").before a0 Z = true := mw hw 108 rfl
theorem w109 (hw : HW a0 Z) : (Jvm.Cond.fieldLink "com/example/composition/composition/definition/AbapLanguageVersionOfJsonNamePinLaw" (16 : Nat) "com/example/composition/composition/definition/AbapLanguageVersion" "CLOUD_DEVELOPMENT" "Lcom/example/composition/composition/definition/AbapLanguageVersion;").before a0 Z = true := mw hw 109 rfl
theorem w110 (hw : HW a0 Z) : (Jvm.Cond.methodLink "com/example/composition/composition/definition/AbapLanguageVersionOfJsonNamePinLaw" (32 : Nat) ({ cls := "com/example/composition/composition/definition/AbapLanguageVersionOfJsonNamePinLaw", name := "prefix", desc := "(I)[C" } : Jvm.MethodName)).before a0 Z = true := mw hw 110 rfl
theorem w111 (hw : HW a0 Z) : (Jvm.Cond.static ({ cls := "com/example/composition/composition/definition/AbapLanguageVersionOfJsonNamePinLaw", name := "prefix", desc := "(I)[C" } : Jvm.MethodName)).before a0 Z = true := mw hw 111 rfl
theorem w112 (hw : HW a0 Z) : (Jvm.Cond.code ({ cls := "com/example/composition/composition/definition/AbapLanguageVersionOfJsonNamePinLaw", name := "prefix", desc := "(I)[C" } : Jvm.MethodName) method_3_code (1 : Nat) (Option.some (Jvm.ClassFile.FieldType.array Jvm.ClassFile.FieldType.char))).before a0 Z = true := mw hw 112 rfl
theorem w113 (hw : HW a0 Z) : (Jvm.Cond.stringLink "java/lang/String" (7 : Nat) "").before a0 Z = true := mw hw 113 rfl
theorem w114 (hw : HW a0 Z) : (Jvm.Cond.soleField "java/lang/String" "value").before a0 Z = true := mw hw 114 rfl
theorem w115 (hw : HW a0 Z) : (Jvm.Cond.soleField "java/lang/String" "coder").before a0 Z = true := mw hw 115 rfl
theorem w116 (hw : HW a0 Z) : (Jvm.Cond.methodLink "com/example/composition/composition/definition/AbapLanguageVersionOfJsonNamePinLaw" (39 : Nat) ({ cls := "java/lang/String", name := "valueOf", desc := "(C)Ljava/lang/String;" } : Jvm.MethodName)).before a0 Z = true := mw hw 116 rfl
theorem w117 (hw : HW a0 Z) : (Jvm.Cond.static ({ cls := "java/lang/String", name := "valueOf", desc := "(C)Ljava/lang/String;" } : Jvm.MethodName)).before a0 Z = true := mw hw 117 rfl
theorem w118 (hw : HW a0 Z) : (Jvm.Cond.code ({ cls := "java/lang/String", name := "valueOf", desc := "(C)Ljava/lang/String;" } : Jvm.MethodName) jdk_42_method_139_code (1 : Nat) (Option.some (Jvm.ClassFile.FieldType.object "java/lang/String"))).before a0 Z = true := mw hw 118 rfl
theorem w119 (hw : HW a0 Z) : (Jvm.Cond.methodLink "java/lang/String" (1015 : Nat) ({ cls := "java/lang/StringLatin1", name := "canEncode", desc := "(C)Z" } : Jvm.MethodName)).before a0 Z = true := mw hw 119 rfl
theorem w120 (hw : HW a0 Z) : (Jvm.Cond.static ({ cls := "java/lang/StringLatin1", name := "canEncode", desc := "(C)Z" } : Jvm.MethodName)).before a0 Z = true := mw hw 120 rfl
theorem w121 (hw : HW a0 Z) : (Jvm.Cond.code ({ cls := "java/lang/StringLatin1", name := "canEncode", desc := "(C)Z" } : Jvm.MethodName) jdk_43_method_3_code (1 : Nat) (Option.some Jvm.ClassFile.FieldType.boolean)).before a0 Z = true := mw hw 121 rfl
theorem w122 (hw : HW a0 Z) : (Jvm.Cond.methodLink "java/lang/String" (1018 : Nat) ({ cls := "java/lang/StringLatin1", name := "toBytes", desc := "(C)[B" } : Jvm.MethodName)).before a0 Z = true := mw hw 122 rfl
theorem w123 (hw : HW a0 Z) : (Jvm.Cond.static ({ cls := "java/lang/StringLatin1", name := "toBytes", desc := "(C)[B" } : Jvm.MethodName)).before a0 Z = true := mw hw 123 rfl
theorem w124 (hw : HW a0 Z) : (Jvm.Cond.code ({ cls := "java/lang/StringLatin1", name := "toBytes", desc := "(C)[B" } : Jvm.MethodName) jdk_43_method_46_code (1 : Nat) (Option.some (Jvm.ClassFile.FieldType.array Jvm.ClassFile.FieldType.byte))).before a0 Z = true := mw hw 124 rfl
theorem w125 (hw : HW a0 Z) : (Jvm.Cond.methodLink "java/lang/String" (209 : Nat) ({ cls := "java/lang/String", name := "<init>", desc := "([BB)V" } : Jvm.MethodName)).before a0 Z = true := mw hw 125 rfl
theorem w126 (hw : HW a0 Z) : (Jvm.Cond.instanceMethod ({ cls := "java/lang/String", name := "<init>", desc := "([BB)V" } : Jvm.MethodName)).before a0 Z = true := mw hw 126 rfl
theorem w127 (hw : HW a0 Z) : (Jvm.Cond.code ({ cls := "java/lang/String", name := "<init>", desc := "([BB)V" } : Jvm.MethodName) jdk_42_method_151_code (3 : Nat) (Option.none : Option Jvm.ClassFile.FieldType)).before a0 Z = true := mw hw 127 rfl
end
theorem d_jdk_52_method_21_3 : decode jdk_52_method_21_code 3 = .ok (.iload 5, 2) := by decide +kernel
theorem d_jdk_52_method_21_5 : decode jdk_52_method_21_code 5 = .ok (.iload 4, 2) := by decide +kernel
theorem d_jdk_52_method_21_7 : decode jdk_52_method_21_code 7 = .ok (.if_icmp .ge 37, 3) := by decide +kernel
theorem d_jdk_52_method_21_44 : decode jdk_52_method_21_code 44 = .ok (.iload 4, 2) := by decide +kernel
theorem d_jdk_52_method_21_46 : decode jdk_52_method_21_code 46 = .ok (.ireturn, 1) := by decide +kernel
theorem d_jdk_52_method_21_10 : decode jdk_52_method_21_code 10 = .ok (.aload_n 0, 1) := by decide +kernel
theorem d_jdk_52_method_21_11 : decode jdk_52_method_21_code 11 = .ok (.iload_n 1, 1) := by decide +kernel
theorem d_jdk_52_method_21_12 : decode jdk_52_method_21_code 12 = .ok (.caload, 1) := by decide +kernel
theorem d_jdk_52_method_21_13 : decode jdk_52_method_21_code 13 = .ok (.istore 6, 2) := by decide +kernel
theorem d_jdk_52_method_21_15 : decode jdk_52_method_21_code 15 = .ok (.iload 6, 2) := by decide +kernel
theorem d_jdk_52_method_21_17 : decode jdk_52_method_21_code 17 = .ok (.sipush 255, 3) := by decide +kernel
theorem d_jdk_52_method_21_20 : decode jdk_52_method_21_code 20 = .ok (.if_icmp .le 6, 3) := by decide +kernel
theorem d_jdk_52_method_21_23 : decode jdk_52_method_21_code 23 = .ok (.iload 5, 2) := by decide +kernel
theorem d_jdk_52_method_21_25 : decode jdk_52_method_21_code 25 = .ok (.ireturn, 1) := by decide +kernel
theorem d_jdk_52_method_21_26 : decode jdk_52_method_21_code 26 = .ok (.aload_n 2, 1) := by decide +kernel
theorem d_jdk_52_method_21_27 : decode jdk_52_method_21_code 27 = .ok (.iload_n 3, 1) := by decide +kernel
theorem d_jdk_52_method_21_28 : decode jdk_52_method_21_code 28 = .ok (.iload 6, 2) := by decide +kernel
theorem d_jdk_52_method_21_30 : decode jdk_52_method_21_code 30 = .ok (.i2b, 1) := by decide +kernel
theorem d_jdk_52_method_21_31 : decode jdk_52_method_21_code 31 = .ok (.bastore, 1) := by decide +kernel
theorem d_jdk_52_method_21_32 : decode jdk_52_method_21_code 32 = .ok (.iinc 1 1, 3) := by decide +kernel
theorem d_jdk_52_method_21_35 : decode jdk_52_method_21_code 35 = .ok (.iinc 3 1, 3) := by decide +kernel
theorem d_jdk_52_method_21_38 : decode jdk_52_method_21_code 38 = .ok (.iinc 5 1, 3) := by decide +kernel
theorem d_jdk_52_method_21_41 : decode jdk_52_method_21_code 41 = .ok (.goto (-38), 3) := by decide +kernel
theorem ef_compress21 (m : MethodId) (x0 : Addr) (x1 : Int32) (x2 : Addr) (x3 : Int32) (x4 : Int32) : entryFrame m #[(.ref x0), (.int x3), (.ref x2), (.int x3), (.int x4)] 7 = mkF m 0 #[.val (.ref x0), .val (.int x3), .val (.ref x2), .val (.int x3), .val (.int x4), .unset, .unset] [] := by first | (simp [entryFrame, mkF, argsToLocals, Value.category]; done) | rfl
theorem pn_java_lang_StringUTF16 : plainName "java/lang/StringUTF16" = true := by first | (simp [plainName, overriddenIn]; done) | decide +kernel
theorem d_jdk_52_method_21_0 : decode jdk_52_method_21_code 0 = .ok (.iconst 0, 1) := by decide +kernel
theorem d_jdk_52_method_21_1 : decode jdk_52_method_21_code 1 = .ok (.istore 5, 2) := by decide +kernel
abbrev yn0 : MethodName := ⟨"java/lang/StringUTF16", "compress", "([CI[BII)I"⟩
theorem ef_coderOf (m : MethodId) (x0 : Addr) (x1 : Int32) : entryFrame m #[(.ref x0), (.int x1)] 2 = mkF m 0 #[.val (.ref x0), .val (.int x1)] [] := by first | (simp [entryFrame, mkF, argsToLocals, Value.category]; done) | rfl
theorem d_jdk_52_method_15_0 : decode jdk_52_method_15_code 0 = .ok (.iload_n 1, 1) := by decide +kernel
theorem d_jdk_52_method_15_1 : decode jdk_52_method_15_code 1 = .ok (.aload_n 0, 1) := by decide +kernel
theorem d_jdk_52_method_15_2 : decode jdk_52_method_15_code 2 = .ok (.arraylength, 1) := by decide +kernel
theorem d_jdk_52_method_15_3 : decode jdk_52_method_15_code 3 = .ok (.isub, 1) := by decide +kernel
theorem d_jdk_52_method_15_4 : decode jdk_52_method_15_code 4 = .ok (.bipush 31, 2) := by decide +kernel
theorem d_jdk_52_method_15_6 : decode jdk_52_method_15_code 6 = .ok (.iushr, 1) := by decide +kernel
theorem d_jdk_52_method_15_7 : decode jdk_52_method_15_code 7 = .ok (.i2b, 1) := by decide +kernel
theorem d_jdk_52_method_15_8 : decode jdk_52_method_15_code 8 = .ok (.ireturn, 1) := by decide +kernel
abbrev yn1 : MethodName := ⟨"java/lang/StringUTF16", "coderFromArrayLen", "([BI)B"⟩
theorem ef_compress16 (m : MethodId) (x0 : Addr) (x1 : Int32) (x2 : Int32) : entryFrame m #[(.ref x0), (.int x1), (.int x2)] 6 = mkF m 0 #[.val (.ref x0), .val (.int x1), .val (.int x2), .unset, .unset, .unset] [] := by first | (simp [entryFrame, mkF, argsToLocals, Value.category]; done) | rfl
theorem d_jdk_52_method_16_0 : decode jdk_52_method_16_code 0 = .ok (.iload_n 2, 1) := by decide +kernel
theorem d_jdk_52_method_16_1 : decode jdk_52_method_16_code 1 = .ok (.newarray .byte, 2) := by decide +kernel
theorem d_jdk_52_method_16_3 : decode jdk_52_method_16_code 3 = .ok (.astore_n 3, 1) := by decide +kernel
theorem d_jdk_52_method_16_4 : decode jdk_52_method_16_code 4 = .ok (.aload_n 0, 1) := by decide +kernel
theorem d_jdk_52_method_16_5 : decode jdk_52_method_16_code 5 = .ok (.iload_n 1, 1) := by decide +kernel
theorem d_jdk_52_method_16_6 : decode jdk_52_method_16_code 6 = .ok (.aload_n 3, 1) := by decide +kernel
theorem d_jdk_52_method_16_7 : decode jdk_52_method_16_code 7 = .ok (.iconst 0, 1) := by decide +kernel
theorem d_jdk_52_method_16_8 : decode jdk_52_method_16_code 8 = .ok (.iload_n 2, 1) := by decide +kernel
theorem d_jdk_52_method_16_9 : decode jdk_52_method_16_code 9 = .ok (.invokestatic 115, 3) := by decide +kernel
theorem pd__28__5b_CI_5b_BII_29_I : parseMethodDescriptor "([CI[BII)I" = some ⟨[(.array .char), .int, (.array .byte), .int, .int], some .int⟩ := by decide +kernel
theorem d_jdk_52_method_16_12 : decode jdk_52_method_16_code 12 = .ok (.istore 4, 2) := by decide +kernel
theorem d_jdk_52_method_16_14 : decode jdk_52_method_16_code 14 = .ok (.iload 4, 2) := by decide +kernel
theorem d_jdk_52_method_16_16 : decode jdk_52_method_16_code 16 = .ok (.iload_n 2, 1) := by decide +kernel
theorem d_jdk_52_method_16_17 : decode jdk_52_method_16_code 17 = .ok (.if_icmp .eq 40, 3) := by decide +kernel
theorem d_jdk_52_method_16_57 : decode jdk_52_method_16_code 57 = .ok (.aload_n 3, 1) := by decide +kernel
theorem d_jdk_52_method_16_58 : decode jdk_52_method_16_code 58 = .ok (.areturn, 1) := by decide +kernel
abbrev yn2 : MethodName := ⟨"java/lang/StringUTF16", "compress", "([CII)[B"⟩
theorem ef_sinitV (m : MethodId) (x0 : Addr) (x1 : Addr) (x2 : Int32) (x3 : Int32) : entryFrame m #[(.ref x0), (.ref x1), (.int x2), (.int x3), .null] 6 = mkF m 0 #[.val (.ref x0), .val (.ref x1), .val (.int x2), .val (.int x3), .val .null, .unset] [] := by first | (simp [entryFrame, mkF, argsToLocals, Value.category]; done) | rfl
theorem pn_java_lang_String : plainName "java/lang/String" = true := by first | (simp [plainName, overriddenIn]; done) | decide +kernel
theorem d_jdk_42_method_149_0 : decode jdk_42_method_149_code 0 = .ok (.aload_n 0, 1) := by decide +kernel
theorem d_jdk_42_method_149_1 : decode jdk_42_method_149_code 1 = .ok (.invokespecial 1, 3) := by decide +kernel
theorem d_jdk_42_method_149_4 : decode jdk_42_method_149_code 4 = .ok (.iload_n 3, 1) := by decide +kernel
theorem d_jdk_42_method_149_5 : decode jdk_42_method_149_code 5 = .ok (.ifCond .ne 22, 3) := by decide +kernel
theorem d_jdk_42_method_149_27 : decode jdk_42_method_149_code 27 = .ok (.getstatic 38, 3) := by decide +kernel
theorem d_jdk_42_method_149_30 : decode jdk_42_method_149_code 30 = .ok (.ifCond .eq 28, 3) := by decide +kernel
theorem d_jdk_42_method_149_33 : decode jdk_42_method_149_code 33 = .ok (.aload_n 1, 1) := by decide +kernel
theorem d_jdk_42_method_149_34 : decode jdk_42_method_149_code 34 = .ok (.iload_n 2, 1) := by decide +kernel
theorem d_jdk_42_method_149_35 : decode jdk_42_method_149_code 35 = .ok (.iload_n 3, 1) := by decide +kernel
theorem d_jdk_42_method_149_36 : decode jdk_42_method_149_code 36 = .ok (.invokestatic 177, 3) := by decide +kernel
theorem pd__28__5b_CII_29__5b_B : parseMethodDescriptor "([CII)[B" = some ⟨[(.array .char), .int, .int], some (.array .byte)⟩ := by decide +kernel
theorem d_jdk_42_method_149_39 : decode jdk_42_method_149_code 39 = .ok (.astore 5, 2) := by decide +kernel
theorem d_jdk_42_method_149_41 : decode jdk_42_method_149_code 41 = .ok (.aload_n 0, 1) := by decide +kernel
theorem d_jdk_42_method_149_42 : decode jdk_42_method_149_code 42 = .ok (.aload 5, 2) := by decide +kernel
theorem d_jdk_42_method_149_44 : decode jdk_42_method_149_code 44 = .ok (.iload_n 3, 1) := by decide +kernel
theorem d_jdk_42_method_149_45 : decode jdk_42_method_149_code 45 = .ok (.invokestatic 47, 3) := by decide +kernel
theorem pd__28__5b_BI_29_B : parseMethodDescriptor "([BI)B" = some ⟨[(.array .byte), .int], some .byte⟩ := by decide +kernel
theorem d_jdk_42_method_149_48 : decode jdk_42_method_149_code 48 = .ok (.putfield 15, 3) := by decide +kernel
theorem d_jdk_42_method_149_51 : decode jdk_42_method_149_code 51 = .ok (.aload_n 0, 1) := by decide +kernel
theorem d_jdk_42_method_149_52 : decode jdk_42_method_149_code 52 = .ok (.aload 5, 2) := by decide +kernel
theorem d_jdk_42_method_149_54 : decode jdk_42_method_149_code 54 = .ok (.putfield 9, 3) := by decide +kernel
theorem d_jdk_42_method_149_57 : decode jdk_42_method_149_code 57 = .ok (.return_, 1) := by decide +kernel
abbrev yn3 : MethodName := ⟨"java/lang/String", "<init>", "([CIILjava/lang/Void;)V"⟩
theorem ef_sinit (m : MethodId) (x0 : Addr) (x1 : Addr) : entryFrame m #[(.ref x0), (.ref x1)] 2 = mkF m 0 #[.val (.ref x0), .val (.ref x1)] [] := by first | (simp [entryFrame, mkF, argsToLocals, Value.category]; done) | rfl
theorem d_jdk_42_method_3_0 : decode jdk_42_method_3_code 0 = .ok (.aload_n 0, 1) := by decide +kernel
theorem d_jdk_42_method_3_1 : decode jdk_42_method_3_code 1 = .ok (.aload_n 1, 1) := by decide +kernel
theorem d_jdk_42_method_3_2 : decode jdk_42_method_3_code 2 = .ok (.iconst 0, 1) := by decide +kernel
theorem d_jdk_42_method_3_3 : decode jdk_42_method_3_code 3 = .ok (.aload_n 1, 1) := by decide +kernel
theorem d_jdk_42_method_3_4 : decode jdk_42_method_3_code 4 = .ok (.arraylength, 1) := by decide +kernel
theorem d_jdk_42_method_3_5 : decode jdk_42_method_3_code 5 = .ok (.aconst_null, 1) := by decide +kernel
theorem d_jdk_42_method_3_6 : decode jdk_42_method_3_code 6 = .ok (.invokespecial 27, 3) := by decide +kernel
theorem pd__28__5b_CIILjava_2f_lang_2f_Void_3b__29_V : parseMethodDescriptor "([CIILjava/lang/Void;)V" = some ⟨[(.array .char), .int, .int, (.object "java/lang/Void")], none⟩ := by decide +kernel
theorem d_jdk_42_method_3_9 : decode jdk_42_method_3_code 9 = .ok (.return_, 1) := by decide +kernel
abbrev yn4 : MethodName := ⟨"java/lang/String", "<init>", "([C)V"⟩
theorem ef_sinitV0 (m : MethodId) (x0 : Addr) (x1 : Addr) (x2 : Int32) (x3 : Int32) : entryFrame m #[(.ref x0), (.ref x1), (.int x3), (.int x3), .null] 6 = mkF m 0 #[.val (.ref x0), .val (.ref x1), .val (.int x3), .val (.int x3), .val .null, .unset] [] := by first | (simp [entryFrame, mkF, argsToLocals, Value.category]; done) | rfl
theorem d_jdk_42_method_149_8 : decode jdk_42_method_149_code 8 = .ok (.aload_n 0, 1) := by decide +kernel
theorem d_jdk_42_method_149_9 : decode jdk_42_method_149_code 9 = .ok (.ldc 7, 2) := by decide +kernel
theorem d_jdk_42_method_149_11 : decode jdk_42_method_149_code 11 = .ok (.getfield 9, 3) := by decide +kernel
theorem d_jdk_42_method_149_14 : decode jdk_42_method_149_code 14 = .ok (.putfield 9, 3) := by decide +kernel
theorem d_jdk_42_method_149_17 : decode jdk_42_method_149_code 17 = .ok (.aload_n 0, 1) := by decide +kernel
theorem d_jdk_42_method_149_18 : decode jdk_42_method_149_code 18 = .ok (.ldc 7, 2) := by decide +kernel
theorem d_jdk_42_method_149_20 : decode jdk_42_method_149_code 20 = .ok (.getfield 15, 3) := by decide +kernel
theorem d_jdk_42_method_149_23 : decode jdk_42_method_149_code 23 = .ok (.putfield 15, 3) := by decide +kernel
theorem d_jdk_42_method_149_26 : decode jdk_42_method_149_code 26 = .ok (.return_, 1) := by decide +kernel
theorem ef_sinit0 (m : MethodId) (x0 : Addr) (x1 : Addr) : entryFrame m #[(.ref x0), (.ref x1)] 2 = mkF m 0 #[.val (.ref x0), .val (.ref x1)] [] := by first | (simp [entryFrame, mkF, argsToLocals, Value.category]; done) | rfl
theorem ef_sinitB (m : MethodId) (x0 : Addr) (x1 : Addr) (x2 : Int32) : entryFrame m #[(.ref x0), (.ref x1), (.int x2)] 3 = mkF m 0 #[.val (.ref x0), .val (.ref x1), .val (.int x2)] [] := by first | (simp [entryFrame, mkF, argsToLocals, Value.category]; done) | rfl
theorem d_jdk_42_method_151_0 : decode jdk_42_method_151_code 0 = .ok (.aload_n 0, 1) := by decide +kernel
theorem d_jdk_42_method_151_1 : decode jdk_42_method_151_code 1 = .ok (.invokespecial 1, 3) := by decide +kernel
theorem d_jdk_42_method_151_4 : decode jdk_42_method_151_code 4 = .ok (.aload_n 0, 1) := by decide +kernel
theorem d_jdk_42_method_151_5 : decode jdk_42_method_151_code 5 = .ok (.aload_n 1, 1) := by decide +kernel
theorem d_jdk_42_method_151_6 : decode jdk_42_method_151_code 6 = .ok (.putfield 9, 3) := by decide +kernel
theorem d_jdk_42_method_151_9 : decode jdk_42_method_151_code 9 = .ok (.aload_n 0, 1) := by decide +kernel
theorem d_jdk_42_method_151_10 : decode jdk_42_method_151_code 10 = .ok (.iload_n 2, 1) := by decide +kernel
theorem d_jdk_42_method_151_11 : decode jdk_42_method_151_code 11 = .ok (.putfield 15, 3) := by decide +kernel
theorem d_jdk_42_method_151_14 : decode jdk_42_method_151_code 14 = .ok (.return_, 1) := by decide +kernel
abbrev yn5 : MethodName := ⟨"java/lang/String", "<init>", "([BB)V"⟩
theorem ef_canEncode (m : MethodId) (x0 : Int32) : entryFrame m #[(.int x0)] 1 = mkF m 0 #[.val (.int x0)] [] := by first | (simp [entryFrame, mkF, argsToLocals, Value.category]; done) | rfl
theorem pn_java_lang_StringLatin1 : plainName "java/lang/StringLatin1" = true := by first | (simp [plainName, overriddenIn]; done) | decide +kernel
theorem d_jdk_43_method_3_0 : decode jdk_43_method_3_code 0 = .ok (.iload_n 0, 1) := by decide +kernel
theorem d_jdk_43_method_3_1 : decode jdk_43_method_3_code 1 = .ok (.sipush 255, 3) := by decide +kernel
theorem d_jdk_43_method_3_4 : decode jdk_43_method_3_code 4 = .ok (.if_icmp .gt 7, 3) := by decide +kernel
theorem d_jdk_43_method_3_7 : decode jdk_43_method_3_code 7 = .ok (.iconst 1, 1) := by decide +kernel
theorem d_jdk_43_method_3_8 : decode jdk_43_method_3_code 8 = .ok (.goto 4, 3) := by decide +kernel
theorem d_jdk_43_method_3_12 : decode jdk_43_method_3_code 12 = .ok (.ireturn, 1) := by decide +kernel
abbrev yn6 : MethodName := ⟨"java/lang/StringLatin1", "canEncode", "(C)Z"⟩
theorem ef_toBytesC (m : MethodId) (x0 : Int32) : entryFrame m #[(.int x0)] 1 = mkF m 0 #[.val (.int x0)] [] := by first | (simp [entryFrame, mkF, argsToLocals, Value.category]; done) | rfl
theorem d_jdk_43_method_46_0 : decode jdk_43_method_46_code 0 = .ok (.iconst 1, 1) := by decide +kernel
theorem d_jdk_43_method_46_1 : decode jdk_43_method_46_code 1 = .ok (.newarray .byte, 2) := by decide +kernel
theorem d_jdk_43_method_46_3 : decode jdk_43_method_46_code 3 = .ok (.dup, 1) := by decide +kernel
theorem d_jdk_43_method_46_4 : decode jdk_43_method_46_code 4 = .ok (.iconst 0, 1) := by decide +kernel
theorem d_jdk_43_method_46_5 : decode jdk_43_method_46_code 5 = .ok (.iload_n 0, 1) := by decide +kernel
theorem d_jdk_43_method_46_6 : decode jdk_43_method_46_code 6 = .ok (.i2b, 1) := by decide +kernel
theorem d_jdk_43_method_46_7 : decode jdk_43_method_46_code 7 = .ok (.bastore, 1) := by decide +kernel
theorem d_jdk_43_method_46_8 : decode jdk_43_method_46_code 8 = .ok (.areturn, 1) := by decide +kernel
abbrev yn7 : MethodName := ⟨"java/lang/StringLatin1", "toBytes", "(C)[B"⟩
theorem ef_valueOfC (m : MethodId) (x0 : Int32) : entryFrame m #[(.int x0)] 1 = mkF m 0 #[.val (.int x0)] [] := by first | (simp [entryFrame, mkF, argsToLocals, Value.category]; done) | rfl
theorem d_jdk_42_method_139_0 : decode jdk_42_method_139_code 0 = .ok (.getstatic 38, 3) := by decide +kernel
theorem d_jdk_42_method_139_3 : decode jdk_42_method_139_code 3 = .ok (.ifCond .eq 23, 3) := by decide +kernel
theorem d_jdk_42_method_139_6 : decode jdk_42_method_139_code 6 = .ok (.iload_n 0, 1) := by decide +kernel
theorem d_jdk_42_method_139_7 : decode jdk_42_method_139_code 7 = .ok (.invokestatic 1015, 3) := by decide +kernel
theorem pd__28_C_29_Z : parseMethodDescriptor "(C)Z" = some ⟨[.char], some .boolean⟩ := by decide +kernel
theorem d_jdk_42_method_139_10 : decode jdk_42_method_139_code 10 = .ok (.ifCond .eq 16, 3) := by decide +kernel
theorem d_jdk_42_method_139_13 : decode jdk_42_method_139_code 13 = .ok (.new 10, 3) := by decide +kernel
theorem d_jdk_42_method_139_16 : decode jdk_42_method_139_code 16 = .ok (.dup, 1) := by decide +kernel
theorem d_jdk_42_method_139_17 : decode jdk_42_method_139_code 17 = .ok (.iload_n 0, 1) := by decide +kernel
theorem d_jdk_42_method_139_18 : decode jdk_42_method_139_code 18 = .ok (.invokestatic 1018, 3) := by decide +kernel
theorem pd__28_C_29__5b_B : parseMethodDescriptor "(C)[B" = some ⟨[.char], some (.array .byte)⟩ := by decide +kernel
theorem d_jdk_42_method_139_21 : decode jdk_42_method_139_code 21 = .ok (.iconst 0, 1) := by decide +kernel
theorem d_jdk_42_method_139_22 : decode jdk_42_method_139_code 22 = .ok (.invokespecial 209, 3) := by decide +kernel
theorem pd__28__5b_BB_29_V : parseMethodDescriptor "([BB)V" = some ⟨[(.array .byte), .byte], none⟩ := by decide +kernel
theorem d_jdk_42_method_139_25 : decode jdk_42_method_139_code 25 = .ok (.areturn, 1) := by decide +kernel
abbrev yn8 : MethodName := ⟨"java/lang/String", "valueOf", "(C)Ljava/lang/String;"⟩
theorem d_jdk_43_method_13_9 : decode jdk_43_method_13_code 9 = .ok (.iload_n 2, 1) := by decide +kernel
theorem d_jdk_43_method_13_10 : decode jdk_43_method_13_code 10 = .ok (.aload_n 0, 1) := by decide +kernel
theorem d_jdk_43_method_13_11 : decode jdk_43_method_13_code 11 = .ok (.arraylength, 1) := by decide +kernel
theorem d_jdk_43_method_13_12 : decode jdk_43_method_13_code 12 = .ok (.if_icmp .ge 20, 3) := by decide +kernel
theorem d_jdk_43_method_13_32 : decode jdk_43_method_13_code 32 = .ok (.iconst 1, 1) := by decide +kernel
theorem d_jdk_43_method_13_33 : decode jdk_43_method_13_code 33 = .ok (.ireturn, 1) := by decide +kernel
theorem d_jdk_43_method_13_15 : decode jdk_43_method_13_code 15 = .ok (.aload_n 0, 1) := by decide +kernel
theorem d_jdk_43_method_13_16 : decode jdk_43_method_13_code 16 = .ok (.iload_n 2, 1) := by decide +kernel
theorem d_jdk_43_method_13_17 : decode jdk_43_method_13_code 17 = .ok (.baload, 1) := by decide +kernel
theorem d_jdk_43_method_13_18 : decode jdk_43_method_13_code 18 = .ok (.aload_n 1, 1) := by decide +kernel
theorem d_jdk_43_method_13_19 : decode jdk_43_method_13_code 19 = .ok (.iload_n 2, 1) := by decide +kernel
theorem d_jdk_43_method_13_20 : decode jdk_43_method_13_code 20 = .ok (.baload, 1) := by decide +kernel
theorem d_jdk_43_method_13_21 : decode jdk_43_method_13_code 21 = .ok (.if_icmp .eq 5, 3) := by decide +kernel
theorem d_jdk_43_method_13_26 : decode jdk_43_method_13_code 26 = .ok (.iinc 2 1, 3) := by decide +kernel
theorem d_jdk_43_method_13_29 : decode jdk_43_method_13_code 29 = .ok (.goto (-20), 3) := by decide +kernel
theorem d_jdk_43_method_13_24 : decode jdk_43_method_13_code 24 = .ok (.iconst 0, 1) := by decide +kernel
theorem d_jdk_43_method_13_25 : decode jdk_43_method_13_code 25 = .ok (.ireturn, 1) := by decide +kernel
theorem ef_l1equals (m : MethodId) (x0 : Addr) (x1 : Addr) : entryFrame m #[(.ref x0), (.ref x1)] 3 = mkF m 0 #[.val (.ref x0), .val (.ref x1), .unset] [] := by first | (simp [entryFrame, mkF, argsToLocals, Value.category]; done) | rfl
theorem d_jdk_43_method_13_0 : decode jdk_43_method_13_code 0 = .ok (.aload_n 0, 1) := by decide +kernel
theorem d_jdk_43_method_13_1 : decode jdk_43_method_13_code 1 = .ok (.arraylength, 1) := by decide +kernel
theorem d_jdk_43_method_13_2 : decode jdk_43_method_13_code 2 = .ok (.aload_n 1, 1) := by decide +kernel
theorem d_jdk_43_method_13_3 : decode jdk_43_method_13_code 3 = .ok (.arraylength, 1) := by decide +kernel
theorem d_jdk_43_method_13_4 : decode jdk_43_method_13_code 4 = .ok (.if_icmp .ne 30, 3) := by decide +kernel
theorem d_jdk_43_method_13_7 : decode jdk_43_method_13_code 7 = .ok (.iconst 0, 1) := by decide +kernel
theorem d_jdk_43_method_13_8 : decode jdk_43_method_13_code 8 = .ok (.istore_n 2, 1) := by decide +kernel
theorem d_jdk_43_method_13_34 : decode jdk_43_method_13_code 34 = .ok (.iconst 0, 1) := by decide +kernel
theorem d_jdk_43_method_13_35 : decode jdk_43_method_13_code 35 = .ok (.ireturn, 1) := by decide +kernel
abbrev yn9 : MethodName := ⟨"java/lang/StringLatin1", "equals", "([B[B)Z"⟩
theorem ef_sequals (m : MethodId) (x0 : Addr) (x1 : Addr) : entryFrame m #[(.ref x0), (.ref x1)] 3 = mkF m 0 #[.val (.ref x0), .val (.ref x1), .unset] [] := by first | (simp [entryFrame, mkF, argsToLocals, Value.category]; done) | rfl
theorem d_jdk_42_method_66_0 : decode jdk_42_method_66_code 0 = .ok (.aload_n 0, 1) := by decide +kernel
theorem d_jdk_42_method_66_1 : decode jdk_42_method_66_code 1 = .ok (.aload_n 1, 1) := by decide +kernel
theorem d_jdk_42_method_66_2 : decode jdk_42_method_66_code 2 = .ok (.if_acmp .ne 5, 3) := by decide +kernel
theorem d_jdk_42_method_66_7 : decode jdk_42_method_66_code 7 = .ok (.aload_n 1, 1) := by decide +kernel
theorem d_jdk_42_method_66_8 : decode jdk_42_method_66_code 8 = .ok (.instanceof 10, 3) := by decide +kernel
theorem d_jdk_42_method_66_11 : decode jdk_42_method_66_code 11 = .ok (.ifCond .eq 43, 3) := by decide +kernel
theorem d_jdk_42_method_66_14 : decode jdk_42_method_66_code 14 = .ok (.aload_n 1, 1) := by decide +kernel
theorem d_jdk_42_method_66_15 : decode jdk_42_method_66_code 15 = .ok (.checkcast 10, 3) := by decide +kernel
theorem d_jdk_42_method_66_18 : decode jdk_42_method_66_code 18 = .ok (.astore_n 2, 1) := by decide +kernel
theorem d_jdk_42_method_66_19 : decode jdk_42_method_66_code 19 = .ok (.getstatic 38, 3) := by decide +kernel
theorem d_jdk_42_method_66_22 : decode jdk_42_method_66_code 22 = .ok (.ifCond .eq 14, 3) := by decide +kernel
theorem d_jdk_42_method_66_25 : decode jdk_42_method_66_code 25 = .ok (.aload_n 0, 1) := by decide +kernel
theorem d_jdk_42_method_66_26 : decode jdk_42_method_66_code 26 = .ok (.getfield 15, 3) := by decide +kernel
theorem d_jdk_42_method_66_29 : decode jdk_42_method_66_code 29 = .ok (.aload_n 2, 1) := by decide +kernel
theorem d_jdk_42_method_66_30 : decode jdk_42_method_66_code 30 = .ok (.getfield 15, 3) := by decide +kernel
theorem d_jdk_42_method_66_33 : decode jdk_42_method_66_code 33 = .ok (.if_icmp .ne 21, 3) := by decide +kernel
theorem d_jdk_42_method_66_36 : decode jdk_42_method_66_code 36 = .ok (.aload_n 0, 1) := by decide +kernel
theorem d_jdk_42_method_66_37 : decode jdk_42_method_66_code 37 = .ok (.getfield 9, 3) := by decide +kernel
theorem d_jdk_42_method_66_40 : decode jdk_42_method_66_code 40 = .ok (.aload_n 2, 1) := by decide +kernel
theorem d_jdk_42_method_66_41 : decode jdk_42_method_66_code 41 = .ok (.getfield 9, 3) := by decide +kernel
theorem d_jdk_42_method_66_44 : decode jdk_42_method_66_code 44 = .ok (.invokestatic 541, 3) := by decide +kernel
theorem pd__28__5b_B_5b_B_29_Z : parseMethodDescriptor "([B[B)Z" = some ⟨[(.array .byte), (.array .byte)], some .boolean⟩ := by decide +kernel
theorem d_jdk_42_method_66_47 : decode jdk_42_method_66_code 47 = .ok (.ifCond .eq 7, 3) := by decide +kernel
theorem d_jdk_42_method_66_50 : decode jdk_42_method_66_code 50 = .ok (.iconst 1, 1) := by decide +kernel
theorem d_jdk_42_method_66_51 : decode jdk_42_method_66_code 51 = .ok (.goto 4, 3) := by decide +kernel
theorem d_jdk_42_method_66_55 : decode jdk_42_method_66_code 55 = .ok (.ireturn, 1) := by decide +kernel
theorem d_jdk_42_method_66_54 : decode jdk_42_method_66_code 54 = .ok (.iconst 0, 1) := by decide +kernel
abbrev yn10 : MethodName := ⟨"java/lang/String", "equals", "(Ljava/lang/Object;)Z"⟩
theorem ef_full0 (m : MethodId) (x0 : Int32) : entryFrame m #[(.int x0)] 1 = mkF m 0 #[.val (.int x0)] [] := by first | (simp [entryFrame, mkF, argsToLocals, Value.category]; done) | rfl
theorem pn_com_example_composition_composition_definition_AbapLanguageVersionOfJsonNamePinLaw : plainName "com/example/composition/composition/definition/AbapLanguageVersionOfJsonNamePinLaw" = true := by first | (simp [plainName, overriddenIn]; done) | decide +kernel
theorem d_method_2_0 : decode method_2_code 0 = .ok (.iload_n 0, 1) := by decide +kernel
theorem d_method_2_1 : decode method_2_code 1 = .ok (.ifCond .ne 50, 3) := by decide +kernel
theorem d_method_2_4 : decode method_2_code 4 = .ok (.bipush 8, 2) := by decide +kernel
theorem d_method_2_6 : decode method_2_code 6 = .ok (.newarray .char, 2) := by decide +kernel
theorem d_method_2_8 : decode method_2_code 8 = .ok (.dup, 1) := by decide +kernel
theorem d_method_2_9 : decode method_2_code 9 = .ok (.iconst 0, 1) := by decide +kernel
theorem d_method_2_10 : decode method_2_code 10 = .ok (.bipush 115, 2) := by decide +kernel
theorem d_method_2_12 : decode method_2_code 12 = .ok (.castore, 1) := by decide +kernel
theorem d_method_2_13 : decode method_2_code 13 = .ok (.dup, 1) := by decide +kernel
theorem d_method_2_14 : decode method_2_code 14 = .ok (.iconst 1, 1) := by decide +kernel
theorem d_method_2_15 : decode method_2_code 15 = .ok (.bipush 116, 2) := by decide +kernel
theorem d_method_2_17 : decode method_2_code 17 = .ok (.castore, 1) := by decide +kernel
theorem d_method_2_18 : decode method_2_code 18 = .ok (.dup, 1) := by decide +kernel
theorem d_method_2_19 : decode method_2_code 19 = .ok (.iconst 2, 1) := by decide +kernel
theorem d_method_2_20 : decode method_2_code 20 = .ok (.bipush 97, 2) := by decide +kernel
theorem d_method_2_22 : decode method_2_code 22 = .ok (.castore, 1) := by decide +kernel
theorem d_method_2_23 : decode method_2_code 23 = .ok (.dup, 1) := by decide +kernel
theorem d_method_2_24 : decode method_2_code 24 = .ok (.iconst 3, 1) := by decide +kernel
theorem d_method_2_25 : decode method_2_code 25 = .ok (.bipush 110, 2) := by decide +kernel
theorem d_method_2_27 : decode method_2_code 27 = .ok (.castore, 1) := by decide +kernel
theorem d_method_2_28 : decode method_2_code 28 = .ok (.dup, 1) := by decide +kernel
theorem d_method_2_29 : decode method_2_code 29 = .ok (.iconst 4, 1) := by decide +kernel
theorem d_method_2_30 : decode method_2_code 30 = .ok (.bipush 100, 2) := by decide +kernel
theorem d_method_2_32 : decode method_2_code 32 = .ok (.castore, 1) := by decide +kernel
theorem d_method_2_33 : decode method_2_code 33 = .ok (.dup, 1) := by decide +kernel
theorem d_method_2_34 : decode method_2_code 34 = .ok (.iconst 5, 1) := by decide +kernel
theorem d_method_2_35 : decode method_2_code 35 = .ok (.bipush 97, 2) := by decide +kernel
theorem d_method_2_37 : decode method_2_code 37 = .ok (.castore, 1) := by decide +kernel
theorem d_method_2_38 : decode method_2_code 38 = .ok (.dup, 1) := by decide +kernel
theorem d_method_2_39 : decode method_2_code 39 = .ok (.bipush 6, 2) := by decide +kernel
theorem d_method_2_41 : decode method_2_code 41 = .ok (.bipush 114, 2) := by decide +kernel
theorem d_method_2_43 : decode method_2_code 43 = .ok (.castore, 1) := by decide +kernel
theorem d_method_2_44 : decode method_2_code 44 = .ok (.dup, 1) := by decide +kernel
theorem d_method_2_45 : decode method_2_code 45 = .ok (.bipush 7, 2) := by decide +kernel
theorem d_method_2_47 : decode method_2_code 47 = .ok (.bipush 100, 2) := by decide +kernel
theorem d_method_2_49 : decode method_2_code 49 = .ok (.castore, 1) := by decide +kernel
theorem d_method_2_50 : decode method_2_code 50 = .ok (.areturn, 1) := by decide +kernel
abbrev yn11 : MethodName := ⟨"com/example/composition/composition/definition/AbapLanguageVersionOfJsonNamePinLaw", "full", "(I)[C"⟩
theorem ef_prefix0 (m : MethodId) (x0 : Int32) : entryFrame m #[(.int x0)] 1 = mkF m 0 #[.val (.int x0)] [] := by first | (simp [entryFrame, mkF, argsToLocals, Value.category]; done) | rfl
theorem d_method_3_0 : decode method_3_code 0 = .ok (.iload_n 0, 1) := by decide +kernel
theorem d_method_3_1 : decode method_3_code 1 = .ok (.ifCond .ne 44, 3) := by decide +kernel
theorem d_method_3_4 : decode method_3_code 4 = .ok (.bipush 7, 2) := by decide +kernel
theorem d_method_3_6 : decode method_3_code 6 = .ok (.newarray .char, 2) := by decide +kernel
theorem d_method_3_8 : decode method_3_code 8 = .ok (.dup, 1) := by decide +kernel
theorem d_method_3_9 : decode method_3_code 9 = .ok (.iconst 0, 1) := by decide +kernel
theorem d_method_3_10 : decode method_3_code 10 = .ok (.bipush 115, 2) := by decide +kernel
theorem d_method_3_12 : decode method_3_code 12 = .ok (.castore, 1) := by decide +kernel
theorem d_method_3_13 : decode method_3_code 13 = .ok (.dup, 1) := by decide +kernel
theorem d_method_3_14 : decode method_3_code 14 = .ok (.iconst 1, 1) := by decide +kernel
theorem d_method_3_15 : decode method_3_code 15 = .ok (.bipush 116, 2) := by decide +kernel
theorem d_method_3_17 : decode method_3_code 17 = .ok (.castore, 1) := by decide +kernel
theorem d_method_3_18 : decode method_3_code 18 = .ok (.dup, 1) := by decide +kernel
theorem d_method_3_19 : decode method_3_code 19 = .ok (.iconst 2, 1) := by decide +kernel
theorem d_method_3_20 : decode method_3_code 20 = .ok (.bipush 97, 2) := by decide +kernel
theorem d_method_3_22 : decode method_3_code 22 = .ok (.castore, 1) := by decide +kernel
theorem d_method_3_23 : decode method_3_code 23 = .ok (.dup, 1) := by decide +kernel
theorem d_method_3_24 : decode method_3_code 24 = .ok (.iconst 3, 1) := by decide +kernel
theorem d_method_3_25 : decode method_3_code 25 = .ok (.bipush 110, 2) := by decide +kernel
theorem d_method_3_27 : decode method_3_code 27 = .ok (.castore, 1) := by decide +kernel
theorem d_method_3_28 : decode method_3_code 28 = .ok (.dup, 1) := by decide +kernel
theorem d_method_3_29 : decode method_3_code 29 = .ok (.iconst 4, 1) := by decide +kernel
theorem d_method_3_30 : decode method_3_code 30 = .ok (.bipush 100, 2) := by decide +kernel
theorem d_method_3_32 : decode method_3_code 32 = .ok (.castore, 1) := by decide +kernel
theorem d_method_3_33 : decode method_3_code 33 = .ok (.dup, 1) := by decide +kernel
theorem d_method_3_34 : decode method_3_code 34 = .ok (.iconst 5, 1) := by decide +kernel
theorem d_method_3_35 : decode method_3_code 35 = .ok (.bipush 97, 2) := by decide +kernel
theorem d_method_3_37 : decode method_3_code 37 = .ok (.castore, 1) := by decide +kernel
theorem d_method_3_38 : decode method_3_code 38 = .ok (.dup, 1) := by decide +kernel
theorem d_method_3_39 : decode method_3_code 39 = .ok (.bipush 6, 2) := by decide +kernel
theorem d_method_3_41 : decode method_3_code 41 = .ok (.bipush 114, 2) := by decide +kernel
theorem d_method_3_43 : decode method_3_code 43 = .ok (.castore, 1) := by decide +kernel
theorem d_method_3_44 : decode method_3_code 44 = .ok (.areturn, 1) := by decide +kernel
abbrev yn12 : MethodName := ⟨"com/example/composition/composition/definition/AbapLanguageVersionOfJsonNamePinLaw", "prefix", "(I)[C"⟩
theorem ef_extended0 (m : MethodId) (x0 : Int32) (x1 : Int32) : entryFrame m #[(.int x0), (.int x1)] 2 = mkF m 0 #[.val (.int x0), .val (.int x1)] [] := by first | (simp [entryFrame, mkF, argsToLocals, Value.category]; done) | rfl
theorem d_method_4_0 : decode method_4_code 0 = .ok (.iload_n 0, 1) := by decide +kernel
theorem d_method_4_1 : decode method_4_code 1 = .ok (.ifCond .ne 55, 3) := by decide +kernel
theorem d_method_4_4 : decode method_4_code 4 = .ok (.bipush 9, 2) := by decide +kernel
theorem d_method_4_6 : decode method_4_code 6 = .ok (.newarray .char, 2) := by decide +kernel
theorem d_method_4_8 : decode method_4_code 8 = .ok (.dup, 1) := by decide +kernel
theorem d_method_4_9 : decode method_4_code 9 = .ok (.iconst 0, 1) := by decide +kernel
theorem d_method_4_10 : decode method_4_code 10 = .ok (.bipush 115, 2) := by decide +kernel
theorem d_method_4_12 : decode method_4_code 12 = .ok (.castore, 1) := by decide +kernel
theorem d_method_4_13 : decode method_4_code 13 = .ok (.dup, 1) := by decide +kernel
theorem d_method_4_14 : decode method_4_code 14 = .ok (.iconst 1, 1) := by decide +kernel
theorem d_method_4_15 : decode method_4_code 15 = .ok (.bipush 116, 2) := by decide +kernel
theorem d_method_4_17 : decode method_4_code 17 = .ok (.castore, 1) := by decide +kernel
theorem d_method_4_18 : decode method_4_code 18 = .ok (.dup, 1) := by decide +kernel
theorem d_method_4_19 : decode method_4_code 19 = .ok (.iconst 2, 1) := by decide +kernel
theorem d_method_4_20 : decode method_4_code 20 = .ok (.bipush 97, 2) := by decide +kernel
theorem d_method_4_22 : decode method_4_code 22 = .ok (.castore, 1) := by decide +kernel
theorem d_method_4_23 : decode method_4_code 23 = .ok (.dup, 1) := by decide +kernel
theorem d_method_4_24 : decode method_4_code 24 = .ok (.iconst 3, 1) := by decide +kernel
theorem d_method_4_25 : decode method_4_code 25 = .ok (.bipush 110, 2) := by decide +kernel
theorem d_method_4_27 : decode method_4_code 27 = .ok (.castore, 1) := by decide +kernel
theorem d_method_4_28 : decode method_4_code 28 = .ok (.dup, 1) := by decide +kernel
theorem d_method_4_29 : decode method_4_code 29 = .ok (.iconst 4, 1) := by decide +kernel
theorem d_method_4_30 : decode method_4_code 30 = .ok (.bipush 100, 2) := by decide +kernel
theorem d_method_4_32 : decode method_4_code 32 = .ok (.castore, 1) := by decide +kernel
theorem d_method_4_33 : decode method_4_code 33 = .ok (.dup, 1) := by decide +kernel
theorem d_method_4_34 : decode method_4_code 34 = .ok (.iconst 5, 1) := by decide +kernel
theorem d_method_4_35 : decode method_4_code 35 = .ok (.bipush 97, 2) := by decide +kernel
theorem d_method_4_37 : decode method_4_code 37 = .ok (.castore, 1) := by decide +kernel
theorem d_method_4_38 : decode method_4_code 38 = .ok (.dup, 1) := by decide +kernel
theorem d_method_4_39 : decode method_4_code 39 = .ok (.bipush 6, 2) := by decide +kernel
theorem d_method_4_41 : decode method_4_code 41 = .ok (.bipush 114, 2) := by decide +kernel
theorem d_method_4_43 : decode method_4_code 43 = .ok (.castore, 1) := by decide +kernel
theorem d_method_4_44 : decode method_4_code 44 = .ok (.dup, 1) := by decide +kernel
theorem d_method_4_45 : decode method_4_code 45 = .ok (.bipush 7, 2) := by decide +kernel
theorem d_method_4_47 : decode method_4_code 47 = .ok (.bipush 100, 2) := by decide +kernel
theorem d_method_4_49 : decode method_4_code 49 = .ok (.castore, 1) := by decide +kernel
theorem d_method_4_50 : decode method_4_code 50 = .ok (.dup, 1) := by decide +kernel
theorem d_method_4_51 : decode method_4_code 51 = .ok (.bipush 8, 2) := by decide +kernel
theorem d_method_4_53 : decode method_4_code 53 = .ok (.iload_n 1, 1) := by decide +kernel
theorem d_method_4_54 : decode method_4_code 54 = .ok (.castore, 1) := by decide +kernel
theorem d_method_4_55 : decode method_4_code 55 = .ok (.areturn, 1) := by decide +kernel
abbrev yn13 : MethodName := ⟨"com/example/composition/composition/definition/AbapLanguageVersionOfJsonNamePinLaw", "extended", "(IC)[C"⟩
theorem ef_full1 (m : MethodId) (x0 : Int32) : entryFrame m #[(.int x0)] 1 = mkF m 0 #[.val (.int x0)] [] := by first | (simp [entryFrame, mkF, argsToLocals, Value.category]; done) | rfl
theorem d_method_2_51 : decode method_2_code 51 = .ok (.iload_n 0, 1) := by decide +kernel
theorem d_method_2_52 : decode method_2_code 52 = .ok (.iconst 1, 1) := by decide +kernel
theorem d_method_2_53 : decode method_2_code 53 = .ok (.if_icmp .ne 44, 3) := by decide +kernel
theorem d_method_2_56 : decode method_2_code 56 = .ok (.bipush 7, 2) := by decide +kernel
theorem d_method_2_58 : decode method_2_code 58 = .ok (.newarray .char, 2) := by decide +kernel
theorem d_method_2_60 : decode method_2_code 60 = .ok (.dup, 1) := by decide +kernel
theorem d_method_2_61 : decode method_2_code 61 = .ok (.iconst 0, 1) := by decide +kernel
theorem d_method_2_62 : decode method_2_code 62 = .ok (.bipush 107, 2) := by decide +kernel
theorem d_method_2_64 : decode method_2_code 64 = .ok (.castore, 1) := by decide +kernel
theorem d_method_2_65 : decode method_2_code 65 = .ok (.dup, 1) := by decide +kernel
theorem d_method_2_66 : decode method_2_code 66 = .ok (.iconst 1, 1) := by decide +kernel
theorem d_method_2_67 : decode method_2_code 67 = .ok (.bipush 101, 2) := by decide +kernel
theorem d_method_2_69 : decode method_2_code 69 = .ok (.castore, 1) := by decide +kernel
theorem d_method_2_70 : decode method_2_code 70 = .ok (.dup, 1) := by decide +kernel
theorem d_method_2_71 : decode method_2_code 71 = .ok (.iconst 2, 1) := by decide +kernel
theorem d_method_2_72 : decode method_2_code 72 = .ok (.bipush 121, 2) := by decide +kernel
theorem d_method_2_74 : decode method_2_code 74 = .ok (.castore, 1) := by decide +kernel
theorem d_method_2_75 : decode method_2_code 75 = .ok (.dup, 1) := by decide +kernel
theorem d_method_2_76 : decode method_2_code 76 = .ok (.iconst 3, 1) := by decide +kernel
theorem d_method_2_77 : decode method_2_code 77 = .ok (.bipush 85, 2) := by decide +kernel
theorem d_method_2_79 : decode method_2_code 79 = .ok (.castore, 1) := by decide +kernel
theorem d_method_2_80 : decode method_2_code 80 = .ok (.dup, 1) := by decide +kernel
theorem d_method_2_81 : decode method_2_code 81 = .ok (.iconst 4, 1) := by decide +kernel
theorem d_method_2_82 : decode method_2_code 82 = .ok (.bipush 115, 2) := by decide +kernel
theorem d_method_2_84 : decode method_2_code 84 = .ok (.castore, 1) := by decide +kernel
theorem d_method_2_85 : decode method_2_code 85 = .ok (.dup, 1) := by decide +kernel
theorem d_method_2_86 : decode method_2_code 86 = .ok (.iconst 5, 1) := by decide +kernel
theorem d_method_2_87 : decode method_2_code 87 = .ok (.bipush 101, 2) := by decide +kernel
theorem d_method_2_89 : decode method_2_code 89 = .ok (.castore, 1) := by decide +kernel
theorem d_method_2_90 : decode method_2_code 90 = .ok (.dup, 1) := by decide +kernel
theorem d_method_2_91 : decode method_2_code 91 = .ok (.bipush 6, 2) := by decide +kernel
theorem d_method_2_93 : decode method_2_code 93 = .ok (.bipush 114, 2) := by decide +kernel
theorem d_method_2_95 : decode method_2_code 95 = .ok (.castore, 1) := by decide +kernel
theorem d_method_2_96 : decode method_2_code 96 = .ok (.areturn, 1) := by decide +kernel
theorem ef_prefix1 (m : MethodId) (x0 : Int32) : entryFrame m #[(.int x0)] 1 = mkF m 0 #[.val (.int x0)] [] := by first | (simp [entryFrame, mkF, argsToLocals, Value.category]; done) | rfl
theorem d_method_3_45 : decode method_3_code 45 = .ok (.iload_n 0, 1) := by decide +kernel
theorem d_method_3_46 : decode method_3_code 46 = .ok (.iconst 1, 1) := by decide +kernel
theorem d_method_3_47 : decode method_3_code 47 = .ok (.if_icmp .ne 38, 3) := by decide +kernel
theorem d_method_3_50 : decode method_3_code 50 = .ok (.bipush 6, 2) := by decide +kernel
theorem d_method_3_52 : decode method_3_code 52 = .ok (.newarray .char, 2) := by decide +kernel
theorem d_method_3_54 : decode method_3_code 54 = .ok (.dup, 1) := by decide +kernel
theorem d_method_3_55 : decode method_3_code 55 = .ok (.iconst 0, 1) := by decide +kernel
theorem d_method_3_56 : decode method_3_code 56 = .ok (.bipush 107, 2) := by decide +kernel
theorem d_method_3_58 : decode method_3_code 58 = .ok (.castore, 1) := by decide +kernel
theorem d_method_3_59 : decode method_3_code 59 = .ok (.dup, 1) := by decide +kernel
theorem d_method_3_60 : decode method_3_code 60 = .ok (.iconst 1, 1) := by decide +kernel
theorem d_method_3_61 : decode method_3_code 61 = .ok (.bipush 101, 2) := by decide +kernel
theorem d_method_3_63 : decode method_3_code 63 = .ok (.castore, 1) := by decide +kernel
theorem d_method_3_64 : decode method_3_code 64 = .ok (.dup, 1) := by decide +kernel
theorem d_method_3_65 : decode method_3_code 65 = .ok (.iconst 2, 1) := by decide +kernel
theorem d_method_3_66 : decode method_3_code 66 = .ok (.bipush 121, 2) := by decide +kernel
theorem d_method_3_68 : decode method_3_code 68 = .ok (.castore, 1) := by decide +kernel
theorem d_method_3_69 : decode method_3_code 69 = .ok (.dup, 1) := by decide +kernel
theorem d_method_3_70 : decode method_3_code 70 = .ok (.iconst 3, 1) := by decide +kernel
theorem d_method_3_71 : decode method_3_code 71 = .ok (.bipush 85, 2) := by decide +kernel
theorem d_method_3_73 : decode method_3_code 73 = .ok (.castore, 1) := by decide +kernel
theorem d_method_3_74 : decode method_3_code 74 = .ok (.dup, 1) := by decide +kernel
theorem d_method_3_75 : decode method_3_code 75 = .ok (.iconst 4, 1) := by decide +kernel
theorem d_method_3_76 : decode method_3_code 76 = .ok (.bipush 115, 2) := by decide +kernel
theorem d_method_3_78 : decode method_3_code 78 = .ok (.castore, 1) := by decide +kernel
theorem d_method_3_79 : decode method_3_code 79 = .ok (.dup, 1) := by decide +kernel
theorem d_method_3_80 : decode method_3_code 80 = .ok (.iconst 5, 1) := by decide +kernel
theorem d_method_3_81 : decode method_3_code 81 = .ok (.bipush 101, 2) := by decide +kernel
theorem d_method_3_83 : decode method_3_code 83 = .ok (.castore, 1) := by decide +kernel
theorem d_method_3_84 : decode method_3_code 84 = .ok (.areturn, 1) := by decide +kernel
theorem ef_extended1 (m : MethodId) (x0 : Int32) (x1 : Int32) : entryFrame m #[(.int x0), (.int x1)] 2 = mkF m 0 #[.val (.int x0), .val (.int x1)] [] := by first | (simp [entryFrame, mkF, argsToLocals, Value.category]; done) | rfl
theorem d_method_4_56 : decode method_4_code 56 = .ok (.iload_n 0, 1) := by decide +kernel
theorem d_method_4_57 : decode method_4_code 57 = .ok (.iconst 1, 1) := by decide +kernel
theorem d_method_4_58 : decode method_4_code 58 = .ok (.if_icmp .ne 49, 3) := by decide +kernel
theorem d_method_4_61 : decode method_4_code 61 = .ok (.bipush 8, 2) := by decide +kernel
theorem d_method_4_63 : decode method_4_code 63 = .ok (.newarray .char, 2) := by decide +kernel
theorem d_method_4_65 : decode method_4_code 65 = .ok (.dup, 1) := by decide +kernel
theorem d_method_4_66 : decode method_4_code 66 = .ok (.iconst 0, 1) := by decide +kernel
theorem d_method_4_67 : decode method_4_code 67 = .ok (.bipush 107, 2) := by decide +kernel
theorem d_method_4_69 : decode method_4_code 69 = .ok (.castore, 1) := by decide +kernel
theorem d_method_4_70 : decode method_4_code 70 = .ok (.dup, 1) := by decide +kernel
theorem d_method_4_71 : decode method_4_code 71 = .ok (.iconst 1, 1) := by decide +kernel
theorem d_method_4_72 : decode method_4_code 72 = .ok (.bipush 101, 2) := by decide +kernel
theorem d_method_4_74 : decode method_4_code 74 = .ok (.castore, 1) := by decide +kernel
theorem d_method_4_75 : decode method_4_code 75 = .ok (.dup, 1) := by decide +kernel
theorem d_method_4_76 : decode method_4_code 76 = .ok (.iconst 2, 1) := by decide +kernel
theorem d_method_4_77 : decode method_4_code 77 = .ok (.bipush 121, 2) := by decide +kernel
theorem d_method_4_79 : decode method_4_code 79 = .ok (.castore, 1) := by decide +kernel
theorem d_method_4_80 : decode method_4_code 80 = .ok (.dup, 1) := by decide +kernel
theorem d_method_4_81 : decode method_4_code 81 = .ok (.iconst 3, 1) := by decide +kernel
theorem d_method_4_82 : decode method_4_code 82 = .ok (.bipush 85, 2) := by decide +kernel
theorem d_method_4_84 : decode method_4_code 84 = .ok (.castore, 1) := by decide +kernel
theorem d_method_4_85 : decode method_4_code 85 = .ok (.dup, 1) := by decide +kernel
theorem d_method_4_86 : decode method_4_code 86 = .ok (.iconst 4, 1) := by decide +kernel
theorem d_method_4_87 : decode method_4_code 87 = .ok (.bipush 115, 2) := by decide +kernel
theorem d_method_4_89 : decode method_4_code 89 = .ok (.castore, 1) := by decide +kernel
theorem d_method_4_90 : decode method_4_code 90 = .ok (.dup, 1) := by decide +kernel
theorem d_method_4_91 : decode method_4_code 91 = .ok (.iconst 5, 1) := by decide +kernel
theorem d_method_4_92 : decode method_4_code 92 = .ok (.bipush 101, 2) := by decide +kernel
theorem d_method_4_94 : decode method_4_code 94 = .ok (.castore, 1) := by decide +kernel
theorem d_method_4_95 : decode method_4_code 95 = .ok (.dup, 1) := by decide +kernel
theorem d_method_4_96 : decode method_4_code 96 = .ok (.bipush 6, 2) := by decide +kernel
theorem d_method_4_98 : decode method_4_code 98 = .ok (.bipush 114, 2) := by decide +kernel
theorem d_method_4_100 : decode method_4_code 100 = .ok (.castore, 1) := by decide +kernel
theorem d_method_4_101 : decode method_4_code 101 = .ok (.dup, 1) := by decide +kernel
theorem d_method_4_102 : decode method_4_code 102 = .ok (.bipush 7, 2) := by decide +kernel
theorem d_method_4_104 : decode method_4_code 104 = .ok (.iload_n 1, 1) := by decide +kernel
theorem d_method_4_105 : decode method_4_code 105 = .ok (.castore, 1) := by decide +kernel
theorem d_method_4_106 : decode method_4_code 106 = .ok (.areturn, 1) := by decide +kernel
theorem ef_full2 (m : MethodId) (x0 : Int32) : entryFrame m #[(.int x0)] 1 = mkF m 0 #[.val (.int x0)] [] := by first | (simp [entryFrame, mkF, argsToLocals, Value.category]; done) | rfl
theorem d_method_2_97 : decode method_2_code 97 = .ok (.bipush 16, 2) := by decide +kernel
theorem d_method_2_99 : decode method_2_code 99 = .ok (.newarray .char, 2) := by decide +kernel
theorem d_method_2_101 : decode method_2_code 101 = .ok (.dup, 1) := by decide +kernel
theorem d_method_2_102 : decode method_2_code 102 = .ok (.iconst 0, 1) := by decide +kernel
theorem d_method_2_103 : decode method_2_code 103 = .ok (.bipush 99, 2) := by decide +kernel
theorem d_method_2_105 : decode method_2_code 105 = .ok (.castore, 1) := by decide +kernel
theorem d_method_2_106 : decode method_2_code 106 = .ok (.dup, 1) := by decide +kernel
theorem d_method_2_107 : decode method_2_code 107 = .ok (.iconst 1, 1) := by decide +kernel
theorem d_method_2_108 : decode method_2_code 108 = .ok (.bipush 108, 2) := by decide +kernel
theorem d_method_2_110 : decode method_2_code 110 = .ok (.castore, 1) := by decide +kernel
theorem d_method_2_111 : decode method_2_code 111 = .ok (.dup, 1) := by decide +kernel
theorem d_method_2_112 : decode method_2_code 112 = .ok (.iconst 2, 1) := by decide +kernel
theorem d_method_2_113 : decode method_2_code 113 = .ok (.bipush 111, 2) := by decide +kernel
theorem d_method_2_115 : decode method_2_code 115 = .ok (.castore, 1) := by decide +kernel
theorem d_method_2_116 : decode method_2_code 116 = .ok (.dup, 1) := by decide +kernel
theorem d_method_2_117 : decode method_2_code 117 = .ok (.iconst 3, 1) := by decide +kernel
theorem d_method_2_118 : decode method_2_code 118 = .ok (.bipush 117, 2) := by decide +kernel
theorem d_method_2_120 : decode method_2_code 120 = .ok (.castore, 1) := by decide +kernel
theorem d_method_2_121 : decode method_2_code 121 = .ok (.dup, 1) := by decide +kernel
theorem d_method_2_122 : decode method_2_code 122 = .ok (.iconst 4, 1) := by decide +kernel
theorem d_method_2_123 : decode method_2_code 123 = .ok (.bipush 100, 2) := by decide +kernel
theorem d_method_2_125 : decode method_2_code 125 = .ok (.castore, 1) := by decide +kernel
theorem d_method_2_126 : decode method_2_code 126 = .ok (.dup, 1) := by decide +kernel
theorem d_method_2_127 : decode method_2_code 127 = .ok (.iconst 5, 1) := by decide +kernel
theorem d_method_2_128 : decode method_2_code 128 = .ok (.bipush 68, 2) := by decide +kernel
theorem d_method_2_130 : decode method_2_code 130 = .ok (.castore, 1) := by decide +kernel
theorem d_method_2_131 : decode method_2_code 131 = .ok (.dup, 1) := by decide +kernel
theorem d_method_2_132 : decode method_2_code 132 = .ok (.bipush 6, 2) := by decide +kernel
theorem d_method_2_134 : decode method_2_code 134 = .ok (.bipush 101, 2) := by decide +kernel
theorem d_method_2_136 : decode method_2_code 136 = .ok (.castore, 1) := by decide +kernel
theorem d_method_2_137 : decode method_2_code 137 = .ok (.dup, 1) := by decide +kernel
theorem d_method_2_138 : decode method_2_code 138 = .ok (.bipush 7, 2) := by decide +kernel
theorem d_method_2_140 : decode method_2_code 140 = .ok (.bipush 118, 2) := by decide +kernel
theorem d_method_2_142 : decode method_2_code 142 = .ok (.castore, 1) := by decide +kernel
theorem d_method_2_143 : decode method_2_code 143 = .ok (.dup, 1) := by decide +kernel
theorem d_method_2_144 : decode method_2_code 144 = .ok (.bipush 8, 2) := by decide +kernel
theorem d_method_2_146 : decode method_2_code 146 = .ok (.bipush 101, 2) := by decide +kernel
theorem d_method_2_148 : decode method_2_code 148 = .ok (.castore, 1) := by decide +kernel
theorem d_method_2_149 : decode method_2_code 149 = .ok (.dup, 1) := by decide +kernel
theorem d_method_2_150 : decode method_2_code 150 = .ok (.bipush 9, 2) := by decide +kernel
theorem d_method_2_152 : decode method_2_code 152 = .ok (.bipush 108, 2) := by decide +kernel
theorem d_method_2_154 : decode method_2_code 154 = .ok (.castore, 1) := by decide +kernel
theorem d_method_2_155 : decode method_2_code 155 = .ok (.dup, 1) := by decide +kernel
theorem d_method_2_156 : decode method_2_code 156 = .ok (.bipush 10, 2) := by decide +kernel
theorem d_method_2_158 : decode method_2_code 158 = .ok (.bipush 111, 2) := by decide +kernel
theorem d_method_2_160 : decode method_2_code 160 = .ok (.castore, 1) := by decide +kernel
theorem d_method_2_161 : decode method_2_code 161 = .ok (.dup, 1) := by decide +kernel
theorem d_method_2_162 : decode method_2_code 162 = .ok (.bipush 11, 2) := by decide +kernel
theorem d_method_2_164 : decode method_2_code 164 = .ok (.bipush 112, 2) := by decide +kernel
theorem d_method_2_166 : decode method_2_code 166 = .ok (.castore, 1) := by decide +kernel
theorem d_method_2_167 : decode method_2_code 167 = .ok (.dup, 1) := by decide +kernel
theorem d_method_2_168 : decode method_2_code 168 = .ok (.bipush 12, 2) := by decide +kernel
theorem d_method_2_170 : decode method_2_code 170 = .ok (.bipush 109, 2) := by decide +kernel
theorem d_method_2_172 : decode method_2_code 172 = .ok (.castore, 1) := by decide +kernel
theorem d_method_2_173 : decode method_2_code 173 = .ok (.dup, 1) := by decide +kernel
theorem d_method_2_174 : decode method_2_code 174 = .ok (.bipush 13, 2) := by decide +kernel
theorem d_method_2_176 : decode method_2_code 176 = .ok (.bipush 101, 2) := by decide +kernel
theorem d_method_2_178 : decode method_2_code 178 = .ok (.castore, 1) := by decide +kernel
theorem d_method_2_179 : decode method_2_code 179 = .ok (.dup, 1) := by decide +kernel
theorem d_method_2_180 : decode method_2_code 180 = .ok (.bipush 14, 2) := by decide +kernel
theorem d_method_2_182 : decode method_2_code 182 = .ok (.bipush 110, 2) := by decide +kernel
theorem d_method_2_184 : decode method_2_code 184 = .ok (.castore, 1) := by decide +kernel
theorem d_method_2_185 : decode method_2_code 185 = .ok (.dup, 1) := by decide +kernel
theorem d_method_2_186 : decode method_2_code 186 = .ok (.bipush 15, 2) := by decide +kernel
theorem d_method_2_188 : decode method_2_code 188 = .ok (.bipush 116, 2) := by decide +kernel
theorem d_method_2_190 : decode method_2_code 190 = .ok (.castore, 1) := by decide +kernel
theorem d_method_2_191 : decode method_2_code 191 = .ok (.areturn, 1) := by decide +kernel
theorem ef_prefix2 (m : MethodId) (x0 : Int32) : entryFrame m #[(.int x0)] 1 = mkF m 0 #[.val (.int x0)] [] := by first | (simp [entryFrame, mkF, argsToLocals, Value.category]; done) | rfl
theorem d_method_3_85 : decode method_3_code 85 = .ok (.bipush 15, 2) := by decide +kernel
theorem d_method_3_87 : decode method_3_code 87 = .ok (.newarray .char, 2) := by decide +kernel
theorem d_method_3_89 : decode method_3_code 89 = .ok (.dup, 1) := by decide +kernel
theorem d_method_3_90 : decode method_3_code 90 = .ok (.iconst 0, 1) := by decide +kernel
theorem d_method_3_91 : decode method_3_code 91 = .ok (.bipush 99, 2) := by decide +kernel
theorem d_method_3_93 : decode method_3_code 93 = .ok (.castore, 1) := by decide +kernel
theorem d_method_3_94 : decode method_3_code 94 = .ok (.dup, 1) := by decide +kernel
theorem d_method_3_95 : decode method_3_code 95 = .ok (.iconst 1, 1) := by decide +kernel
theorem d_method_3_96 : decode method_3_code 96 = .ok (.bipush 108, 2) := by decide +kernel
theorem d_method_3_98 : decode method_3_code 98 = .ok (.castore, 1) := by decide +kernel
theorem d_method_3_99 : decode method_3_code 99 = .ok (.dup, 1) := by decide +kernel
theorem d_method_3_100 : decode method_3_code 100 = .ok (.iconst 2, 1) := by decide +kernel
theorem d_method_3_101 : decode method_3_code 101 = .ok (.bipush 111, 2) := by decide +kernel
theorem d_method_3_103 : decode method_3_code 103 = .ok (.castore, 1) := by decide +kernel
theorem d_method_3_104 : decode method_3_code 104 = .ok (.dup, 1) := by decide +kernel
theorem d_method_3_105 : decode method_3_code 105 = .ok (.iconst 3, 1) := by decide +kernel
theorem d_method_3_106 : decode method_3_code 106 = .ok (.bipush 117, 2) := by decide +kernel
theorem d_method_3_108 : decode method_3_code 108 = .ok (.castore, 1) := by decide +kernel
theorem d_method_3_109 : decode method_3_code 109 = .ok (.dup, 1) := by decide +kernel
theorem d_method_3_110 : decode method_3_code 110 = .ok (.iconst 4, 1) := by decide +kernel
theorem d_method_3_111 : decode method_3_code 111 = .ok (.bipush 100, 2) := by decide +kernel
theorem d_method_3_113 : decode method_3_code 113 = .ok (.castore, 1) := by decide +kernel
theorem d_method_3_114 : decode method_3_code 114 = .ok (.dup, 1) := by decide +kernel
theorem d_method_3_115 : decode method_3_code 115 = .ok (.iconst 5, 1) := by decide +kernel
theorem d_method_3_116 : decode method_3_code 116 = .ok (.bipush 68, 2) := by decide +kernel
theorem d_method_3_118 : decode method_3_code 118 = .ok (.castore, 1) := by decide +kernel
theorem d_method_3_119 : decode method_3_code 119 = .ok (.dup, 1) := by decide +kernel
theorem d_method_3_120 : decode method_3_code 120 = .ok (.bipush 6, 2) := by decide +kernel
theorem d_method_3_122 : decode method_3_code 122 = .ok (.bipush 101, 2) := by decide +kernel
theorem d_method_3_124 : decode method_3_code 124 = .ok (.castore, 1) := by decide +kernel
theorem d_method_3_125 : decode method_3_code 125 = .ok (.dup, 1) := by decide +kernel
theorem d_method_3_126 : decode method_3_code 126 = .ok (.bipush 7, 2) := by decide +kernel
theorem d_method_3_128 : decode method_3_code 128 = .ok (.bipush 118, 2) := by decide +kernel
theorem d_method_3_130 : decode method_3_code 130 = .ok (.castore, 1) := by decide +kernel
theorem d_method_3_131 : decode method_3_code 131 = .ok (.dup, 1) := by decide +kernel
theorem d_method_3_132 : decode method_3_code 132 = .ok (.bipush 8, 2) := by decide +kernel
theorem d_method_3_134 : decode method_3_code 134 = .ok (.bipush 101, 2) := by decide +kernel
theorem d_method_3_136 : decode method_3_code 136 = .ok (.castore, 1) := by decide +kernel
theorem d_method_3_137 : decode method_3_code 137 = .ok (.dup, 1) := by decide +kernel
theorem d_method_3_138 : decode method_3_code 138 = .ok (.bipush 9, 2) := by decide +kernel
theorem d_method_3_140 : decode method_3_code 140 = .ok (.bipush 108, 2) := by decide +kernel
theorem d_method_3_142 : decode method_3_code 142 = .ok (.castore, 1) := by decide +kernel
theorem d_method_3_143 : decode method_3_code 143 = .ok (.dup, 1) := by decide +kernel
theorem d_method_3_144 : decode method_3_code 144 = .ok (.bipush 10, 2) := by decide +kernel
theorem d_method_3_146 : decode method_3_code 146 = .ok (.bipush 111, 2) := by decide +kernel
theorem d_method_3_148 : decode method_3_code 148 = .ok (.castore, 1) := by decide +kernel
theorem d_method_3_149 : decode method_3_code 149 = .ok (.dup, 1) := by decide +kernel
theorem d_method_3_150 : decode method_3_code 150 = .ok (.bipush 11, 2) := by decide +kernel
theorem d_method_3_152 : decode method_3_code 152 = .ok (.bipush 112, 2) := by decide +kernel
theorem d_method_3_154 : decode method_3_code 154 = .ok (.castore, 1) := by decide +kernel
theorem d_method_3_155 : decode method_3_code 155 = .ok (.dup, 1) := by decide +kernel
theorem d_method_3_156 : decode method_3_code 156 = .ok (.bipush 12, 2) := by decide +kernel
theorem d_method_3_158 : decode method_3_code 158 = .ok (.bipush 109, 2) := by decide +kernel
theorem d_method_3_160 : decode method_3_code 160 = .ok (.castore, 1) := by decide +kernel
theorem d_method_3_161 : decode method_3_code 161 = .ok (.dup, 1) := by decide +kernel
theorem d_method_3_162 : decode method_3_code 162 = .ok (.bipush 13, 2) := by decide +kernel
theorem d_method_3_164 : decode method_3_code 164 = .ok (.bipush 101, 2) := by decide +kernel
theorem d_method_3_166 : decode method_3_code 166 = .ok (.castore, 1) := by decide +kernel
theorem d_method_3_167 : decode method_3_code 167 = .ok (.dup, 1) := by decide +kernel
theorem d_method_3_168 : decode method_3_code 168 = .ok (.bipush 14, 2) := by decide +kernel
theorem d_method_3_170 : decode method_3_code 170 = .ok (.bipush 110, 2) := by decide +kernel
theorem d_method_3_172 : decode method_3_code 172 = .ok (.castore, 1) := by decide +kernel
theorem d_method_3_173 : decode method_3_code 173 = .ok (.areturn, 1) := by decide +kernel
theorem ef_extended2 (m : MethodId) (x0 : Int32) (x1 : Int32) : entryFrame m #[(.int x0), (.int x1)] 2 = mkF m 0 #[.val (.int x0), .val (.int x1)] [] := by first | (simp [entryFrame, mkF, argsToLocals, Value.category]; done) | rfl
theorem d_method_4_107 : decode method_4_code 107 = .ok (.bipush 17, 2) := by decide +kernel
theorem d_method_4_109 : decode method_4_code 109 = .ok (.newarray .char, 2) := by decide +kernel
theorem d_method_4_111 : decode method_4_code 111 = .ok (.dup, 1) := by decide +kernel
theorem d_method_4_112 : decode method_4_code 112 = .ok (.iconst 0, 1) := by decide +kernel
theorem d_method_4_113 : decode method_4_code 113 = .ok (.bipush 99, 2) := by decide +kernel
theorem d_method_4_115 : decode method_4_code 115 = .ok (.castore, 1) := by decide +kernel
theorem d_method_4_116 : decode method_4_code 116 = .ok (.dup, 1) := by decide +kernel
theorem d_method_4_117 : decode method_4_code 117 = .ok (.iconst 1, 1) := by decide +kernel
theorem d_method_4_118 : decode method_4_code 118 = .ok (.bipush 108, 2) := by decide +kernel
theorem d_method_4_120 : decode method_4_code 120 = .ok (.castore, 1) := by decide +kernel
theorem d_method_4_121 : decode method_4_code 121 = .ok (.dup, 1) := by decide +kernel
theorem d_method_4_122 : decode method_4_code 122 = .ok (.iconst 2, 1) := by decide +kernel
theorem d_method_4_123 : decode method_4_code 123 = .ok (.bipush 111, 2) := by decide +kernel
theorem d_method_4_125 : decode method_4_code 125 = .ok (.castore, 1) := by decide +kernel
theorem d_method_4_126 : decode method_4_code 126 = .ok (.dup, 1) := by decide +kernel
theorem d_method_4_127 : decode method_4_code 127 = .ok (.iconst 3, 1) := by decide +kernel
theorem d_method_4_128 : decode method_4_code 128 = .ok (.bipush 117, 2) := by decide +kernel
theorem d_method_4_130 : decode method_4_code 130 = .ok (.castore, 1) := by decide +kernel
theorem d_method_4_131 : decode method_4_code 131 = .ok (.dup, 1) := by decide +kernel
theorem d_method_4_132 : decode method_4_code 132 = .ok (.iconst 4, 1) := by decide +kernel
theorem d_method_4_133 : decode method_4_code 133 = .ok (.bipush 100, 2) := by decide +kernel
theorem d_method_4_135 : decode method_4_code 135 = .ok (.castore, 1) := by decide +kernel
theorem d_method_4_136 : decode method_4_code 136 = .ok (.dup, 1) := by decide +kernel
theorem d_method_4_137 : decode method_4_code 137 = .ok (.iconst 5, 1) := by decide +kernel
theorem d_method_4_138 : decode method_4_code 138 = .ok (.bipush 68, 2) := by decide +kernel
theorem d_method_4_140 : decode method_4_code 140 = .ok (.castore, 1) := by decide +kernel
theorem d_method_4_141 : decode method_4_code 141 = .ok (.dup, 1) := by decide +kernel
theorem d_method_4_142 : decode method_4_code 142 = .ok (.bipush 6, 2) := by decide +kernel
theorem d_method_4_144 : decode method_4_code 144 = .ok (.bipush 101, 2) := by decide +kernel
theorem d_method_4_146 : decode method_4_code 146 = .ok (.castore, 1) := by decide +kernel
theorem d_method_4_147 : decode method_4_code 147 = .ok (.dup, 1) := by decide +kernel
theorem d_method_4_148 : decode method_4_code 148 = .ok (.bipush 7, 2) := by decide +kernel
theorem d_method_4_150 : decode method_4_code 150 = .ok (.bipush 118, 2) := by decide +kernel
theorem d_method_4_152 : decode method_4_code 152 = .ok (.castore, 1) := by decide +kernel
theorem d_method_4_153 : decode method_4_code 153 = .ok (.dup, 1) := by decide +kernel
theorem d_method_4_154 : decode method_4_code 154 = .ok (.bipush 8, 2) := by decide +kernel
theorem d_method_4_156 : decode method_4_code 156 = .ok (.bipush 101, 2) := by decide +kernel
theorem d_method_4_158 : decode method_4_code 158 = .ok (.castore, 1) := by decide +kernel
theorem d_method_4_159 : decode method_4_code 159 = .ok (.dup, 1) := by decide +kernel
theorem d_method_4_160 : decode method_4_code 160 = .ok (.bipush 9, 2) := by decide +kernel
theorem d_method_4_162 : decode method_4_code 162 = .ok (.bipush 108, 2) := by decide +kernel
theorem d_method_4_164 : decode method_4_code 164 = .ok (.castore, 1) := by decide +kernel
theorem d_method_4_165 : decode method_4_code 165 = .ok (.dup, 1) := by decide +kernel
theorem d_method_4_166 : decode method_4_code 166 = .ok (.bipush 10, 2) := by decide +kernel
theorem d_method_4_168 : decode method_4_code 168 = .ok (.bipush 111, 2) := by decide +kernel
theorem d_method_4_170 : decode method_4_code 170 = .ok (.castore, 1) := by decide +kernel
theorem d_method_4_171 : decode method_4_code 171 = .ok (.dup, 1) := by decide +kernel
theorem d_method_4_172 : decode method_4_code 172 = .ok (.bipush 11, 2) := by decide +kernel
theorem d_method_4_174 : decode method_4_code 174 = .ok (.bipush 112, 2) := by decide +kernel
theorem d_method_4_176 : decode method_4_code 176 = .ok (.castore, 1) := by decide +kernel
theorem d_method_4_177 : decode method_4_code 177 = .ok (.dup, 1) := by decide +kernel
theorem d_method_4_178 : decode method_4_code 178 = .ok (.bipush 12, 2) := by decide +kernel
theorem d_method_4_180 : decode method_4_code 180 = .ok (.bipush 109, 2) := by decide +kernel
theorem d_method_4_182 : decode method_4_code 182 = .ok (.castore, 1) := by decide +kernel
theorem d_method_4_183 : decode method_4_code 183 = .ok (.dup, 1) := by decide +kernel
theorem d_method_4_184 : decode method_4_code 184 = .ok (.bipush 13, 2) := by decide +kernel
theorem d_method_4_186 : decode method_4_code 186 = .ok (.bipush 101, 2) := by decide +kernel
theorem d_method_4_188 : decode method_4_code 188 = .ok (.castore, 1) := by decide +kernel
theorem d_method_4_189 : decode method_4_code 189 = .ok (.dup, 1) := by decide +kernel
theorem d_method_4_190 : decode method_4_code 190 = .ok (.bipush 14, 2) := by decide +kernel
theorem d_method_4_192 : decode method_4_code 192 = .ok (.bipush 110, 2) := by decide +kernel
theorem d_method_4_194 : decode method_4_code 194 = .ok (.castore, 1) := by decide +kernel
theorem d_method_4_195 : decode method_4_code 195 = .ok (.dup, 1) := by decide +kernel
theorem d_method_4_196 : decode method_4_code 196 = .ok (.bipush 15, 2) := by decide +kernel
theorem d_method_4_198 : decode method_4_code 198 = .ok (.bipush 116, 2) := by decide +kernel
theorem d_method_4_200 : decode method_4_code 200 = .ok (.castore, 1) := by decide +kernel
theorem d_method_4_201 : decode method_4_code 201 = .ok (.dup, 1) := by decide +kernel
theorem d_method_4_202 : decode method_4_code 202 = .ok (.bipush 16, 2) := by decide +kernel
theorem d_method_4_204 : decode method_4_code 204 = .ok (.iload_n 1, 1) := by decide +kernel
theorem d_method_4_205 : decode method_4_code 205 = .ok (.castore, 1) := by decide +kernel
theorem d_method_4_206 : decode method_4_code 206 = .ok (.areturn, 1) := by decide +kernel
theorem ef_reqNN (m : MethodId) (x0 : Addr) : entryFrame m #[(.ref x0)] 1 = mkF m 0 #[.val (.ref x0)] [] := by first | (simp [entryFrame, mkF, argsToLocals, Value.category]; done) | rfl
theorem pn_java_util_Objects : plainName "java/util/Objects" = true := by first | (simp [plainName, overriddenIn]; done) | decide +kernel
theorem d_jdk_31_method_10_0 : decode jdk_31_method_10_code 0 = .ok (.aload_n 0, 1) := by decide +kernel
theorem d_jdk_31_method_10_1 : decode jdk_31_method_10_code 1 = .ok (.ifnonnull 11, 3) := by decide +kernel
theorem d_jdk_31_method_10_12 : decode jdk_31_method_10_code 12 = .ok (.aload_n 0, 1) := by decide +kernel
theorem d_jdk_31_method_10_13 : decode jdk_31_method_10_code 13 = .ok (.areturn, 1) := by decide +kernel
abbrev yn14 : MethodName := ⟨"java/util/Objects", "requireNonNull", "(Ljava/lang/Object;)Ljava/lang/Object;"⟩
theorem ef_opInit (m : MethodId) (x0 : Addr) (x1 : Addr) : entryFrame m #[(.ref x0), (.ref x1)] 2 = mkF m 0 #[.val (.ref x0), .val (.ref x1)] [] := by first | (simp [entryFrame, mkF, argsToLocals, Value.category]; done) | rfl
theorem pn_java_util_Optional : plainName "java/util/Optional" = true := by first | (simp [plainName, overriddenIn]; done) | decide +kernel
theorem d_jdk_32_method_2_0 : decode jdk_32_method_2_code 0 = .ok (.aload_n 0, 1) := by decide +kernel
theorem d_jdk_32_method_2_1 : decode jdk_32_method_2_code 1 = .ok (.invokespecial 7, 3) := by decide +kernel
theorem d_jdk_32_method_2_4 : decode jdk_32_method_2_code 4 = .ok (.aload_n 0, 1) := by decide +kernel
theorem d_jdk_32_method_2_5 : decode jdk_32_method_2_code 5 = .ok (.aload_n 1, 1) := by decide +kernel
theorem d_jdk_32_method_2_6 : decode jdk_32_method_2_code 6 = .ok (.putfield 13, 3) := by decide +kernel
theorem d_jdk_32_method_2_9 : decode jdk_32_method_2_code 9 = .ok (.return_, 1) := by decide +kernel
abbrev yn15 : MethodName := ⟨"java/util/Optional", "<init>", "(Ljava/lang/Object;)V"⟩
theorem ef_opOf (m : MethodId) (x0 : Addr) : entryFrame m #[(.ref x0)] 1 = mkF m 0 #[.val (.ref x0)] [] := by first | (simp [entryFrame, mkF, argsToLocals, Value.category]; done) | rfl
theorem d_jdk_32_method_3_0 : decode jdk_32_method_3_code 0 = .ok (.new 2, 3) := by decide +kernel
theorem d_jdk_32_method_3_3 : decode jdk_32_method_3_code 3 = .ok (.dup, 1) := by decide +kernel
theorem d_jdk_32_method_3_4 : decode jdk_32_method_3_code 4 = .ok (.aload_n 0, 1) := by decide +kernel
theorem d_jdk_32_method_3_5 : decode jdk_32_method_3_code 5 = .ok (.invokestatic 17, 3) := by decide +kernel
theorem pd__28_Ljava_2f_lang_2f_Object_3b__29_Ljava_2f_lang_2f_Object_3b_ : parseMethodDescriptor "(Ljava/lang/Object;)Ljava/lang/Object;" = some ⟨[(.object "java/lang/Object")], some (.object "java/lang/Object")⟩ := by decide +kernel
theorem d_jdk_32_method_3_8 : decode jdk_32_method_3_code 8 = .ok (.invokespecial 23, 3) := by decide +kernel
theorem pd__28_Ljava_2f_lang_2f_Object_3b__29_V : parseMethodDescriptor "(Ljava/lang/Object;)V" = some ⟨[(.object "java/lang/Object")], none⟩ := by decide +kernel
theorem d_jdk_32_method_3_11 : decode jdk_32_method_3_code 11 = .ok (.areturn, 1) := by decide +kernel
abbrev yn16 : MethodName := ⟨"java/util/Optional", "of", "(Ljava/lang/Object;)Ljava/util/Optional;"⟩
theorem ef_opEmpty (m : MethodId)  : entryFrame m #[] 1 = mkF m 0 #[.unset] [] := by first | (simp [entryFrame, mkF, argsToLocals, Value.category]; done) | rfl
theorem d_jdk_32_method_1_0 : decode jdk_32_method_1_code 0 = .ok (.getstatic 1, 3) := by decide +kernel
theorem d_jdk_32_method_1_3 : decode jdk_32_method_1_code 3 = .ok (.astore_n 0, 1) := by decide +kernel
theorem d_jdk_32_method_1_4 : decode jdk_32_method_1_code 4 = .ok (.aload_n 0, 1) := by decide +kernel
theorem d_jdk_32_method_1_5 : decode jdk_32_method_1_code 5 = .ok (.areturn, 1) := by decide +kernel
abbrev yn17 : MethodName := ⟨"java/util/Optional", "empty", "()Ljava/util/Optional;"⟩
theorem ef_isP1 (m : MethodId) (x0 : Addr) : entryFrame m #[(.ref x0)] 1 = mkF m 0 #[.val (.ref x0)] [] := by first | (simp [entryFrame, mkF, argsToLocals, Value.category]; done) | rfl
theorem d_jdk_32_method_6_0 : decode jdk_32_method_6_code 0 = .ok (.aload_n 0, 1) := by decide +kernel
theorem d_jdk_32_method_6_1 : decode jdk_32_method_6_code 1 = .ok (.getfield 13, 3) := by decide +kernel
theorem d_jdk_32_method_6_4 : decode jdk_32_method_6_code 4 = .ok (.ifnull 7, 3) := by decide +kernel
theorem d_jdk_32_method_6_7 : decode jdk_32_method_6_code 7 = .ok (.iconst 1, 1) := by decide +kernel
theorem d_jdk_32_method_6_8 : decode jdk_32_method_6_code 8 = .ok (.goto 4, 3) := by decide +kernel
theorem d_jdk_32_method_6_12 : decode jdk_32_method_6_code 12 = .ok (.ireturn, 1) := by decide +kernel
abbrev yn18 : MethodName := ⟨"java/util/Optional", "isPresent", "()Z"⟩
theorem ef_isP0 (m : MethodId) (x0 : Addr) : entryFrame m #[(.ref x0)] 1 = mkF m 0 #[.val (.ref x0)] [] := by first | (simp [entryFrame, mkF, argsToLocals, Value.category]; done) | rfl
theorem d_jdk_32_method_6_11 : decode jdk_32_method_6_code 11 = .ok (.iconst 0, 1) := by decide +kernel
theorem ef_opGet (m : MethodId) (x0 : Addr) : entryFrame m #[(.ref x0)] 1 = mkF m 0 #[.val (.ref x0)] [] := by first | (simp [entryFrame, mkF, argsToLocals, Value.category]; done) | rfl
theorem d_jdk_32_method_5_0 : decode jdk_32_method_5_code 0 = .ok (.aload_n 0, 1) := by decide +kernel
theorem d_jdk_32_method_5_1 : decode jdk_32_method_5_code 1 = .ok (.getfield 13, 3) := by decide +kernel
theorem d_jdk_32_method_5_4 : decode jdk_32_method_5_code 4 = .ok (.ifnonnull 13, 3) := by decide +kernel
theorem d_jdk_32_method_5_17 : decode jdk_32_method_5_code 17 = .ok (.aload_n 0, 1) := by decide +kernel
theorem d_jdk_32_method_5_18 : decode jdk_32_method_5_code 18 = .ok (.getfield 13, 3) := by decide +kernel
theorem d_jdk_32_method_5_21 : decode jdk_32_method_5_code 21 = .ok (.areturn, 1) := by decide +kernel
abbrev yn19 : MethodName := ⟨"java/util/Optional", "get", "()Ljava/lang/Object;"⟩
theorem ef_const0 (m : MethodId) (x0 : Int32) : entryFrame m #[(.int x0)] 1 = mkF m 0 #[.val (.int x0)] [] := by first | (simp [entryFrame, mkF, argsToLocals, Value.category]; done) | rfl
theorem d_method_5_0 : decode method_5_code 0 = .ok (.iload_n 0, 1) := by decide +kernel
theorem d_method_5_1 : decode method_5_code 1 = .ok (.ifCond .ne 7, 3) := by decide +kernel
theorem d_method_5_4 : decode method_5_code 4 = .ok (.getstatic 7, 3) := by decide +kernel
theorem d_method_5_7 : decode method_5_code 7 = .ok (.areturn, 1) := by decide +kernel
abbrev yn20 : MethodName := ⟨"com/example/composition/composition/definition/AbapLanguageVersionOfJsonNamePinLaw", "constant", "(I)Lcom/example/composition/composition/definition/AbapLanguageVersion;"⟩
theorem ef_const1 (m : MethodId) (x0 : Int32) : entryFrame m #[(.int x0)] 1 = mkF m 0 #[.val (.int x0)] [] := by first | (simp [entryFrame, mkF, argsToLocals, Value.category]; done) | rfl
theorem d_method_5_8 : decode method_5_code 8 = .ok (.iload_n 0, 1) := by decide +kernel
theorem d_method_5_9 : decode method_5_code 9 = .ok (.iconst 1, 1) := by decide +kernel
theorem d_method_5_10 : decode method_5_code 10 = .ok (.if_icmp .ne 7, 3) := by decide +kernel
theorem d_method_5_13 : decode method_5_code 13 = .ok (.getstatic 13, 3) := by decide +kernel
theorem d_method_5_16 : decode method_5_code 16 = .ok (.areturn, 1) := by decide +kernel
theorem ef_const2 (m : MethodId) (x0 : Int32) : entryFrame m #[(.int x0)] 1 = mkF m 0 #[.val (.int x0)] [] := by first | (simp [entryFrame, mkF, argsToLocals, Value.category]; done) | rfl
theorem d_method_5_17 : decode method_5_code 17 = .ok (.getstatic 16, 3) := by decide +kernel
theorem d_method_5_20 : decode method_5_code 20 = .ok (.areturn, 1) := by decide +kernel
theorem ef_values (m : MethodId)  : entryFrame m #[] 0 = mkF m 0 #[] [] := by first | (simp [entryFrame, mkF, argsToLocals, Value.category]; done) | rfl
theorem pn_com_example_composition_composition_definition_AbapLanguageVersion : plainName "com/example/composition/composition/definition/AbapLanguageVersion" = true := by first | (simp [plainName, overriddenIn]; done) | decide +kernel
theorem d_prog_11_method_1_0 : decode prog_11_method_1_code 0 = .ok (.getstatic 13, 3) := by decide +kernel
theorem d_prog_11_method_1_3 : decode prog_11_method_1_code 3 = .ok (.invokevirtual 17, 3) := by decide +kernel
theorem d_prog_11_method_1_6 : decode prog_11_method_1_code 6 = .ok (.checkcast 18, 3) := by decide +kernel
theorem d_prog_11_method_1_9 : decode prog_11_method_1_code 9 = .ok (.areturn, 1) := by decide +kernel
abbrev yn21 : MethodName := ⟨"com/example/composition/composition/definition/AbapLanguageVersion", "values", "()[Lcom/example/composition/composition/definition/AbapLanguageVersion;"⟩
theorem ef_of0 (m : MethodId) (x0 : Addr) : entryFrame m #[(.ref x0)] 5 = mkF m 0 #[.val (.ref x0), .unset, .unset, .unset, .unset] [] := by first | (simp [entryFrame, mkF, argsToLocals, Value.category]; done) | rfl
theorem d_prog_11_method_6_0 : decode prog_11_method_6_code 0 = .ok (.invokestatic 36, 3) := by decide +kernel
theorem pd__28__29__5b_Lcom_2f_example_2f_composition_2f_composition_2f_definition_2f_AbapLanguageVersion_3b_ : parseMethodDescriptor "()[Lcom/example/composition/composition/definition/AbapLanguageVersion;" = some ⟨[], some (.array (.object "com/example/composition/composition/definition/AbapLanguageVersion"))⟩ := by decide +kernel
theorem d_prog_11_method_6_3 : decode prog_11_method_6_code 3 = .ok (.astore_n 1, 1) := by decide +kernel
theorem d_prog_11_method_6_4 : decode prog_11_method_6_code 4 = .ok (.aload_n 1, 1) := by decide +kernel
theorem d_prog_11_method_6_5 : decode prog_11_method_6_code 5 = .ok (.arraylength, 1) := by decide +kernel
theorem d_prog_11_method_6_6 : decode prog_11_method_6_code 6 = .ok (.istore_n 2, 1) := by decide +kernel
theorem d_prog_11_method_6_7 : decode prog_11_method_6_code 7 = .ok (.iconst 0, 1) := by decide +kernel
theorem d_prog_11_method_6_8 : decode prog_11_method_6_code 8 = .ok (.istore_n 3, 1) := by decide +kernel
theorem d_prog_11_method_6_9 : decode prog_11_method_6_code 9 = .ok (.iload_n 3, 1) := by decide +kernel
theorem d_prog_11_method_6_10 : decode prog_11_method_6_code 10 = .ok (.iload_n 2, 1) := by decide +kernel
theorem d_prog_11_method_6_11 : decode prog_11_method_6_code 11 = .ok (.if_icmp .ge 32, 3) := by decide +kernel
theorem d_prog_11_method_6_14 : decode prog_11_method_6_code 14 = .ok (.aload_n 1, 1) := by decide +kernel
theorem d_prog_11_method_6_15 : decode prog_11_method_6_code 15 = .ok (.iload_n 3, 1) := by decide +kernel
theorem d_prog_11_method_6_16 : decode prog_11_method_6_code 16 = .ok (.aaload, 1) := by decide +kernel
theorem d_prog_11_method_6_17 : decode prog_11_method_6_code 17 = .ok (.astore 4, 2) := by decide +kernel
theorem d_prog_11_method_6_19 : decode prog_11_method_6_code 19 = .ok (.aload 4, 2) := by decide +kernel
theorem d_prog_11_method_6_21 : decode prog_11_method_6_code 21 = .ok (.getfield 32, 3) := by decide +kernel
theorem d_prog_11_method_6_24 : decode prog_11_method_6_code 24 = .ok (.aload_n 0, 1) := by decide +kernel
theorem d_prog_11_method_6_25 : decode prog_11_method_6_code 25 = .ok (.invokevirtual 60, 3) := by decide +kernel
theorem pd__28_Ljava_2f_lang_2f_Object_3b__29_Z : parseMethodDescriptor "(Ljava/lang/Object;)Z" = some ⟨[(.object "java/lang/Object")], some .boolean⟩ := by decide +kernel
theorem d_prog_11_method_6_28 : decode prog_11_method_6_code 28 = .ok (.ifCond .eq 9, 3) := by decide +kernel
theorem d_prog_11_method_6_31 : decode prog_11_method_6_code 31 = .ok (.aload 4, 2) := by decide +kernel
theorem d_prog_11_method_6_33 : decode prog_11_method_6_code 33 = .ok (.invokestatic 66, 3) := by decide +kernel
theorem pd__28_Ljava_2f_lang_2f_Object_3b__29_Ljava_2f_util_2f_Optional_3b_ : parseMethodDescriptor "(Ljava/lang/Object;)Ljava/util/Optional;" = some ⟨[(.object "java/lang/Object")], some (.object "java/util/Optional")⟩ := by decide +kernel
theorem d_prog_11_method_6_36 : decode prog_11_method_6_code 36 = .ok (.areturn, 1) := by decide +kernel
abbrev yn22 : MethodName := ⟨"com/example/composition/composition/definition/AbapLanguageVersion", "ofJsonName", "(Ljava/lang/String;)Ljava/util/Optional;"⟩
theorem ef_of1 (m : MethodId) (x0 : Addr) : entryFrame m #[(.ref x0)] 5 = mkF m 0 #[.val (.ref x0), .unset, .unset, .unset, .unset] [] := by first | (simp [entryFrame, mkF, argsToLocals, Value.category]; done) | rfl
theorem d_prog_11_method_6_37 : decode prog_11_method_6_code 37 = .ok (.iinc 3 1, 3) := by decide +kernel
theorem d_prog_11_method_6_40 : decode prog_11_method_6_code 40 = .ok (.goto (-31), 3) := by decide +kernel
theorem ef_of2 (m : MethodId) (x0 : Addr) : entryFrame m #[(.ref x0)] 5 = mkF m 0 #[.val (.ref x0), .unset, .unset, .unset, .unset] [] := by first | (simp [entryFrame, mkF, argsToLocals, Value.category]; done) | rfl
theorem ef_of3 (m : MethodId) (x0 : Addr) : entryFrame m #[(.ref x0)] 5 = mkF m 0 #[.val (.ref x0), .unset, .unset, .unset, .unset] [] := by first | (simp [entryFrame, mkF, argsToLocals, Value.category]; done) | rfl
theorem d_prog_11_method_6_43 : decode prog_11_method_6_code 43 = .ok (.invokestatic 72, 3) := by decide +kernel
theorem pd__28__29_Ljava_2f_util_2f_Optional_3b_ : parseMethodDescriptor "()Ljava/util/Optional;" = some ⟨[], some (.object "java/util/Optional")⟩ := by decide +kernel
theorem d_prog_11_method_6_46 : decode prog_11_method_6_code 46 = .ok (.areturn, 1) := by decide +kernel
theorem ef_law (m : MethodId) (x0 : Int32) (x1 : Int32) (x2 : Int32) (x3 : Int32) : entryFrame m #[(.int x0), (.int x1), (.int x2), (.int x3)] maxLocals = mkF m 0 #[.val (.int x0), .val (.int x1), .val (.int x2), .val (.int x3), .unset, .unset, .unset, .unset, .unset, .unset, .unset, .unset, .unset, .unset] [] := by first | (simp [entryFrame, mkF, argsToLocals, Value.category, maxLocals]; done) | rfl
theorem pd__28_I_29__5b_C : parseMethodDescriptor "(I)[C" = some ⟨[.int], some (.array .char)⟩ := by decide +kernel
theorem pd__28__5b_C_29_V : parseMethodDescriptor "([C)V" = some ⟨[(.array .char)], none⟩ := by decide +kernel
theorem pd__28_Ljava_2f_lang_2f_String_3b__29_Ljava_2f_util_2f_Optional_3b_ : parseMethodDescriptor "(Ljava/lang/String;)Ljava/util/Optional;" = some ⟨[(.object "java/lang/String")], some (.object "java/util/Optional")⟩ := by decide +kernel
theorem pd__28__29_Z : parseMethodDescriptor "()Z" = some ⟨[], some .boolean⟩ := by decide +kernel
theorem pd__28__29_Ljava_2f_lang_2f_Object_3b_ : parseMethodDescriptor "()Ljava/lang/Object;" = some ⟨[], some (.object "java/lang/Object")⟩ := by decide +kernel
theorem pd__28_I_29_Lcom_2f_example_2f_composition_2f_composition_2f_definition_2f_AbapLanguageVersion_3b_ : parseMethodDescriptor "(I)Lcom/example/composition/composition/definition/AbapLanguageVersion;" = some ⟨[.int], some (.object "com/example/composition/composition/definition/AbapLanguageVersion")⟩ := by decide +kernel
theorem pd__28_IC_29__5b_C : parseMethodDescriptor "(IC)[C" = some ⟨[.int, .char], some (.array .char)⟩ := by decide +kernel
theorem pd__28_C_29_Ljava_2f_lang_2f_String_3b_ : parseMethodDescriptor "(C)Ljava/lang/String;" = some ⟨[.char], some (.object "java/lang/String")⟩ := by decide +kernel
theorem own_wS {a0 : Array Value} {Z : State} (hw : HW a0 Z) : ∀ a ∈ Bundle.stringAtoms, a.before a0 Z = true := by
  intro d hd
  simp only [Bundle.stringAtoms, List.mem_cons, List.not_mem_nil, or_false] at hd
  rcases hd with rfl | rfl | rfl | rfl | rfl | rfl | rfl
  · exact (w4 hw)
  · exact (w3 hw)
  · exact (w25 hw)
  · exact (w35 hw)
  · exact (w33 hw)
  · exact (w114 hw)
  · exact (w115 hw)
theorem own_rw {s t : State} {o : Outcome} {L : List Loc} {k n k' n' : Nat} (h : ReturnedEndW s o t L k n) (hk : k ≤ k') (hn : n ≤ n') : ReturnedEndW s o t L k' n' := ⟨h.1, h.2.1, h.2.2.1, h.2.2.2.mono hk hn⟩
def EL_1 : List (String × Nat) := [("java/lang/String", 7)]
theorem own_EW {a0 : Array Value} {Z : State} (hw : HW a0 Z) : EW Z a0 EL_1 := (EW.cons (w113 hw) (by decide +kernel) EW.nil)
theorem own_held {tb : Tables} {e : Env} {args : Array Value} {s : State} (hc : call_1_1 tb e args s) : ∀ p ∈ EL_1, Jvm.Lit.constHeld s p.1 p.2 := fun p hp => hc p ((by decide +kernel : ∀ p ∈ EL_1, p ∈ consts_1) p hp)
theorem own_chr {Z s T : State} {EL : List (String × Nat)} {vm0 vm : Vm} {h0 H : Heap} (R : CHr Z EL vm0 h0 vm H) (A : CHr Z EL vm H T.vm H) (hs : h0 = s.heap) (eT : T.heap = H) : CHr Z EL vm0 s.heap T.vm T.heap := by subst hs eT; exact R.trans A
theorem own_inskeep {Z : State} {h h' : Heap} {a : Addr} {C : String} {ws : List Addr} (F : Ins Z h a C true) (K : Keep h h' ws) : Ins Z h' a C true := by
  obtain ⟨cell, cT, h1, h2, h3⟩ := F
  obtain ⟨c', q1, q2, q3, -⟩ := K.2.2 _ _ h1
  exact ⟨c', cT, q1, h2, by rw [q2, q3]; exact h3⟩
theorem own_safeS {Z : State} {EL : List (String × Nat)} {vm : Vm} {h : Heap} {x : Addr} (hal : Z.vm.Alike vm) (E : Exa Z h x "java/lang/String") (F : Fld Z h x "java/lang/String" "value" "[B" .null) : Safe Z EL vm h x := fun B => by
  obtain ⟨cell, k, e1, e2, e3, -, -⟩ := E
  obtain ⟨p, -, u, a, -, q, -, S, rfl | rfl⟩ := B
  · obtain ⟨c1, _, _, _, f0, g1, g2, -, -, -, -, g7⟩ := F
    cases (show h[q.sa]? = some q.sC from S.ha).symm.trans g1
    obtain ⟨cS, ⟨⟨-, -, -, ⟨c1', k1, i1, f1, -⟩, -, -, -, v1, -⟩, -⟩, -⟩ := S
    obtain ⟨k3, e3', -⟩ := State.fieldFound?_setVm (s := Z) hal g2
    have e4 := (show (Wst Z vm h).fieldFound? _ _ _ = _ from e3').symm.trans f1
    simp only [Option.some.injEq, Prod.mk.injEq] at e4
    rw [← e4.2.2.2, g7] at v1
    simp at v1
  · cases (show h[q.sd]? = some q.SA from S.hd).symm.trans e1
    obtain ⟨cS, -, -, f, -⟩ := S
    have f' : vm.findClass "[B" = some q.SA.cls := f
    rw [hal.findClass] at f'
    obtain ⟨k1, q1, q2⟩ := Vm.findClass_spec f'
    obtain ⟨k2, q3, q4⟩ := Vm.findClass_spec e2
    cases q1.symm.trans q3
    exact absurd (q2.symm.trans q4) (by decide)
theorem own_chv {s : State} {args : Array Value} {tb : Tables} {e : Env} (hw : ∀ d ∈ tables_1, d.before args s = true) (hc : call_1_1 tb e args s) (hcw : Jvm.Lit.compactW.before args s = true) : CHv s EL_1 s.vm s.heap := CHv.start (own_EW hw) (fun p hp => own_held hc p hp) hcw (w25 hw) (w3 hw)
/- numbers -/
theorem own_i {n : Nat} (h : n < 2147483648) : (Int32.ofNat n).toInt = n := len_toInt h
theorem own_lt {i n : Nat} (h : i < n) (hn : n < 2147483648) : Int32.ofNat i < Int32.ofNat n := by
  rw [Int32.lt_iff_toInt_lt, own_i (Nat.lt_trans h hn), own_i hn]; omega
theorem own_nlt {i n : Nat} (h : n ≤ i) (hi : i < 2147483648) : ¬ (Int32.ofNat i < Int32.ofNat n) := by
  rw [Int32.lt_iff_toInt_lt, own_i hi, own_i (Nat.lt_of_le_of_lt h hi)]; omega
theorem own_nneg {i : Nat} (hi : i < 2147483648) : ¬ (Int32.ofNat i < (0 : Int32)) := by
  rw [Int32.lt_iff_toInt_lt, own_i hi]; have : (0 : Int32).toInt = 0 := rfl; omega
theorem own_cl {i : Nat} (hi : i < 2147483648) : (Int32.ofNat i).toNatClampNeg = i := by
  have h := own_i hi; simp only [Int32.toNatClampNeg, h]; omega
theorem own_succ (i : Nat) : Int32.ofNat i + (1 : Int32) = Int32.ofNat (i + 1) := (Int32.ofNat_add i 1).symm
theorem own_shl1 {i : Nat} (hi : 2 * i < 2147483648) : (Int32.ofNat i <<< ((1 : Int32) &&& 31)) = Int32.ofNat (2 * i) := by
  apply Int32.toInt_inj.mp
  have h := c_ishl (Int32.ofNat i) 1 1 rfl
  have r := rng32 (Int32.ofNat i <<< ((1 : Int32) &&& 31))
  rw [own_i (by omega)] at h; rw [own_i hi]; omega
theorem own_shr1 {i : Nat} (hi : 2 * i < 2147483648) : (Int32.ofNat (2 * i) >>> ((1 : Int32) &&& 31)) = Int32.ofNat i := by
  apply Int32.toInt_inj.mp
  have h := c_ishr (Int32.ofNat (2 * i)) 1 1 rfl
  rw [own_i hi] at h; rw [own_i (by omega)]; omega
theorem own_narb (x : Int32) : nar .byte (x.toInt8.toInt32) = x.toInt8.toInt32 := by simp [nar]
/- strings -/
def lat (cs : List Int32) : Bool := cs.all fun c => decide (¬ (255 : Int32) < c)
def fl : List Int32 → Nat
  | [] => 0
  | c :: r => if (255 : Int32) < c then 0 else fl r + 1
def l1 (cs : List Int32) : List Value := cs.map fun c => .int (c.toInt8.toInt32)
def u16 : List Int32 → List Value
  | [] => []
  | c :: r => .int ((c >>> ((0 : Int32) &&& 31)).toInt8.toInt32) :: .int ((c >>> ((8 : Int32) &&& 31)).toInt8.toInt32) :: u16 r
def cdr (cs : List Int32) : Int32 := if lat cs = true then 0 else 1
def blen (cs : List Int32) : Nat := if lat cs = true then cs.length else 2 * cs.length
def enc (cs : List Int32) : List Value := if lat cs = true then l1 cs else u16 cs
def OkS (cs : List Int32) : Prop := (∀ c ∈ cs, ¬ (c < (0 : Int32)) ∧ ¬ ((65535 : Int32) < c)) ∧ cs.length < 1048576
theorem lat_cons (c : Int32) (r : List Int32) : lat (c :: r) = true ↔ ¬ (255 : Int32) < c ∧ lat r = true := by simp [lat]
theorem fl_le : ∀ cs : List Int32, fl cs ≤ cs.length
  | [] => Nat.le_refl _
  | c :: r => by
    show (if (255 : Int32) < c then 0 else fl r + 1) ≤ r.length + 1
    have := fl_le r; split <;> omega
theorem fl_lat : ∀ {cs : List Int32}, lat cs = true → fl cs = cs.length
  | [], _ => rfl
  | c :: r, h => by
    obtain ⟨h1, h2⟩ := (lat_cons c r).mp h
    show (if (255 : Int32) < c then 0 else fl r + 1) = r.length + 1
    rw [if_neg h1, fl_lat h2]
theorem fl_nlat : ∀ {cs : List Int32}, ¬ lat cs = true → fl cs < cs.length ∧ (255 : Int32) < cs.getD (fl cs) 0
  | [], h => absurd rfl h
  | c :: r, h => by
    by_cases q : (255 : Int32) < c
    · have e : fl (c :: r) = 0 := if_pos q
      rw [e]; exact ⟨Nat.succ_pos _, q⟩
    · have e : fl (c :: r) = fl r + 1 := if_neg q
      have := fl_nlat (cs := r) fun z => h ((lat_cons c r).mpr ⟨q, z⟩)
      rw [e]; exact ⟨Nat.succ_lt_succ this.1, by simpa using this.2⟩
theorem fl_ne {cs : List Int32} (h : fl cs = cs.length) : lat cs = true := by
  by_cases q : lat cs = true
  · exact q
  · exact absurd h (Nat.ne_of_lt (fl_nlat q).1)
theorem fl_app : ∀ {pre : List Int32} (suf : List Int32), lat pre = true → fl (pre ++ suf) = pre.length + fl suf
  | [], suf, _ => by simp
  | c :: r, suf, h => by
    obtain ⟨h1, h2⟩ := (lat_cons c r).mp h
    show (if (255 : Int32) < c then 0 else fl (r ++ suf) + 1) = r.length + 1 + fl suf
    rw [if_neg h1, fl_app suf h2]; omega
theorem lat_snoc {pre : List Int32} {c : Int32} (h : lat pre = true) (hc : ¬ (255 : Int32) < c) : lat (pre ++ [c]) = true := by
  simp only [lat, List.all_append, Bool.and_eq_true]; exact ⟨h, by simpa using hc⟩
theorem l1_snoc (pre : List Int32) (c : Int32) : l1 pre ++ [.int (c.toInt8.toInt32)] = l1 (pre ++ [c]) := by simp [l1]
theorem u16_app : ∀ (pre suf : List Int32), u16 (pre ++ suf) = u16 pre ++ u16 suf
  | [], _ => rfl
  | c :: r, suf => by show _ :: _ :: u16 (r ++ suf) = _ :: _ :: (u16 r ++ u16 suf); rw [u16_app r suf]
theorem u16_len : ∀ cs : List Int32, (u16 cs).length = 2 * cs.length
  | [] => rfl
  | c :: r => by show (u16 r).length + 1 + 1 = 2 * (r.length + 1); rw [u16_len r]; omega
theorem l1_len (cs : List Int32) : (l1 cs).length = cs.length := by simp [l1]
theorem u16_at : ∀ (cs : List Int32) (i : Nat) (d : Value), i < cs.length → (u16 cs).getD (2 * i) d = .int ((cs.getD i 0 >>> ((0 : Int32) &&& 31)).toInt8.toInt32) ∧ (u16 cs).getD (2 * i + 1) d = .int ((cs.getD i 0 >>> ((8 : Int32) &&& 31)).toInt8.toInt32)
  | [], i, _, h => absurd h (Nat.not_lt_zero _)
  | c :: r, 0, d, _ => ⟨rfl, rfl⟩
  | c :: r, i + 1, d, h => by
    have := u16_at r i d (Nat.lt_of_succ_lt_succ h)
    exact this
theorem l1_at (cs : List Int32) (i : Nat) (d : Value) (h : i < cs.length) : (l1 cs).getD i d = .int ((cs.getD i 0).toInt8.toInt32) := by
  simp [l1, List.getD, h]
theorem ch_at (cs : List Int32) (i : Nat) (d : Value) (h : i < cs.length) : (cs.map Value.int).getD i d = .int (cs.getD i 0) := by
  simp [List.getD, h]
theorem app_at (pre r : List Int32) (c d : Int32) : (pre ++ c :: r).getD pre.length d = c := by simp [List.getD]
theorem getD_mem {cs : List Int32} {i : Nat} (h : i < cs.length) : cs.getD i 0 ∈ cs := by simp [List.getD, h]
theorem OkS.at {cs : List Int32} (h : OkS cs) {i : Nat} (hi : i < cs.length) : ¬ (cs.getD i 0 < (0 : Int32)) ∧ ¬ ((65535 : Int32) < cs.getD i 0) := h.1 _ (getD_mem hi)
theorem own_rng {c : Int32} (h1 : ¬ (c < (0 : Int32))) (h2 : ¬ ((65535 : Int32) < c)) : 0 ≤ c.toInt ∧ c.toInt ≤ 65535 := by
  rw [Int32.lt_iff_toInt_lt] at h1 h2; have a : (0 : Int32).toInt = 0 := rfl; have b : (65535 : Int32).toInt = 65535 := rfl; omega
theorem own_narc {c : Int32} (h1 : ¬ (c < (0 : Int32))) (h2 : ¬ ((65535 : Int32) < c)) : nar .char c = c := by
  apply Int32.toInt_inj.mp
  have := own_rng h1 h2; have := c_i2c c; show (c.toUInt32.toUInt16.toUInt32.toInt32).toInt = _; omega
theorem own_l1c {c : Int32} (h1 : ¬ (c < (0 : Int32))) (h2 : ¬ ((255 : Int32) < c)) : nar .char ((c.toInt8.toInt32 &&& (255 : Int32)).toUInt32.toUInt16.toUInt32.toInt32) = c := by
  apply Int32.toInt_inj.mp
  rw [Int32.lt_iff_toInt_lt] at h1 h2; have a : (0 : Int32).toInt = 0 := rfl; have b : (255 : Int32).toInt = 255 := rfl
  have q1 := c_i2b c; have q2 := c_mask c.toInt8.toInt32 255 8 (by decide) rfl
  have q3 := c_i2c (c.toInt8.toInt32 &&& 255); have q4 := c_i2c ((c.toInt8.toInt32 &&& (255 : Int32)).toUInt32.toUInt16.toUInt32.toInt32)
  show (((c.toInt8.toInt32 &&& (255 : Int32)).toUInt32.toUInt16.toUInt32.toInt32).toUInt32.toUInt16.toUInt32.toInt32).toInt = _
  omega
theorem own_u16c {c : Int32} (h1 : ¬ (c < (0 : Int32))) (h2 : ¬ ((65535 : Int32) < c)) :
    nar .char ((((((c >>> ((0 : Int32) &&& 31)).toInt8.toInt32) &&& (255 : Int32)) <<< ((0 : Int32) &&& 31)) ||| ((((c >>> ((8 : Int32) &&& 31)).toInt8.toInt32) &&& (255 : Int32)) <<< ((8 : Int32) &&& 31))).toUInt32.toUInt16.toUInt32.toInt32) = c := by
  apply Int32.toInt_inj.mp
  have r := own_rng h1 h2
  have s0 := c_ishr c 0 0 rfl; have s8 := c_ishr c 8 8 rfl
  have b0 := c_i2b (c >>> ((0 : Int32) &&& 31)); have b8 := c_i2b (c >>> ((8 : Int32) &&& 31))
  have m0 := c_mask ((c >>> ((0 : Int32) &&& 31)).toInt8.toInt32) 255 8 (by decide) rfl; have m8 := c_mask ((c >>> ((8 : Int32) &&& 31)).toInt8.toInt32) 255 8 (by decide) rfl
  generalize (c >>> ((0 : Int32) &&& 31)).toInt8.toInt32 = x at *
  generalize (c >>> ((8 : Int32) &&& 31)).toInt8.toInt32 = y at *
  have l0 := c_ishl (x &&& 255) 0 0 rfl; have l8 := c_ishl (y &&& 255) 8 8 rfl
  generalize (x &&& (255 : Int32)) = x' at *
  generalize (y &&& (255 : Int32)) = y' at *
  have r0 := rng32 (x' <<< ((0 : Int32) &&& 31)); have r8 := rng32 (y' <<< ((8 : Int32) &&& 31))
  have o := c_or' (x' <<< ((0 : Int32) &&& 31)) (y' <<< ((8 : Int32) &&& 31)) 8 (by decide) 256 rfl
  have ro := rng32 ((x' <<< ((0 : Int32) &&& 31)) ||| (y' <<< ((8 : Int32) &&& 31)))
  generalize ((x' <<< ((0 : Int32) &&& 31)) ||| (y' <<< ((8 : Int32) &&& 31))) = w at *
  have q3 := c_i2c w; have q4 := c_i2c (w.toUInt32.toUInt16.toUInt32.toInt32)
  show ((w.toUInt32.toUInt16.toUInt32.toInt32).toUInt32.toUInt16.toUInt32.toInt32).toInt = _
  have o' := o (by omega) (by omega) (by omega)
  omega
theorem own_len {cs : List Int32} (h : cs.length < 1048576) : (Int32.ofNat (blen cs) >>> (cdr cs &&& 31)) = Int32.ofNat cs.length := by
  apply Int32.toInt_inj.mp
  by_cases q : lat cs = true
  · have := c_ishr (Int32.ofNat cs.length) 0 0 rfl
    simp only [blen, cdr, if_pos q]; rw [own_i (by omega)] at *; omega
  · have := c_ishr (Int32.ofNat (2 * cs.length)) 1 1 rfl
    simp only [blen, cdr, if_neg q]; rw [own_i (by omega)] at *; rw [this]; omega
theorem own_narcdr (cs : List Int32) : nar .byte (cdr cs) = cdr cs := by by_cases q : lat cs = true <;> simp only [cdr, q] <;> decide
theorem own_cdr {cs : List Int32} (h : cs.length < 1048576) : nar .byte ((((Int32.ofNat cs.length - Int32.ofNat (blen cs)).toUInt32 >>> ((31 : Int32) &&& 31).toUInt32).toInt32).toInt8.toInt32) = cdr cs := by
  by_cases q : lat cs = true
  · simp only [blen, cdr, if_pos q, Int32.sub_self]; decide
  · have n0 := (fl_nlat q).1
    simp only [blen, cdr, if_neg q]
    have e : ((Int32.ofNat cs.length - Int32.ofNat (2 * cs.length)).toUInt32 >>> ((31 : Int32) &&& 31).toUInt32).toInt32 = 1 := by
      apply Int32.toInt_inj.mp
      have s := c_isub (Int32.ofNat cs.length) (Int32.ofNat (2 * cs.length)); have r := rng32 (Int32.ofNat cs.length - Int32.ofNat (2 * cs.length))
      rw [own_i (by omega), own_i (by omega)] at s
      rw [c_iushr _ 31 31 rfl (by decide)]; have : (1 : Int32).toInt = 1 := rfl; omega
    rw [e]; decide
theorem cdr_lat {cs : List Int32} (h : cdr cs = (0 : Int32)) : lat cs = true := by
  by_cases q : lat cs = true
  · exact q
  · simp only [cdr, if_neg q] at h; exact absurd h (by decide)
theorem cdr_nlat {cs : List Int32} (h : ¬ cdr cs = (0 : Int32)) : ¬ lat cs = true := fun q => h (by simp only [cdr, if_pos q])
theorem Arv.push {Z : State} {h h' : Heap} {a : Addr} {c : Cell} {k : ClassId} {ty : FieldType} {z j : Int32} {vs : List Value} {dv v : Value} (A : Arr Z h a c ty) (q1 : c.cls = k) (S : c.slots.size = z.toNatClampNeg) (q3 : ¬ z < 0) (H : Has c vs dv) (G : ∀ i, i < c.slots.size → fits ty (vs.getD i dv) = true) (hv : fits ty v = true) (W : Wr h h' a j.toNatClampNeg v) (hj : j.toNatClampNeg = vs.length) : Arv Z h' a k ty z (vs ++ [v]) dv := by
  have F : Arv Z h a k ty z (vs ++ List.replicate 1 dv) dv := Arv.pad ⟨c, A, q1, S, q3, H, G⟩ (pad_rep vs dv 1)
  obtain ⟨c', A', r1, r2, r3, H', G'⟩ := F
  have R := Arv.set A' r1 r2 r3 H' G' hv W vs.length hj (by simp)
  have e : (vs ++ List.replicate 1 dv).set vs.length v = vs ++ [v] := by simp
  rw [e] at R; exact R
def Str (Z : State) (h : Heap) (a t : Addr) (kb : ClassId) (cs : List Int32) : Prop := Exa Z h a "java/lang/String" ∧ Fld Z h a "java/lang/String" "value" "[B" (.ref t) ∧ Fld Z h a "java/lang/String" "coder" "B" (.int (cdr cs)) ∧ Arv Z h t kb .byte (Int32.ofNat (blen cs)) (enc cs) (.int (0 : Int32)) ∧ OkS cs
theorem Str.keep {Z : State} {h h' : Heap} {a t : Addr} {kb : ClassId} {cs : List Int32} {ws : List Addr} (S : Str Z h a t kb cs) (K : Keep h h' ws) (q1 : a ∉ ws) (q2 : t ∉ ws) : Str Z h' a t kb cs := ⟨S.1.keep K, S.2.1.keep K q1, S.2.2.1.keep K q1, S.2.2.2.1.keep K q2, S.2.2.2.2⟩
theorem Str.ext {Z : State} {h h' : Heap} {a t : Addr} {kb : ClassId} {cs : List Int32} (S : Str Z h a t kb cs) (E : Ext h h') : Str Z h' a t kb cs := ⟨S.1.ext E, S.2.1.ext E, S.2.2.1.ext E, S.2.2.2.1.ext E, S.2.2.2.2⟩
theorem Str.lt {Z : State} {h : Heap} {a t : Addr} {kb : ClassId} {cs : List Int32} (S : Str Z h a t kb cs) : a < h.size := S.1.lt
theorem Str.lt2 {Z : State} {h : Heap} {a t : Addr} {kb : ClassId} {cs : List Int32} (S : Str Z h a t kb cs) : t < h.size := S.2.2.2.1.lt
theorem enc_lat {cs : List Int32} (h : lat cs = true) : enc cs = l1 cs ∧ blen cs = cs.length ∧ cdr cs = (0 : Int32) := ⟨if_pos h, if_pos h, if_pos h⟩
theorem enc_nlat {cs : List Int32} (h : ¬ lat cs = true) : enc cs = u16 cs ∧ blen cs = 2 * cs.length ∧ cdr cs = (1 : Int32) := ⟨if_neg h, if_neg h, if_neg h⟩
theorem lat_at {cs : List Int32} (h : lat cs = true) {i : Nat} (hi : i < cs.length) : ¬ ((255 : Int32) < cs.getD i 0) := by
  have := List.all_eq_true.mp h _ (getD_mem hi); simpa using this
theorem own_fitcdr (cs : List Int32) : fits .byte (.int (cdr cs)) = true := by by_cases q : lat cs = true <;> simp only [cdr, q] <;> decide
theorem own_zero {i : Nat} (hi : i < 2147483648) (h : Int32.ofNat i = (0 : Int32)) : i = 0 := by
  have q := congrArg Int32.toInt h; rw [own_i hi] at q; have z : (0 : Int32).toInt = 0 := rfl; omega
theorem own_neq {i n : Nat} (h : i ≠ n) (hi : i < 2147483648) (hn : n < 2147483648) : ¬ (Int32.ofNat i = Int32.ofNat n) := fun q => by
  have q := congrArg Int32.toInt q; rw [own_i hi, own_i hn] at q; omega
theorem own_sub {i n : Nat} (h : i ≤ n) (hn : n < 2147483648) : Int32.ofNat n - Int32.ofNat i = Int32.ofNat (n - i) := by
  apply Int32.toInt_inj.mp
  have s := c_isub (Int32.ofNat n) (Int32.ofNat i); have r := rng32 (Int32.ofNat n - Int32.ofNat i)
  rw [own_i hn, own_i (by omega)] at s; rw [own_i (by omega)]; omega
theorem own_min {i n : Nat} (h : i ≤ n) (hn : n < 2147483648) : (if Int32.ofNat i < Int32.ofNat n then Int32.ofNat i else Int32.ofNat n) = Int32.ofNat i := by
  by_cases q : i < n
  · rw [if_pos (own_lt q hn)]
  · rw [if_neg (own_nlt (by omega) (by omega))]; congr 1; omega
theorem own_or3 {i n N : Nat} (hi : i < 2147483648) (hn : n < 2147483648) (hN : N < 2147483648) : ¬ ((Int32.ofNat N ||| Int32.ofNat i) ||| Int32.ofNat n < (0 : Int32)) := by
  rw [Int32.lt_iff_toInt_lt]
  have a := (c_orS (Int32.ofNat N) (Int32.ofNat i)).1 (by rw [own_i hN]; omega) (by rw [own_i hi]; omega)
  have b := (c_orS (Int32.ofNat N ||| Int32.ofNat i) (Int32.ofNat n)).1 a (by rw [own_i hn]; omega)
  have z : (0 : Int32).toInt = 0 := rfl; omega
theorem own_slice (vs : List Value) (f n : Nat) (d : Value) (h : f + n ≤ vs.length) : (vs.drop f).take n = (List.range n).map fun i => vs.getD (f + i) d := by
  apply List.ext_getElem
  · simp; omega
  · intro i h1 h2
    simp at h1
    simp [List.getD, List.getElem?_eq_getElem (show f + i < vs.length by omega)]
theorem own_fill (us : List Value) (n : Nat) (h : us.length = n) : (List.replicate n (.int (0 : Int32)) : List Value).take 0 ++ us ++ (List.replicate n (.int (0 : Int32))).drop (0 + n) = us := by simp
theorem own_okdt {cs : List Int32} {bg n : Nat} (h : OkS cs) : OkS ((cs.drop bg).take n) := ⟨fun c hc => h.1 c (List.mem_of_mem_drop (List.mem_of_mem_take hc)), by have := h.2; simp; omega⟩
theorem own_dt {cs : List Int32} {bg n i : Nat} (h : bg + n ≤ cs.length) (hd : ((cs.drop bg).take n).length = n) (hi : i < ((cs.drop bg).take n).length) : ((cs.drop bg).take n).getD i 0 = cs.getD (bg + i) 0 := by
  rw [hd] at hi; simp [List.getD, List.getElem?_take, List.getElem?_drop, hi]
theorem l1_dt (cs : List Int32) (bg n : Nat) : ((l1 cs).drop bg).take n = l1 ((cs.drop bg).take n) := by simp [l1, List.map_take, List.map_drop]
theorem own_u16s (cs : List Int32) (bg n : Nat) : ((u16 cs).drop (2 * bg)).take (2 * n) = u16 ((cs.drop bg).take n) := by
  induction bg generalizing cs with
  | zero =>
    simp only [Nat.mul_zero, List.drop_zero]
    induction n generalizing cs with
    | zero => simp [u16]
    | succ n ih => cases cs with
      | nil => simp [u16]
      | cons c r => rw [show 2 * (n + 1) = 2 * n + 1 + 1 from by omega]; simp only [u16, List.take_succ_cons]; rw [ih]
  | succ b ih => cases cs with
    | nil => simp [u16]
    | cons c r => rw [show 2 * (b + 1) = 2 * b + 1 + 1 from by omega]; simp only [u16, List.drop_succ_cons]; exact ih r
theorem lat_dt {cs : List Int32} {bg n : Nat} (h : lat cs = true) : lat ((cs.drop bg).take n) = true := List.all_eq_true.mpr fun c hc => List.all_eq_true.mp h c (List.mem_of_mem_drop (List.mem_of_mem_take hc))
theorem own_mkL {Z : State} {h : Heap} {a t : Addr} {kb : ClassId} {cs : List Int32} {bg n : Nat} (hl : lat cs = true) (ok : OkS cs) (hn : bg + n ≤ cs.length) (E : Exa Z h a "java/lang/String") (V : Fld Z h a "java/lang/String" "value" "[B" (.ref t)) (C : Fld Z h a "java/lang/String" "coder" "B" (.int (0 : Int32))) (A : Arv Z h t kb .byte (Int32.ofNat (bg + n - bg)) (((l1 cs).drop bg).take (bg + n - bg)) (.int (0 : Int32))) : Str Z h a t kb ((cs.drop bg).take n) := by
  obtain ⟨e1, e2, e3⟩ := enc_lat (lat_dt (bg := bg) (n := n) hl)
  rw [show bg + n - bg = n from by omega, l1_dt] at A
  refine ⟨E, V, by rw [e3]; exact C, ?_, own_okdt ok⟩
  rw [e1, e2, show ((cs.drop bg).take n).length = n from by simp; omega]; exact A
def jn0 : List Int32 := [(115 : Int32), (116 : Int32), (97 : Int32), (110 : Int32), (100 : Int32), (97 : Int32), (114 : Int32), (100 : Int32)]
def pj0 : List Int32 := [(115 : Int32), (116 : Int32), (97 : Int32), (110 : Int32), (100 : Int32), (97 : Int32), (114 : Int32)]
def jn1 : List Int32 := [(107 : Int32), (101 : Int32), (121 : Int32), (85 : Int32), (115 : Int32), (101 : Int32), (114 : Int32)]
def pj1 : List Int32 := [(107 : Int32), (101 : Int32), (121 : Int32), (85 : Int32), (115 : Int32), (101 : Int32)]
def jn2 : List Int32 := [(99 : Int32), (108 : Int32), (111 : Int32), (117 : Int32), (100 : Int32), (68 : Int32), (101 : Int32), (118 : Int32), (101 : Int32), (108 : Int32), (111 : Int32), (112 : Int32), (109 : Int32), (101 : Int32), (110 : Int32), (116 : Int32)]
def pj2 : List Int32 := [(99 : Int32), (108 : Int32), (111 : Int32), (117 : Int32), (100 : Int32), (68 : Int32), (101 : Int32), (118 : Int32), (101 : Int32), (108 : Int32), (111 : Int32), (112 : Int32), (109 : Int32), (101 : Int32), (110 : Int32)]
theorem own_c8 (x : Int32) : ¬ (((x &&& (255 : Int32)).toUInt32.toUInt16.toUInt32.toInt32) < (0 : Int32)) ∧ ¬ ((255 : Int32) < ((x &&& (255 : Int32)).toUInt32.toUInt16.toUInt32.toInt32)) := by
  have h := c_and x 255 (by decide); have k := c_i2c (x &&& 255)
  have a : (0 : Int32).toInt = 0 := rfl; have b : (255 : Int32).toInt = 255 := rfl
  rw [Int32.lt_iff_toInt_lt, Int32.lt_iff_toInt_lt]; omega
def B8 (c : Int32) : Prop := ¬ (c < (0 : Int32)) ∧ ¬ ((255 : Int32) < c)
theorem B8.w {c : Int32} (h : B8 c) : ¬ (c < (0 : Int32)) ∧ ¬ ((65535 : Int32) < c) := by
  obtain ⟨h0, h1⟩ := h; refine ⟨h0, ?_⟩
  have z : (255 : Int32).toInt = 255 := rfl; have y : (65535 : Int32).toInt = 65535 := rfl
  rw [Int32.lt_iff_toInt_lt] at *; omega
theorem own_nar8 {c : Int32} (h : B8 c) : nar .char c = c := own_narc h.w.1 h.w.2
theorem own_okl {l : List Int32} (h : ∀ c ∈ l, B8 c) (hl : l.length < 1048576) : OkS l ∧ lat l = true := ⟨⟨fun c hc => (h c hc).w, hl⟩, List.all_eq_true.mpr fun c hc => by simpa using (h c hc).2⟩
theorem own_b8s {l : List Int32} (h : ∀ c ∈ l, B8 c) {p : Nat} {c : Int32} (hc : B8 c) : ∀ x ∈ l.set p c, B8 x := fun x hx => by
  rcases List.mem_or_eq_of_mem_set hx with q | q
  · exact h x q
  · rw [q]; exact hc
theorem own_b8a {l : List Int32} (h : ∀ c ∈ l, B8 c) {c : Int32} (hc : B8 c) : ∀ x ∈ l ++ [c], B8 x := fun x hx => by
  rcases List.mem_append.mp hx with q | q
  · exact h x q
  · rw [List.mem_singleton.mp q]; exact hc
instance (c : Int32) : Decidable (B8 c) := inferInstanceAs (Decidable (_ ∧ _))
theorem own_setne {l : List Int32} {p : Nat} {c : Int32} (hp : p < l.length) (h : ¬ c = l.getD p 0) : ¬ (l = l.set p c) := fun e => h (by
  have q := congrArg (fun z => z.getD p 0) e
  simp [List.getD, hp] at q ⊢; exact q.symm)
theorem own_setself {l : List Int32} {p : Nat} {c : Int32} (hp : p < l.length) (h : c = l.getD p 0) : l = l.set p c := by
  rw [h]; simp [List.getD, hp]
theorem own_rm (x : Int32) (d : Int32) (n : Int) (hd : d.toInt = n) (hn : 0 < n) : 0 ≤ ((x &&& (2147483647 : Int32)) % d).toInt ∧ ((x &&& (2147483647 : Int32)) % d).toInt < n := by
  have h1 := c_and x 2147483647 (by decide); rw [(c_irem (x &&& 2147483647) d n hd).1 h1.1]
  exact ⟨Int.emod_nonneg _ (by omega), Int.emod_lt_of_pos _ hn⟩
theorem own_pin {p : Int32} {n : Nat} (h : 0 ≤ p.toInt ∧ p.toInt < (n : Int)) : ¬ (p < (0 : Int32)) ∧ p.toNatClampNeg < n := by
  have a : (0 : Int32).toInt = 0 := rfl
  refine ⟨by rw [Int32.lt_iff_toInt_lt]; omega, ?_⟩
  show p.toInt.toNat < n
  omega
theorem own_r3 (x : Int32) : (x &&& (2147483647 : Int32)) % (3 : Int32) = 0 ∨ (x &&& (2147483647 : Int32)) % (3 : Int32) = 1 ∨ (x &&& (2147483647 : Int32)) % (3 : Int32) = 2 := by
  have h := own_rm x 3 3 rfl (by decide)
  have a : (0 : Int32).toInt = 0 := rfl; have b : (1 : Int32).toInt = 1 := rfl; have c : (2 : Int32).toInt = 2 := rfl
  simp only [← Int32.toInt_inj]; omega
theorem own_r5 (x : Int32) : (x &&& (16777215 : Int32)) % (5 : Int32) = 0 ∨ (x &&& (16777215 : Int32)) % (5 : Int32) = 1 ∨ (x &&& (16777215 : Int32)) % (5 : Int32) = 2 ∨ (x &&& (16777215 : Int32)) % (5 : Int32) = 3 ∨ (x &&& (16777215 : Int32)) % (5 : Int32) = 4 := by
  have h1 := c_and x 16777215 (by decide); have h2 := (c_irem (x &&& 16777215) 5 5 rfl).1 h1.1
  have a : (0 : Int32).toInt = 0 := rfl; have b : (1 : Int32).toInt = 1 := rfl; have c : (2 : Int32).toInt = 2 := rfl; have d : (3 : Int32).toInt = 3 := rfl; have e : (4 : Int32).toInt = 4 := rfl
  simp only [← Int32.toInt_inj]; omega
theorem own_a3 (x : Int32) : (x &&& (3 : Int32)) = 0 ∨ (x &&& (3 : Int32)) = 1 ∨ (x &&& (3 : Int32)) = 2 ∨ (x &&& (3 : Int32)) = 3 := by
  have h1 := c_and x 3 (by decide)
  have a : (0 : Int32).toInt = 0 := rfl; have b : (1 : Int32).toInt = 1 := rfl; have c : (2 : Int32).toInt = 2 := rfl; have d : (3 : Int32).toInt = 3 := rfl
  simp only [← Int32.toInt_inj]; omega
set_option maxRecDepth 65536 in
set_option maxHeartbeats 40000000 in
theorem lp_compr {p : Program} {l : Launch} {e : Env} {R : Room} {s : State} {m : MethodId} {args : Array Value} {below : List Frame} {meth : Method} {cO : Code} {cells slots : Nat} {Z : State} {a0 : Array Value} (hx : p.tables.exec = Jvm.exec) (hZ : Z.Warmed39 s.vm) (hw : HW a0 Z) (hby : cO.code = jdk_52_method_21_code) (hml : cO.maxLocals = 7) (hown : s.vm.findClass "java/lang/StringUTF16" = some m.cls) (hRf : 0 ≤ R.frames) (hRl : 0 ≤ R.locals) (hRc : cells ≤ R.cells) (hRs : slots ≤ R.slots) (hret : meth.sig.returnType = some .int) (src : Addr) (dst : Addr) (kc : ClassId) (kb : ClassId) (cs : List Int32) (n0 : Nat) (hne : src ≠ dst) (hg : n0 ≤ dst) (ok : OkS cs) :
    ∀ suf : List Int32, ∀ (pre : List Int32) (s6 : Slot) (T0 : State) (L0 : List Loc) (h0 : Heap) (X0 : Stand p l e R s m args below meth cO T0 L0 cells slots) (e0 : T0.heap = h0) (N0 : Fr n0 L0) (Z0 : n0 ≤ h0.size) (Vs : Arv Z h0 src kc .char (Int32.ofNat cs.length) (cs.map Value.int) (.int (0 : Int32))) (Vd : Arv Z h0 dst kb .byte (Int32.ofNat cs.length) (l1 pre) (.int (0 : Int32))) (hl : lat pre = true) (h6 : One s6) (hk : cs = pre ++ suf), ∃ (T' : State) (L' : List Loc) (h' : Heap), Stand p l e R s m args below meth cO T' L' cells slots ∧ T'.heap = h' ∧ Fr n0 L' ∧ Keep h0 h' [dst] ∧ Arv Z h' dst kb .byte (Int32.ofNat cs.length) (l1 (cs.take (fl cs))) (.int (0 : Int32)) ∧ ∀ fs, (∀ (f : JFrame) (acts : List Action), f.method = m → f.locked = none → f.entered = [] → (doReturn e (T'.setTop f) acts (some (.int (Int32.ofNat (fl cs))))).1 = T'.setFrames fs) → SS p e below T0 m 3 #[.val (.ref src), .val (.int (Int32.ofNat pre.length)), .val (.ref dst), .val (.int (Int32.ofNat pre.length)), .val (.int (Int32.ofNat cs.length)), .val (.int (Int32.ofNat pre.length)), s6] [] (T'.setFrames fs) := by
  intro suf
  induction suf with
  | nil =>
    intro pre s6 T0 L0 h0 X0 e0 N0 Z0 Vs Vd hl h6 hk
    have W0 : ∀ zQ, SS p e below T0 m 3 #[.val (.ref src), .val (.int (Int32.ofNat pre.length)), .val (.ref dst), .val (.int (Int32.ofNat pre.length)), .val (.int (Int32.ofNat cs.length)), .val (.int (Int32.ofNat pre.length)), s6] [] zQ → Steps p.tables e below (T0.setTop (mkF m 3 #[.val (.ref src), .val (.int (Int32.ofNat pre.length)), .val (.ref dst), .val (.int (Int32.ofNat pre.length)), .val (.int (Int32.ofNat cs.length)), .val (.int (Int32.ofNat pre.length)), s6] [])) zQ := fun tt kt => kt
    have hn : cs.length < 1048576 := ok.2
    have hfl : fl cs = pre.length := by rw [hk, fl_app _ hl]; rfl
    have hlen : cs.length = pre.length := by rw [hk]; simp
    have W101 : ∀ zQ, SS p e below T0 m 46 #[.val (.ref src), .val (.int (Int32.ofNat pre.length)), .val (.ref dst), .val (.int (Int32.ofNat pre.length)), .val (.int (Int32.ofNat cs.length)), .val (.int (Int32.ofNat pre.length)), s6] [(.int (Int32.ofNat cs.length))] zQ → Steps p.tables e below (T0.setTop (mkF m 3 #[.val (.ref src), .val (.int (Int32.ofNat pre.length)), .val (.ref dst), .val (.int (Int32.ofNat pre.length)), .val (.int (Int32.ofNat cs.length)), .val (.int (Int32.ofNat pre.length)), s6] [])) zQ := by
      intro tt kt
      refine W0 tt ?_
      refine XS.iload X0.here hx rfl (hb hby d_jdk_52_method_21_3) rfl ?_
      refine XS.iload X0.here hx rfl (hb hby d_jdk_52_method_21_5) rfl ?_
      refine XS.icmpYes X0.here hx rfl (pc0 := 7) (pc' := 44) rfl (hb hby d_jdk_52_method_21_7) rfl (flt (own_nlt (by omega) (by omega))).2.1 (by decide) (by decide) ?_
      refine XS.iload X0.here hx rfl (hb hby d_jdk_52_method_21_44) rfl ?_
      exact kt
    have hR102 : Arv Z h0 dst kb .byte (Int32.ofNat cs.length) (l1 (cs.take (fl cs))) (.int (0 : Int32)) := by rw [show cs.take (fl cs) = pre from by rw [hfl, hk]; exact List.take_left]; exact Vd
    exact ⟨T0, _, h0, X0, e0, N0, (Keep.refl h0 [dst]), hR102, fun fs hr => W101 _ (retI X0 hx hret (hb hby d_jdk_52_method_21_46) (by rw [show (Value.int (Int32.ofNat cs.length)) = (Value.int (Int32.ofNat (fl cs))) from (by rw [hfl, hlen])]; exact hr))⟩
  | cons cc r ih =>
    intro pre s6 T0 L0 h0 X0 e0 N0 Z0 Vs Vd hl h6 hk
    have W0 : ∀ zQ, SS p e below T0 m 3 #[.val (.ref src), .val (.int (Int32.ofNat pre.length)), .val (.ref dst), .val (.int (Int32.ofNat pre.length)), .val (.int (Int32.ofNat cs.length)), .val (.int (Int32.ofNat pre.length)), s6] [] zQ → Steps p.tables e below (T0.setTop (mkF m 3 #[.val (.ref src), .val (.int (Int32.ofNat pre.length)), .val (.ref dst), .val (.int (Int32.ofNat pre.length)), .val (.int (Int32.ofNat cs.length)), .val (.int (Int32.ofNat pre.length)), s6] [])) zQ := fun tt kt => kt
    have hn : cs.length < 1048576 := ok.2
    have hlt : pre.length < cs.length := by rw [hk]; simp
    have hcc : cs.getD pre.length 0 = cc := by rw [hk]; exact app_at pre r cc 0
    obtain ⟨cl103, Ar103, q103, S103, M103, H103, F103g⟩ := id Vs
    have hin103 : ¬ ((Int32.ofNat pre.length) < 0 ∨ cl103.slots.size ≤ ((Int32.ofNat pre.length)).toNatClampNeg) := inb_of S103 ⟨own_nneg (by omega), own_lt hlt (by omega)⟩
    have hat103 : cl103.slots[((Int32.ofNat pre.length)).toNatClampNeg]? = some (.int cc) := Has.at H103 hin103 (by rw [own_cl (by omega), ch_at _ _ _ hlt, hcc])
    have W104 : ∀ zQ, SS p e below T0 m 20 #[.val (.ref src), .val (.int (Int32.ofNat pre.length)), .val (.ref dst), .val (.int (Int32.ofNat pre.length)), .val (.int (Int32.ofNat cs.length)), .val (.int (Int32.ofNat pre.length)), .val (.int cc)] [(.int (255 : Int32)), (.int cc)] zQ → Steps p.tables e below (T0.setTop (mkF m 3 #[.val (.ref src), .val (.int (Int32.ofNat pre.length)), .val (.ref dst), .val (.int (Int32.ofNat pre.length)), .val (.int (Int32.ofNat cs.length)), .val (.int (Int32.ofNat pre.length)), s6] [])) zQ := by
      intro tt kt
      refine W0 tt ?_
      refine XS.iload X0.here hx rfl (hb hby d_jdk_52_method_21_3) rfl ?_
      refine XS.iload X0.here hx rfl (hb hby d_jdk_52_method_21_5) rfl ?_
      refine XS.icmpNo X0.here hx rfl (hb hby d_jdk_52_method_21_7) rfl (tlt (own_lt hlt (by omega))).2.1 ?_
      refine XS.aloadN X0.here hx rfl (hb hby d_jdk_52_method_21_10) rfl rfl ?_
      refine XS.iloadN X0.here hx rfl (hb hby d_jdk_52_method_21_11) rfl ?_
      show SS p e below T0 m 12 #[.val (.ref src), .val (.int (Int32.ofNat pre.length)), .val (.ref dst), .val (.int (Int32.ofNat pre.length)), .val (.int (Int32.ofNat cs.length)), .val (.int (Int32.ofNat pre.length)), s6] [(.int (Int32.ofNat pre.length)), (.ref src)] _
      refine X0.caload hx (j := (Int32.ofNat pre.length)) (v := (.int cc)) (by first | exact Ar103.1 | (rw [e0]; exact Ar103.1)) (State.isArrayOf_alike hZ.alike Ar103.2.1) Ar103.2.2 hin103 hat103 (g := (mkF m 12 #[.val (.ref src), .val (.int (Int32.ofNat pre.length)), .val (.ref dst), .val (.int (Int32.ofNat pre.length)), .val (.int (Int32.ofNat cs.length)), .val (.int (Int32.ofNat pre.length)), s6] [(.int (Int32.ofNat pre.length)), (.ref src)])) rfl rfl (hb hby d_jdk_52_method_21_12) _ ?_
      refine XS.istore X0.here hx rfl (hb hby d_jdk_52_method_21_13) rfl (l' := #[.val (.ref src), .val (.int (Int32.ofNat pre.length)), .val (.ref dst), .val (.int (Int32.ofNat pre.length)), .val (.int (Int32.ofNat cs.length)), .val (.int (Int32.ofNat pre.length)), .val (.int cc)]) (XS.store1 (o := s6) rfl h6 rfl) ?_
      refine XS.iload X0.here hx rfl (hb hby d_jdk_52_method_21_15) rfl ?_
      refine XS.sipush X0.here hx rfl (hb hby d_jdk_52_method_21_17) ?_
      exact kt
    by_cases hc105 : (255 : Int32) < cc
    ·
      have hfl : fl cs = pre.length := by rw [hk, fl_app _ hl]; show _ + (if (255 : Int32) < cc then 0 else fl r + 1) = _; rw [if_pos hc105]; rfl
      have W106 : ∀ zQ, SS p e below T0 m 25 #[.val (.ref src), .val (.int (Int32.ofNat pre.length)), .val (.ref dst), .val (.int (Int32.ofNat pre.length)), .val (.int (Int32.ofNat cs.length)), .val (.int (Int32.ofNat pre.length)), .val (.int cc)] [(.int (Int32.ofNat pre.length))] zQ → Steps p.tables e below (T0.setTop (mkF m 3 #[.val (.ref src), .val (.int (Int32.ofNat pre.length)), .val (.ref dst), .val (.int (Int32.ofNat pre.length)), .val (.int (Int32.ofNat cs.length)), .val (.int (Int32.ofNat pre.length)), s6] [])) zQ := by
        intro tt kt
        refine W104 tt ?_
        refine XS.icmpNo X0.here hx rfl (hb hby d_jdk_52_method_21_20) rfl (tlt hc105).2.2.2 ?_
        refine XS.iload X0.here hx rfl (hb hby d_jdk_52_method_21_23) rfl ?_
        exact kt
      have hR107 : Arv Z h0 dst kb .byte (Int32.ofNat cs.length) (l1 (cs.take (fl cs))) (.int (0 : Int32)) := by rw [show cs.take (fl cs) = pre from by rw [hfl, hk]; exact List.take_left]; exact Vd
      exact ⟨T0, _, h0, X0, e0, N0, (Keep.refl h0 [dst]), hR107, fun fs hr => W106 _ (retI X0 hx hret (hb hby d_jdk_52_method_21_25) (by rw [show (Value.int (Int32.ofNat pre.length)) = (Value.int (Int32.ofNat (fl cs))) from (by rw [hfl])]; exact hr))⟩
    ·
      obtain ⟨cl108, Ar108, q108, S108, M108, H108, F108g⟩ := id Vd
      have hin108 : ¬ ((Int32.ofNat pre.length) < 0 ∨ cl108.slots.size ≤ ((Int32.ofNat pre.length)).toNatClampNeg) := inb_of S108 ⟨own_nneg (by omega), own_lt hlt (by omega)⟩
      obtain ⟨T108, h108, X108, e108, Wr108, st108⟩ := stB X0 hx hZ e0 Ar108 (j := (Int32.ofNat pre.length)) hin108 (g := (mkF m 31 #[.val (.ref src), .val (.int (Int32.ofNat pre.length)), .val (.ref dst), .val (.int (Int32.ofNat pre.length)), .val (.int (Int32.ofNat cs.length)), .val (.int (Int32.ofNat pre.length)), .val (.int cc)] [(.int (cc.toInt8.toInt32)), (.int (Int32.ofNat pre.length)), (.ref dst)])) rfl rfl (hb hby d_jdk_52_method_21_31)
      have G108 : Arv Z h108 dst kb .byte (Int32.ofNat cs.length) ((l1 pre) ++ [(.int (nar .byte (cc.toInt8.toInt32)))]) (.int (0 : Int32)) := Arv.push Ar108 q108 S108 M108 H108 F108g (fits_nar_byte _) Wr108 (by rw [own_cl (by omega), l1_len])
      have K108 := Keep.of_wr Wr108
      have N108 := Fr.snoc X108 N0 hg
      have J108 : Arv Z h108 dst kb .byte (Int32.ofNat cs.length) (l1 (pre ++ [cc])) (.int (0 : Int32)) := by rw [← l1_snoc, ← own_narb]; exact G108
      have W109 : ∀ zQ, SS p e below T108 m 3 #[.val (.ref src), .val (.int (Int32.ofNat (pre ++ [cc]).length)), .val (.ref dst), .val (.int (Int32.ofNat (pre ++ [cc]).length)), .val (.int (Int32.ofNat cs.length)), .val (.int (Int32.ofNat (pre ++ [cc]).length)), .val (.int cc)] [] zQ → Steps p.tables e below (T0.setTop (mkF m 3 #[.val (.ref src), .val (.int (Int32.ofNat pre.length)), .val (.ref dst), .val (.int (Int32.ofNat pre.length)), .val (.int (Int32.ofNat cs.length)), .val (.int (Int32.ofNat pre.length)), s6] [])) zQ := by
        intro tt kt
        refine W104 tt ?_
        refine XS.icmpYes X0.here hx rfl (pc0 := 20) (pc' := 26) rfl (hb hby d_jdk_52_method_21_20) rfl (flt hc105).2.2.2 (by decide) (by decide) ?_
        refine XS.aloadN X0.here hx rfl (hb hby d_jdk_52_method_21_26) rfl rfl ?_
        refine XS.iloadN X0.here hx rfl (hb hby d_jdk_52_method_21_27) rfl ?_
        refine XS.iload X0.here hx rfl (hb hby d_jdk_52_method_21_28) rfl ?_
        refine XS.i2b X0.here hx rfl (hb hby d_jdk_52_method_21_30) rfl ?_
        show SS p e below T0 m 31 #[.val (.ref src), .val (.int (Int32.ofNat pre.length)), .val (.ref dst), .val (.int (Int32.ofNat pre.length)), .val (.int (Int32.ofNat cs.length)), .val (.int (Int32.ofNat pre.length)), .val (.int cc)] [(.int (cc.toInt8.toInt32)), (.int (Int32.ofNat pre.length)), (.ref dst)] _
        refine st108 _ ?_
        show SS p e below T108 m 32 #[.val (.ref src), .val (.int (Int32.ofNat pre.length)), .val (.ref dst), .val (.int (Int32.ofNat pre.length)), .val (.int (Int32.ofNat cs.length)), .val (.int (Int32.ofNat pre.length)), .val (.int cc)] [] _
        refine XS.iinc X108.here hx rfl (hb hby d_jdk_52_method_21_32) rfl (l' := #[.val (.ref src), .val (.int ((Int32.ofNat pre.length) + (1 : Int32))), .val (.ref dst), .val (.int (Int32.ofNat pre.length)), .val (.int (Int32.ofNat cs.length)), .val (.int (Int32.ofNat pre.length)), .val (.int cc)]) rfl ?_
        show SS p e below T108 m 35 #[.val (.ref src), .val (.int ((Int32.ofNat pre.length) + (1 : Int32))), .val (.ref dst), .val (.int (Int32.ofNat pre.length)), .val (.int (Int32.ofNat cs.length)), .val (.int (Int32.ofNat pre.length)), .val (.int cc)] [] _
        refine XS.iinc X108.here hx rfl (hb hby d_jdk_52_method_21_35) rfl (l' := #[.val (.ref src), .val (.int ((Int32.ofNat pre.length) + (1 : Int32))), .val (.ref dst), .val (.int ((Int32.ofNat pre.length) + (1 : Int32))), .val (.int (Int32.ofNat cs.length)), .val (.int (Int32.ofNat pre.length)), .val (.int cc)]) rfl ?_
        show SS p e below T108 m 38 #[.val (.ref src), .val (.int ((Int32.ofNat pre.length) + (1 : Int32))), .val (.ref dst), .val (.int ((Int32.ofNat pre.length) + (1 : Int32))), .val (.int (Int32.ofNat cs.length)), .val (.int (Int32.ofNat pre.length)), .val (.int cc)] [] _
        refine XS.iinc X108.here hx rfl (hb hby d_jdk_52_method_21_38) rfl (l' := #[.val (.ref src), .val (.int ((Int32.ofNat pre.length) + (1 : Int32))), .val (.ref dst), .val (.int ((Int32.ofNat pre.length) + (1 : Int32))), .val (.int (Int32.ofNat cs.length)), .val (.int ((Int32.ofNat pre.length) + (1 : Int32))), .val (.int cc)]) rfl ?_
        show SS p e below T108 m 41 #[.val (.ref src), .val (.int ((Int32.ofNat pre.length) + (1 : Int32))), .val (.ref dst), .val (.int ((Int32.ofNat pre.length) + (1 : Int32))), .val (.int (Int32.ofNat cs.length)), .val (.int ((Int32.ofNat pre.length) + (1 : Int32))), .val (.int cc)] [] _
        rw [show ((Int32.ofNat pre.length) + (1 : Int32)) = (Int32.ofNat (pre ++ [cc]).length) from (by rw [own_succ]; simp)]
        refine XS.goto X108.here hx rfl (pc0 := 41) (pc' := 3) rfl (hb hby d_jdk_52_method_21_41) (by decide) (by decide) ?_
        exact kt
      have F111 : Arv Z h108 src kc .char (Int32.ofNat cs.length) (cs.map Value.int) (.int (0 : Int32)) := (Vs.keep K108 (ninS hne nin0))
      obtain ⟨T110, L110, h110, X110, e110, N110, K110, P110_0, st110⟩ := ih (pre ++ [cc]) (.val (.int cc)) T108 _ h108 X108 e108 N108 (Nat.le_trans Z0 K108.1) F111 J108 (lat_snoc hl hc105) (One.val rfl) (by rw [hk]; simp)
      exact ⟨T110, L110, h110, X110, e110, N110, (Keep.trans (Keep.trans (Keep.refl h0 [dst]) K108 (allS (Or.inl (List.mem_of_getElem? (i := 0) rfl)) all0)) K110 (allS (Or.inl (List.mem_of_getElem? (i := 0) rfl)) all0)), P110_0, fun tt kt => W109 _ (st110 _ kt)⟩
def Q_compress21 (Z : State) (src : Addr) (dst : Addr) (kc : ClassId) (kb : ClassId) (cs : List Int32) (h0 : Heap) (n0 : Nat) (vQ_ : Option Value) (hQ_ : Heap) (LQ_ : List Loc) : Prop := vQ_ = some (.int (Int32.ofNat (fl cs))) ∧ Fr n0 LQ_ ∧ Keep h0 hQ_ [dst] ∧ Arv Z hQ_ dst kb .byte (Int32.ofNat cs.length) (l1 (cs.take (fl cs))) (.int (0 : Int32))
set_option maxRecDepth 65536 in
set_option maxHeartbeats 40000000 in
theorem rm_compress21 (l : Launch) (Z : State) (a0 : Array Value) (hw : HW a0 Z) (ws : List Jvm.Cond) (src : Addr) (dst : Addr) (kc : ClassId) (kb : ClassId) (cs : List Int32) (h0 : Heap) (n0 : Nat) (Z0 : n0 ≤ h0.size) (Vs : Arv Z h0 src kc .char (Int32.ofNat cs.length) (cs.map Value.int) (.int (0 : Int32))) (Vd : Arv Z h0 dst kb .byte (Int32.ofNat cs.length) [] (.int (0 : Int32))) (hne : src ≠ dst) (hg : n0 ≤ dst) (ok : OkS cs) :
    MetFree l yn0 (head1 (Jvm.Cond.code yn0 jdk_52_method_21_code 7 (some .int) :: ws) ({ frames := 0, cells := 0, slots := 0, locals := 0 } : Room)) (fun aQ_ UQ => aQ_ = #[(.ref src), (.int (0 : Int32)), (.ref dst), (.int (0 : Int32)), (.int (Int32.ofNat cs.length))] ∧ Z.Warmed39 UQ.vm ∧ UQ.heap = h0) (fun _ _ _ _ _ => True) (fun _ UQ oQ UQ' => ∃ vQ_ LQ_, oQ = .returned vQ_ ∧ Q_compress21 Z src dst kc kb cs h0 n0 vQ_ UQ'.heap LQ_ ∧ FrameEnd UQ oQ UQ' LQ_ ({ frames := 0, cells := 0, slots := 0, locals := 0 } : Room).cells ({ frames := 0, cells := 0, slots := 0, locals := 0 } : Room).slots) := by
  refine MetFree.of_bodySF (plainFor_of_name pn_java_lang_StringUTF16) hisR ?_
  intro p e s m args below meth cO s₁ Bd hml0 hP hK
  obtain ⟨rfl, hZ, hh⟩ := hP
  have hx := Bd.exec
  have hby := Bd.bytes
  have hml : cO.maxLocals = 7 := hml0
  have hown : s.vm.findClass "java/lang/StringUTF16" = some m.cls := findClass_of_methodNamed Bd.named
  have hnm := (name_of_methodNamed Bd.named Bd.method).1
  have X0 : Stand p l e ({ frames := 0, cells := 0, slots := 0, locals := 0 } : Room) s m #[(.ref src), (.int (0 : Int32)), (.ref dst), (.int (0 : Int32)), (.int (Int32.ofNat cs.length))] below meth cO s₁ [] 0 0 := Stand.of_body Bd
  have e0 : s₁.heap = h0 := by rw [← hh, Bd.state]; rfl
  have N0 := Fr.nil n0
  have W0 : ∀ zQ, SS p e below s₁ m 0 #[.val (.ref src), .val (.int (0 : Int32)), .val (.ref dst), .val (.int (0 : Int32)), .val (.int (Int32.ofNat cs.length)), .unset, .unset] [] zQ → Steps p.tables e below (s₁.setTop (entryFrame m #[(.ref src), (.int (0 : Int32)), (.ref dst), (.int (0 : Int32)), (.int (Int32.ofNat cs.length))] 7)) zQ := fun tt kt => castTop (ef_compress21 m src (0 : Int32) dst (0 : Int32) (Int32.ofNat cs.length)) kt
  have W101 : ∀ zQ, SS p e below s₁ m 3 #[.val (.ref src), .val (.int (0 : Int32)), .val (.ref dst), .val (.int (0 : Int32)), .val (.int (Int32.ofNat cs.length)), .val (.int (0 : Int32)), .unset] [] zQ → Steps p.tables e below (s₁.setTop (entryFrame m #[(.ref src), (.int (0 : Int32)), (.ref dst), (.int (0 : Int32)), (.int (Int32.ofNat cs.length))] 7)) zQ := by
    intro tt kt
    refine W0 tt ?_
    refine XS.iconst X0.here hx rfl (hb hby d_jdk_52_method_21_0) ?_
    refine XS.istore X0.here hx rfl (hb hby d_jdk_52_method_21_1) rfl (l' := #[.val (.ref src), .val (.int (0 : Int32)), .val (.ref dst), .val (.int (0 : Int32)), .val (.int (Int32.ofNat cs.length)), .val (.int (0 : Int32)), .unset]) rfl ?_
    exact kt
  obtain ⟨T102, L102, h102, X102, e102, Nl102, K102, P102_0, st102⟩ := lp_compr hx hZ hw hby hml hown (by decide) (by decide) (by decide) (by decide) Bd.returns src dst kc kb cs n0 hne hg ok cs [] .unset s₁ _ h0 X0 e0 N0 Z0 Vs Vd rfl One.u rfl
  obtain ⟨fs, hr, hrun, hended, hW, hsame⟩ := X102.leave (v := some (.int (Int32.ofNat (fl cs)))) (fun h => by rw [Bd.returns] at h; cases h)
  refine ⟨_, _, W101 _ (st102 _ hr), hrun, hended, _, _, rfl, ?_, ⟨_, rfl⟩, hW, hsame.mono (by decide) (by decide)⟩
  show Q_compress21 Z src dst kc kb cs h0 n0 _ T102.heap _
  rw [e102]
  exact ⟨rfl, Nl102, (Keep.trans (Keep.refl h0 [dst]) K102 (allS (Or.inl (List.mem_of_getElem? (i := 0) rfl)) all0)), P102_0⟩
def Q_coderOf (Z : State) (t : Addr) (kb : ClassId) (vs : List Value) (cs : List Int32) (h0 : Heap) (n0 : Nat) (vQ_ : Option Value) (hQ_ : Heap) (LQ_ : List Loc) : Prop := vQ_ = some (.int (cdr cs)) ∧ Fr n0 LQ_ ∧ hQ_ = h0
set_option maxRecDepth 65536 in
set_option maxHeartbeats 40000000 in
theorem rm_coderOf (l : Launch) (Z : State) (a0 : Array Value) (hw : HW a0 Z) (ws : List Jvm.Cond) (t : Addr) (kb : ClassId) (vs : List Value) (cs : List Int32) (h0 : Heap) (n0 : Nat) (Z0 : n0 ≤ h0.size) (A1 : Arv Z h0 t kb .byte (Int32.ofNat (blen cs)) vs (.int (0 : Int32))) (ok : OkS cs) :
    MetFree l yn1 (head1 (Jvm.Cond.code yn1 jdk_52_method_15_code 2 (some .byte) :: ws) ({ frames := 0, cells := 0, slots := 0, locals := 0 } : Room)) (fun aQ_ UQ => aQ_ = #[(.ref t), (.int (Int32.ofNat cs.length))] ∧ Z.Warmed39 UQ.vm ∧ UQ.heap = h0) (fun _ _ _ _ _ => True) (fun _ UQ oQ UQ' => ∃ vQ_ LQ_, oQ = .returned vQ_ ∧ Q_coderOf Z t kb vs cs h0 n0 vQ_ UQ'.heap LQ_ ∧ FrameEnd UQ oQ UQ' LQ_ ({ frames := 0, cells := 0, slots := 0, locals := 0 } : Room).cells ({ frames := 0, cells := 0, slots := 0, locals := 0 } : Room).slots) := by
  refine MetFree.of_bodySF (plainFor_of_name pn_java_lang_StringUTF16) hisR ?_
  intro p e s m args below meth cO s₁ Bd hml0 hP hK
  obtain ⟨rfl, hZ, hh⟩ := hP
  have hx := Bd.exec
  have hby := Bd.bytes
  have hml : cO.maxLocals = 2 := hml0
  have hown : s.vm.findClass "java/lang/StringUTF16" = some m.cls := findClass_of_methodNamed Bd.named
  have hnm := (name_of_methodNamed Bd.named Bd.method).1
  have X0 : Stand p l e ({ frames := 0, cells := 0, slots := 0, locals := 0 } : Room) s m #[(.ref t), (.int (Int32.ofNat cs.length))] below meth cO s₁ [] 0 0 := Stand.of_body Bd
  have e0 : s₁.heap = h0 := by rw [← hh, Bd.state]; rfl
  have N0 := Fr.nil n0
  have W0 : ∀ zQ, SS p e below s₁ m 0 #[.val (.ref t), .val (.int (Int32.ofNat cs.length))] [] zQ → Steps p.tables e below (s₁.setTop (entryFrame m #[(.ref t), (.int (Int32.ofNat cs.length))] 2)) zQ := fun tt kt => castTop (ef_coderOf m t (Int32.ofNat cs.length)) kt
  obtain ⟨cl101, Ar101, -, S101, M101, -, -⟩ := id A1
  have W102 : ∀ zQ, SS p e below s₁ m 8 #[.val (.ref t), .val (.int (Int32.ofNat cs.length))] [(.int (((((Int32.ofNat cs.length) - (Int32.ofNat (blen cs))).toUInt32 >>> ((31 : Int32) &&& 31).toUInt32).toInt32).toInt8.toInt32))] zQ → Steps p.tables e below (s₁.setTop (entryFrame m #[(.ref t), (.int (Int32.ofNat cs.length))] 2)) zQ := by
    intro tt kt
    refine W0 tt ?_
    refine XS.iloadN X0.here hx rfl (hb hby d_jdk_52_method_15_0) rfl ?_
    refine XS.aloadN X0.here hx rfl (hb hby d_jdk_52_method_15_1) rfl rfl ?_
    show SS p e below s₁ m 2 #[.val (.ref t), .val (.int (Int32.ofNat cs.length))] [(.ref t), (.int (Int32.ofNat cs.length))] _
    refine X0.arraylength hx (by first | exact Ar101.1 | (rw [e0]; exact Ar101.1)) (State.isArrayOf_alike hZ.alike Ar101.2.1) (g := (mkF m 2 #[.val (.ref t), .val (.int (Int32.ofNat cs.length))] [(.ref t), (.int (Int32.ofNat cs.length))])) rfl rfl (hb hby d_jdk_52_method_15_2) _ ?_
    rw [len_of S101 M101]
    refine XS.isub X0.here hx rfl (hb hby d_jdk_52_method_15_3) rfl ?_
    refine XS.bipush X0.here hx rfl (hb hby d_jdk_52_method_15_4) ?_
    refine XS.iushr X0.here hx rfl (hb hby d_jdk_52_method_15_6) rfl ?_
    refine XS.i2b X0.here hx rfl (hb hby d_jdk_52_method_15_7) rfl ?_
    exact kt
  obtain ⟨fs, hr, hrun, hended, hW, hsame⟩ := X0.leave (v := some (.int (nar .byte (((((Int32.ofNat cs.length) - (Int32.ofNat (blen cs))).toUInt32 >>> ((31 : Int32) &&& 31).toUInt32).toInt32).toInt8.toInt32)))) (fun h => by rw [Bd.returns] at h; cases h)
  refine ⟨_, _, W102 _ (retN X0 hx (t := .byte) Bd.returns (by simp) (hb hby d_jdk_52_method_15_8) hr), hrun, hended, _, _, rfl, ?_, ⟨_, rfl⟩, hW, hsame.mono (by decide) (by decide)⟩
  show Q_coderOf Z t kb vs cs h0 n0 _ s₁.heap _
  rw [e0]
  exact ⟨(congrArg (fun q => some (Value.int q)) (own_cdr ok.2)), N0, rfl⟩
def Q_compress16 (Z : State) (src : Addr) (kc : ClassId) (cs : List Int32) (h0 : Heap) (n0 : Nat) (vQ_ : Option Value) (hQ_ : Heap) (LQ_ : List Loc) : Prop := ∃ t : Addr, ∃ kb : ClassId, vQ_ = some (.ref t) ∧ Fr n0 LQ_ ∧ Keep h0 hQ_ [] ∧ h0.size ≤ t ∧ Arv Z hQ_ t kb .byte (Int32.ofNat (blen cs)) (enc cs) (.int (0 : Int32))
set_option maxRecDepth 65536 in
set_option maxHeartbeats 40000000 in
theorem rm_compress16 (l : Launch) (Z : State) (a0 : Array Value) (hw : HW a0 Z) (ws : List Jvm.Cond) (src : Addr) (kc : ClassId) (cs : List Int32) (h0 : Heap) (n0 : Nat) (Z0 : n0 ≤ h0.size) (Vs : Arv Z h0 src kc .char (Int32.ofNat cs.length) (cs.map Value.int) (.int (0 : Int32))) (ok : OkS cs) (hcap : cs.length ≤ 17) (hl : lat cs = true) :
    MetFree l yn2 (head1 (Jvm.Cond.code yn2 jdk_52_method_16_code 6 (some (.array .byte)) :: ws) ({ frames := 1, cells := 1, slots := 17, locals := 18 } : Room)) (fun aQ_ UQ => aQ_ = #[(.ref src), (.int (0 : Int32)), (.int (Int32.ofNat cs.length))] ∧ Z.Warmed39 UQ.vm ∧ UQ.heap = h0) (fun _ _ _ _ _ => True) (fun _ UQ oQ UQ' => ∃ vQ_ LQ_, oQ = .returned vQ_ ∧ Q_compress16 Z src kc cs h0 n0 vQ_ UQ'.heap LQ_ ∧ FrameEnd UQ oQ UQ' LQ_ ({ frames := 1, cells := 1, slots := 17, locals := 18 } : Room).cells ({ frames := 1, cells := 1, slots := 17, locals := 18 } : Room).slots) := by
  refine MetFree.of_bodySF (plainFor_of_name pn_java_lang_StringUTF16) hisR ?_
  intro p e s m args below meth cO s₁ Bd hml0 hP hK
  obtain ⟨rfl, hZ, hh⟩ := hP
  have hx := Bd.exec
  have hby := Bd.bytes
  have hml : cO.maxLocals = 6 := hml0
  have hown : s.vm.findClass "java/lang/StringUTF16" = some m.cls := findClass_of_methodNamed Bd.named
  have hnm := (name_of_methodNamed Bd.named Bd.method).1
  have X0 : Stand p l e ({ frames := 1, cells := 1, slots := 17, locals := 18 } : Room) s m #[(.ref src), (.int (0 : Int32)), (.int (Int32.ofNat cs.length))] below meth cO s₁ [] 0 0 := Stand.of_body Bd
  have e0 : s₁.heap = h0 := by rw [← hh, Bd.state]; rfl
  have N0 := Fr.nil n0
  have W0 : ∀ zQ, SS p e below s₁ m 0 #[.val (.ref src), .val (.int (0 : Int32)), .val (.int (Int32.ofNat cs.length)), .unset, .unset, .unset] [] zQ → Steps p.tables e below (s₁.setTop (entryFrame m #[(.ref src), (.int (0 : Int32)), (.int (Int32.ofNat cs.length))] 6)) zQ := fun tt kt => castTop (ef_compress16 m src (0 : Int32) (Int32.ofNat cs.length)) kt
  have hn : cs.length < 1048576 := ok.2
  obtain ⟨T101, h101, k101, X101, e101, E101, A101, st101⟩ := newP X0 hx hZ (aty := .byte) (w25 hw) e0 (g := (mkF m 1 #[.val (.ref src), .val (.int (0 : Int32)), .val (.int (Int32.ofNat cs.length)), .unset, .unset, .unset] [(.int (Int32.ofNat cs.length))])) rfl (hb hby d_jdk_52_method_16_1) (n := (Int32.ofNat cs.length)) rfl (own_nneg (by omega)) (cap := 17) (by rw [own_cl (by omega)]; exact hcap) (by decide) (by decide) (by decide)
  obtain ⟨b101, g101⟩ : ∃ z, z = h0.size := ⟨_, rfl⟩
  rw [← g101] at A101 st101
  have K101 := (Keep.refl h0 []).ext E101
  have G101 : Arv Z h101 b101 k101 .byte (Int32.ofNat cs.length) [] (.int (0 : Int32)) := Arv.new A101 (own_nneg (by omega))
  have F102 : Arv Z h101 src kc .char (Int32.ofNat cs.length) (cs.map Value.int) (.int (0 : Int32)) := (Vs.keep K101 nin0)
  obtain ⟨_, _, ⟨T103, L103, k103, n103⟩, -, X103, ⟨Lc103, hQ103, l103, y103, z103⟩, st103⟩ := Jvm.LawKit.callS X101 hx (y := yn0) hown (mvT hZ (w26 hw)) (mvT hZ (w27 hw)) (mvT hZ (w23 hw)) (mvT hZ (w28 hw)) (by decide) (backOf (W := 0) (rm_compress21 l Z a0 hw [] src b101 kc k101 cs h101 n0 (Nat.le_trans Z0 K101.1) F102 G101 (Nat.ne_of_lt (Nat.lt_of_lt_of_le Vs.lt (Nat.le_of_eq g101.symm))) (Nat.le_trans Z0 (Nat.le_of_eq g101.symm)) ok) hZ (w28 hw) (w23 hw) (by decide) (by decide)) (g := (mkF m 9 #[.val (.ref src), .val (.int (0 : Int32)), .val (.int (Int32.ofNat cs.length)), .val (.ref b101), .unset, .unset] [(.int (Int32.ofNat cs.length)), (.int (0 : Int32)), (.ref b101), (.int (0 : Int32)), (.ref src)])) rfl (by rw [hml]; rfl) (argsL := [(.ref src), (.int (0 : Int32)), (.ref b101), (.int (0 : Int32)), (.int (Int32.ofNat cs.length))]) (rest := []) (lenOf pd__28__5b_CI_5b_BII_29_I rfl) rfl (by show 2 * 0 + _ ≤ _; exact Nat.le_of_eq rfl) (hb hby d_jdk_52_method_16_9) (fun _ _ => ⟨rfl, e101, (Nat.le_of_ble_eq_true rfl), (Nat.le_of_ble_eq_true rfl)⟩)
  dsimp only [Pt.U, Pt.locs, Pt.cells, Pt.slots] at X103 l103 y103 z103 st103 hQ103
  subst l103 y103 z103
  obtain ⟨rfl, Nq103, K103, P103_0⟩ := hQ103
  have N103 := Fr.app N0 Nq103
  have W104 : ∀ zQ, SS p e below T103 m 58 #[.val (.ref src), .val (.int (0 : Int32)), .val (.int (Int32.ofNat cs.length)), .val (.ref b101), .val (.int (Int32.ofNat (fl cs))), .unset] [(.ref b101)] zQ → Steps p.tables e below (s₁.setTop (entryFrame m #[(.ref src), (.int (0 : Int32)), (.int (Int32.ofNat cs.length))] 6)) zQ := by
    intro tt kt
    refine W0 tt ?_
    refine XS.iloadN X0.here hx rfl (hb hby d_jdk_52_method_16_0) rfl ?_
    show SS p e below s₁ m 1 #[.val (.ref src), .val (.int (0 : Int32)), .val (.int (Int32.ofNat cs.length)), .unset, .unset, .unset] [(.int (Int32.ofNat cs.length))] _
    refine st101 _ ?_
    refine XS.astoreN X101.here hx rfl (hb hby d_jdk_52_method_16_3) rfl rfl (l' := #[.val (.ref src), .val (.int (0 : Int32)), .val (.int (Int32.ofNat cs.length)), .val (.ref b101), .unset, .unset]) rfl ?_
    refine XS.aloadN X101.here hx rfl (hb hby d_jdk_52_method_16_4) rfl rfl ?_
    refine XS.iloadN X101.here hx rfl (hb hby d_jdk_52_method_16_5) rfl ?_
    refine XS.aloadN X101.here hx rfl (hb hby d_jdk_52_method_16_6) rfl rfl ?_
    refine XS.iconst X101.here hx rfl (hb hby d_jdk_52_method_16_7) ?_
    show SS p e below T101 m 8 #[.val (.ref src), .val (.int (0 : Int32)), .val (.int (Int32.ofNat cs.length)), .val (.ref b101), .unset, .unset] [(.int (0 : Int32)), (.ref b101), (.int (0 : Int32)), (.ref src)] _
    refine XS.iloadN X101.here hx rfl (hb hby d_jdk_52_method_16_8) rfl ?_
    show SS p e below T101 m 9 #[.val (.ref src), .val (.int (0 : Int32)), .val (.int (Int32.ofNat cs.length)), .val (.ref b101), .unset, .unset] [(.int (Int32.ofNat cs.length)), (.int (0 : Int32)), (.ref b101), (.int (0 : Int32)), (.ref src)] _
    refine st103 _ ?_
    refine XS.istore X103.here hx rfl (hb hby d_jdk_52_method_16_12) rfl (l' := #[.val (.ref src), .val (.int (0 : Int32)), .val (.int (Int32.ofNat cs.length)), .val (.ref b101), .val (.int (Int32.ofNat (fl cs))), .unset]) rfl ?_
    refine XS.iload X103.here hx rfl (hb hby d_jdk_52_method_16_14) rfl ?_
    refine XS.iloadN X103.here hx rfl (hb hby d_jdk_52_method_16_16) rfl ?_
    refine XS.icmpYes X103.here hx rfl (pc0 := 17) (pc' := 57) rfl (hb hby d_jdk_52_method_16_17) rfl (teq (by rw [fl_lat hl])).1 (by decide) (by decide) ?_
    refine XS.aloadN X103.here hx rfl (hb hby d_jdk_52_method_16_57) rfl rfl ?_
    exact kt
  have hR105 : Arv Z T103.heap b101 k101 .byte (Int32.ofNat (blen cs)) (enc cs) (.int (0 : Int32)) := by have q := enc_lat hl; rw [q.1, q.2.1]; rw [show cs.take (fl cs) = cs from by rw [fl_lat hl]; simp] at P103_0; exact P103_0
  obtain ⟨fs, hr, hrun, hended, hW, hsame⟩ := X103.leave (v := some (.ref b101)) (fun h => by rw [Bd.returns] at h; cases h)
  refine ⟨_, _, W104 _ (own_retR X103 hx Bd.returns rfl rfl (hb hby d_jdk_52_method_16_58) hr), hrun, hended, _, _, rfl, ?_, ⟨_, rfl⟩, hW, hsame.mono (by decide) (by decide)⟩
  show Q_compress16 Z src kc cs h0 n0 _ T103.heap _
  exact ⟨b101, k101, rfl, N103, (Keep.trans (Keep.trans (Keep.refl h0 []) K101 all0) K103 (allS (Or.inr (Nat.le_of_eq g101.symm)) all0)), (Nat.le_of_eq g101.symm), hR105⟩
def Q_sinitV (Z : State) (a : Addr) (src : Addr) (kc : ClassId) (cs : List Int32) (cS : Int32) (h0 : Heap) (n0 : Nat) (vQ_ : Option Value) (hQ_ : Heap) (LQ_ : List Loc) : Prop := ∃ t : Addr, ∃ kb : ClassId, vQ_ = none ∧ Fr n0 LQ_ ∧ Keep h0 hQ_ [a] ∧ h0.size ≤ t ∧ Str Z hQ_ a t kb cs
set_option maxRecDepth 65536 in
set_option maxHeartbeats 40000000 in
theorem rm_sinitV (l : Launch) (Z : State) (a0 : Array Value) (hw : HW a0 Z) (ws : List Jvm.Cond) (a : Addr) (src : Addr) (kc : ClassId) (cs : List Int32) (cS : Int32) (h0 : Heap) (n0 : Nat) (Z0 : n0 ≤ h0.size) (O0 : Old Z n0 h0) (S_cs : Sta Z Z.heap "java/lang/String" "COMPACT_STRINGS" "Z" (.int cS)) (hcS : ¬ (cS = (0 : Int32))) (E1 : Exa Z h0 a "java/lang/String") (F1 : Fld Z h0 a "java/lang/String" "value" "[B" .null) (F2 : Fld Z h0 a "java/lang/String" "coder" "B" (.int (0 : Int32))) (hg : n0 ≤ a) (Vs : Arv Z h0 src kc .char (Int32.ofNat cs.length) (cs.map Value.int) (.int (0 : Int32))) (ok : OkS cs) (hcap : cs.length ≤ 17) (hpos : 0 < cs.length) (hne : a ≠ src) (hl : lat cs = true) :
    MetFree l yn3 (head1 (Jvm.Cond.code yn3 jdk_42_method_149_code 6 none :: ws) ({ frames := 2, cells := 1, slots := 17, locals := 35 } : Room)) (fun aQ_ UQ => aQ_ = #[(.ref a), (.ref src), (.int (0 : Int32)), (.int (Int32.ofNat cs.length)), .null] ∧ Z.Warmed39 UQ.vm ∧ UQ.heap = h0) (fun _ _ _ _ _ => True) (fun _ UQ oQ UQ' => ∃ vQ_ LQ_, oQ = .returned vQ_ ∧ Q_sinitV Z a src kc cs cS h0 n0 vQ_ UQ'.heap LQ_ ∧ FrameEnd UQ oQ UQ' LQ_ ({ frames := 2, cells := 1, slots := 17, locals := 35 } : Room).cells ({ frames := 2, cells := 1, slots := 17, locals := 35 } : Room).slots) := by
  refine MetFree.of_bodySF (plainFor_of_name pn_java_lang_String) hisR ?_
  intro p e s m args below meth cO s₁ Bd hml0 hP hK
  obtain ⟨rfl, hZ, hh⟩ := hP
  have hx := Bd.exec
  have hby := Bd.bytes
  have hml : cO.maxLocals = 6 := hml0
  have hown : s.vm.findClass "java/lang/String" = some m.cls := findClass_of_methodNamed Bd.named
  have hnm := (name_of_methodNamed Bd.named Bd.method).1
  have X0 : Stand p l e ({ frames := 2, cells := 1, slots := 17, locals := 35 } : Room) s m #[(.ref a), (.ref src), (.int (0 : Int32)), (.int (Int32.ofNat cs.length)), .null] below meth cO s₁ [] 0 0 := Stand.of_body Bd
  have e0 : s₁.heap = h0 := by rw [← hh, Bd.state]; rfl
  have N0 := Fr.nil n0
  have W0 : ∀ zQ, SS p e below s₁ m 0 #[.val (.ref a), .val (.ref src), .val (.int (0 : Int32)), .val (.int (Int32.ofNat cs.length)), .val .null, .unset] [] zQ → Steps p.tables e below (s₁.setTop (entryFrame m #[(.ref a), (.ref src), (.int (0 : Int32)), (.int (Int32.ofNat cs.length)), .null] 6)) zQ := fun tt kt => castTop (ef_sinitV m a src (0 : Int32) (Int32.ofNat cs.length)) kt
  have hn : cs.length < 1048576 := ok.2
  obtain ⟨T101, X101, e101, st101⟩ := initO X0 hx hZ hown (w17 hw) (w18 hw) (w19 hw) e0 (g := (mkF m 1 #[.val (.ref a), .val (.ref src), .val (.int (0 : Int32)), .val (.int (Int32.ofNat cs.length)), .val .null, .unset] [(.ref a)])) rfl (by rw [hml]; rfl) rfl (hb hby d_jdk_42_method_149_1) (by decide) (W := 0) (by show 2 * 0 + _ ≤ _; exact Nat.le_of_eq rfl) (by decide)
  have F103 : Sta Z h0 "java/lang/String" "COMPACT_STRINGS" "Z" (.int cS) := S_cs.ext O0.2
  obtain ⟨T102, X102, e102, st102⟩ := getS2 X101 hx hZ hown (host := "") (Or.inl (w20 hw)) Via.refl e101 F103 (g := (mkF m 27 #[.val (.ref a), .val (.ref src), .val (.int (0 : Int32)), .val (.int (Int32.ofNat cs.length)), .val .null, .unset] [])) rfl (hb hby d_jdk_42_method_149_27)
  obtain ⟨_, _, ⟨T104, L104, k104, n104⟩, -, X104, ⟨Lc104, hQ104, l104, y104, z104⟩, st104⟩ := Jvm.LawKit.callS X102 hx (y := yn2) hown (mvT hZ (w21 hw)) (mvT hZ (w22 hw)) (mvT hZ (w23 hw)) (mvT hZ (w24 hw)) (by decide) (backOf (W := 0) (rm_compress16 l Z a0 hw [] src kc cs h0 n0 Z0 Vs ok hcap hl) hZ (w24 hw) (w23 hw) (by decide) (by decide)) (g := (mkF m 36 #[.val (.ref a), .val (.ref src), .val (.int (0 : Int32)), .val (.int (Int32.ofNat cs.length)), .val .null, .unset] [(.int (Int32.ofNat cs.length)), (.int (0 : Int32)), (.ref src)])) rfl (by rw [hml]; rfl) (argsL := [(.ref src), (.int (0 : Int32)), (.int (Int32.ofNat cs.length))]) (rest := []) (lenOf pd__28__5b_CII_29__5b_B rfl) rfl (by show 2 * 0 + _ ≤ _; exact Nat.le_of_eq rfl) (hb hby d_jdk_42_method_149_36) (fun _ _ => ⟨rfl, e102, (Nat.le_of_ble_eq_true rfl), (Nat.le_of_ble_eq_true rfl)⟩)
  dsimp only [Pt.U, Pt.locs, Pt.cells, Pt.slots] at X104 l104 y104 z104 st104 hQ104
  subst l104 y104 z104
  obtain ⟨t_105, kb_106, rfl, Nq104, K104, P104_0, P104_1⟩ := hQ104
  have N104 := Fr.app N0 Nq104
  obtain ⟨_, _, ⟨T107, L107, k107, n107⟩, -, X107, ⟨Lc107, hQ107, l107, y107, z107⟩, st107⟩ := Jvm.LawKit.callS X104 hx (y := yn1) hown (mvT hZ (w29 hw)) (mvT hZ (w30 hw)) (mvT hZ (w23 hw)) (mvT hZ (w31 hw)) (by decide) (backOf (W := 1) (rm_coderOf l Z a0 hw [] t_105 kb_106 (enc cs) cs T104.heap n0 (Nat.le_trans Z0 K104.1) P104_1 ok) hZ (w31 hw) (w23 hw) (by decide) (by decide)) (g := (mkF m 45 #[.val (.ref a), .val (.ref src), .val (.int (0 : Int32)), .val (.int (Int32.ofNat cs.length)), .val .null, .val (.ref t_105)] [(.int (Int32.ofNat cs.length)), (.ref t_105), (.ref a)])) rfl (by rw [hml]; rfl) (argsL := [(.ref t_105), (.int (Int32.ofNat cs.length))]) (rest := [(.ref a)]) (lenOf pd__28__5b_BI_29_B rfl) rfl (by show 2 * 0 + _ ≤ _; exact Nat.le_of_eq rfl) (hb hby d_jdk_42_method_149_45) (fun _ _ => ⟨rfl, rfl, (Nat.le_of_ble_eq_true rfl), (Nat.le_of_ble_eq_true rfl)⟩)
  dsimp only [Pt.U, Pt.locs, Pt.cells, Pt.slots] at X107 l107 y107 z107 st107 hQ107
  subst l107 y107 z107
  obtain ⟨rfl, Nq107, eq107⟩ := hQ107
  have N107 := Fr.app N104 Nq107
  have F108 : Exa Z T104.heap a "java/lang/String" := (E1.keep K104)
  have F109 : Fld Z T104.heap a "java/lang/String" "coder" "B" (.int (0 : Int32)) := (F2.keep K104 nin0)
  obtain ⟨T110, h110, X110, e110, Wr110, st110⟩ := putFN X107 hx hZ hown (w32 hw) Via.refl eq107 F109 F108 (Or.inr ⟨(w33 hw), rfl, hnm⟩) (w3 hw) (ty := .byte) (v' := (.int (cdr cs))) (by decide) (show narrow .byte (.int (cdr cs)) = .int (cdr cs) from congrArg Value.int (own_narcdr cs)) (own_fitcdr cs) (g := (mkF m 48 #[.val (.ref a), .val (.ref src), .val (.int (0 : Int32)), .val (.int (Int32.ofNat cs.length)), .val .null, .val (.ref t_105)] [(.int (cdr cs)), (.ref a)])) rfl rfl (hb hby d_jdk_42_method_149_48)
  have K110 := Keep.of_wr Wr110
  have G110 := F109.same Wr110
  have N110 := Fr.snoc X110 N107 hg
  have F111 : Exa Z h110 a "java/lang/String" := (F108.keep K110)
  have F112 : Fld Z h110 a "java/lang/String" "value" "[B" .null := (Fld.other Wr110 (F1.keep K104 nin0) (Or.inr (slot_ne (Or.inr (w35 hw)) (Or.inr (w33 hw)) (by decide) (t := (.array .byte)) (t' := .byte) (by decide) (by decide))))
  obtain ⟨T113, h113, X113, e113, Wr113, st113⟩ := putF X110 hx hZ hown (host := "") (Or.inl (w34 hw)) Via.refl e110 F112 F111 (Or.inr ⟨(w35 hw), rfl, hnm⟩) (w3 hw) (ty := (.array .byte)) (by decide) rfl rfl (g := (mkF m 54 #[.val (.ref a), .val (.ref src), .val (.int (0 : Int32)), .val (.int (Int32.ofNat cs.length)), .val .null, .val (.ref t_105)] [(.ref t_105), (.ref a)])) rfl rfl (hb hby d_jdk_42_method_149_54)
  have K113 := Keep.of_wr Wr113
  have G113 := F112.same Wr113
  have N113 := Fr.snoc X113 N110 hg
  have W114 : ∀ zQ, SS p e below T113 m 57 #[.val (.ref a), .val (.ref src), .val (.int (0 : Int32)), .val (.int (Int32.ofNat cs.length)), .val .null, .val (.ref t_105)] [] zQ → Steps p.tables e below (s₁.setTop (entryFrame m #[(.ref a), (.ref src), (.int (0 : Int32)), (.int (Int32.ofNat cs.length)), .null] 6)) zQ := by
    intro tt kt
    refine W0 tt ?_
    refine XS.aloadN X0.here hx rfl (hb hby d_jdk_42_method_149_0) rfl rfl ?_
    show SS p e below s₁ m 1 #[.val (.ref a), .val (.ref src), .val (.int (0 : Int32)), .val (.int (Int32.ofNat cs.length)), .val .null, .unset] [(.ref a)] _
    refine st101 _ ?_
    refine XS.iloadN X101.here hx rfl (hb hby d_jdk_42_method_149_4) rfl ?_
    refine XS.ifYes X101.here hx rfl (pc0 := 5) (pc' := 27) rfl (hb hby d_jdk_42_method_149_5) rfl ((if0 _ _).trans (feq (fun q => by have := congrArg Int32.toInt q; rw [own_i (by omega)] at this; have z : (0 : Int32).toInt = 0 := rfl; omega)).2) (by decide) (by decide) ?_
    show SS p e below T101 m 27 #[.val (.ref a), .val (.ref src), .val (.int (0 : Int32)), .val (.int (Int32.ofNat cs.length)), .val .null, .unset] [] _
    refine st102 _ ?_
    refine XS.ifNo X102.here hx rfl (hb hby d_jdk_42_method_149_30) rfl ((if0 _ _).trans (feq hcS).1) ?_
    refine XS.aloadN X102.here hx rfl (hb hby d_jdk_42_method_149_33) rfl rfl ?_
    refine XS.iloadN X102.here hx rfl (hb hby d_jdk_42_method_149_34) rfl ?_
    refine XS.iloadN X102.here hx rfl (hb hby d_jdk_42_method_149_35) rfl ?_
    show SS p e below T102 m 36 #[.val (.ref a), .val (.ref src), .val (.int (0 : Int32)), .val (.int (Int32.ofNat cs.length)), .val .null, .unset] [(.int (Int32.ofNat cs.length)), (.int (0 : Int32)), (.ref src)] _
    refine st104 _ ?_
    refine XS.astore X104.here hx rfl (hb hby d_jdk_42_method_149_39) rfl rfl (l' := #[.val (.ref a), .val (.ref src), .val (.int (0 : Int32)), .val (.int (Int32.ofNat cs.length)), .val .null, .val (.ref t_105)]) rfl ?_
    refine XS.aloadN X104.here hx rfl (hb hby d_jdk_42_method_149_41) rfl rfl ?_
    refine XS.aload X104.here hx rfl (hb hby d_jdk_42_method_149_42) rfl rfl ?_
    refine XS.iloadN X104.here hx rfl (hb hby d_jdk_42_method_149_44) rfl ?_
    show SS p e below T104 m 45 #[.val (.ref a), .val (.ref src), .val (.int (0 : Int32)), .val (.int (Int32.ofNat cs.length)), .val .null, .val (.ref t_105)] [(.int (Int32.ofNat cs.length)), (.ref t_105), (.ref a)] _
    refine st107 _ ?_
    show SS p e below T107 m 48 #[.val (.ref a), .val (.ref src), .val (.int (0 : Int32)), .val (.int (Int32.ofNat cs.length)), .val .null, .val (.ref t_105)] [(.int (cdr cs)), (.ref a)] _
    refine st110 _ ?_
    refine XS.aloadN X110.here hx rfl (hb hby d_jdk_42_method_149_51) rfl rfl ?_
    refine XS.aload X110.here hx rfl (hb hby d_jdk_42_method_149_52) rfl rfl ?_
    show SS p e below T110 m 54 #[.val (.ref a), .val (.ref src), .val (.int (0 : Int32)), .val (.int (Int32.ofNat cs.length)), .val .null, .val (.ref t_105)] [(.ref t_105), (.ref a)] _
    refine st113 _ ?_
    exact kt
  have F115 : Exa Z h113 a "java/lang/String" := (F111.keep K113)
  have F116 : Fld Z h113 a "java/lang/String" "coder" "B" (.int (cdr cs)) := (Fld.other Wr113 G110 (Or.inr (slot_ne (Or.inr (w33 hw)) (Or.inr (w35 hw)) (by decide) (t := .byte) (t' := (.array .byte)) (by decide) (by decide))))
  have F117 : Arv Z h113 t_105 kb_106 .byte (Int32.ofNat (blen cs)) (enc cs) (.int (0 : Int32)) := ((P104_1.keep K110 (ninS (Ne.symm (Nat.ne_of_lt (Nat.lt_of_lt_of_le E1.lt P104_0))) nin0)).keep K113 (ninS (Ne.symm (Nat.ne_of_lt (Nat.lt_of_lt_of_le E1.lt P104_0))) nin0))
  obtain ⟨fs, hr, hrun, hended, hW, hsame⟩ := X113.leave (v := none) (fun _ => rfl)
  refine ⟨_, _, W114 _ (X113.returnOut hx Bd.returns (hb hby d_jdk_42_method_149_57) hr), hrun, hended, _, _, rfl, ?_, ⟨_, rfl⟩, hW, hsame.mono (by decide) (by decide)⟩
  show Q_sinitV Z a src kc cs cS h0 n0 _ T113.heap _
  rw [e113]
  exact ⟨t_105, kb_106, rfl, N113, (Keep.trans (Keep.trans (Keep.trans (Keep.refl h0 [a]) K104 all0) K110 (allS (Or.inl (List.mem_of_getElem? (i := 0) rfl)) all0)) K113 (allS (Or.inl (List.mem_of_getElem? (i := 0) rfl)) all0)), P104_0, ⟨F115, G113, F116, F117, ok⟩⟩
def Q_sinit (Z : State) (a : Addr) (src : Addr) (kc : ClassId) (cs : List Int32) (cS : Int32) (h0 : Heap) (n0 : Nat) (vQ_ : Option Value) (hQ_ : Heap) (LQ_ : List Loc) : Prop := ∃ t : Addr, ∃ kb : ClassId, vQ_ = none ∧ Fr n0 LQ_ ∧ Keep h0 hQ_ [a] ∧ h0.size ≤ t ∧ Str Z hQ_ a t kb cs
set_option maxRecDepth 65536 in
set_option maxHeartbeats 40000000 in
theorem rm_sinit (l : Launch) (Z : State) (a0 : Array Value) (hw : HW a0 Z) (ws : List Jvm.Cond) (a : Addr) (src : Addr) (kc : ClassId) (cs : List Int32) (cS : Int32) (h0 : Heap) (n0 : Nat) (Z0 : n0 ≤ h0.size) (O0 : Old Z n0 h0) (S_cs : Sta Z Z.heap "java/lang/String" "COMPACT_STRINGS" "Z" (.int cS)) (hcS : ¬ (cS = (0 : Int32))) (E1 : Exa Z h0 a "java/lang/String") (F1 : Fld Z h0 a "java/lang/String" "value" "[B" .null) (F2 : Fld Z h0 a "java/lang/String" "coder" "B" (.int (0 : Int32))) (hg : n0 ≤ a) (Vs : Arv Z h0 src kc .char (Int32.ofNat cs.length) (cs.map Value.int) (.int (0 : Int32))) (ok : OkS cs) (hcap : cs.length ≤ 17) (hpos : 0 < cs.length) (hne : a ≠ src) (hl : lat cs = true) :
    MetFree l yn4 (head1 (Jvm.Cond.code yn4 jdk_42_method_3_code 2 none :: ws) ({ frames := 3, cells := 1, slots := 17, locals := 52 } : Room)) (fun aQ_ UQ => aQ_ = #[(.ref a), (.ref src)] ∧ Z.Warmed39 UQ.vm ∧ UQ.heap = h0) (fun _ _ _ _ _ => True) (fun _ UQ oQ UQ' => ∃ vQ_ LQ_, oQ = .returned vQ_ ∧ Q_sinit Z a src kc cs cS h0 n0 vQ_ UQ'.heap LQ_ ∧ FrameEnd UQ oQ UQ' LQ_ ({ frames := 3, cells := 1, slots := 17, locals := 52 } : Room).cells ({ frames := 3, cells := 1, slots := 17, locals := 52 } : Room).slots) := by
  refine MetFree.of_bodySF (plainFor_of_name pn_java_lang_String) hisR ?_
  intro p e s m args below meth cO s₁ Bd hml0 hP hK
  obtain ⟨rfl, hZ, hh⟩ := hP
  have hx := Bd.exec
  have hby := Bd.bytes
  have hml : cO.maxLocals = 2 := hml0
  have hown : s.vm.findClass "java/lang/String" = some m.cls := findClass_of_methodNamed Bd.named
  have hnm := (name_of_methodNamed Bd.named Bd.method).1
  have X0 : Stand p l e ({ frames := 3, cells := 1, slots := 17, locals := 52 } : Room) s m #[(.ref a), (.ref src)] below meth cO s₁ [] 0 0 := Stand.of_body Bd
  have e0 : s₁.heap = h0 := by rw [← hh, Bd.state]; rfl
  have N0 := Fr.nil n0
  have W0 : ∀ zQ, SS p e below s₁ m 0 #[.val (.ref a), .val (.ref src)] [] zQ → Steps p.tables e below (s₁.setTop (entryFrame m #[(.ref a), (.ref src)] 2)) zQ := fun tt kt => castTop (ef_sinit m a src) kt
  obtain ⟨cl101, Ar101, -, S101, M101, -, -⟩ := id Vs
  obtain ⟨_, _, ⟨T102, L102, k102, n102⟩, -, X102, ⟨Lc102, hQ102, l102, y102, z102⟩, st102⟩ := X0.specialBack hx (y := yn3) rfl hown (mvT hZ (w13 hw)) (mvT hZ (w14 hw)) (mvT hZ (w16 hw)) (by decide) (backOf (W := 0) (rm_sinitV l Z a0 hw [] a src kc cs cS h0 n0 Z0 O0 S_cs hcS E1 F1 F2 hg Vs ok hcap hpos hne hl) hZ (w16 hw) (w4 hw) (by decide) (by decide)) (g := (mkF m 6 #[.val (.ref a), .val (.ref src)] [.null, (.int (Int32.ofNat cs.length)), (.int (0 : Int32)), (.ref src), (.ref a)])) rfl (by rw [hml]; rfl) (Steps.refl _) (a := a) (argsL := [(.ref src), (.int (0 : Int32)), (.int (Int32.ofNat cs.length)), .null]) (rest := []) (lenOf pd__28__5b_CIILjava_2f_lang_2f_Void_3b__29_V rfl) rfl (by show 2 * 0 + _ ≤ _; exact Nat.le_of_eq rfl) (hb hby d_jdk_42_method_3_6) (fun _ _ => ⟨rfl, e0, (Nat.le_of_ble_eq_true rfl), (Nat.le_of_ble_eq_true rfl)⟩)
  dsimp only [Pt.U, Pt.locs, Pt.cells, Pt.slots] at X102 l102 y102 z102 st102 hQ102
  subst l102 y102 z102
  obtain ⟨t_103, kb_104, rfl, Nq102, K102, P102_0, P102_1⟩ := hQ102
  have N102 := Fr.app N0 Nq102
  have W105 : ∀ zQ, SS p e below T102 m 9 #[.val (.ref a), .val (.ref src)] [] zQ → Steps p.tables e below (s₁.setTop (entryFrame m #[(.ref a), (.ref src)] 2)) zQ := by
    intro tt kt
    refine W0 tt ?_
    refine XS.aloadN X0.here hx rfl (hb hby d_jdk_42_method_3_0) rfl rfl ?_
    refine XS.aloadN X0.here hx rfl (hb hby d_jdk_42_method_3_1) rfl rfl ?_
    refine XS.iconst X0.here hx rfl (hb hby d_jdk_42_method_3_2) ?_
    refine XS.aloadN X0.here hx rfl (hb hby d_jdk_42_method_3_3) rfl rfl ?_
    show SS p e below s₁ m 4 #[.val (.ref a), .val (.ref src)] [(.ref src), (.int (0 : Int32)), (.ref src), (.ref a)] _
    refine X0.arraylength hx (by first | exact Ar101.1 | (rw [e0]; exact Ar101.1)) (State.isArrayOf_alike hZ.alike Ar101.2.1) (g := (mkF m 4 #[.val (.ref a), .val (.ref src)] [(.ref src), (.int (0 : Int32)), (.ref src), (.ref a)])) rfl rfl (hb hby d_jdk_42_method_3_4) _ ?_
    rw [len_of S101 M101]
    refine XS.aconstNull X0.here hx rfl (hb hby d_jdk_42_method_3_5) ?_
    show SS p e below s₁ m 6 #[.val (.ref a), .val (.ref src)] [.null, (.int (Int32.ofNat cs.length)), (.int (0 : Int32)), (.ref src), (.ref a)] _
    refine st102.trans ?_
    exact kt
  obtain ⟨fs, hr, hrun, hended, hW, hsame⟩ := X102.leave (v := none) (fun _ => rfl)
  refine ⟨_, _, W105 _ (X102.returnOut hx Bd.returns (hb hby d_jdk_42_method_3_9) hr), hrun, hended, _, _, rfl, ?_, ⟨_, rfl⟩, hW, hsame.mono (by decide) (by decide)⟩
  show Q_sinit Z a src kc cs cS h0 n0 _ T102.heap _
  exact ⟨t_103, kb_104, rfl, N102, (Keep.trans (Keep.refl h0 [a]) K102 (allS (Or.inl (List.mem_of_getElem? (i := 0) rfl)) all0)), P102_0, P102_1⟩
def Q_sinitV0 (Z : State) (a : Addr) (src : Addr) (h0 : Heap) (n0 : Nat) (vQ_ : Option Value) (hQ_ : Heap) (LQ_ : List Loc) : Prop := ∃ t : Addr, ∃ kb : ClassId, vQ_ = none ∧ Fr n0 LQ_ ∧ Keep h0 hQ_ [a] ∧ Str Z hQ_ a t kb ([] : List Int32)
set_option maxRecDepth 65536 in
set_option maxHeartbeats 40000000 in
theorem rm_sinitV0 (l : Launch) (Z : State) (a0 : Array Value) (hw : HW a0 Z) (ws : List Jvm.Cond) (a : Addr) (src : Addr) (h0 : Heap) (n0 : Nat) (Z0 : n0 ≤ h0.size) (E1 : Exa Z h0 a "java/lang/String") (F1 : Fld Z h0 a "java/lang/String" "value" "[B" .null) (F2 : Fld Z h0 a "java/lang/String" "coder" "B" (.int (0 : Int32))) (hg : n0 ≤ a) :
    MetFree l yn3 (head1 (Jvm.Cond.code yn3 jdk_42_method_149_code 6 none :: ws) ({ frames := 1, cells := 4, slots := 8, locals := 12 } : Room)) (fun aQ_ UQ => aQ_ = #[(.ref a), (.ref src), (.int (0 : Int32)), (.int (0 : Int32)), .null] ∧ Z.Warmed39 UQ.vm ∧ UQ.heap = h0 ∧ CHv Z EL_1 UQ.vm h0) (fun _ _ _ _ _ => True) (fun _ UQ oQ UQ' => ∃ vQ_ LQ_, oQ = .returned vQ_ ∧ Q_sinitV0 Z a src h0 n0 vQ_ UQ'.heap LQ_ ∧ CHr Z EL_1 UQ.vm UQ.heap UQ'.vm UQ'.heap ∧ ReturnedEndW UQ oQ UQ' LQ_ ({ frames := 1, cells := 4, slots := 8, locals := 12 } : Room).cells ({ frames := 1, cells := 4, slots := 8, locals := 12 } : Room).slots) := by
  refine MetFree.of_bodySF (plainFor_of_name pn_java_lang_String) hisR ?_
  intro p e s m args below meth cO s₁ Bd hml0 hP hK
  obtain ⟨rfl, hZ, hh, hH⟩ := hP
  have hx := Bd.exec
  have hby := Bd.bytes
  have hml : cO.maxLocals = 6 := hml0
  have hown : s.vm.findClass "java/lang/String" = some m.cls := findClass_of_methodNamed Bd.named
  have hnm := (name_of_methodNamed Bd.named Bd.method).1
  have X0 : Stand p l e ({ frames := 1, cells := 4, slots := 8, locals := 12 } : Room) (s.setVm s.vm) m #[(.ref a), (.ref src), (.int (0 : Int32)), (.int (0 : Int32)), .null] below meth cO s₁ [] 0 0 := Stand.of_body Bd
  have e0 : s₁.heap = h0 := by rw [← hh, Bd.state]; rfl
  have N0 := Fr.nil n0
  have hZ0 : Z.Warmed39 (s.setVm s.vm).vm := hZ
  have hown0 : (s.setVm s.vm).vm.findClass "java/lang/String" = some m.cls := hown
  have hS0 : s.Since s.vm 0 := (State.WarmedH.refl s).since 0
  have hk0 : 0 ≤ h0.size := Nat.zero_le _
  have hEL : EW Z a0 EL_1 := own_EW hw
  have R0 : CHr Z EL_1 s.vm h0 s.vm h0 := CHr.refl hH
  have W0 : ∀ zQ, SS p e below s₁ m 0 #[.val (.ref a), .val (.ref src), .val (.int (0 : Int32)), .val (.int (0 : Int32)), .val .null, .unset] [] zQ → Steps p.tables e below (s₁.setTop (entryFrame m #[(.ref a), (.ref src), (.int (0 : Int32)), (.int (0 : Int32)), .null] 6)) zQ := fun tt kt => castTop (ef_sinitV0 m a src (0 : Int32) (0 : Int32)) kt
  obtain ⟨T101, X101, e101, st101⟩ := initO X0 hx hZ0 hown0 (w17 hw) (w18 hw) (w19 hw) e0 (g := (mkF m 1 #[.val (.ref a), .val (.ref src), .val (.int (0 : Int32)), .val (.int (0 : Int32)), .val .null, .unset] [(.ref a)])) rfl (by rw [hml]; rfl) rfl (hb hby d_jdk_42_method_149_1) (by decide) (W := 0) (by show 2 * 0 + _ ≤ _; exact Nat.le_of_eq rfl) (by decide)
  obtain ⟨b102, T102, h102, k102, c102, kb102, X102, e102, E102, hS102, hk102, hZ102, hown102, LE102, LC102, LV102, LA102, l1102, l2102, A102, -, sf102, st102⟩ := ldcCH X101 hx hZ0 hown0 (w113 hw) (own_wS hw) e101 hS0 hk0 hEL (by decide +kernel) R0.1 (vs := (l1 ([] : List Int32))) (z := (0 : Int32)) (by decide +kernel) (by decide) (by decide) (g := (mkF m 9 #[.val (.ref a), .val (.ref src), .val (.int (0 : Int32)), .val (.int (0 : Int32)), .val .null, .unset] [(.ref a)])) rfl (hb hby d_jdk_42_method_149_9) (n := 0) (by decide) (by decide) (by decide) (by decide)
  have K102 := (Keep.refl h0 []).ext E102
  have R103 : CHr Z EL_1 s.vm h0 T102.vm h102 := R0.trans A102
  have LS102 : Str Z h102 b102 c102 kb102 ([] : List Int32) := ⟨LE102, LV102, LC102, LA102, by decide, by decide⟩
  have F104 : Exa Z h102 a "java/lang/String" := (E1.keep K102)
  have F105 : Fld Z h102 a "java/lang/String" "value" "[B" .null := (F1.keep K102 nin0)
  have Sf106 : Safe Z EL_1 T102.vm h102 a := (own_safeS hZ102.alike F104 F105)
  obtain ⟨T107, X107, e107, st107⟩ := getF X102 hx hZ102 hown102 (host := "") (Or.inl (w34 hw)) Via.refl e102 LV102 (g := (mkF m 11 #[.val (.ref a), .val (.ref src), .val (.int (0 : Int32)), .val (.int (0 : Int32)), .val .null, .unset] [(.ref b102), (.ref a)])) rfl rfl (hb hby d_jdk_42_method_149_11)
  obtain ⟨T108, h108, X108, e108, Wr108, st108⟩ := putF X107 hx hZ102 hown102 (host := "") (Or.inl (w34 hw)) Via.refl e107 F105 F104 (Or.inr ⟨(w35 hw), rfl, hnm⟩) (w3 hw) (ty := (.array .byte)) (by decide) rfl rfl (g := (mkF m 14 #[.val (.ref a), .val (.ref src), .val (.int (0 : Int32)), .val (.int (0 : Int32)), .val .null, .unset] [(.ref c102), (.ref a)])) rfl rfl (hb hby d_jdk_42_method_149_14)
  have K108 := Keep.of_wr Wr108
  have G108 := F105.same Wr108
  have N108 := Fr.snoc X108 N0 hg
  have R109 : CHr Z EL_1 s.vm h0 T102.vm h108 := R103.trans (CHr.keep K108 (sfS Sf106 sf0) R103.1)
  obtain ⟨b110, T110, h110, k110, c110, kb110, X110, e110, E110, hS110, hk110, hZ110, hown110, LE110, LC110, LV110, LA110, l1110, l2110, A110, -, sf110, st110⟩ := ldcCH X108 hx hZ102 hown102 (w113 hw) (own_wS hw) e108 hS102 (Nat.le_trans hk102 K108.1) hEL (by decide +kernel) R109.1 (vs := (l1 ([] : List Int32))) (z := (0 : Int32)) (by decide +kernel) (by decide) (by decide) (g := (mkF m 18 #[.val (.ref a), .val (.ref src), .val (.int (0 : Int32)), .val (.int (0 : Int32)), .val .null, .unset] [(.ref a)])) rfl (hb hby d_jdk_42_method_149_18) (n := 0) (by decide) (by decide) (by decide) (by decide)
  have K110 := (Keep.refl h108 []).ext E110
  have R111 : CHr Z EL_1 s.vm h0 T110.vm h110 := R109.trans A110
  have LS110 : Str Z h110 b110 c110 kb110 ([] : List Int32) := ⟨LE110, LV110, LC110, LA110, by decide, by decide⟩
  have Sf112 : Safe Z EL_1 T110.vm h110 a := (CHr.safe A110 (Nat.lt_of_lt_of_le E1.lt (Nat.le_trans K102.1 K108.1)) (Safe.keep K108 (sfS Sf106 sf0) R103.1 Sf106))
  obtain ⟨T113, X113, e113, st113⟩ := getF X110 hx hZ110 hown110 (host := "") (Or.inl (w32 hw)) Via.refl e110 LC110 (g := (mkF m 20 #[.val (.ref a), .val (.ref src), .val (.int (0 : Int32)), .val (.int (0 : Int32)), .val .null, .unset] [(.ref b110), (.ref a)])) rfl rfl (hb hby d_jdk_42_method_149_20)
  have F114 : Exa Z h110 a "java/lang/String" := ((F104.keep K108).keep K110)
  have F115 : Fld Z h110 a "java/lang/String" "coder" "B" (.int (0 : Int32)) := ((Fld.other Wr108 (F2.keep K102 nin0) (Or.inr (slot_ne (Or.inr (w33 hw)) (Or.inr (w35 hw)) (by decide) (t := .byte) (t' := (.array .byte)) (by decide) (by decide)))).keep K110 nin0)
  obtain ⟨T116, h116, X116, e116, Wr116, st116⟩ := putFN X113 hx hZ110 hown110 (w32 hw) Via.refl e113 F115 F114 (Or.inr ⟨(w33 hw), rfl, hnm⟩) (w3 hw) (ty := .byte) (v' := (.int (0 : Int32))) (by decide) rfl rfl (g := (mkF m 23 #[.val (.ref a), .val (.ref src), .val (.int (0 : Int32)), .val (.int (0 : Int32)), .val .null, .unset] [(.int (0 : Int32)), (.ref a)])) rfl rfl (hb hby d_jdk_42_method_149_23)
  have K116 := Keep.of_wr Wr116
  have G116 := F115.same Wr116
  have N116 := Fr.snoc X116 N108 hg
  have R117 : CHr Z EL_1 s.vm h0 T110.vm h116 := R111.trans (CHr.keep K116 (sfS Sf112 sf0) R111.1)
  have W118 : ∀ zQ, SS p e below T116 m 26 #[.val (.ref a), .val (.ref src), .val (.int (0 : Int32)), .val (.int (0 : Int32)), .val .null, .unset] [] zQ → Steps p.tables e below (s₁.setTop (entryFrame m #[(.ref a), (.ref src), (.int (0 : Int32)), (.int (0 : Int32)), .null] 6)) zQ := by
    intro tt kt
    refine W0 tt ?_
    refine XS.aloadN X0.here hx rfl (hb hby d_jdk_42_method_149_0) rfl rfl ?_
    show SS p e below s₁ m 1 #[.val (.ref a), .val (.ref src), .val (.int (0 : Int32)), .val (.int (0 : Int32)), .val .null, .unset] [(.ref a)] _
    refine st101 _ ?_
    refine XS.iloadN X101.here hx rfl (hb hby d_jdk_42_method_149_4) rfl ?_
    refine XS.ifNo X101.here hx rfl (hb hby d_jdk_42_method_149_5) rfl ((if0 _ _).trans (teq (by decide)).2) ?_
    refine XS.aloadN X101.here hx rfl (hb hby d_jdk_42_method_149_8) rfl rfl ?_
    show SS p e below T101 m 9 #[.val (.ref a), .val (.ref src), .val (.int (0 : Int32)), .val (.int (0 : Int32)), .val .null, .unset] [(.ref a)] _
    refine st102 _ ?_
    show SS p e below T102 m 11 #[.val (.ref a), .val (.ref src), .val (.int (0 : Int32)), .val (.int (0 : Int32)), .val .null, .unset] [(.ref b102), (.ref a)] _
    refine st107 _ ?_
    show SS p e below T107 m 14 #[.val (.ref a), .val (.ref src), .val (.int (0 : Int32)), .val (.int (0 : Int32)), .val .null, .unset] [(.ref c102), (.ref a)] _
    refine st108 _ ?_
    refine XS.aloadN X108.here hx rfl (hb hby d_jdk_42_method_149_17) rfl rfl ?_
    show SS p e below T108 m 18 #[.val (.ref a), .val (.ref src), .val (.int (0 : Int32)), .val (.int (0 : Int32)), .val .null, .unset] [(.ref a)] _
    refine st110 _ ?_
    show SS p e below T110 m 20 #[.val (.ref a), .val (.ref src), .val (.int (0 : Int32)), .val (.int (0 : Int32)), .val .null, .unset] [(.ref b110), (.ref a)] _
    refine st113 _ ?_
    show SS p e below T113 m 23 #[.val (.ref a), .val (.ref src), .val (.int (0 : Int32)), .val (.int (0 : Int32)), .val .null, .unset] [(.int (0 : Int32)), (.ref a)] _
    refine st116 _ ?_
    exact kt
  have F119 : Exa Z h116 a "java/lang/String" := (F114.keep K116)
  have F120 : Fld Z h116 a "java/lang/String" "value" "[B" (.ref c102) := (Fld.other Wr116 (G108.keep K110 nin0) (Or.inr (slot_ne (Or.inr (w35 hw)) (Or.inr (w33 hw)) (by decide) (t := (.array .byte)) (t' := .byte) (by decide) (by decide))))
  have F121 : Arv Z h116 c102 kb102 .byte (0 : Int32) (l1 ([] : List Int32)) (.int (0 : Int32)) := (((LA102.keep K108 (ninS (Ne.symm (sf102 _ Sf106).2) nin0)).keep K110 nin0).keep K116 (ninS (Ne.symm (sf102 _ Sf106).2) nin0))
  obtain ⟨fs, hr, hrun, hended, hRW⟩ := Jvm.Stand.leaveW X116 hS110 (by rw [e116]; exact (Nat.le_trans hk110 K116.1)) (v := none) (fun _ => rfl) (BodyLoose.notSynchronized Bd)
  refine ⟨_, _, W118 _ (X116.returnOut hx Bd.returns (hb hby d_jdk_42_method_149_26) hr), hrun, hended, _, _, rfl, ?_, own_chr (T := T116) R117 (CHv.at X116 hZ110 hEL R117.1) hh.symm e116, own_rw hRW (by decide) (by decide)⟩
  show Q_sinitV0 Z a src h0 n0 _ T116.heap _
  rw [e116]
  exact ⟨c102, kb102, rfl, N116, (Keep.trans (Keep.trans (Keep.trans (Keep.trans (Keep.refl h0 [a]) K102 all0) K108 (allS (Or.inl (List.mem_of_getElem? (i := 0) rfl)) all0)) K110 all0) K116 (allS (Or.inl (List.mem_of_getElem? (i := 0) rfl)) all0)), ⟨F119, F120, G116, F121, by decide, by decide⟩⟩
def Q_sinit0 (Z : State) (a : Addr) (src : Addr) (kc : ClassId) (h0 : Heap) (n0 : Nat) (vQ_ : Option Value) (hQ_ : Heap) (LQ_ : List Loc) : Prop := ∃ t : Addr, ∃ kb : ClassId, vQ_ = none ∧ Fr n0 LQ_ ∧ Keep h0 hQ_ [a] ∧ Str Z hQ_ a t kb ([] : List Int32)
set_option maxRecDepth 65536 in
set_option maxHeartbeats 40000000 in
theorem rm_sinit0 (l : Launch) (Z : State) (a0 : Array Value) (hw : HW a0 Z) (ws : List Jvm.Cond) (a : Addr) (src : Addr) (kc : ClassId) (h0 : Heap) (n0 : Nat) (Z0 : n0 ≤ h0.size) (E1 : Exa Z h0 a "java/lang/String") (F1 : Fld Z h0 a "java/lang/String" "value" "[B" .null) (F2 : Fld Z h0 a "java/lang/String" "coder" "B" (.int (0 : Int32))) (hg : n0 ≤ a) (Vs : Arv Z h0 src kc .char (0 : Int32) [] (.int (0 : Int32))) :
    MetFree l yn4 (head1 (Jvm.Cond.code yn4 jdk_42_method_3_code 2 none :: ws) ({ frames := 2, cells := 4, slots := 8, locals := 29 } : Room)) (fun aQ_ UQ => aQ_ = #[(.ref a), (.ref src)] ∧ Z.Warmed39 UQ.vm ∧ UQ.heap = h0 ∧ CHv Z EL_1 UQ.vm h0) (fun _ _ _ _ _ => True) (fun _ UQ oQ UQ' => ∃ vQ_ LQ_, oQ = .returned vQ_ ∧ Q_sinit0 Z a src kc h0 n0 vQ_ UQ'.heap LQ_ ∧ CHr Z EL_1 UQ.vm UQ.heap UQ'.vm UQ'.heap ∧ ReturnedEndW UQ oQ UQ' LQ_ ({ frames := 2, cells := 4, slots := 8, locals := 29 } : Room).cells ({ frames := 2, cells := 4, slots := 8, locals := 29 } : Room).slots) := by
  refine MetFree.of_bodySF (plainFor_of_name pn_java_lang_String) hisR ?_
  intro p e s m args below meth cO s₁ Bd hml0 hP hK
  obtain ⟨rfl, hZ, hh, hH⟩ := hP
  have hx := Bd.exec
  have hby := Bd.bytes
  have hml : cO.maxLocals = 2 := hml0
  have hown : s.vm.findClass "java/lang/String" = some m.cls := findClass_of_methodNamed Bd.named
  have hnm := (name_of_methodNamed Bd.named Bd.method).1
  have X0 : Stand p l e ({ frames := 2, cells := 4, slots := 8, locals := 29 } : Room) (s.setVm s.vm) m #[(.ref a), (.ref src)] below meth cO s₁ [] 0 0 := Stand.of_body Bd
  have e0 : s₁.heap = h0 := by rw [← hh, Bd.state]; rfl
  have N0 := Fr.nil n0
  have hZ0 : Z.Warmed39 (s.setVm s.vm).vm := hZ
  have hown0 : (s.setVm s.vm).vm.findClass "java/lang/String" = some m.cls := hown
  have hS0 : s.Since s.vm 0 := (State.WarmedH.refl s).since 0
  have hk0 : 0 ≤ h0.size := Nat.zero_le _
  have hEL : EW Z a0 EL_1 := own_EW hw
  have R0 : CHr Z EL_1 s.vm h0 s.vm h0 := CHr.refl hH
  have W0 : ∀ zQ, SS p e below s₁ m 0 #[.val (.ref a), .val (.ref src)] [] zQ → Steps p.tables e below (s₁.setTop (entryFrame m #[(.ref a), (.ref src)] 2)) zQ := fun tt kt => castTop (ef_sinit0 m a src) kt
  obtain ⟨cl101, Ar101, -, S101, M101, -, -⟩ := id Vs
  obtain ⟨_, _, ⟨T102, L102, k102, n102⟩, -, X102', hS102', hgr102, ⟨Lc102, hQ102, l102, y102, z102, A102⟩, st102⟩ := X0.specialBackS hx (y := yn3) rfl hown0 (mvT hZ0 (w13 hw)) (mvT hZ0 (w14 hw)) (mvT hZ0 (w16 hw)) (by decide) (backOfSH (W := 0) (rm_sinitV0 l Z a0 hw [] a src h0 n0 Z0 E1 F1 F2 hg) hZ0 (w16 hw) (w4 hw) (by decide) (by decide) hEL R0.1) (g := (mkF m 6 #[.val (.ref a), .val (.ref src)] [.null, (.int (0 : Int32)), (.int (0 : Int32)), (.ref src), (.ref a)])) rfl (by rw [hml]; rfl) (Steps.refl _) (a := a) (argsL := [(.ref src), (.int (0 : Int32)), (.int (0 : Int32)), .null]) (rest := []) (lenOf pd__28__5b_CIILjava_2f_lang_2f_Void_3b__29_V rfl) rfl (by show 2 * 0 + _ ≤ _; exact Nat.le_of_eq rfl) (hb hby d_jdk_42_method_3_6) (fun _ _ => ⟨rfl, e0, (Nat.le_of_ble_eq_true rfl), (Nat.le_of_ble_eq_true rfl)⟩)
  dsimp only [Pt.U, Pt.locs, Pt.cells, Pt.slots] at X102' hS102' hgr102 l102 y102 z102 st102 hQ102 A102
  subst l102 y102 z102
  obtain ⟨X102, hS102, hZ102, hown102⟩ := rebS hS0 (by rw [e0]; exact hk0) X102' hS102' hgr102 hZ0 hown0
  obtain ⟨t_103, kb_104, rfl, Nq102, K102, P102_0⟩ := hQ102
  have N102 := Fr.app N0 Nq102
  have R105 : CHr Z EL_1 s.vm h0 T102.vm T102.heap := R0.trans A102
  have hk102 : T102.heap.size ≤ T102.heap.size := Nat.le_refl _
  have W106 : ∀ zQ, SS p e below T102 m 9 #[.val (.ref a), .val (.ref src)] [] zQ → Steps p.tables e below (s₁.setTop (entryFrame m #[(.ref a), (.ref src)] 2)) zQ := by
    intro tt kt
    refine W0 tt ?_
    refine XS.aloadN X0.here hx rfl (hb hby d_jdk_42_method_3_0) rfl rfl ?_
    refine XS.aloadN X0.here hx rfl (hb hby d_jdk_42_method_3_1) rfl rfl ?_
    refine XS.iconst X0.here hx rfl (hb hby d_jdk_42_method_3_2) ?_
    refine XS.aloadN X0.here hx rfl (hb hby d_jdk_42_method_3_3) rfl rfl ?_
    show SS p e below s₁ m 4 #[.val (.ref a), .val (.ref src)] [(.ref src), (.int (0 : Int32)), (.ref src), (.ref a)] _
    refine X0.arraylength hx (by first | exact Ar101.1 | (rw [e0]; exact Ar101.1)) (State.isArrayOf_alike hZ0.alike Ar101.2.1) (g := (mkF m 4 #[.val (.ref a), .val (.ref src)] [(.ref src), (.int (0 : Int32)), (.ref src), (.ref a)])) rfl rfl (hb hby d_jdk_42_method_3_4) _ ?_
    rw [len_of S101 M101]
    refine XS.aconstNull X0.here hx rfl (hb hby d_jdk_42_method_3_5) ?_
    show SS p e below s₁ m 6 #[.val (.ref a), .val (.ref src)] [.null, (.int (0 : Int32)), (.int (0 : Int32)), (.ref src), (.ref a)] _
    refine st102.trans ?_
    exact kt
  obtain ⟨fs, hr, hrun, hended, hRW⟩ := Jvm.Stand.leaveW X102 hS102 hk102 (v := none) (fun _ => rfl) (BodyLoose.notSynchronized Bd)
  refine ⟨_, _, W106 _ (X102.returnOut hx Bd.returns (hb hby d_jdk_42_method_3_9) hr), hrun, hended, _, _, rfl, ?_, own_chr (T := T102) R105 (CHv.at X102 hZ102 hEL R105.1) hh.symm rfl, own_rw hRW (by decide) (by decide)⟩
  show Q_sinit0 Z a src kc h0 n0 _ T102.heap _
  exact ⟨t_103, kb_104, rfl, N102, (Keep.trans (Keep.refl h0 [a]) K102 (allS (Or.inl (List.mem_of_getElem? (i := 0) rfl)) all0)), P102_0⟩
def Q_sinitB (Z : State) (a : Addr) (t : Addr) (w : Int32) (h0 : Heap) (n0 : Nat) (vQ_ : Option Value) (hQ_ : Heap) (LQ_ : List Loc) : Prop := vQ_ = none ∧ Fr n0 LQ_ ∧ Keep h0 hQ_ [a] ∧ Exa Z hQ_ a "java/lang/String" ∧ Fld Z hQ_ a "java/lang/String" "value" "[B" (.ref t) ∧ Fld Z hQ_ a "java/lang/String" "coder" "B" (.int w)
set_option maxRecDepth 65536 in
set_option maxHeartbeats 40000000 in
theorem rm_sinitB (l : Launch) (Z : State) (a0 : Array Value) (hw : HW a0 Z) (ws : List Jvm.Cond) (a : Addr) (t : Addr) (w : Int32) (h0 : Heap) (n0 : Nat) (Z0 : n0 ≤ h0.size) (E1 : Exa Z h0 a "java/lang/String") (F1 : Fld Z h0 a "java/lang/String" "value" "[B" .null) (F2 : Fld Z h0 a "java/lang/String" "coder" "B" (.int (0 : Int32))) (hg : n0 ≤ a) (hw8 : nar .byte w = w) (hwf : fits .byte (.int w) = true) :
    MetFree l yn5 (head1 (Jvm.Cond.code yn5 jdk_42_method_151_code 3 none :: ws) ({ frames := 1, cells := 0, slots := 0, locals := 12 } : Room)) (fun aQ_ UQ => aQ_ = #[(.ref a), (.ref t), (.int w)] ∧ Z.Warmed39 UQ.vm ∧ UQ.heap = h0) (fun _ _ _ _ _ => True) (fun _ UQ oQ UQ' => ∃ vQ_ LQ_, oQ = .returned vQ_ ∧ Q_sinitB Z a t w h0 n0 vQ_ UQ'.heap LQ_ ∧ FrameEnd UQ oQ UQ' LQ_ ({ frames := 1, cells := 0, slots := 0, locals := 12 } : Room).cells ({ frames := 1, cells := 0, slots := 0, locals := 12 } : Room).slots) := by
  refine MetFree.of_bodySF (plainFor_of_name pn_java_lang_String) hisR ?_
  intro p e s m args below meth cO s₁ Bd hml0 hP hK
  obtain ⟨rfl, hZ, hh⟩ := hP
  have hx := Bd.exec
  have hby := Bd.bytes
  have hml : cO.maxLocals = 3 := hml0
  have hown : s.vm.findClass "java/lang/String" = some m.cls := findClass_of_methodNamed Bd.named
  have hnm := (name_of_methodNamed Bd.named Bd.method).1
  have X0 : Stand p l e ({ frames := 1, cells := 0, slots := 0, locals := 12 } : Room) s m #[(.ref a), (.ref t), (.int w)] below meth cO s₁ [] 0 0 := Stand.of_body Bd
  have e0 : s₁.heap = h0 := by rw [← hh, Bd.state]; rfl
  have N0 := Fr.nil n0
  have W0 : ∀ zQ, SS p e below s₁ m 0 #[.val (.ref a), .val (.ref t), .val (.int w)] [] zQ → Steps p.tables e below (s₁.setTop (entryFrame m #[(.ref a), (.ref t), (.int w)] 3)) zQ := fun tt kt => castTop (ef_sinitB m a t w) kt
  obtain ⟨T101, X101, e101, st101⟩ := initO X0 hx hZ hown (w17 hw) (w18 hw) (w19 hw) e0 (g := (mkF m 1 #[.val (.ref a), .val (.ref t), .val (.int w)] [(.ref a)])) rfl (by rw [hml]; rfl) rfl (hb hby d_jdk_42_method_151_1) (by decide) (W := 0) (by show 2 * 0 + _ ≤ _; exact Nat.le_of_eq rfl) (by decide)
  obtain ⟨T102, h102, X102, e102, Wr102, st102⟩ := putF X101 hx hZ hown (host := "") (Or.inl (w34 hw)) Via.refl e101 F1 E1 (Or.inr ⟨(w35 hw), rfl, hnm⟩) (w3 hw) (ty := (.array .byte)) (by decide) rfl rfl (g := (mkF m 6 #[.val (.ref a), .val (.ref t), .val (.int w)] [(.ref t), (.ref a)])) rfl rfl (hb hby d_jdk_42_method_151_6)
  have K102 := Keep.of_wr Wr102
  have G102 := F1.same Wr102
  have N102 := Fr.snoc X102 N0 hg
  have F103 : Exa Z h102 a "java/lang/String" := (E1.keep K102)
  have F104 : Fld Z h102 a "java/lang/String" "coder" "B" (.int (0 : Int32)) := (Fld.other Wr102 F2 (Or.inr (slot_ne (Or.inr (w33 hw)) (Or.inr (w35 hw)) (by decide) (t := .byte) (t' := (.array .byte)) (by decide) (by decide))))
  obtain ⟨T105, h105, X105, e105, Wr105, st105⟩ := putFN X102 hx hZ hown (w32 hw) Via.refl e102 F104 F103 (Or.inr ⟨(w33 hw), rfl, hnm⟩) (w3 hw) (ty := .byte) (v' := (.int w)) (by decide) (show narrow .byte (.int w) = .int w from congrArg Value.int hw8) hwf (g := (mkF m 11 #[.val (.ref a), .val (.ref t), .val (.int w)] [(.int w), (.ref a)])) rfl rfl (hb hby d_jdk_42_method_151_11)
  have K105 := Keep.of_wr Wr105
  have G105 := F104.same Wr105
  have N105 := Fr.snoc X105 N102 hg
  have W106 : ∀ zQ, SS p e below T105 m 14 #[.val (.ref a), .val (.ref t), .val (.int w)] [] zQ → Steps p.tables e below (s₁.setTop (entryFrame m #[(.ref a), (.ref t), (.int w)] 3)) zQ := by
    intro tt kt
    refine W0 tt ?_
    refine XS.aloadN X0.here hx rfl (hb hby d_jdk_42_method_151_0) rfl rfl ?_
    show SS p e below s₁ m 1 #[.val (.ref a), .val (.ref t), .val (.int w)] [(.ref a)] _
    refine st101 _ ?_
    refine XS.aloadN X101.here hx rfl (hb hby d_jdk_42_method_151_4) rfl rfl ?_
    refine XS.aloadN X101.here hx rfl (hb hby d_jdk_42_method_151_5) rfl rfl ?_
    show SS p e below T101 m 6 #[.val (.ref a), .val (.ref t), .val (.int w)] [(.ref t), (.ref a)] _
    refine st102 _ ?_
    refine XS.aloadN X102.here hx rfl (hb hby d_jdk_42_method_151_9) rfl rfl ?_
    refine XS.iloadN X102.here hx rfl (hb hby d_jdk_42_method_151_10) rfl ?_
    show SS p e below T102 m 11 #[.val (.ref a), .val (.ref t), .val (.int w)] [(.int w), (.ref a)] _
    refine st105 _ ?_
    exact kt
  have F107 : Exa Z h105 a "java/lang/String" := (F103.keep K105)
  have F108 : Fld Z h105 a "java/lang/String" "value" "[B" (.ref t) := (Fld.other Wr105 G102 (Or.inr (slot_ne (Or.inr (w35 hw)) (Or.inr (w33 hw)) (by decide) (t := (.array .byte)) (t' := .byte) (by decide) (by decide))))
  obtain ⟨fs, hr, hrun, hended, hW, hsame⟩ := X105.leave (v := none) (fun _ => rfl)
  refine ⟨_, _, W106 _ (X105.returnOut hx Bd.returns (hb hby d_jdk_42_method_151_14) hr), hrun, hended, _, _, rfl, ?_, ⟨_, rfl⟩, hW, hsame.mono (by decide) (by decide)⟩
  show Q_sinitB Z a t w h0 n0 _ T105.heap _
  rw [e105]
  exact ⟨rfl, N105, (Keep.trans (Keep.trans (Keep.refl h0 [a]) K102 (allS (Or.inl (List.mem_of_getElem? (i := 0) rfl)) all0)) K105 (allS (Or.inl (List.mem_of_getElem? (i := 0) rfl)) all0)), F107, F108, G105⟩
def Q_canEncode (Z : State) (c : Int32) (h0 : Heap) (n0 : Nat) (vQ_ : Option Value) (hQ_ : Heap) (LQ_ : List Loc) : Prop := vQ_ = some (.int (1 : Int32)) ∧ Fr n0 LQ_ ∧ hQ_ = h0
set_option maxRecDepth 65536 in
set_option maxHeartbeats 40000000 in
theorem rm_canEncode (l : Launch) (Z : State) (a0 : Array Value) (hw : HW a0 Z) (ws : List Jvm.Cond) (c : Int32) (h0 : Heap) (n0 : Nat) (Z0 : n0 ≤ h0.size) (hc1 : ¬ ((255 : Int32) < c)) :
    MetFree l yn6 (head1 (Jvm.Cond.code yn6 jdk_43_method_3_code 1 (some .boolean) :: ws) ({ frames := 0, cells := 0, slots := 0, locals := 0 } : Room)) (fun aQ_ UQ => aQ_ = #[(.int c)] ∧ Z.Warmed39 UQ.vm ∧ UQ.heap = h0) (fun _ _ _ _ _ => True) (fun _ UQ oQ UQ' => ∃ vQ_ LQ_, oQ = .returned vQ_ ∧ Q_canEncode Z c h0 n0 vQ_ UQ'.heap LQ_ ∧ FrameEnd UQ oQ UQ' LQ_ ({ frames := 0, cells := 0, slots := 0, locals := 0 } : Room).cells ({ frames := 0, cells := 0, slots := 0, locals := 0 } : Room).slots) := by
  refine MetFree.of_bodySF (plainFor_of_name pn_java_lang_StringLatin1) hisR ?_
  intro p e s m args below meth cO s₁ Bd hml0 hP hK
  obtain ⟨rfl, hZ, hh⟩ := hP
  have hx := Bd.exec
  have hby := Bd.bytes
  have hml : cO.maxLocals = 1 := hml0
  have hown : s.vm.findClass "java/lang/StringLatin1" = some m.cls := findClass_of_methodNamed Bd.named
  have hnm := (name_of_methodNamed Bd.named Bd.method).1
  have X0 : Stand p l e ({ frames := 0, cells := 0, slots := 0, locals := 0 } : Room) s m #[(.int c)] below meth cO s₁ [] 0 0 := Stand.of_body Bd
  have e0 : s₁.heap = h0 := by rw [← hh, Bd.state]; rfl
  have N0 := Fr.nil n0
  have W0 : ∀ zQ, SS p e below s₁ m 0 #[.val (.int c)] [] zQ → Steps p.tables e below (s₁.setTop (entryFrame m #[(.int c)] 1)) zQ := fun tt kt => castTop (ef_canEncode m c) kt
  have W101 : ∀ zQ, SS p e below s₁ m 12 #[.val (.int c)] [(.int (1 : Int32))] zQ → Steps p.tables e below (s₁.setTop (entryFrame m #[(.int c)] 1)) zQ := by
    intro tt kt
    refine W0 tt ?_
    refine XS.iloadN X0.here hx rfl (hb hby d_jdk_43_method_3_0) rfl ?_
    refine XS.sipush X0.here hx rfl (hb hby d_jdk_43_method_3_1) ?_
    refine XS.icmpNo X0.here hx rfl (hb hby d_jdk_43_method_3_4) rfl (flt hc1).2.2.1 ?_
    refine XS.iconst X0.here hx rfl (hb hby d_jdk_43_method_3_7) ?_
    refine XS.goto X0.here hx rfl (pc0 := 8) (pc' := 12) rfl (hb hby d_jdk_43_method_3_8) (by decide) (by decide) ?_
    exact kt
  obtain ⟨fs, hr, hrun, hended, hW, hsame⟩ := X0.leave (v := some (.int (nar .boolean (1 : Int32)))) (fun h => by rw [Bd.returns] at h; cases h)
  refine ⟨_, _, W101 _ (retN X0 hx (t := .boolean) Bd.returns (by simp) (hb hby d_jdk_43_method_3_12) hr), hrun, hended, _, _, rfl, ?_, ⟨_, rfl⟩, hW, hsame.mono (by decide) (by decide)⟩
  show Q_canEncode Z c h0 n0 _ s₁.heap _
  rw [e0]
  exact ⟨rfl, N0, rfl⟩
def Q_toBytesC (Z : State) (c : Int32) (h0 : Heap) (n0 : Nat) (vQ_ : Option Value) (hQ_ : Heap) (LQ_ : List Loc) : Prop := ∃ r : Addr, ∃ kr : ClassId, vQ_ = some (.ref r) ∧ Fr n0 LQ_ ∧ Keep h0 hQ_ [] ∧ h0.size ≤ r ∧ Arv Z hQ_ r kr .byte (Int32.ofNat 1) (l1 [c]) (.int (0 : Int32))
set_option maxRecDepth 65536 in
set_option maxHeartbeats 40000000 in
theorem rm_toBytesC (l : Launch) (Z : State) (a0 : Array Value) (hw : HW a0 Z) (ws : List Jvm.Cond) (c : Int32) (h0 : Heap) (n0 : Nat) (Z0 : n0 ≤ h0.size)  :
    MetFree l yn7 (head1 (Jvm.Cond.code yn7 jdk_43_method_46_code 1 (some (.array .byte)) :: ws) ({ frames := 0, cells := 1, slots := 1, locals := 0 } : Room)) (fun aQ_ UQ => aQ_ = #[(.int c)] ∧ Z.Warmed39 UQ.vm ∧ UQ.heap = h0) (fun _ _ _ _ _ => True) (fun _ UQ oQ UQ' => ∃ vQ_ LQ_, oQ = .returned vQ_ ∧ Q_toBytesC Z c h0 n0 vQ_ UQ'.heap LQ_ ∧ FrameEnd UQ oQ UQ' LQ_ ({ frames := 0, cells := 1, slots := 1, locals := 0 } : Room).cells ({ frames := 0, cells := 1, slots := 1, locals := 0 } : Room).slots) := by
  refine MetFree.of_bodySF (plainFor_of_name pn_java_lang_StringLatin1) hisR ?_
  intro p e s m args below meth cO s₁ Bd hml0 hP hK
  obtain ⟨rfl, hZ, hh⟩ := hP
  have hx := Bd.exec
  have hby := Bd.bytes
  have hml : cO.maxLocals = 1 := hml0
  have hown : s.vm.findClass "java/lang/StringLatin1" = some m.cls := findClass_of_methodNamed Bd.named
  have hnm := (name_of_methodNamed Bd.named Bd.method).1
  have X0 : Stand p l e ({ frames := 0, cells := 1, slots := 1, locals := 0 } : Room) s m #[(.int c)] below meth cO s₁ [] 0 0 := Stand.of_body Bd
  have e0 : s₁.heap = h0 := by rw [← hh, Bd.state]; rfl
  have N0 := Fr.nil n0
  have W0 : ∀ zQ, SS p e below s₁ m 0 #[.val (.int c)] [] zQ → Steps p.tables e below (s₁.setTop (entryFrame m #[(.int c)] 1)) zQ := fun tt kt => castTop (ef_toBytesC m c) kt
  obtain ⟨T101, h101, k101, X101, e101, E101, A101, st101⟩ := newP X0 hx hZ (aty := .byte) (w25 hw) e0 (g := (mkF m 1 #[.val (.int c)] [(.int (1 : Int32))])) rfl (hb hby d_jdk_43_method_46_1) (n := (1 : Int32)) rfl (by decide) (cap := 1) (by decide) (by decide) (by decide) (by decide)
  obtain ⟨b101, g101⟩ : ∃ z, z = h0.size := ⟨_, rfl⟩
  rw [← g101] at A101 st101
  have K101 := (Keep.refl h0 []).ext E101
  have G101 : Arv Z h101 b101 k101 .byte (1 : Int32) [(.int (0 : Int32))] (.int (0 : Int32)) := (Arv.new A101 (by decide)).pad (pad_rep [] (.int (0 : Int32)) 1)
  obtain ⟨cl102, Ar102, q102, S102, M102, H102, F102g⟩ := id G101
  have hin102 : ¬ ((0 : Int32) < 0 ∨ cl102.slots.size ≤ ((0 : Int32)).toNatClampNeg) := inb_of S102 ⟨by decide, by decide⟩
  obtain ⟨T102, h102, X102, e102, Wr102, st102⟩ := stB X101 hx hZ e101 Ar102 (j := (0 : Int32)) hin102 (g := (mkF m 7 #[.val (.int c)] [(.int (c.toInt8.toInt32)), (.int (0 : Int32)), (.ref b101), (.ref b101)])) rfl rfl (hb hby d_jdk_43_method_46_7)
  have G102 : Arv Z h102 b101 k101 .byte (1 : Int32) [(.int (nar .byte (c.toInt8.toInt32)))] (.int (0 : Int32)) := Arv.set Ar102 q102 S102 M102 H102 F102g (fits_nar_byte _) Wr102 0 rfl (Nat.le_of_ble_eq_true rfl)
  have K102 := Keep.of_wr Wr102
  have N102 := Fr.snoc X102 N0 (Nat.le_trans Z0 (Nat.le_of_eq g101.symm))
  have J102 : Arv Z h102 b101 k101 .byte (1 : Int32) (l1 [c]) (.int (0 : Int32)) := by rw [own_narb] at G102; exact G102
  have W103 : ∀ zQ, SS p e below T102 m 8 #[.val (.int c)] [(.ref b101)] zQ → Steps p.tables e below (s₁.setTop (entryFrame m #[(.int c)] 1)) zQ := by
    intro tt kt
    refine W0 tt ?_
    refine XS.iconst X0.here hx rfl (hb hby d_jdk_43_method_46_0) ?_
    show SS p e below s₁ m 1 #[.val (.int c)] [(.int (1 : Int32))] _
    refine st101 _ ?_
    refine XS.dup X101.here hx rfl (hb hby d_jdk_43_method_46_3) rfl rfl ?_
    refine XS.iconst X101.here hx rfl (hb hby d_jdk_43_method_46_4) ?_
    refine XS.iloadN X101.here hx rfl (hb hby d_jdk_43_method_46_5) rfl ?_
    refine XS.i2b X101.here hx rfl (hb hby d_jdk_43_method_46_6) rfl ?_
    show SS p e below T101 m 7 #[.val (.int c)] [(.int (c.toInt8.toInt32)), (.int (0 : Int32)), (.ref b101), (.ref b101)] _
    refine st102 _ ?_
    exact kt
  obtain ⟨fs, hr, hrun, hended, hW, hsame⟩ := X102.leave (v := some (.ref b101)) (fun h => by rw [Bd.returns] at h; cases h)
  refine ⟨_, _, W103 _ (own_retR X102 hx Bd.returns rfl rfl (hb hby d_jdk_43_method_46_8) hr), hrun, hended, _, _, rfl, ?_, ⟨_, rfl⟩, hW, hsame.mono (by decide) (by decide)⟩
  show Q_toBytesC Z c h0 n0 _ T102.heap _
  rw [e102]
  exact ⟨b101, k101, rfl, N102, (Keep.trans (Keep.trans (Keep.refl h0 []) K101 all0) K102 (allS (Or.inr (Nat.le_of_eq g101.symm)) all0)), (Nat.le_of_eq g101.symm), J102⟩
theorem own_mk1 {Z : State} {h : Heap} {a t : Addr} {kb : ClassId} {c : Int32} (h0 : ¬ (c < (0 : Int32))) (h1 : ¬ ((255 : Int32) < c)) (E : Exa Z h a "java/lang/String") (V : Fld Z h a "java/lang/String" "value" "[B" (.ref t)) (C : Fld Z h a "java/lang/String" "coder" "B" (.int (0 : Int32))) (A : Arv Z h t kb .byte (Int32.ofNat 1) (l1 [c]) (.int (0 : Int32))) : Str Z h a t kb [c] := by
  have hl : lat [c] = true := by simpa [lat] using h1
  have q := enc_lat hl
  refine ⟨E, V, by rw [q.2.2]; exact C, by rw [q.1, q.2.1]; exact A, fun x hx => ?_, by simp⟩
  rw [List.mem_singleton] at hx; subst hx
  refine ⟨h0, ?_⟩
  have z : (255 : Int32).toInt = 255 := rfl; have y : (65535 : Int32).toInt = 65535 := rfl
  rw [Int32.lt_iff_toInt_lt] at *; omega
def Q_valueOfC (Z : State) (c : Int32) (cS : Int32) (h0 : Heap) (n0 : Nat) (vQ_ : Option Value) (hQ_ : Heap) (LQ_ : List Loc) : Prop := ∃ r : Addr, ∃ t : Addr, ∃ kb : ClassId, vQ_ = some (.ref r) ∧ Fr n0 LQ_ ∧ Keep h0 hQ_ [] ∧ h0.size ≤ r ∧ h0.size ≤ t ∧ Str Z hQ_ r t kb [c]
set_option maxRecDepth 65536 in
set_option maxHeartbeats 40000000 in
theorem rm_valueOfC (l : Launch) (Z : State) (a0 : Array Value) (hw : HW a0 Z) (ws : List Jvm.Cond) (c : Int32) (cS : Int32) (h0 : Heap) (n0 : Nat) (Z0 : n0 ≤ h0.size) (O0 : Old Z n0 h0) (S_cs : Sta Z Z.heap "java/lang/String" "COMPACT_STRINGS" "Z" (.int cS)) (hcS : ¬ (cS = (0 : Int32))) (hc0 : ¬ (c < (0 : Int32))) (hc1 : ¬ ((255 : Int32) < c)) :
    MetFree l yn8 (head1 (Jvm.Cond.code yn8 jdk_42_method_139_code 1 (some (.object "java/lang/String")) :: ws) ({ frames := 2, cells := 2, slots := 5, locals := 27 } : Room)) (fun aQ_ UQ => aQ_ = #[(.int c)] ∧ Z.Warmed39 UQ.vm ∧ UQ.heap = h0) (fun _ _ _ _ _ => True) (fun _ UQ oQ UQ' => ∃ vQ_ LQ_, oQ = .returned vQ_ ∧ Q_valueOfC Z c cS h0 n0 vQ_ UQ'.heap LQ_ ∧ FrameEnd UQ oQ UQ' LQ_ ({ frames := 2, cells := 2, slots := 5, locals := 27 } : Room).cells ({ frames := 2, cells := 2, slots := 5, locals := 27 } : Room).slots) := by
  refine MetFree.of_bodySF (plainFor_of_name pn_java_lang_String) hisR ?_
  intro p e s m args below meth cO s₁ Bd hml0 hP hK
  obtain ⟨rfl, hZ, hh⟩ := hP
  have hx := Bd.exec
  have hby := Bd.bytes
  have hml : cO.maxLocals = 1 := hml0
  have hown : s.vm.findClass "java/lang/String" = some m.cls := findClass_of_methodNamed Bd.named
  have hnm := (name_of_methodNamed Bd.named Bd.method).1
  have X0 : Stand p l e ({ frames := 2, cells := 2, slots := 5, locals := 27 } : Room) s m #[(.int c)] below meth cO s₁ [] 0 0 := Stand.of_body Bd
  have e0 : s₁.heap = h0 := by rw [← hh, Bd.state]; rfl
  have N0 := Fr.nil n0
  have W0 : ∀ zQ, SS p e below s₁ m 0 #[.val (.int c)] [] zQ → Steps p.tables e below (s₁.setTop (entryFrame m #[(.int c)] 1)) zQ := fun tt kt => castTop (ef_valueOfC m c) kt
  have F102 : Sta Z h0 "java/lang/String" "COMPACT_STRINGS" "Z" (.int cS) := S_cs.ext O0.2
  obtain ⟨T101, X101, e101, st101⟩ := getS2 X0 hx hZ hown (host := "") (Or.inl (w20 hw)) Via.refl e0 F102 (g := (mkF m 0 #[.val (.int c)] [])) rfl (hb hby d_jdk_42_method_139_0)
  obtain ⟨_, _, ⟨T103, L103, k103, n103⟩, -, X103, ⟨Lc103, hQ103, l103, y103, z103⟩, st103⟩ := Jvm.LawKit.callS X101 hx (y := yn6) hown (mvT hZ (w119 hw)) (mvT hZ (w120 hw)) (mvT hZ (w68 hw)) (mvT hZ (w121 hw)) (by decide) (backOf (W := 0) (rm_canEncode l Z a0 hw [] c h0 n0 Z0 hc1) hZ (w121 hw) (w68 hw) (by decide) (by decide)) (g := (mkF m 7 #[.val (.int c)] [(.int c)])) rfl (by rw [hml]; rfl) (argsL := [(.int c)]) (rest := []) (lenOf pd__28_C_29_Z rfl) rfl (by show 2 * 0 + _ ≤ _; exact Nat.le_of_eq rfl) (hb hby d_jdk_42_method_139_7) (fun _ _ => ⟨rfl, e101, (Nat.le_of_ble_eq_true rfl), (Nat.le_of_ble_eq_true rfl)⟩)
  dsimp only [Pt.U, Pt.locs, Pt.cells, Pt.slots] at X103 l103 y103 z103 st103 hQ103
  subst l103 y103 z103
  obtain ⟨rfl, Nq103, eq103⟩ := hQ103
  have N103 := Fr.app N0 Nq103
  obtain ⟨T104, h104, X104, e104, E104, A104, D104, U104, st104⟩ := newO X103 hx hZ hown (w65 hw) (w3 hw) (w4 hw) eq103 (g := (mkF m 13 #[.val (.int c)] [])) rfl (hb hby d_jdk_42_method_139_13) (by decide) (by decide)
  obtain ⟨b104, g104⟩ : ∃ z, z = h0.size := ⟨_, rfl⟩
  rw [← g104] at A104 D104 U104 st104
  have K104 := (Keep.refl h0 []).ext E104
  have G104_coder : Fld Z h104 b104 "java/lang/String" "coder" "B" (.int (0 : Int32)) := D104 (Or.inr (w33 hw)) (ty := .byte) (by decide)
  have G104_value : Fld Z h104 b104 "java/lang/String" "value" "[B" .null := D104 (Or.inr (w35 hw)) (ty := (.array .byte)) (by decide)
  obtain ⟨_, _, ⟨T105, L105, k105, n105⟩, -, X105, ⟨Lc105, hQ105, l105, y105, z105⟩, st105⟩ := Jvm.LawKit.callS X104 hx (y := yn7) hown (mvT hZ (w122 hw)) (mvT hZ (w123 hw)) (mvT hZ (w68 hw)) (mvT hZ (w124 hw)) (by decide) (backOf (W := 2) (rm_toBytesC l Z a0 hw [] c h104 n0 (Nat.le_trans Z0 K104.1) ) hZ (w124 hw) (w68 hw) (by decide) (by decide)) (g := (mkF m 18 #[.val (.int c)] [(.int c), (.ref b104), (.ref b104)])) rfl (by rw [hml]; rfl) (argsL := [(.int c)]) (rest := [(.ref b104), (.ref b104)]) (lenOf pd__28_C_29__5b_B rfl) rfl (by show 2 * 0 + _ ≤ _; exact Nat.le_of_eq rfl) (hb hby d_jdk_42_method_139_18) (fun _ _ => ⟨rfl, e104, (Nat.le_of_ble_eq_true rfl), (Nat.le_of_ble_eq_true rfl)⟩)
  dsimp only [Pt.U, Pt.locs, Pt.cells, Pt.slots] at X105 l105 y105 z105 st105 hQ105
  subst l105 y105 z105
  obtain ⟨r_106, kr_107, rfl, Nq105, K105, P105_0, P105_1⟩ := hQ105
  have N105 := Fr.app N103 Nq105
  have F108 : Exa Z T105.heap b104 "java/lang/String" := (A104.keep K105)
  have F109 : Fld Z T105.heap b104 "java/lang/String" "value" "[B" .null := (G104_value.keep K105 nin0)
  have F110 : Fld Z T105.heap b104 "java/lang/String" "coder" "B" (.int (0 : Int32)) := (G104_coder.keep K105 nin0)
  obtain ⟨_, _, ⟨T111, L111, k111, n111⟩, -, X111, ⟨Lc111, hQ111, l111, y111, z111⟩, st111⟩ := X105.specialBack hx (y := yn5) rfl hown (mvT hZ (w125 hw)) (mvT hZ (w126 hw)) (mvT hZ (w127 hw)) (by decide) (backOf (W := 1) (rm_sinitB l Z a0 hw [] b104 r_106 (0 : Int32) T105.heap n0 (Nat.le_trans Z0 (Nat.le_trans K104.1 K105.1)) F108 F109 F110 (Nat.le_trans Z0 (Nat.le_of_eq g104.symm)) (by decide) (by decide)) hZ (w127 hw) (w4 hw) (by decide) (by decide)) (g := (mkF m 22 #[.val (.int c)] [(.int (0 : Int32)), (.ref r_106), (.ref b104), (.ref b104)])) rfl (by rw [hml]; rfl) (Steps.refl _) (a := b104) (argsL := [(.ref r_106), (.int (0 : Int32))]) (rest := [(.ref b104)]) (lenOf pd__28__5b_BB_29_V rfl) rfl (by show 2 * 0 + _ ≤ _; exact Nat.le_of_eq rfl) (hb hby d_jdk_42_method_139_22) (fun _ _ => ⟨rfl, rfl, (Nat.le_of_ble_eq_true rfl), (Nat.le_of_ble_eq_true rfl)⟩)
  dsimp only [Pt.U, Pt.locs, Pt.cells, Pt.slots] at X111 l111 y111 z111 st111 hQ111
  subst l111 y111 z111
  obtain ⟨rfl, Nq111, K111, P111_0, P111_1, P111_2⟩ := hQ111
  have N111 := Fr.app N105 Nq111
  have W112 : ∀ zQ, SS p e below T111 m 25 #[.val (.int c)] [(.ref b104)] zQ → Steps p.tables e below (s₁.setTop (entryFrame m #[(.int c)] 1)) zQ := by
    intro tt kt
    refine W0 tt ?_
    refine st101 _ ?_
    refine XS.ifNo X101.here hx rfl (hb hby d_jdk_42_method_139_3) rfl ((if0 _ _).trans (feq hcS).1) ?_
    refine XS.iloadN X101.here hx rfl (hb hby d_jdk_42_method_139_6) rfl ?_
    show SS p e below T101 m 7 #[.val (.int c)] [(.int c)] _
    refine st103 _ ?_
    refine XS.ifNo X103.here hx rfl (hb hby d_jdk_42_method_139_10) rfl ((if0 _ _).trans (feq (by decide)).1) ?_
    show SS p e below T103 m 13 #[.val (.int c)] [] _
    refine st104 _ ?_
    refine XS.dup X104.here hx rfl (hb hby d_jdk_42_method_139_16) rfl rfl ?_
    refine XS.iloadN X104.here hx rfl (hb hby d_jdk_42_method_139_17) rfl ?_
    show SS p e below T104 m 18 #[.val (.int c)] [(.int c), (.ref b104), (.ref b104)] _
    refine st105 _ ?_
    refine XS.iconst X105.here hx rfl (hb hby d_jdk_42_method_139_21) ?_
    show SS p e below T105 m 22 #[.val (.int c)] [(.int (0 : Int32)), (.ref r_106), (.ref b104), (.ref b104)] _
    refine st111.trans ?_
    exact kt
  have F113 : Arv Z T111.heap r_106 kr_107 .byte (Int32.ofNat 1) (l1 [c]) (.int (0 : Int32)) := (P105_1.keep K111 (ninS (Ne.symm (Nat.ne_of_lt (Nat.lt_of_lt_of_le A104.lt P105_0))) nin0))
  have hR114 : Str Z T111.heap b104 r_106 kr_107 [c] := own_mk1 hc0 hc1 P111_0 P111_1 P111_2 F113
  obtain ⟨fs, hr, hrun, hended, hW, hsame⟩ := X111.leave (v := some (.ref b104)) (fun h => by rw [Bd.returns] at h; cases h)
  refine ⟨_, _, W112 _ (own_retR X111 hx Bd.returns rfl rfl (hb hby d_jdk_42_method_139_25) hr), hrun, hended, _, _, rfl, ?_, ⟨_, rfl⟩, hW, hsame.mono (by decide) (by decide)⟩
  show Q_valueOfC Z c cS h0 n0 _ T111.heap _
  exact ⟨b104, r_106, kr_107, rfl, N111, (Keep.trans (Keep.trans (Keep.trans (Keep.refl h0 []) K104 all0) K105 all0) K111 (allS (Or.inr (Nat.le_of_eq g104.symm)) all0)), (Nat.le_of_eq g104.symm), (Nat.le_trans K104.1 P105_0), hR114⟩
set_option maxRecDepth 65536 in
set_option maxHeartbeats 40000000 in
theorem lp_l1eq {p : Program} {l : Launch} {e : Env} {R : Room} {s : State} {m : MethodId} {args : Array Value} {below : List Frame} {meth : Method} {cO : Code} {cells slots : Nat} {Z : State} {a0 : Array Value} (hx : p.tables.exec = Jvm.exec) (hZ : Z.Warmed39 s.vm) (hw : HW a0 Z) (hby : cO.code = jdk_43_method_13_code) (hml : cO.maxLocals = 3) (hown : s.vm.findClass "java/lang/StringLatin1" = some m.cls) (hRf : 0 ≤ R.frames) (hRl : 0 ≤ R.locals) (hRc : cells ≤ R.cells) (hRs : slots ≤ R.slots) (hret : meth.sig.returnType = some .boolean) (t1 : Addr) (t2 : Addr) (k1 : ClassId) (k2 : ClassId) (cs1 : List Int32) (cs2 : List Int32) (n0 : Nat) (ok1 : OkS cs1) (ok2 : OkS cs2) (hl1 : lat cs1 = true) (hl2 : lat cs2 = true) :
    ∀ suf : List Int32, ∀ (pre : List Int32) (suf2 : List Int32) (T0 : State) (L0 : List Loc) (h0 : Heap) (X0 : Stand p l e R s m args below meth cO T0 L0 cells slots) (e0 : T0.heap = h0) (N0 : Fr n0 L0) (Z0 : n0 ≤ h0.size) (V1 : Arv Z h0 t1 k1 .byte (Int32.ofNat cs1.length) (l1 cs1) (.int (0 : Int32))) (V2 : Arv Z h0 t2 k2 .byte (Int32.ofNat cs2.length) (l1 cs2) (.int (0 : Int32))) (hk2 : cs2 = pre ++ suf2) (hlen : suf.length = suf2.length) (hk : cs1 = pre ++ suf), ∃ (T' : State) (L' : List Loc) (h' : Heap), Stand p l e R s m args below meth cO T' L' cells slots ∧ T'.heap = h' ∧ Fr n0 L' ∧ h' = h0 ∧ ∀ fs, (∀ (f : JFrame) (acts : List Action), f.method = m → f.locked = none → f.entered = [] → (doReturn e (T'.setTop f) acts (some (.int (if cs1 = cs2 then (1 : Int32) else (0 : Int32))))).1 = T'.setFrames fs) → SS p e below T0 m 9 #[.val (.ref t1), .val (.ref t2), .val (.int (Int32.ofNat pre.length))] [] (T'.setFrames fs) := by
  intro suf
  induction suf with
  | nil =>
    intro pre suf2 T0 L0 h0 X0 e0 N0 Z0 V1 V2 hk2 hlen hk
    have W0 : ∀ zQ, SS p e below T0 m 9 #[.val (.ref t1), .val (.ref t2), .val (.int (Int32.ofNat pre.length))] [] zQ → Steps p.tables e below (T0.setTop (mkF m 9 #[.val (.ref t1), .val (.ref t2), .val (.int (Int32.ofNat pre.length))] [])) zQ := fun tt kt => kt
    have hn : cs1.length < 1048576 := ok1.2
    have e2 : suf2 = [] := List.length_eq_zero_iff.mp hlen.symm
    have heq : cs1 = cs2 := by rw [hk, hk2, e2]
    have hl0 : cs1.length = pre.length := by rw [hk]; simp
    obtain ⟨cl101, Ar101, -, S101, M101, -, -⟩ := id V1
    have W102 : ∀ zQ, SS p e below T0 m 33 #[.val (.ref t1), .val (.ref t2), .val (.int (Int32.ofNat pre.length))] [(.int (1 : Int32))] zQ → Steps p.tables e below (T0.setTop (mkF m 9 #[.val (.ref t1), .val (.ref t2), .val (.int (Int32.ofNat pre.length))] [])) zQ := by
      intro tt kt
      refine W0 tt ?_
      refine XS.iloadN X0.here hx rfl (hb hby d_jdk_43_method_13_9) rfl ?_
      refine XS.aloadN X0.here hx rfl (hb hby d_jdk_43_method_13_10) rfl rfl ?_
      show SS p e below T0 m 11 #[.val (.ref t1), .val (.ref t2), .val (.int (Int32.ofNat pre.length))] [(.ref t1), (.int (Int32.ofNat pre.length))] _
      refine X0.arraylength hx (by first | exact Ar101.1 | (rw [e0]; exact Ar101.1)) (State.isArrayOf_alike hZ.alike Ar101.2.1) (g := (mkF m 11 #[.val (.ref t1), .val (.ref t2), .val (.int (Int32.ofNat pre.length))] [(.ref t1), (.int (Int32.ofNat pre.length))])) rfl rfl (hb hby d_jdk_43_method_13_11) _ ?_
      rw [len_of S101 M101]
      refine XS.icmpYes X0.here hx rfl (pc0 := 12) (pc' := 32) rfl (hb hby d_jdk_43_method_13_12) rfl (flt (own_nlt (by omega) (by omega))).2.1 (by decide) (by decide) ?_
      refine XS.iconst X0.here hx rfl (hb hby d_jdk_43_method_13_32) ?_
      exact kt
    exact ⟨T0, _, h0, X0, e0, N0, rfl, fun fs hr => W102 _ (retN X0 hx (t := .boolean) hret (by simp) (hb hby d_jdk_43_method_13_33) (by rw [show (Value.int (nar .boolean (1 : Int32))) = (Value.int (if cs1 = cs2 then (1 : Int32) else (0 : Int32))) from (by rw [if_pos heq]; first | done | rfl)]; exact hr))⟩
  | cons cc r ih =>
    intro pre suf2 T0 L0 h0 X0 e0 N0 Z0 V1 V2 hk2 hlen hk
    have W0 : ∀ zQ, SS p e below T0 m 9 #[.val (.ref t1), .val (.ref t2), .val (.int (Int32.ofNat pre.length))] [] zQ → Steps p.tables e below (T0.setTop (mkF m 9 #[.val (.ref t1), .val (.ref t2), .val (.int (Int32.ofNat pre.length))] [])) zQ := fun tt kt => kt
    have hn : cs1.length < 1048576 := ok1.2
    have hn2 : cs2.length < 1048576 := ok2.2
    obtain ⟨dd, r2, rfl⟩ : ∃ dd r2, suf2 = dd :: r2 := by cases suf2 with | nil => simp at hlen | cons x y => exact ⟨x, y, rfl⟩
    have hlt : pre.length < cs1.length := by rw [hk]; simp
    have hlt2 : pre.length < cs2.length := by rw [hk2]; simp
    have hc1 : cs1.getD pre.length 0 = cc := by rw [hk]; exact app_at pre r cc 0
    have hc2 : cs2.getD pre.length 0 = dd := by rw [hk2]; exact app_at pre r2 dd 0
    obtain ⟨cl103, Ar103, -, S103, M103, -, -⟩ := id V1
    obtain ⟨cl104, Ar104, q104, S104, M104, H104, F104g⟩ := id V1
    have hin104 : ¬ ((Int32.ofNat pre.length) < 0 ∨ cl104.slots.size ≤ ((Int32.ofNat pre.length)).toNatClampNeg) := inb_of S104 ⟨own_nneg (by omega), own_lt hlt (by omega)⟩
    have hat104 : cl104.slots[((Int32.ofNat pre.length)).toNatClampNeg]? = some (.int (cc.toInt8.toInt32)) := Has.at H104 hin104 (by rw [own_cl (by omega), l1_at cs1 _ _ hlt, hc1])
    obtain ⟨cl105, Ar105, q105, S105, M105, H105, F105g⟩ := id V2
    have hin105 : ¬ ((Int32.ofNat pre.length) < 0 ∨ cl105.slots.size ≤ ((Int32.ofNat pre.length)).toNatClampNeg) := inb_of S105 ⟨own_nneg (by omega), own_lt hlt2 (by omega)⟩
    have hat105 : cl105.slots[((Int32.ofNat pre.length)).toNatClampNeg]? = some (.int (dd.toInt8.toInt32)) := Has.at H105 hin105 (by rw [own_cl (by omega), l1_at cs2 _ _ hlt2, hc2])
    have W106 : ∀ zQ, SS p e below T0 m 21 #[.val (.ref t1), .val (.ref t2), .val (.int (Int32.ofNat pre.length))] [(.int (dd.toInt8.toInt32)), (.int (cc.toInt8.toInt32))] zQ → Steps p.tables e below (T0.setTop (mkF m 9 #[.val (.ref t1), .val (.ref t2), .val (.int (Int32.ofNat pre.length))] [])) zQ := by
      intro tt kt
      refine W0 tt ?_
      refine XS.iloadN X0.here hx rfl (hb hby d_jdk_43_method_13_9) rfl ?_
      refine XS.aloadN X0.here hx rfl (hb hby d_jdk_43_method_13_10) rfl rfl ?_
      show SS p e below T0 m 11 #[.val (.ref t1), .val (.ref t2), .val (.int (Int32.ofNat pre.length))] [(.ref t1), (.int (Int32.ofNat pre.length))] _
      refine X0.arraylength hx (by first | exact Ar103.1 | (rw [e0]; exact Ar103.1)) (State.isArrayOf_alike hZ.alike Ar103.2.1) (g := (mkF m 11 #[.val (.ref t1), .val (.ref t2), .val (.int (Int32.ofNat pre.length))] [(.ref t1), (.int (Int32.ofNat pre.length))])) rfl rfl (hb hby d_jdk_43_method_13_11) _ ?_
      rw [len_of S103 M103]
      refine XS.icmpNo X0.here hx rfl (hb hby d_jdk_43_method_13_12) rfl (tlt (own_lt hlt (by omega))).2.1 ?_
      refine XS.aloadN X0.here hx rfl (hb hby d_jdk_43_method_13_15) rfl rfl ?_
      refine XS.iloadN X0.here hx rfl (hb hby d_jdk_43_method_13_16) rfl ?_
      show SS p e below T0 m 17 #[.val (.ref t1), .val (.ref t2), .val (.int (Int32.ofNat pre.length))] [(.int (Int32.ofNat pre.length)), (.ref t1)] _
      refine X0.baloadBytes hx (j := (Int32.ofNat pre.length)) (v := (.int (cc.toInt8.toInt32))) (by first | exact Ar104.1 | (rw [e0]; exact Ar104.1)) (State.isArrayOf_alike hZ.alike Ar104.2.1) Ar104.2.2 hin104 hat104 (g := (mkF m 17 #[.val (.ref t1), .val (.ref t2), .val (.int (Int32.ofNat pre.length))] [(.int (Int32.ofNat pre.length)), (.ref t1)])) rfl rfl (hb hby d_jdk_43_method_13_17) _ ?_
      refine XS.aloadN X0.here hx rfl (hb hby d_jdk_43_method_13_18) rfl rfl ?_
      refine XS.iloadN X0.here hx rfl (hb hby d_jdk_43_method_13_19) rfl ?_
      show SS p e below T0 m 20 #[.val (.ref t1), .val (.ref t2), .val (.int (Int32.ofNat pre.length))] [(.int (Int32.ofNat pre.length)), (.ref t2), (.int (cc.toInt8.toInt32))] _
      refine X0.baloadBytes hx (j := (Int32.ofNat pre.length)) (v := (.int (dd.toInt8.toInt32))) (by first | exact Ar105.1 | (rw [e0]; exact Ar105.1)) (State.isArrayOf_alike hZ.alike Ar105.2.1) Ar105.2.2 hin105 hat105 (g := (mkF m 20 #[.val (.ref t1), .val (.ref t2), .val (.int (Int32.ofNat pre.length))] [(.int (Int32.ofNat pre.length)), (.ref t2), (.int (cc.toInt8.toInt32))])) rfl rfl (hb hby d_jdk_43_method_13_20) _ ?_
      exact kt
    by_cases hc107 : (cc.toInt8.toInt32) = (dd.toInt8.toInt32)
    ·
      have hcd : cc = dd := by have x := own_l1c (ok1.at hlt).1 (lat_at hl1 hlt); have y := own_l1c (ok2.at hlt2).1 (lat_at hl2 hlt2); rw [hc1] at x; rw [hc2] at y; rw [hc107] at x; exact x.symm.trans y
      have W108 : ∀ zQ, SS p e below T0 m 9 #[.val (.ref t1), .val (.ref t2), .val (.int (Int32.ofNat (pre ++ [cc]).length))] [] zQ → Steps p.tables e below (T0.setTop (mkF m 9 #[.val (.ref t1), .val (.ref t2), .val (.int (Int32.ofNat pre.length))] [])) zQ := by
        intro tt kt
        refine W106 tt ?_
        refine XS.icmpYes X0.here hx rfl (pc0 := 21) (pc' := 26) rfl (hb hby d_jdk_43_method_13_21) rfl (teq hc107).1 (by decide) (by decide) ?_
        show SS p e below T0 m 26 #[.val (.ref t1), .val (.ref t2), .val (.int (Int32.ofNat pre.length))] [] _
        refine XS.iinc X0.here hx rfl (hb hby d_jdk_43_method_13_26) rfl (l' := #[.val (.ref t1), .val (.ref t2), .val (.int ((Int32.ofNat pre.length) + (1 : Int32)))]) rfl ?_
        show SS p e below T0 m 29 #[.val (.ref t1), .val (.ref t2), .val (.int ((Int32.ofNat pre.length) + (1 : Int32)))] [] _
        rw [show ((Int32.ofNat pre.length) + (1 : Int32)) = (Int32.ofNat (pre ++ [cc]).length) from (by rw [own_succ]; simp)]
        refine XS.goto X0.here hx rfl (pc0 := 29) (pc' := 9) rfl (hb hby d_jdk_43_method_13_29) (by decide) (by decide) ?_
        exact kt
      obtain ⟨T109, L109, h109, X109, e109, N109, K109, st109⟩ := ih (pre ++ [cc]) r2 T0 _ h0 X0 e0 N0 Z0 V1 V2 (by rw [hk2, hcd]; simp) (by simpa using hlen) (by rw [hk]; simp)
      exact ⟨T109, L109, h109, X109, e109, N109, K109, fun tt kt => W108 _ (st109 _ kt)⟩
    ·
      have hne : ¬ cs1 = cs2 := fun q => hc107 (by rw [← hc1, ← hc2, q])
      have W110 : ∀ zQ, SS p e below T0 m 25 #[.val (.ref t1), .val (.ref t2), .val (.int (Int32.ofNat pre.length))] [(.int (0 : Int32))] zQ → Steps p.tables e below (T0.setTop (mkF m 9 #[.val (.ref t1), .val (.ref t2), .val (.int (Int32.ofNat pre.length))] [])) zQ := by
        intro tt kt
        refine W106 tt ?_
        refine XS.icmpNo X0.here hx rfl (hb hby d_jdk_43_method_13_21) rfl (feq hc107).1 ?_
        refine XS.iconst X0.here hx rfl (hb hby d_jdk_43_method_13_24) ?_
        exact kt
      exact ⟨T0, _, h0, X0, e0, N0, rfl, fun fs hr => W110 _ (retN X0 hx (t := .boolean) hret (by simp) (hb hby d_jdk_43_method_13_25) (by rw [show (Value.int (nar .boolean (0 : Int32))) = (Value.int (if cs1 = cs2 then (1 : Int32) else (0 : Int32))) from (by rw [if_neg hne]; first | done | rfl)]; exact hr))⟩
def Q_l1equals (Z : State) (t1 : Addr) (t2 : Addr) (k1 : ClassId) (k2 : ClassId) (cs1 : List Int32) (cs2 : List Int32) (h0 : Heap) (n0 : Nat) (vQ_ : Option Value) (hQ_ : Heap) (LQ_ : List Loc) : Prop := vQ_ = some (.int (if cs1 = cs2 then (1 : Int32) else (0 : Int32))) ∧ Fr n0 LQ_ ∧ hQ_ = h0
set_option maxRecDepth 65536 in
set_option maxHeartbeats 40000000 in
theorem rm_l1equals (l : Launch) (Z : State) (a0 : Array Value) (hw : HW a0 Z) (ws : List Jvm.Cond) (t1 : Addr) (t2 : Addr) (k1 : ClassId) (k2 : ClassId) (cs1 : List Int32) (cs2 : List Int32) (h0 : Heap) (n0 : Nat) (Z0 : n0 ≤ h0.size) (V1 : Arv Z h0 t1 k1 .byte (Int32.ofNat cs1.length) (l1 cs1) (.int (0 : Int32))) (V2 : Arv Z h0 t2 k2 .byte (Int32.ofNat cs2.length) (l1 cs2) (.int (0 : Int32))) (ok1 : OkS cs1) (ok2 : OkS cs2) (hl1 : lat cs1 = true) (hl2 : lat cs2 = true) :
    MetFree l yn9 (head1 (Jvm.Cond.code yn9 jdk_43_method_13_code 3 (some .boolean) :: ws) ({ frames := 0, cells := 0, slots := 0, locals := 0 } : Room)) (fun aQ_ UQ => aQ_ = #[(.ref t1), (.ref t2)] ∧ Z.Warmed39 UQ.vm ∧ UQ.heap = h0) (fun _ _ _ _ _ => True) (fun _ UQ oQ UQ' => ∃ vQ_ LQ_, oQ = .returned vQ_ ∧ Q_l1equals Z t1 t2 k1 k2 cs1 cs2 h0 n0 vQ_ UQ'.heap LQ_ ∧ FrameEnd UQ oQ UQ' LQ_ ({ frames := 0, cells := 0, slots := 0, locals := 0 } : Room).cells ({ frames := 0, cells := 0, slots := 0, locals := 0 } : Room).slots) := by
  refine MetFree.of_bodySF (plainFor_of_name pn_java_lang_StringLatin1) hisR ?_
  intro p e s m args below meth cO s₁ Bd hml0 hP hK
  obtain ⟨rfl, hZ, hh⟩ := hP
  have hx := Bd.exec
  have hby := Bd.bytes
  have hml : cO.maxLocals = 3 := hml0
  have hown : s.vm.findClass "java/lang/StringLatin1" = some m.cls := findClass_of_methodNamed Bd.named
  have hnm := (name_of_methodNamed Bd.named Bd.method).1
  have X0 : Stand p l e ({ frames := 0, cells := 0, slots := 0, locals := 0 } : Room) s m #[(.ref t1), (.ref t2)] below meth cO s₁ [] 0 0 := Stand.of_body Bd
  have e0 : s₁.heap = h0 := by rw [← hh, Bd.state]; rfl
  have N0 := Fr.nil n0
  have W0 : ∀ zQ, SS p e below s₁ m 0 #[.val (.ref t1), .val (.ref t2), .unset] [] zQ → Steps p.tables e below (s₁.setTop (entryFrame m #[(.ref t1), (.ref t2)] 3)) zQ := fun tt kt => castTop (ef_l1equals m t1 t2) kt
  obtain ⟨cl101, Ar101, -, S101, M101, -, -⟩ := id V1
  obtain ⟨cl102, Ar102, -, S102, M102, -, -⟩ := id V2
  have W103 : ∀ zQ, SS p e below s₁ m 4 #[.val (.ref t1), .val (.ref t2), .unset] [(.int (Int32.ofNat cs2.length)), (.int (Int32.ofNat cs1.length))] zQ → Steps p.tables e below (s₁.setTop (entryFrame m #[(.ref t1), (.ref t2)] 3)) zQ := by
    intro tt kt
    refine W0 tt ?_
    refine XS.aloadN X0.here hx rfl (hb hby d_jdk_43_method_13_0) rfl rfl ?_
    show SS p e below s₁ m 1 #[.val (.ref t1), .val (.ref t2), .unset] [(.ref t1)] _
    refine X0.arraylength hx (by first | exact Ar101.1 | (rw [e0]; exact Ar101.1)) (State.isArrayOf_alike hZ.alike Ar101.2.1) (g := (mkF m 1 #[.val (.ref t1), .val (.ref t2), .unset] [(.ref t1)])) rfl rfl (hb hby d_jdk_43_method_13_1) _ ?_
    rw [len_of S101 M101]
    refine XS.aloadN X0.here hx rfl (hb hby d_jdk_43_method_13_2) rfl rfl ?_
    show SS p e below s₁ m 3 #[.val (.ref t1), .val (.ref t2), .unset] [(.ref t2), (.int (Int32.ofNat cs1.length))] _
    refine X0.arraylength hx (by first | exact Ar102.1 | (rw [e0]; exact Ar102.1)) (State.isArrayOf_alike hZ.alike Ar102.2.1) (g := (mkF m 3 #[.val (.ref t1), .val (.ref t2), .unset] [(.ref t2), (.int (Int32.ofNat cs1.length))])) rfl rfl (hb hby d_jdk_43_method_13_3) _ ?_
    rw [len_of S102 M102]
    exact kt
  by_cases hc104 : (Int32.ofNat cs1.length) = (Int32.ofNat cs2.length)
  ·
    have hln : cs1.length = cs2.length := by have q := congrArg Int32.toInt hc104; rw [own_i (Nat.lt_trans ok1.2 (by decide)), own_i (Nat.lt_trans ok2.2 (by decide))] at q; omega
    have W105 : ∀ zQ, SS p e below s₁ m 9 #[.val (.ref t1), .val (.ref t2), .val (.int (0 : Int32))] [] zQ → Steps p.tables e below (s₁.setTop (entryFrame m #[(.ref t1), (.ref t2)] 3)) zQ := by
      intro tt kt
      refine W103 tt ?_
      refine XS.icmpNo X0.here hx rfl (hb hby d_jdk_43_method_13_4) rfl (teq hc104).2 ?_
      refine XS.iconst X0.here hx rfl (hb hby d_jdk_43_method_13_7) ?_
      refine XS.istoreN X0.here hx rfl (hb hby d_jdk_43_method_13_8) rfl (l' := #[.val (.ref t1), .val (.ref t2), .val (.int (0 : Int32))]) rfl ?_
      exact kt
    obtain ⟨T106, L106, h106, X106, e106, Nl106, K106, st106⟩ := lp_l1eq hx hZ hw hby hml hown (by decide) (by decide) (by decide) (by decide) Bd.returns t1 t2 k1 k2 cs1 cs2 n0 ok1 ok2 hl1 hl2 cs1 [] cs2 s₁ _ h0 X0 e0 N0 Z0 V1 V2 rfl hln rfl
    obtain ⟨fs, hr, hrun, hended, hW, hsame⟩ := X106.leave (v := some (.int (if cs1 = cs2 then (1 : Int32) else (0 : Int32)))) (fun h => by rw [Bd.returns] at h; cases h)
    refine ⟨_, _, W105 _ (st106 _ hr), hrun, hended, _, _, rfl, ?_, ⟨_, rfl⟩, hW, hsame.mono (by decide) (by decide)⟩
    show Q_l1equals Z t1 t2 k1 k2 cs1 cs2 h0 n0 _ T106.heap _
    rw [(e106.trans K106)]
    exact ⟨rfl, Nl106, rfl⟩
  ·
    have W107 : ∀ zQ, SS p e below s₁ m 35 #[.val (.ref t1), .val (.ref t2), .unset] [(.int (0 : Int32))] zQ → Steps p.tables e below (s₁.setTop (entryFrame m #[(.ref t1), (.ref t2)] 3)) zQ := by
      intro tt kt
      refine W103 tt ?_
      refine XS.icmpYes X0.here hx rfl (pc0 := 4) (pc' := 34) rfl (hb hby d_jdk_43_method_13_4) rfl (feq hc104).2 (by decide) (by decide) ?_
      refine XS.iconst X0.here hx rfl (hb hby d_jdk_43_method_13_34) ?_
      exact kt
    obtain ⟨fs, hr, hrun, hended, hW, hsame⟩ := X0.leave (v := some (.int (nar .boolean (0 : Int32)))) (fun h => by rw [Bd.returns] at h; cases h)
    refine ⟨_, _, W107 _ (retN X0 hx (t := .boolean) Bd.returns (by simp) (hb hby d_jdk_43_method_13_35) hr), hrun, hended, _, _, rfl, ?_, ⟨_, rfl⟩, hW, hsame.mono (by decide) (by decide)⟩
    show Q_l1equals Z t1 t2 k1 k2 cs1 cs2 h0 n0 _ s₁.heap _
    rw [e0]
    exact ⟨(by rw [if_neg (fun q : cs1 = cs2 => hc104 (by rw [q]))]; first | done | rfl), N0, rfl⟩
def Q_sequals (Z : State) (a : Addr) (o : Addr) (t1 : Addr) (t2 : Addr) (k1 : ClassId) (k2 : ClassId) (cs1 : List Int32) (cs2 : List Int32) (cS : Int32) (h0 : Heap) (n0 : Nat) (vQ_ : Option Value) (hQ_ : Heap) (LQ_ : List Loc) : Prop := vQ_ = some (.int (if cs1 = cs2 then (1 : Int32) else (0 : Int32))) ∧ Fr n0 LQ_ ∧ hQ_ = h0
set_option maxRecDepth 65536 in
set_option maxHeartbeats 40000000 in
theorem rm_sequals (l : Launch) (Z : State) (a0 : Array Value) (hw : HW a0 Z) (ws : List Jvm.Cond) (a : Addr) (o : Addr) (t1 : Addr) (t2 : Addr) (k1 : ClassId) (k2 : ClassId) (cs1 : List Int32) (cs2 : List Int32) (cS : Int32) (h0 : Heap) (n0 : Nat) (Z0 : n0 ≤ h0.size) (O0 : Old Z n0 h0) (S_cs : Sta Z Z.heap "java/lang/String" "COMPACT_STRINGS" "Z" (.int cS)) (hcS : ¬ (cS = (0 : Int32))) (hS1 : Str Z h0 a t1 k1 cs1) (hS2 : Str Z h0 o t2 k2 cs2) (hl1 : lat cs1 = true) (hl2 : lat cs2 = true) (hne : a ≠ o) :
    MetFree l yn10 (head1 (Jvm.Cond.code yn10 jdk_42_method_66_code 3 (some .boolean) :: ws) ({ frames := 1, cells := 0, slots := 0, locals := 14 } : Room)) (fun aQ_ UQ => aQ_ = #[(.ref a), (.ref o)] ∧ Z.Warmed39 UQ.vm ∧ UQ.heap = h0) (fun _ _ _ _ _ => True) (fun _ UQ oQ UQ' => ∃ vQ_ LQ_, oQ = .returned vQ_ ∧ Q_sequals Z a o t1 t2 k1 k2 cs1 cs2 cS h0 n0 vQ_ UQ'.heap LQ_ ∧ FrameEnd UQ oQ UQ' LQ_ ({ frames := 1, cells := 0, slots := 0, locals := 14 } : Room).cells ({ frames := 1, cells := 0, slots := 0, locals := 14 } : Room).slots) := by
  refine MetFree.of_bodySF (plainFor_of_name pn_java_lang_String) hisR ?_
  intro p e s m args below meth cO s₁ Bd hml0 hP hK
  obtain ⟨rfl, hZ, hh⟩ := hP
  have hx := Bd.exec
  have hby := Bd.bytes
  have hml : cO.maxLocals = 3 := hml0
  have hown : s.vm.findClass "java/lang/String" = some m.cls := findClass_of_methodNamed Bd.named
  have hnm := (name_of_methodNamed Bd.named Bd.method).1
  have X0 : Stand p l e ({ frames := 1, cells := 0, slots := 0, locals := 14 } : Room) s m #[(.ref a), (.ref o)] below meth cO s₁ [] 0 0 := Stand.of_body Bd
  have e0 : s₁.heap = h0 := by rw [← hh, Bd.state]; rfl
  have N0 := Fr.nil n0
  have W0 : ∀ zQ, SS p e below s₁ m 0 #[.val (.ref a), .val (.ref o), .unset] [] zQ → Steps p.tables e below (s₁.setTop (entryFrame m #[(.ref a), (.ref o)] 3)) zQ := fun tt kt => castTop (ef_sequals m a o) kt
  obtain ⟨phE, phV, phC, phA, ok1⟩ := hS1
  obtain ⟨qhE, qhV, qhC, qhA, ok2⟩ := hS2
  have hA101 : Arv Z h0 t1 k1 .byte (Int32.ofNat cs1.length) (l1 cs1) (.int (0 : Int32)) := by have q := enc_lat hl1; rw [← q.1, ← q.2.1]; exact phA
  have hA102 : Arv Z h0 t2 k2 .byte (Int32.ofNat cs2.length) (l1 cs2) (.int (0 : Int32)) := by have q := enc_lat hl2; rw [← q.1, ← q.2.1]; exact qhA
  have hcd1 : cdr cs1 = (0 : Int32) := (enc_lat hl1).2.2
  have hcd2 : cdr cs2 = (0 : Int32) := (enc_lat hl2).2.2
  obtain ⟨T103, X103, e103, st103⟩ := instY X0 hx hZ hown (w65 hw) e0 (Ins.self qhE) (g := (mkF m 8 #[.val (.ref a), .val (.ref o), .unset] [(.ref o)])) rfl rfl (hb hby d_jdk_42_method_66_8)
  obtain ⟨T104, X104, e104, st104⟩ := castY X103 hx hZ hown (w65 hw) e103 (Ins.self qhE) (g := (mkF m 15 #[.val (.ref a), .val (.ref o), .unset] [(.ref o)])) rfl rfl (hb hby d_jdk_42_method_66_15)
  have F106 : Sta Z h0 "java/lang/String" "COMPACT_STRINGS" "Z" (.int cS) := S_cs.ext O0.2
  obtain ⟨T105, X105, e105, st105⟩ := getS2 X104 hx hZ hown (host := "") (Or.inl (w20 hw)) Via.refl e104 F106 (g := (mkF m 19 #[.val (.ref a), .val (.ref o), .val (.ref o)] [])) rfl (hb hby d_jdk_42_method_66_19)
  obtain ⟨T107, X107, e107, st107⟩ := getF X105 hx hZ hown (host := "") (Or.inl (w32 hw)) Via.refl e105 phC (g := (mkF m 26 #[.val (.ref a), .val (.ref o), .val (.ref o)] [(.ref a)])) rfl rfl (hb hby d_jdk_42_method_66_26)
  obtain ⟨T108, X108, e108, st108⟩ := getF X107 hx hZ hown (host := "") (Or.inl (w32 hw)) Via.refl e107 qhC (g := (mkF m 30 #[.val (.ref a), .val (.ref o), .val (.ref o)] [(.ref o), (.int (cdr cs1))])) rfl rfl (hb hby d_jdk_42_method_66_30)
  obtain ⟨T109, X109, e109, st109⟩ := getF X108 hx hZ hown (host := "") (Or.inl (w34 hw)) Via.refl e108 phV (g := (mkF m 37 #[.val (.ref a), .val (.ref o), .val (.ref o)] [(.ref a)])) rfl rfl (hb hby d_jdk_42_method_66_37)
  obtain ⟨T110, X110, e110, st110⟩ := getF X109 hx hZ hown (host := "") (Or.inl (w34 hw)) Via.refl e109 qhV (g := (mkF m 41 #[.val (.ref a), .val (.ref o), .val (.ref o)] [(.ref o), (.ref t1)])) rfl rfl (hb hby d_jdk_42_method_66_41)
  obtain ⟨_, _, ⟨T111, L111, k111, n111⟩, -, X111, ⟨Lc111, hQ111, l111, y111, z111⟩, st111⟩ := Jvm.LawKit.callS X110 hx (y := yn9) hown (mvT hZ (w66 hw)) (mvT hZ (w67 hw)) (mvT hZ (w68 hw)) (mvT hZ (w69 hw)) (by decide) (backOf (W := 0) (rm_l1equals l Z a0 hw [] t1 t2 k1 k2 cs1 cs2 h0 n0 Z0 hA101 hA102 ok1 ok2 hl1 hl2) hZ (w69 hw) (w68 hw) (by decide) (by decide)) (g := (mkF m 44 #[.val (.ref a), .val (.ref o), .val (.ref o)] [(.ref t2), (.ref t1)])) rfl (by rw [hml]; rfl) (argsL := [(.ref t1), (.ref t2)]) (rest := []) (lenOf pd__28__5b_B_5b_B_29_Z rfl) rfl (by show 2 * 0 + _ ≤ _; exact Nat.le_of_eq rfl) (hb hby d_jdk_42_method_66_44) (fun _ _ => ⟨rfl, e110, (Nat.le_of_ble_eq_true rfl), (Nat.le_of_ble_eq_true rfl)⟩)
  dsimp only [Pt.U, Pt.locs, Pt.cells, Pt.slots] at X111 l111 y111 z111 st111 hQ111
  subst l111 y111 z111
  obtain ⟨rfl, Nq111, eq111⟩ := hQ111
  have N111 := Fr.app N0 Nq111
  have W112 : ∀ zQ, SS p e below T111 m 47 #[.val (.ref a), .val (.ref o), .val (.ref o)] [(.int (if cs1 = cs2 then (1 : Int32) else (0 : Int32)))] zQ → Steps p.tables e below (s₁.setTop (entryFrame m #[(.ref a), (.ref o)] 3)) zQ := by
    intro tt kt
    refine W0 tt ?_
    refine XS.aloadN X0.here hx rfl (hb hby d_jdk_42_method_66_0) rfl rfl ?_
    refine XS.aloadN X0.here hx rfl (hb hby d_jdk_42_method_66_1) rfl rfl ?_
    show SS p e below s₁ m 2 #[.val (.ref a), .val (.ref o), .unset] [(.ref o), (.ref a)] _
    refine Jvm.RoadKit.acmp (g := (mkF m 2 #[.val (.ref a), .val (.ref o), .unset] [(.ref o), (.ref a)])) X0 hx rfl rfl rfl (pc0 := 2) (pc' := 7) (same := false) rfl (hb hby d_jdk_42_method_66_2) rfl (decide_eq_false fun q => hne (Value.ref.inj q)) (by decide) (by decide) ?_
    refine XS.aloadN X0.here hx rfl (hb hby d_jdk_42_method_66_7) rfl rfl ?_
    show SS p e below s₁ m 8 #[.val (.ref a), .val (.ref o), .unset] [(.ref o)] _
    refine st103 _ ?_
    refine XS.ifNo X103.here hx rfl (hb hby d_jdk_42_method_66_11) rfl ((if0 _ _).trans (feq (by decide)).1) ?_
    refine XS.aloadN X103.here hx rfl (hb hby d_jdk_42_method_66_14) rfl rfl ?_
    show SS p e below T103 m 15 #[.val (.ref a), .val (.ref o), .unset] [(.ref o)] _
    refine st104 _ ?_
    refine XS.astoreN X104.here hx rfl (hb hby d_jdk_42_method_66_18) rfl rfl (l' := #[.val (.ref a), .val (.ref o), .val (.ref o)]) rfl ?_
    show SS p e below T104 m 19 #[.val (.ref a), .val (.ref o), .val (.ref o)] [] _
    refine st105 _ ?_
    refine XS.ifNo X105.here hx rfl (hb hby d_jdk_42_method_66_22) rfl ((if0 _ _).trans (feq hcS).1) ?_
    refine XS.aloadN X105.here hx rfl (hb hby d_jdk_42_method_66_25) rfl rfl ?_
    show SS p e below T105 m 26 #[.val (.ref a), .val (.ref o), .val (.ref o)] [(.ref a)] _
    refine st107 _ ?_
    refine XS.aloadN X107.here hx rfl (hb hby d_jdk_42_method_66_29) rfl rfl ?_
    show SS p e below T107 m 30 #[.val (.ref a), .val (.ref o), .val (.ref o)] [(.ref o), (.int (cdr cs1))] _
    refine st108 _ ?_
    refine XS.icmpNo X108.here hx rfl (hb hby d_jdk_42_method_66_33) rfl (teq (by rw [hcd1, hcd2])).2 ?_
    refine XS.aloadN X108.here hx rfl (hb hby d_jdk_42_method_66_36) rfl rfl ?_
    show SS p e below T108 m 37 #[.val (.ref a), .val (.ref o), .val (.ref o)] [(.ref a)] _
    refine st109 _ ?_
    refine XS.aloadN X109.here hx rfl (hb hby d_jdk_42_method_66_40) rfl rfl ?_
    show SS p e below T109 m 41 #[.val (.ref a), .val (.ref o), .val (.ref o)] [(.ref o), (.ref t1)] _
    refine st110 _ ?_
    show SS p e below T110 m 44 #[.val (.ref a), .val (.ref o), .val (.ref o)] [(.ref t2), (.ref t1)] _
    refine st111 _ ?_
    exact kt
  by_cases hc113 : cs1 = cs2
  ·
    have W114 : ∀ zQ, SS p e below T111 m 55 #[.val (.ref a), .val (.ref o), .val (.ref o)] [(.int (1 : Int32))] zQ → Steps p.tables e below (s₁.setTop (entryFrame m #[(.ref a), (.ref o)] 3)) zQ := by
      intro tt kt
      refine W112 tt ?_
      rw [show (if cs1 = cs2 then (1 : Int32) else (0 : Int32)) = (1 : Int32) from if_pos hc113]
      refine XS.ifNo X111.here hx rfl (hb hby d_jdk_42_method_66_47) rfl ((if0 _ _).trans (feq (by decide)).1) ?_
      refine XS.iconst X111.here hx rfl (hb hby d_jdk_42_method_66_50) ?_
      refine XS.goto X111.here hx rfl (pc0 := 51) (pc' := 55) rfl (hb hby d_jdk_42_method_66_51) (by decide) (by decide) ?_
      exact kt
    obtain ⟨fs, hr, hrun, hended, hW, hsame⟩ := X111.leave (v := some (.int (nar .boolean (1 : Int32)))) (fun h => by rw [Bd.returns] at h; cases h)
    refine ⟨_, _, W114 _ (retN X111 hx (t := .boolean) Bd.returns (by simp) (hb hby d_jdk_42_method_66_55) hr), hrun, hended, _, _, rfl, ?_, ⟨_, rfl⟩, hW, hsame.mono (by decide) (by decide)⟩
    show Q_sequals Z a o t1 t2 k1 k2 cs1 cs2 cS h0 n0 _ T111.heap _
    rw [eq111]
    exact ⟨(by rw [if_pos hc113]; first | done | rfl), N111, rfl⟩
  ·
    have W115 : ∀ zQ, SS p e below T111 m 55 #[.val (.ref a), .val (.ref o), .val (.ref o)] [(.int (0 : Int32))] zQ → Steps p.tables e below (s₁.setTop (entryFrame m #[(.ref a), (.ref o)] 3)) zQ := by
      intro tt kt
      refine W112 tt ?_
      rw [show (if cs1 = cs2 then (1 : Int32) else (0 : Int32)) = (0 : Int32) from if_neg hc113]
      refine XS.ifYes X111.here hx rfl (pc0 := 47) (pc' := 54) rfl (hb hby d_jdk_42_method_66_47) rfl ((if0 _ _).trans (teq (by decide)).1) (by decide) (by decide) ?_
      refine XS.iconst X111.here hx rfl (hb hby d_jdk_42_method_66_54) ?_
      exact kt
    obtain ⟨fs, hr, hrun, hended, hW, hsame⟩ := X111.leave (v := some (.int (nar .boolean (0 : Int32)))) (fun h => by rw [Bd.returns] at h; cases h)
    refine ⟨_, _, W115 _ (retN X111 hx (t := .boolean) Bd.returns (by simp) (hb hby d_jdk_42_method_66_55) hr), hrun, hended, _, _, rfl, ?_, ⟨_, rfl⟩, hW, hsame.mono (by decide) (by decide)⟩
    show Q_sequals Z a o t1 t2 k1 k2 cs1 cs2 cS h0 n0 _ T111.heap _
    rw [eq111]
    exact ⟨(by rw [if_neg hc113]; first | done | rfl), N111, rfl⟩
def Q_full0 (Z : State)  (h0 : Heap) (n0 : Nat) (vQ_ : Option Value) (hQ_ : Heap) (LQ_ : List Loc) : Prop := ∃ r : Addr, ∃ kr : ClassId, vQ_ = some (.ref r) ∧ Fr n0 LQ_ ∧ Keep h0 hQ_ [] ∧ h0.size ≤ r ∧ Arv Z hQ_ r kr .char (8 : Int32) [(.int (115 : Int32)), (.int (116 : Int32)), (.int (97 : Int32)), (.int (110 : Int32)), (.int (100 : Int32)), (.int (97 : Int32)), (.int (114 : Int32)), (.int (100 : Int32))] (.int (0 : Int32))
set_option maxRecDepth 65536 in
set_option maxHeartbeats 40000000 in
theorem rm_full0 (l : Launch) (Z : State) (a0 : Array Value) (hw : HW a0 Z) (ws : List Jvm.Cond)  (h0 : Heap) (n0 : Nat) (Z0 : n0 ≤ h0.size)  :
    MetFree l yn11 (head1 (Jvm.Cond.code yn11 method_2_code 1 (some (.array .char)) :: ws) ({ frames := 0, cells := 1, slots := 8, locals := 0 } : Room)) (fun aQ_ UQ => aQ_ = #[(.int (0 : Int32))] ∧ Z.Warmed39 UQ.vm ∧ UQ.heap = h0) (fun _ _ _ _ _ => True) (fun _ UQ oQ UQ' => ∃ vQ_ LQ_, oQ = .returned vQ_ ∧ Q_full0 Z  h0 n0 vQ_ UQ'.heap LQ_ ∧ FrameEnd UQ oQ UQ' LQ_ ({ frames := 0, cells := 1, slots := 8, locals := 0 } : Room).cells ({ frames := 0, cells := 1, slots := 8, locals := 0 } : Room).slots) := by
  refine MetFree.of_bodySF (plainFor_of_name pn_com_example_composition_composition_definition_AbapLanguageVersionOfJsonNamePinLaw) hisR ?_
  intro p e s m args below meth cO s₁ Bd hml0 hP hK
  obtain ⟨rfl, hZ, hh⟩ := hP
  have hx := Bd.exec
  have hby := Bd.bytes
  have hml : cO.maxLocals = 1 := hml0
  have hown : s.vm.findClass "com/example/composition/composition/definition/AbapLanguageVersionOfJsonNamePinLaw" = some m.cls := findClass_of_methodNamed Bd.named
  have hnm := (name_of_methodNamed Bd.named Bd.method).1
  have X0 : Stand p l e ({ frames := 0, cells := 1, slots := 8, locals := 0 } : Room) s m #[(.int (0 : Int32))] below meth cO s₁ [] 0 0 := Stand.of_body Bd
  have e0 : s₁.heap = h0 := by rw [← hh, Bd.state]; rfl
  have N0 := Fr.nil n0
  have W0 : ∀ zQ, SS p e below s₁ m 0 #[.val (.int (0 : Int32))] [] zQ → Steps p.tables e below (s₁.setTop (entryFrame m #[(.int (0 : Int32))] 1)) zQ := fun tt kt => castTop (ef_full0 m (0 : Int32)) kt
  obtain ⟨T101, h101, k101, X101, e101, E101, A101, st101⟩ := newP X0 hx hZ (aty := .char) (w9 hw) e0 (g := (mkF m 6 #[.val (.int (0 : Int32))] [(.int (8 : Int32))])) rfl (hb hby d_method_2_6) (n := (8 : Int32)) rfl (by decide) (cap := 8) (by decide) (by decide) (by decide) (by decide)
  obtain ⟨b101, g101⟩ : ∃ z, z = h0.size := ⟨_, rfl⟩
  rw [← g101] at A101 st101
  have K101 := (Keep.refl h0 []).ext E101
  have G101 : Arv Z h101 b101 k101 .char (8 : Int32) [(.int (0 : Int32)), (.int (0 : Int32)), (.int (0 : Int32)), (.int (0 : Int32)), (.int (0 : Int32)), (.int (0 : Int32)), (.int (0 : Int32)), (.int (0 : Int32))] (.int (0 : Int32)) := (Arv.new A101 (by decide)).pad (pad_rep [] (.int (0 : Int32)) 8)
  obtain ⟨cl102, Ar102, q102, S102, M102, H102, F102g⟩ := id G101
  have hin102 : ¬ ((0 : Int32) < 0 ∨ cl102.slots.size ≤ ((0 : Int32)).toNatClampNeg) := inb_of S102 ⟨by decide, by decide⟩
  obtain ⟨T102, h102, X102, e102, Wr102, st102⟩ := stC X101 hx hZ e101 Ar102 (j := (0 : Int32)) hin102 (g := (mkF m 12 #[.val (.int (0 : Int32))] [(.int (115 : Int32)), (.int (0 : Int32)), (.ref b101), (.ref b101)])) rfl rfl (hb hby d_method_2_12)
  have G102 : Arv Z h102 b101 k101 .char (8 : Int32) [(.int (115 : Int32)), (.int (0 : Int32)), (.int (0 : Int32)), (.int (0 : Int32)), (.int (0 : Int32)), (.int (0 : Int32)), (.int (0 : Int32)), (.int (0 : Int32))] (.int (0 : Int32)) := Arv.set Ar102 q102 S102 M102 H102 F102g (fits_nar_char _) Wr102 0 rfl (Nat.le_of_ble_eq_true rfl)
  have K102 := Keep.of_wr Wr102
  have N102 := Fr.snoc X102 N0 (Nat.le_trans Z0 (Nat.le_of_eq g101.symm))
  obtain ⟨cl103, Ar103, q103, S103, M103, H103, F103g⟩ := id G102
  have hin103 : ¬ ((1 : Int32) < 0 ∨ cl103.slots.size ≤ ((1 : Int32)).toNatClampNeg) := inb_of S103 ⟨by decide, by decide⟩
  obtain ⟨T103, h103, X103, e103, Wr103, st103⟩ := stC X102 hx hZ e102 Ar103 (j := (1 : Int32)) hin103 (g := (mkF m 17 #[.val (.int (0 : Int32))] [(.int (116 : Int32)), (.int (1 : Int32)), (.ref b101), (.ref b101)])) rfl rfl (hb hby d_method_2_17)
  have G103 : Arv Z h103 b101 k101 .char (8 : Int32) [(.int (115 : Int32)), (.int (116 : Int32)), (.int (0 : Int32)), (.int (0 : Int32)), (.int (0 : Int32)), (.int (0 : Int32)), (.int (0 : Int32)), (.int (0 : Int32))] (.int (0 : Int32)) := Arv.set Ar103 q103 S103 M103 H103 F103g (fits_nar_char _) Wr103 1 rfl (Nat.le_of_ble_eq_true rfl)
  have K103 := Keep.of_wr Wr103
  have N103 := Fr.snoc X103 N102 (Nat.le_trans Z0 (Nat.le_of_eq g101.symm))
  obtain ⟨cl104, Ar104, q104, S104, M104, H104, F104g⟩ := id G103
  have hin104 : ¬ ((2 : Int32) < 0 ∨ cl104.slots.size ≤ ((2 : Int32)).toNatClampNeg) := inb_of S104 ⟨by decide, by decide⟩
  obtain ⟨T104, h104, X104, e104, Wr104, st104⟩ := stC X103 hx hZ e103 Ar104 (j := (2 : Int32)) hin104 (g := (mkF m 22 #[.val (.int (0 : Int32))] [(.int (97 : Int32)), (.int (2 : Int32)), (.ref b101), (.ref b101)])) rfl rfl (hb hby d_method_2_22)
  have G104 : Arv Z h104 b101 k101 .char (8 : Int32) [(.int (115 : Int32)), (.int (116 : Int32)), (.int (97 : Int32)), (.int (0 : Int32)), (.int (0 : Int32)), (.int (0 : Int32)), (.int (0 : Int32)), (.int (0 : Int32))] (.int (0 : Int32)) := Arv.set Ar104 q104 S104 M104 H104 F104g (fits_nar_char _) Wr104 2 rfl (Nat.le_of_ble_eq_true rfl)
  have K104 := Keep.of_wr Wr104
  have N104 := Fr.snoc X104 N103 (Nat.le_trans Z0 (Nat.le_of_eq g101.symm))
  obtain ⟨cl105, Ar105, q105, S105, M105, H105, F105g⟩ := id G104
  have hin105 : ¬ ((3 : Int32) < 0 ∨ cl105.slots.size ≤ ((3 : Int32)).toNatClampNeg) := inb_of S105 ⟨by decide, by decide⟩
  obtain ⟨T105, h105, X105, e105, Wr105, st105⟩ := stC X104 hx hZ e104 Ar105 (j := (3 : Int32)) hin105 (g := (mkF m 27 #[.val (.int (0 : Int32))] [(.int (110 : Int32)), (.int (3 : Int32)), (.ref b101), (.ref b101)])) rfl rfl (hb hby d_method_2_27)
  have G105 : Arv Z h105 b101 k101 .char (8 : Int32) [(.int (115 : Int32)), (.int (116 : Int32)), (.int (97 : Int32)), (.int (110 : Int32)), (.int (0 : Int32)), (.int (0 : Int32)), (.int (0 : Int32)), (.int (0 : Int32))] (.int (0 : Int32)) := Arv.set Ar105 q105 S105 M105 H105 F105g (fits_nar_char _) Wr105 3 rfl (Nat.le_of_ble_eq_true rfl)
  have K105 := Keep.of_wr Wr105
  have N105 := Fr.snoc X105 N104 (Nat.le_trans Z0 (Nat.le_of_eq g101.symm))
  obtain ⟨cl106, Ar106, q106, S106, M106, H106, F106g⟩ := id G105
  have hin106 : ¬ ((4 : Int32) < 0 ∨ cl106.slots.size ≤ ((4 : Int32)).toNatClampNeg) := inb_of S106 ⟨by decide, by decide⟩
  obtain ⟨T106, h106, X106, e106, Wr106, st106⟩ := stC X105 hx hZ e105 Ar106 (j := (4 : Int32)) hin106 (g := (mkF m 32 #[.val (.int (0 : Int32))] [(.int (100 : Int32)), (.int (4 : Int32)), (.ref b101), (.ref b101)])) rfl rfl (hb hby d_method_2_32)
  have G106 : Arv Z h106 b101 k101 .char (8 : Int32) [(.int (115 : Int32)), (.int (116 : Int32)), (.int (97 : Int32)), (.int (110 : Int32)), (.int (100 : Int32)), (.int (0 : Int32)), (.int (0 : Int32)), (.int (0 : Int32))] (.int (0 : Int32)) := Arv.set Ar106 q106 S106 M106 H106 F106g (fits_nar_char _) Wr106 4 rfl (Nat.le_of_ble_eq_true rfl)
  have K106 := Keep.of_wr Wr106
  have N106 := Fr.snoc X106 N105 (Nat.le_trans Z0 (Nat.le_of_eq g101.symm))
  obtain ⟨cl107, Ar107, q107, S107, M107, H107, F107g⟩ := id G106
  have hin107 : ¬ ((5 : Int32) < 0 ∨ cl107.slots.size ≤ ((5 : Int32)).toNatClampNeg) := inb_of S107 ⟨by decide, by decide⟩
  obtain ⟨T107, h107, X107, e107, Wr107, st107⟩ := stC X106 hx hZ e106 Ar107 (j := (5 : Int32)) hin107 (g := (mkF m 37 #[.val (.int (0 : Int32))] [(.int (97 : Int32)), (.int (5 : Int32)), (.ref b101), (.ref b101)])) rfl rfl (hb hby d_method_2_37)
  have G107 : Arv Z h107 b101 k101 .char (8 : Int32) [(.int (115 : Int32)), (.int (116 : Int32)), (.int (97 : Int32)), (.int (110 : Int32)), (.int (100 : Int32)), (.int (97 : Int32)), (.int (0 : Int32)), (.int (0 : Int32))] (.int (0 : Int32)) := Arv.set Ar107 q107 S107 M107 H107 F107g (fits_nar_char _) Wr107 5 rfl (Nat.le_of_ble_eq_true rfl)
  have K107 := Keep.of_wr Wr107
  have N107 := Fr.snoc X107 N106 (Nat.le_trans Z0 (Nat.le_of_eq g101.symm))
  obtain ⟨cl108, Ar108, q108, S108, M108, H108, F108g⟩ := id G107
  have hin108 : ¬ ((6 : Int32) < 0 ∨ cl108.slots.size ≤ ((6 : Int32)).toNatClampNeg) := inb_of S108 ⟨by decide, by decide⟩
  obtain ⟨T108, h108, X108, e108, Wr108, st108⟩ := stC X107 hx hZ e107 Ar108 (j := (6 : Int32)) hin108 (g := (mkF m 43 #[.val (.int (0 : Int32))] [(.int (114 : Int32)), (.int (6 : Int32)), (.ref b101), (.ref b101)])) rfl rfl (hb hby d_method_2_43)
  have G108 : Arv Z h108 b101 k101 .char (8 : Int32) [(.int (115 : Int32)), (.int (116 : Int32)), (.int (97 : Int32)), (.int (110 : Int32)), (.int (100 : Int32)), (.int (97 : Int32)), (.int (114 : Int32)), (.int (0 : Int32))] (.int (0 : Int32)) := Arv.set Ar108 q108 S108 M108 H108 F108g (fits_nar_char _) Wr108 6 rfl (Nat.le_of_ble_eq_true rfl)
  have K108 := Keep.of_wr Wr108
  have N108 := Fr.snoc X108 N107 (Nat.le_trans Z0 (Nat.le_of_eq g101.symm))
  obtain ⟨cl109, Ar109, q109, S109, M109, H109, F109g⟩ := id G108
  have hin109 : ¬ ((7 : Int32) < 0 ∨ cl109.slots.size ≤ ((7 : Int32)).toNatClampNeg) := inb_of S109 ⟨by decide, by decide⟩
  obtain ⟨T109, h109, X109, e109, Wr109, st109⟩ := stC X108 hx hZ e108 Ar109 (j := (7 : Int32)) hin109 (g := (mkF m 49 #[.val (.int (0 : Int32))] [(.int (100 : Int32)), (.int (7 : Int32)), (.ref b101), (.ref b101)])) rfl rfl (hb hby d_method_2_49)
  have G109 : Arv Z h109 b101 k101 .char (8 : Int32) [(.int (115 : Int32)), (.int (116 : Int32)), (.int (97 : Int32)), (.int (110 : Int32)), (.int (100 : Int32)), (.int (97 : Int32)), (.int (114 : Int32)), (.int (100 : Int32))] (.int (0 : Int32)) := Arv.set Ar109 q109 S109 M109 H109 F109g (fits_nar_char _) Wr109 7 rfl (Nat.le_of_ble_eq_true rfl)
  have K109 := Keep.of_wr Wr109
  have N109 := Fr.snoc X109 N108 (Nat.le_trans Z0 (Nat.le_of_eq g101.symm))
  have W110 : ∀ zQ, SS p e below T109 m 50 #[.val (.int (0 : Int32))] [(.ref b101)] zQ → Steps p.tables e below (s₁.setTop (entryFrame m #[(.int (0 : Int32))] 1)) zQ := by
    intro tt kt
    refine W0 tt ?_
    refine XS.iloadN X0.here hx rfl (hb hby d_method_2_0) rfl ?_
    refine XS.ifNo X0.here hx rfl (hb hby d_method_2_1) rfl ((if0 _ _).trans (teq (by decide)).2) ?_
    refine XS.bipush X0.here hx rfl (hb hby d_method_2_4) ?_
    show SS p e below s₁ m 6 #[.val (.int (0 : Int32))] [(.int (8 : Int32))] _
    refine st101 _ ?_
    refine XS.dup X101.here hx rfl (hb hby d_method_2_8) rfl rfl ?_
    refine XS.iconst X101.here hx rfl (hb hby d_method_2_9) ?_
    refine XS.bipush X101.here hx rfl (hb hby d_method_2_10) ?_
    show SS p e below T101 m 12 #[.val (.int (0 : Int32))] [(.int (115 : Int32)), (.int (0 : Int32)), (.ref b101), (.ref b101)] _
    refine st102 _ ?_
    refine XS.dup X102.here hx rfl (hb hby d_method_2_13) rfl rfl ?_
    refine XS.iconst X102.here hx rfl (hb hby d_method_2_14) ?_
    refine XS.bipush X102.here hx rfl (hb hby d_method_2_15) ?_
    show SS p e below T102 m 17 #[.val (.int (0 : Int32))] [(.int (116 : Int32)), (.int (1 : Int32)), (.ref b101), (.ref b101)] _
    refine st103 _ ?_
    refine XS.dup X103.here hx rfl (hb hby d_method_2_18) rfl rfl ?_
    refine XS.iconst X103.here hx rfl (hb hby d_method_2_19) ?_
    refine XS.bipush X103.here hx rfl (hb hby d_method_2_20) ?_
    show SS p e below T103 m 22 #[.val (.int (0 : Int32))] [(.int (97 : Int32)), (.int (2 : Int32)), (.ref b101), (.ref b101)] _
    refine st104 _ ?_
    refine XS.dup X104.here hx rfl (hb hby d_method_2_23) rfl rfl ?_
    refine XS.iconst X104.here hx rfl (hb hby d_method_2_24) ?_
    refine XS.bipush X104.here hx rfl (hb hby d_method_2_25) ?_
    show SS p e below T104 m 27 #[.val (.int (0 : Int32))] [(.int (110 : Int32)), (.int (3 : Int32)), (.ref b101), (.ref b101)] _
    refine st105 _ ?_
    refine XS.dup X105.here hx rfl (hb hby d_method_2_28) rfl rfl ?_
    refine XS.iconst X105.here hx rfl (hb hby d_method_2_29) ?_
    refine XS.bipush X105.here hx rfl (hb hby d_method_2_30) ?_
    show SS p e below T105 m 32 #[.val (.int (0 : Int32))] [(.int (100 : Int32)), (.int (4 : Int32)), (.ref b101), (.ref b101)] _
    refine st106 _ ?_
    refine XS.dup X106.here hx rfl (hb hby d_method_2_33) rfl rfl ?_
    refine XS.iconst X106.here hx rfl (hb hby d_method_2_34) ?_
    refine XS.bipush X106.here hx rfl (hb hby d_method_2_35) ?_
    show SS p e below T106 m 37 #[.val (.int (0 : Int32))] [(.int (97 : Int32)), (.int (5 : Int32)), (.ref b101), (.ref b101)] _
    refine st107 _ ?_
    refine XS.dup X107.here hx rfl (hb hby d_method_2_38) rfl rfl ?_
    refine XS.bipush X107.here hx rfl (hb hby d_method_2_39) ?_
    refine XS.bipush X107.here hx rfl (hb hby d_method_2_41) ?_
    show SS p e below T107 m 43 #[.val (.int (0 : Int32))] [(.int (114 : Int32)), (.int (6 : Int32)), (.ref b101), (.ref b101)] _
    refine st108 _ ?_
    refine XS.dup X108.here hx rfl (hb hby d_method_2_44) rfl rfl ?_
    refine XS.bipush X108.here hx rfl (hb hby d_method_2_45) ?_
    refine XS.bipush X108.here hx rfl (hb hby d_method_2_47) ?_
    show SS p e below T108 m 49 #[.val (.int (0 : Int32))] [(.int (100 : Int32)), (.int (7 : Int32)), (.ref b101), (.ref b101)] _
    refine st109 _ ?_
    exact kt
  obtain ⟨fs, hr, hrun, hended, hW, hsame⟩ := X109.leave (v := some (.ref b101)) (fun h => by rw [Bd.returns] at h; cases h)
  refine ⟨_, _, W110 _ (own_retR X109 hx Bd.returns rfl rfl (hb hby d_method_2_50) hr), hrun, hended, _, _, rfl, ?_, ⟨_, rfl⟩, hW, hsame.mono (by decide) (by decide)⟩
  show Q_full0 Z  h0 n0 _ T109.heap _
  rw [e109]
  exact ⟨b101, k101, rfl, N109, (Keep.trans (Keep.trans (Keep.trans (Keep.trans (Keep.trans (Keep.trans (Keep.trans (Keep.trans (Keep.trans (Keep.refl h0 []) K101 all0) K102 (allS (Or.inr (Nat.le_of_eq g101.symm)) all0)) K103 (allS (Or.inr (Nat.le_of_eq g101.symm)) all0)) K104 (allS (Or.inr (Nat.le_of_eq g101.symm)) all0)) K105 (allS (Or.inr (Nat.le_of_eq g101.symm)) all0)) K106 (allS (Or.inr (Nat.le_of_eq g101.symm)) all0)) K107 (allS (Or.inr (Nat.le_of_eq g101.symm)) all0)) K108 (allS (Or.inr (Nat.le_of_eq g101.symm)) all0)) K109 (allS (Or.inr (Nat.le_of_eq g101.symm)) all0)), (Nat.le_of_eq g101.symm), G109⟩
def Q_prefix0 (Z : State)  (h0 : Heap) (n0 : Nat) (vQ_ : Option Value) (hQ_ : Heap) (LQ_ : List Loc) : Prop := ∃ r : Addr, ∃ kr : ClassId, vQ_ = some (.ref r) ∧ Fr n0 LQ_ ∧ Keep h0 hQ_ [] ∧ h0.size ≤ r ∧ Arv Z hQ_ r kr .char (7 : Int32) [(.int (115 : Int32)), (.int (116 : Int32)), (.int (97 : Int32)), (.int (110 : Int32)), (.int (100 : Int32)), (.int (97 : Int32)), (.int (114 : Int32))] (.int (0 : Int32))
set_option maxRecDepth 65536 in
set_option maxHeartbeats 40000000 in
theorem rm_prefix0 (l : Launch) (Z : State) (a0 : Array Value) (hw : HW a0 Z) (ws : List Jvm.Cond)  (h0 : Heap) (n0 : Nat) (Z0 : n0 ≤ h0.size)  :
    MetFree l yn12 (head1 (Jvm.Cond.code yn12 method_3_code 1 (some (.array .char)) :: ws) ({ frames := 0, cells := 1, slots := 7, locals := 0 } : Room)) (fun aQ_ UQ => aQ_ = #[(.int (0 : Int32))] ∧ Z.Warmed39 UQ.vm ∧ UQ.heap = h0) (fun _ _ _ _ _ => True) (fun _ UQ oQ UQ' => ∃ vQ_ LQ_, oQ = .returned vQ_ ∧ Q_prefix0 Z  h0 n0 vQ_ UQ'.heap LQ_ ∧ FrameEnd UQ oQ UQ' LQ_ ({ frames := 0, cells := 1, slots := 7, locals := 0 } : Room).cells ({ frames := 0, cells := 1, slots := 7, locals := 0 } : Room).slots) := by
  refine MetFree.of_bodySF (plainFor_of_name pn_com_example_composition_composition_definition_AbapLanguageVersionOfJsonNamePinLaw) hisR ?_
  intro p e s m args below meth cO s₁ Bd hml0 hP hK
  obtain ⟨rfl, hZ, hh⟩ := hP
  have hx := Bd.exec
  have hby := Bd.bytes
  have hml : cO.maxLocals = 1 := hml0
  have hown : s.vm.findClass "com/example/composition/composition/definition/AbapLanguageVersionOfJsonNamePinLaw" = some m.cls := findClass_of_methodNamed Bd.named
  have hnm := (name_of_methodNamed Bd.named Bd.method).1
  have X0 : Stand p l e ({ frames := 0, cells := 1, slots := 7, locals := 0 } : Room) s m #[(.int (0 : Int32))] below meth cO s₁ [] 0 0 := Stand.of_body Bd
  have e0 : s₁.heap = h0 := by rw [← hh, Bd.state]; rfl
  have N0 := Fr.nil n0
  have W0 : ∀ zQ, SS p e below s₁ m 0 #[.val (.int (0 : Int32))] [] zQ → Steps p.tables e below (s₁.setTop (entryFrame m #[(.int (0 : Int32))] 1)) zQ := fun tt kt => castTop (ef_prefix0 m (0 : Int32)) kt
  obtain ⟨T101, h101, k101, X101, e101, E101, A101, st101⟩ := newP X0 hx hZ (aty := .char) (w9 hw) e0 (g := (mkF m 6 #[.val (.int (0 : Int32))] [(.int (7 : Int32))])) rfl (hb hby d_method_3_6) (n := (7 : Int32)) rfl (by decide) (cap := 7) (by decide) (by decide) (by decide) (by decide)
  obtain ⟨b101, g101⟩ : ∃ z, z = h0.size := ⟨_, rfl⟩
  rw [← g101] at A101 st101
  have K101 := (Keep.refl h0 []).ext E101
  have G101 : Arv Z h101 b101 k101 .char (7 : Int32) [(.int (0 : Int32)), (.int (0 : Int32)), (.int (0 : Int32)), (.int (0 : Int32)), (.int (0 : Int32)), (.int (0 : Int32)), (.int (0 : Int32))] (.int (0 : Int32)) := (Arv.new A101 (by decide)).pad (pad_rep [] (.int (0 : Int32)) 7)
  obtain ⟨cl102, Ar102, q102, S102, M102, H102, F102g⟩ := id G101
  have hin102 : ¬ ((0 : Int32) < 0 ∨ cl102.slots.size ≤ ((0 : Int32)).toNatClampNeg) := inb_of S102 ⟨by decide, by decide⟩
  obtain ⟨T102, h102, X102, e102, Wr102, st102⟩ := stC X101 hx hZ e101 Ar102 (j := (0 : Int32)) hin102 (g := (mkF m 12 #[.val (.int (0 : Int32))] [(.int (115 : Int32)), (.int (0 : Int32)), (.ref b101), (.ref b101)])) rfl rfl (hb hby d_method_3_12)
  have G102 : Arv Z h102 b101 k101 .char (7 : Int32) [(.int (115 : Int32)), (.int (0 : Int32)), (.int (0 : Int32)), (.int (0 : Int32)), (.int (0 : Int32)), (.int (0 : Int32)), (.int (0 : Int32))] (.int (0 : Int32)) := Arv.set Ar102 q102 S102 M102 H102 F102g (fits_nar_char _) Wr102 0 rfl (Nat.le_of_ble_eq_true rfl)
  have K102 := Keep.of_wr Wr102
  have N102 := Fr.snoc X102 N0 (Nat.le_trans Z0 (Nat.le_of_eq g101.symm))
  obtain ⟨cl103, Ar103, q103, S103, M103, H103, F103g⟩ := id G102
  have hin103 : ¬ ((1 : Int32) < 0 ∨ cl103.slots.size ≤ ((1 : Int32)).toNatClampNeg) := inb_of S103 ⟨by decide, by decide⟩
  obtain ⟨T103, h103, X103, e103, Wr103, st103⟩ := stC X102 hx hZ e102 Ar103 (j := (1 : Int32)) hin103 (g := (mkF m 17 #[.val (.int (0 : Int32))] [(.int (116 : Int32)), (.int (1 : Int32)), (.ref b101), (.ref b101)])) rfl rfl (hb hby d_method_3_17)
  have G103 : Arv Z h103 b101 k101 .char (7 : Int32) [(.int (115 : Int32)), (.int (116 : Int32)), (.int (0 : Int32)), (.int (0 : Int32)), (.int (0 : Int32)), (.int (0 : Int32)), (.int (0 : Int32))] (.int (0 : Int32)) := Arv.set Ar103 q103 S103 M103 H103 F103g (fits_nar_char _) Wr103 1 rfl (Nat.le_of_ble_eq_true rfl)
  have K103 := Keep.of_wr Wr103
  have N103 := Fr.snoc X103 N102 (Nat.le_trans Z0 (Nat.le_of_eq g101.symm))
  obtain ⟨cl104, Ar104, q104, S104, M104, H104, F104g⟩ := id G103
  have hin104 : ¬ ((2 : Int32) < 0 ∨ cl104.slots.size ≤ ((2 : Int32)).toNatClampNeg) := inb_of S104 ⟨by decide, by decide⟩
  obtain ⟨T104, h104, X104, e104, Wr104, st104⟩ := stC X103 hx hZ e103 Ar104 (j := (2 : Int32)) hin104 (g := (mkF m 22 #[.val (.int (0 : Int32))] [(.int (97 : Int32)), (.int (2 : Int32)), (.ref b101), (.ref b101)])) rfl rfl (hb hby d_method_3_22)
  have G104 : Arv Z h104 b101 k101 .char (7 : Int32) [(.int (115 : Int32)), (.int (116 : Int32)), (.int (97 : Int32)), (.int (0 : Int32)), (.int (0 : Int32)), (.int (0 : Int32)), (.int (0 : Int32))] (.int (0 : Int32)) := Arv.set Ar104 q104 S104 M104 H104 F104g (fits_nar_char _) Wr104 2 rfl (Nat.le_of_ble_eq_true rfl)
  have K104 := Keep.of_wr Wr104
  have N104 := Fr.snoc X104 N103 (Nat.le_trans Z0 (Nat.le_of_eq g101.symm))
  obtain ⟨cl105, Ar105, q105, S105, M105, H105, F105g⟩ := id G104
  have hin105 : ¬ ((3 : Int32) < 0 ∨ cl105.slots.size ≤ ((3 : Int32)).toNatClampNeg) := inb_of S105 ⟨by decide, by decide⟩
  obtain ⟨T105, h105, X105, e105, Wr105, st105⟩ := stC X104 hx hZ e104 Ar105 (j := (3 : Int32)) hin105 (g := (mkF m 27 #[.val (.int (0 : Int32))] [(.int (110 : Int32)), (.int (3 : Int32)), (.ref b101), (.ref b101)])) rfl rfl (hb hby d_method_3_27)
  have G105 : Arv Z h105 b101 k101 .char (7 : Int32) [(.int (115 : Int32)), (.int (116 : Int32)), (.int (97 : Int32)), (.int (110 : Int32)), (.int (0 : Int32)), (.int (0 : Int32)), (.int (0 : Int32))] (.int (0 : Int32)) := Arv.set Ar105 q105 S105 M105 H105 F105g (fits_nar_char _) Wr105 3 rfl (Nat.le_of_ble_eq_true rfl)
  have K105 := Keep.of_wr Wr105
  have N105 := Fr.snoc X105 N104 (Nat.le_trans Z0 (Nat.le_of_eq g101.symm))
  obtain ⟨cl106, Ar106, q106, S106, M106, H106, F106g⟩ := id G105
  have hin106 : ¬ ((4 : Int32) < 0 ∨ cl106.slots.size ≤ ((4 : Int32)).toNatClampNeg) := inb_of S106 ⟨by decide, by decide⟩
  obtain ⟨T106, h106, X106, e106, Wr106, st106⟩ := stC X105 hx hZ e105 Ar106 (j := (4 : Int32)) hin106 (g := (mkF m 32 #[.val (.int (0 : Int32))] [(.int (100 : Int32)), (.int (4 : Int32)), (.ref b101), (.ref b101)])) rfl rfl (hb hby d_method_3_32)
  have G106 : Arv Z h106 b101 k101 .char (7 : Int32) [(.int (115 : Int32)), (.int (116 : Int32)), (.int (97 : Int32)), (.int (110 : Int32)), (.int (100 : Int32)), (.int (0 : Int32)), (.int (0 : Int32))] (.int (0 : Int32)) := Arv.set Ar106 q106 S106 M106 H106 F106g (fits_nar_char _) Wr106 4 rfl (Nat.le_of_ble_eq_true rfl)
  have K106 := Keep.of_wr Wr106
  have N106 := Fr.snoc X106 N105 (Nat.le_trans Z0 (Nat.le_of_eq g101.symm))
  obtain ⟨cl107, Ar107, q107, S107, M107, H107, F107g⟩ := id G106
  have hin107 : ¬ ((5 : Int32) < 0 ∨ cl107.slots.size ≤ ((5 : Int32)).toNatClampNeg) := inb_of S107 ⟨by decide, by decide⟩
  obtain ⟨T107, h107, X107, e107, Wr107, st107⟩ := stC X106 hx hZ e106 Ar107 (j := (5 : Int32)) hin107 (g := (mkF m 37 #[.val (.int (0 : Int32))] [(.int (97 : Int32)), (.int (5 : Int32)), (.ref b101), (.ref b101)])) rfl rfl (hb hby d_method_3_37)
  have G107 : Arv Z h107 b101 k101 .char (7 : Int32) [(.int (115 : Int32)), (.int (116 : Int32)), (.int (97 : Int32)), (.int (110 : Int32)), (.int (100 : Int32)), (.int (97 : Int32)), (.int (0 : Int32))] (.int (0 : Int32)) := Arv.set Ar107 q107 S107 M107 H107 F107g (fits_nar_char _) Wr107 5 rfl (Nat.le_of_ble_eq_true rfl)
  have K107 := Keep.of_wr Wr107
  have N107 := Fr.snoc X107 N106 (Nat.le_trans Z0 (Nat.le_of_eq g101.symm))
  obtain ⟨cl108, Ar108, q108, S108, M108, H108, F108g⟩ := id G107
  have hin108 : ¬ ((6 : Int32) < 0 ∨ cl108.slots.size ≤ ((6 : Int32)).toNatClampNeg) := inb_of S108 ⟨by decide, by decide⟩
  obtain ⟨T108, h108, X108, e108, Wr108, st108⟩ := stC X107 hx hZ e107 Ar108 (j := (6 : Int32)) hin108 (g := (mkF m 43 #[.val (.int (0 : Int32))] [(.int (114 : Int32)), (.int (6 : Int32)), (.ref b101), (.ref b101)])) rfl rfl (hb hby d_method_3_43)
  have G108 : Arv Z h108 b101 k101 .char (7 : Int32) [(.int (115 : Int32)), (.int (116 : Int32)), (.int (97 : Int32)), (.int (110 : Int32)), (.int (100 : Int32)), (.int (97 : Int32)), (.int (114 : Int32))] (.int (0 : Int32)) := Arv.set Ar108 q108 S108 M108 H108 F108g (fits_nar_char _) Wr108 6 rfl (Nat.le_of_ble_eq_true rfl)
  have K108 := Keep.of_wr Wr108
  have N108 := Fr.snoc X108 N107 (Nat.le_trans Z0 (Nat.le_of_eq g101.symm))
  have W109 : ∀ zQ, SS p e below T108 m 44 #[.val (.int (0 : Int32))] [(.ref b101)] zQ → Steps p.tables e below (s₁.setTop (entryFrame m #[(.int (0 : Int32))] 1)) zQ := by
    intro tt kt
    refine W0 tt ?_
    refine XS.iloadN X0.here hx rfl (hb hby d_method_3_0) rfl ?_
    refine XS.ifNo X0.here hx rfl (hb hby d_method_3_1) rfl ((if0 _ _).trans (teq (by decide)).2) ?_
    refine XS.bipush X0.here hx rfl (hb hby d_method_3_4) ?_
    show SS p e below s₁ m 6 #[.val (.int (0 : Int32))] [(.int (7 : Int32))] _
    refine st101 _ ?_
    refine XS.dup X101.here hx rfl (hb hby d_method_3_8) rfl rfl ?_
    refine XS.iconst X101.here hx rfl (hb hby d_method_3_9) ?_
    refine XS.bipush X101.here hx rfl (hb hby d_method_3_10) ?_
    show SS p e below T101 m 12 #[.val (.int (0 : Int32))] [(.int (115 : Int32)), (.int (0 : Int32)), (.ref b101), (.ref b101)] _
    refine st102 _ ?_
    refine XS.dup X102.here hx rfl (hb hby d_method_3_13) rfl rfl ?_
    refine XS.iconst X102.here hx rfl (hb hby d_method_3_14) ?_
    refine XS.bipush X102.here hx rfl (hb hby d_method_3_15) ?_
    show SS p e below T102 m 17 #[.val (.int (0 : Int32))] [(.int (116 : Int32)), (.int (1 : Int32)), (.ref b101), (.ref b101)] _
    refine st103 _ ?_
    refine XS.dup X103.here hx rfl (hb hby d_method_3_18) rfl rfl ?_
    refine XS.iconst X103.here hx rfl (hb hby d_method_3_19) ?_
    refine XS.bipush X103.here hx rfl (hb hby d_method_3_20) ?_
    show SS p e below T103 m 22 #[.val (.int (0 : Int32))] [(.int (97 : Int32)), (.int (2 : Int32)), (.ref b101), (.ref b101)] _
    refine st104 _ ?_
    refine XS.dup X104.here hx rfl (hb hby d_method_3_23) rfl rfl ?_
    refine XS.iconst X104.here hx rfl (hb hby d_method_3_24) ?_
    refine XS.bipush X104.here hx rfl (hb hby d_method_3_25) ?_
    show SS p e below T104 m 27 #[.val (.int (0 : Int32))] [(.int (110 : Int32)), (.int (3 : Int32)), (.ref b101), (.ref b101)] _
    refine st105 _ ?_
    refine XS.dup X105.here hx rfl (hb hby d_method_3_28) rfl rfl ?_
    refine XS.iconst X105.here hx rfl (hb hby d_method_3_29) ?_
    refine XS.bipush X105.here hx rfl (hb hby d_method_3_30) ?_
    show SS p e below T105 m 32 #[.val (.int (0 : Int32))] [(.int (100 : Int32)), (.int (4 : Int32)), (.ref b101), (.ref b101)] _
    refine st106 _ ?_
    refine XS.dup X106.here hx rfl (hb hby d_method_3_33) rfl rfl ?_
    refine XS.iconst X106.here hx rfl (hb hby d_method_3_34) ?_
    refine XS.bipush X106.here hx rfl (hb hby d_method_3_35) ?_
    show SS p e below T106 m 37 #[.val (.int (0 : Int32))] [(.int (97 : Int32)), (.int (5 : Int32)), (.ref b101), (.ref b101)] _
    refine st107 _ ?_
    refine XS.dup X107.here hx rfl (hb hby d_method_3_38) rfl rfl ?_
    refine XS.bipush X107.here hx rfl (hb hby d_method_3_39) ?_
    refine XS.bipush X107.here hx rfl (hb hby d_method_3_41) ?_
    show SS p e below T107 m 43 #[.val (.int (0 : Int32))] [(.int (114 : Int32)), (.int (6 : Int32)), (.ref b101), (.ref b101)] _
    refine st108 _ ?_
    exact kt
  obtain ⟨fs, hr, hrun, hended, hW, hsame⟩ := X108.leave (v := some (.ref b101)) (fun h => by rw [Bd.returns] at h; cases h)
  refine ⟨_, _, W109 _ (own_retR X108 hx Bd.returns rfl rfl (hb hby d_method_3_44) hr), hrun, hended, _, _, rfl, ?_, ⟨_, rfl⟩, hW, hsame.mono (by decide) (by decide)⟩
  show Q_prefix0 Z  h0 n0 _ T108.heap _
  rw [e108]
  exact ⟨b101, k101, rfl, N108, (Keep.trans (Keep.trans (Keep.trans (Keep.trans (Keep.trans (Keep.trans (Keep.trans (Keep.trans (Keep.refl h0 []) K101 all0) K102 (allS (Or.inr (Nat.le_of_eq g101.symm)) all0)) K103 (allS (Or.inr (Nat.le_of_eq g101.symm)) all0)) K104 (allS (Or.inr (Nat.le_of_eq g101.symm)) all0)) K105 (allS (Or.inr (Nat.le_of_eq g101.symm)) all0)) K106 (allS (Or.inr (Nat.le_of_eq g101.symm)) all0)) K107 (allS (Or.inr (Nat.le_of_eq g101.symm)) all0)) K108 (allS (Or.inr (Nat.le_of_eq g101.symm)) all0)), (Nat.le_of_eq g101.symm), G108⟩
def Q_extended0 (Z : State) (c : Int32) (h0 : Heap) (n0 : Nat) (vQ_ : Option Value) (hQ_ : Heap) (LQ_ : List Loc) : Prop := ∃ r : Addr, ∃ kr : ClassId, vQ_ = some (.ref r) ∧ Fr n0 LQ_ ∧ Keep h0 hQ_ [] ∧ h0.size ≤ r ∧ Arv Z hQ_ r kr .char (9 : Int32) [(.int (115 : Int32)), (.int (116 : Int32)), (.int (97 : Int32)), (.int (110 : Int32)), (.int (100 : Int32)), (.int (97 : Int32)), (.int (114 : Int32)), (.int (100 : Int32)), (.int c)] (.int (0 : Int32))
set_option maxRecDepth 65536 in
set_option maxHeartbeats 40000000 in
theorem rm_extended0 (l : Launch) (Z : State) (a0 : Array Value) (hw : HW a0 Z) (ws : List Jvm.Cond) (c : Int32) (h0 : Heap) (n0 : Nat) (Z0 : n0 ≤ h0.size) (hc : B8 c) :
    MetFree l yn13 (head1 (Jvm.Cond.code yn13 method_4_code 2 (some (.array .char)) :: ws) ({ frames := 0, cells := 1, slots := 9, locals := 0 } : Room)) (fun aQ_ UQ => aQ_ = #[(.int (0 : Int32)), (.int c)] ∧ Z.Warmed39 UQ.vm ∧ UQ.heap = h0) (fun _ _ _ _ _ => True) (fun _ UQ oQ UQ' => ∃ vQ_ LQ_, oQ = .returned vQ_ ∧ Q_extended0 Z c h0 n0 vQ_ UQ'.heap LQ_ ∧ FrameEnd UQ oQ UQ' LQ_ ({ frames := 0, cells := 1, slots := 9, locals := 0 } : Room).cells ({ frames := 0, cells := 1, slots := 9, locals := 0 } : Room).slots) := by
  refine MetFree.of_bodySF (plainFor_of_name pn_com_example_composition_composition_definition_AbapLanguageVersionOfJsonNamePinLaw) hisR ?_
  intro p e s m args below meth cO s₁ Bd hml0 hP hK
  obtain ⟨rfl, hZ, hh⟩ := hP
  have hx := Bd.exec
  have hby := Bd.bytes
  have hml : cO.maxLocals = 2 := hml0
  have hown : s.vm.findClass "com/example/composition/composition/definition/AbapLanguageVersionOfJsonNamePinLaw" = some m.cls := findClass_of_methodNamed Bd.named
  have hnm := (name_of_methodNamed Bd.named Bd.method).1
  have X0 : Stand p l e ({ frames := 0, cells := 1, slots := 9, locals := 0 } : Room) s m #[(.int (0 : Int32)), (.int c)] below meth cO s₁ [] 0 0 := Stand.of_body Bd
  have e0 : s₁.heap = h0 := by rw [← hh, Bd.state]; rfl
  have N0 := Fr.nil n0
  have W0 : ∀ zQ, SS p e below s₁ m 0 #[.val (.int (0 : Int32)), .val (.int c)] [] zQ → Steps p.tables e below (s₁.setTop (entryFrame m #[(.int (0 : Int32)), (.int c)] 2)) zQ := fun tt kt => castTop (ef_extended0 m (0 : Int32) c) kt
  obtain ⟨T101, h101, k101, X101, e101, E101, A101, st101⟩ := newP X0 hx hZ (aty := .char) (w9 hw) e0 (g := (mkF m 6 #[.val (.int (0 : Int32)), .val (.int c)] [(.int (9 : Int32))])) rfl (hb hby d_method_4_6) (n := (9 : Int32)) rfl (by decide) (cap := 9) (by decide) (by decide) (by decide) (by decide)
  obtain ⟨b101, g101⟩ : ∃ z, z = h0.size := ⟨_, rfl⟩
  rw [← g101] at A101 st101
  have K101 := (Keep.refl h0 []).ext E101
  have G101 : Arv Z h101 b101 k101 .char (9 : Int32) [(.int (0 : Int32)), (.int (0 : Int32)), (.int (0 : Int32)), (.int (0 : Int32)), (.int (0 : Int32)), (.int (0 : Int32)), (.int (0 : Int32)), (.int (0 : Int32)), (.int (0 : Int32))] (.int (0 : Int32)) := (Arv.new A101 (by decide)).pad (pad_rep [] (.int (0 : Int32)) 9)
  obtain ⟨cl102, Ar102, q102, S102, M102, H102, F102g⟩ := id G101
  have hin102 : ¬ ((0 : Int32) < 0 ∨ cl102.slots.size ≤ ((0 : Int32)).toNatClampNeg) := inb_of S102 ⟨by decide, by decide⟩
  obtain ⟨T102, h102, X102, e102, Wr102, st102⟩ := stC X101 hx hZ e101 Ar102 (j := (0 : Int32)) hin102 (g := (mkF m 12 #[.val (.int (0 : Int32)), .val (.int c)] [(.int (115 : Int32)), (.int (0 : Int32)), (.ref b101), (.ref b101)])) rfl rfl (hb hby d_method_4_12)
  have G102 : Arv Z h102 b101 k101 .char (9 : Int32) [(.int (115 : Int32)), (.int (0 : Int32)), (.int (0 : Int32)), (.int (0 : Int32)), (.int (0 : Int32)), (.int (0 : Int32)), (.int (0 : Int32)), (.int (0 : Int32)), (.int (0 : Int32))] (.int (0 : Int32)) := Arv.set Ar102 q102 S102 M102 H102 F102g (fits_nar_char _) Wr102 0 rfl (Nat.le_of_ble_eq_true rfl)
  have K102 := Keep.of_wr Wr102
  have N102 := Fr.snoc X102 N0 (Nat.le_trans Z0 (Nat.le_of_eq g101.symm))
  have J102 : Arv Z h102 b101 k101 .char (9 : Int32) [(.int (115 : Int32)), (.int (0 : Int32)), (.int (0 : Int32)), (.int (0 : Int32)), (.int (0 : Int32)), (.int (0 : Int32)), (.int (0 : Int32)), (.int (0 : Int32)), (.int (0 : Int32))] (.int (0 : Int32)) := by first | exact G102 | (rw [own_nar8 hc] at G102; exact G102)
  obtain ⟨cl103, Ar103, q103, S103, M103, H103, F103g⟩ := id J102
  have hin103 : ¬ ((1 : Int32) < 0 ∨ cl103.slots.size ≤ ((1 : Int32)).toNatClampNeg) := inb_of S103 ⟨by decide, by decide⟩
  obtain ⟨T103, h103, X103, e103, Wr103, st103⟩ := stC X102 hx hZ e102 Ar103 (j := (1 : Int32)) hin103 (g := (mkF m 17 #[.val (.int (0 : Int32)), .val (.int c)] [(.int (116 : Int32)), (.int (1 : Int32)), (.ref b101), (.ref b101)])) rfl rfl (hb hby d_method_4_17)
  have G103 : Arv Z h103 b101 k101 .char (9 : Int32) [(.int (115 : Int32)), (.int (116 : Int32)), (.int (0 : Int32)), (.int (0 : Int32)), (.int (0 : Int32)), (.int (0 : Int32)), (.int (0 : Int32)), (.int (0 : Int32)), (.int (0 : Int32))] (.int (0 : Int32)) := Arv.set Ar103 q103 S103 M103 H103 F103g (fits_nar_char _) Wr103 1 rfl (Nat.le_of_ble_eq_true rfl)
  have K103 := Keep.of_wr Wr103
  have N103 := Fr.snoc X103 N102 (Nat.le_trans Z0 (Nat.le_of_eq g101.symm))
  have J103 : Arv Z h103 b101 k101 .char (9 : Int32) [(.int (115 : Int32)), (.int (116 : Int32)), (.int (0 : Int32)), (.int (0 : Int32)), (.int (0 : Int32)), (.int (0 : Int32)), (.int (0 : Int32)), (.int (0 : Int32)), (.int (0 : Int32))] (.int (0 : Int32)) := by first | exact G103 | (rw [own_nar8 hc] at G103; exact G103)
  obtain ⟨cl104, Ar104, q104, S104, M104, H104, F104g⟩ := id J103
  have hin104 : ¬ ((2 : Int32) < 0 ∨ cl104.slots.size ≤ ((2 : Int32)).toNatClampNeg) := inb_of S104 ⟨by decide, by decide⟩
  obtain ⟨T104, h104, X104, e104, Wr104, st104⟩ := stC X103 hx hZ e103 Ar104 (j := (2 : Int32)) hin104 (g := (mkF m 22 #[.val (.int (0 : Int32)), .val (.int c)] [(.int (97 : Int32)), (.int (2 : Int32)), (.ref b101), (.ref b101)])) rfl rfl (hb hby d_method_4_22)
  have G104 : Arv Z h104 b101 k101 .char (9 : Int32) [(.int (115 : Int32)), (.int (116 : Int32)), (.int (97 : Int32)), (.int (0 : Int32)), (.int (0 : Int32)), (.int (0 : Int32)), (.int (0 : Int32)), (.int (0 : Int32)), (.int (0 : Int32))] (.int (0 : Int32)) := Arv.set Ar104 q104 S104 M104 H104 F104g (fits_nar_char _) Wr104 2 rfl (Nat.le_of_ble_eq_true rfl)
  have K104 := Keep.of_wr Wr104
  have N104 := Fr.snoc X104 N103 (Nat.le_trans Z0 (Nat.le_of_eq g101.symm))
  have J104 : Arv Z h104 b101 k101 .char (9 : Int32) [(.int (115 : Int32)), (.int (116 : Int32)), (.int (97 : Int32)), (.int (0 : Int32)), (.int (0 : Int32)), (.int (0 : Int32)), (.int (0 : Int32)), (.int (0 : Int32)), (.int (0 : Int32))] (.int (0 : Int32)) := by first | exact G104 | (rw [own_nar8 hc] at G104; exact G104)
  obtain ⟨cl105, Ar105, q105, S105, M105, H105, F105g⟩ := id J104
  have hin105 : ¬ ((3 : Int32) < 0 ∨ cl105.slots.size ≤ ((3 : Int32)).toNatClampNeg) := inb_of S105 ⟨by decide, by decide⟩
  obtain ⟨T105, h105, X105, e105, Wr105, st105⟩ := stC X104 hx hZ e104 Ar105 (j := (3 : Int32)) hin105 (g := (mkF m 27 #[.val (.int (0 : Int32)), .val (.int c)] [(.int (110 : Int32)), (.int (3 : Int32)), (.ref b101), (.ref b101)])) rfl rfl (hb hby d_method_4_27)
  have G105 : Arv Z h105 b101 k101 .char (9 : Int32) [(.int (115 : Int32)), (.int (116 : Int32)), (.int (97 : Int32)), (.int (110 : Int32)), (.int (0 : Int32)), (.int (0 : Int32)), (.int (0 : Int32)), (.int (0 : Int32)), (.int (0 : Int32))] (.int (0 : Int32)) := Arv.set Ar105 q105 S105 M105 H105 F105g (fits_nar_char _) Wr105 3 rfl (Nat.le_of_ble_eq_true rfl)
  have K105 := Keep.of_wr Wr105
  have N105 := Fr.snoc X105 N104 (Nat.le_trans Z0 (Nat.le_of_eq g101.symm))
  have J105 : Arv Z h105 b101 k101 .char (9 : Int32) [(.int (115 : Int32)), (.int (116 : Int32)), (.int (97 : Int32)), (.int (110 : Int32)), (.int (0 : Int32)), (.int (0 : Int32)), (.int (0 : Int32)), (.int (0 : Int32)), (.int (0 : Int32))] (.int (0 : Int32)) := by first | exact G105 | (rw [own_nar8 hc] at G105; exact G105)
  obtain ⟨cl106, Ar106, q106, S106, M106, H106, F106g⟩ := id J105
  have hin106 : ¬ ((4 : Int32) < 0 ∨ cl106.slots.size ≤ ((4 : Int32)).toNatClampNeg) := inb_of S106 ⟨by decide, by decide⟩
  obtain ⟨T106, h106, X106, e106, Wr106, st106⟩ := stC X105 hx hZ e105 Ar106 (j := (4 : Int32)) hin106 (g := (mkF m 32 #[.val (.int (0 : Int32)), .val (.int c)] [(.int (100 : Int32)), (.int (4 : Int32)), (.ref b101), (.ref b101)])) rfl rfl (hb hby d_method_4_32)
  have G106 : Arv Z h106 b101 k101 .char (9 : Int32) [(.int (115 : Int32)), (.int (116 : Int32)), (.int (97 : Int32)), (.int (110 : Int32)), (.int (100 : Int32)), (.int (0 : Int32)), (.int (0 : Int32)), (.int (0 : Int32)), (.int (0 : Int32))] (.int (0 : Int32)) := Arv.set Ar106 q106 S106 M106 H106 F106g (fits_nar_char _) Wr106 4 rfl (Nat.le_of_ble_eq_true rfl)
  have K106 := Keep.of_wr Wr106
  have N106 := Fr.snoc X106 N105 (Nat.le_trans Z0 (Nat.le_of_eq g101.symm))
  have J106 : Arv Z h106 b101 k101 .char (9 : Int32) [(.int (115 : Int32)), (.int (116 : Int32)), (.int (97 : Int32)), (.int (110 : Int32)), (.int (100 : Int32)), (.int (0 : Int32)), (.int (0 : Int32)), (.int (0 : Int32)), (.int (0 : Int32))] (.int (0 : Int32)) := by first | exact G106 | (rw [own_nar8 hc] at G106; exact G106)
  obtain ⟨cl107, Ar107, q107, S107, M107, H107, F107g⟩ := id J106
  have hin107 : ¬ ((5 : Int32) < 0 ∨ cl107.slots.size ≤ ((5 : Int32)).toNatClampNeg) := inb_of S107 ⟨by decide, by decide⟩
  obtain ⟨T107, h107, X107, e107, Wr107, st107⟩ := stC X106 hx hZ e106 Ar107 (j := (5 : Int32)) hin107 (g := (mkF m 37 #[.val (.int (0 : Int32)), .val (.int c)] [(.int (97 : Int32)), (.int (5 : Int32)), (.ref b101), (.ref b101)])) rfl rfl (hb hby d_method_4_37)
  have G107 : Arv Z h107 b101 k101 .char (9 : Int32) [(.int (115 : Int32)), (.int (116 : Int32)), (.int (97 : Int32)), (.int (110 : Int32)), (.int (100 : Int32)), (.int (97 : Int32)), (.int (0 : Int32)), (.int (0 : Int32)), (.int (0 : Int32))] (.int (0 : Int32)) := Arv.set Ar107 q107 S107 M107 H107 F107g (fits_nar_char _) Wr107 5 rfl (Nat.le_of_ble_eq_true rfl)
  have K107 := Keep.of_wr Wr107
  have N107 := Fr.snoc X107 N106 (Nat.le_trans Z0 (Nat.le_of_eq g101.symm))
  have J107 : Arv Z h107 b101 k101 .char (9 : Int32) [(.int (115 : Int32)), (.int (116 : Int32)), (.int (97 : Int32)), (.int (110 : Int32)), (.int (100 : Int32)), (.int (97 : Int32)), (.int (0 : Int32)), (.int (0 : Int32)), (.int (0 : Int32))] (.int (0 : Int32)) := by first | exact G107 | (rw [own_nar8 hc] at G107; exact G107)
  obtain ⟨cl108, Ar108, q108, S108, M108, H108, F108g⟩ := id J107
  have hin108 : ¬ ((6 : Int32) < 0 ∨ cl108.slots.size ≤ ((6 : Int32)).toNatClampNeg) := inb_of S108 ⟨by decide, by decide⟩
  obtain ⟨T108, h108, X108, e108, Wr108, st108⟩ := stC X107 hx hZ e107 Ar108 (j := (6 : Int32)) hin108 (g := (mkF m 43 #[.val (.int (0 : Int32)), .val (.int c)] [(.int (114 : Int32)), (.int (6 : Int32)), (.ref b101), (.ref b101)])) rfl rfl (hb hby d_method_4_43)
  have G108 : Arv Z h108 b101 k101 .char (9 : Int32) [(.int (115 : Int32)), (.int (116 : Int32)), (.int (97 : Int32)), (.int (110 : Int32)), (.int (100 : Int32)), (.int (97 : Int32)), (.int (114 : Int32)), (.int (0 : Int32)), (.int (0 : Int32))] (.int (0 : Int32)) := Arv.set Ar108 q108 S108 M108 H108 F108g (fits_nar_char _) Wr108 6 rfl (Nat.le_of_ble_eq_true rfl)
  have K108 := Keep.of_wr Wr108
  have N108 := Fr.snoc X108 N107 (Nat.le_trans Z0 (Nat.le_of_eq g101.symm))
  have J108 : Arv Z h108 b101 k101 .char (9 : Int32) [(.int (115 : Int32)), (.int (116 : Int32)), (.int (97 : Int32)), (.int (110 : Int32)), (.int (100 : Int32)), (.int (97 : Int32)), (.int (114 : Int32)), (.int (0 : Int32)), (.int (0 : Int32))] (.int (0 : Int32)) := by first | exact G108 | (rw [own_nar8 hc] at G108; exact G108)
  obtain ⟨cl109, Ar109, q109, S109, M109, H109, F109g⟩ := id J108
  have hin109 : ¬ ((7 : Int32) < 0 ∨ cl109.slots.size ≤ ((7 : Int32)).toNatClampNeg) := inb_of S109 ⟨by decide, by decide⟩
  obtain ⟨T109, h109, X109, e109, Wr109, st109⟩ := stC X108 hx hZ e108 Ar109 (j := (7 : Int32)) hin109 (g := (mkF m 49 #[.val (.int (0 : Int32)), .val (.int c)] [(.int (100 : Int32)), (.int (7 : Int32)), (.ref b101), (.ref b101)])) rfl rfl (hb hby d_method_4_49)
  have G109 : Arv Z h109 b101 k101 .char (9 : Int32) [(.int (115 : Int32)), (.int (116 : Int32)), (.int (97 : Int32)), (.int (110 : Int32)), (.int (100 : Int32)), (.int (97 : Int32)), (.int (114 : Int32)), (.int (100 : Int32)), (.int (0 : Int32))] (.int (0 : Int32)) := Arv.set Ar109 q109 S109 M109 H109 F109g (fits_nar_char _) Wr109 7 rfl (Nat.le_of_ble_eq_true rfl)
  have K109 := Keep.of_wr Wr109
  have N109 := Fr.snoc X109 N108 (Nat.le_trans Z0 (Nat.le_of_eq g101.symm))
  have J109 : Arv Z h109 b101 k101 .char (9 : Int32) [(.int (115 : Int32)), (.int (116 : Int32)), (.int (97 : Int32)), (.int (110 : Int32)), (.int (100 : Int32)), (.int (97 : Int32)), (.int (114 : Int32)), (.int (100 : Int32)), (.int (0 : Int32))] (.int (0 : Int32)) := by first | exact G109 | (rw [own_nar8 hc] at G109; exact G109)
  obtain ⟨cl110, Ar110, q110, S110, M110, H110, F110g⟩ := id J109
  have hin110 : ¬ ((8 : Int32) < 0 ∨ cl110.slots.size ≤ ((8 : Int32)).toNatClampNeg) := inb_of S110 ⟨by decide, by decide⟩
  obtain ⟨T110, h110, X110, e110, Wr110, st110⟩ := stC X109 hx hZ e109 Ar110 (j := (8 : Int32)) hin110 (g := (mkF m 54 #[.val (.int (0 : Int32)), .val (.int c)] [(.int c), (.int (8 : Int32)), (.ref b101), (.ref b101)])) rfl rfl (hb hby d_method_4_54)
  have G110 : Arv Z h110 b101 k101 .char (9 : Int32) [(.int (115 : Int32)), (.int (116 : Int32)), (.int (97 : Int32)), (.int (110 : Int32)), (.int (100 : Int32)), (.int (97 : Int32)), (.int (114 : Int32)), (.int (100 : Int32)), (.int (nar .char c))] (.int (0 : Int32)) := Arv.set Ar110 q110 S110 M110 H110 F110g (fits_nar_char _) Wr110 8 rfl (Nat.le_of_ble_eq_true rfl)
  have K110 := Keep.of_wr Wr110
  have N110 := Fr.snoc X110 N109 (Nat.le_trans Z0 (Nat.le_of_eq g101.symm))
  have J110 : Arv Z h110 b101 k101 .char (9 : Int32) [(.int (115 : Int32)), (.int (116 : Int32)), (.int (97 : Int32)), (.int (110 : Int32)), (.int (100 : Int32)), (.int (97 : Int32)), (.int (114 : Int32)), (.int (100 : Int32)), (.int c)] (.int (0 : Int32)) := by first | exact G110 | (rw [own_nar8 hc] at G110; exact G110)
  have W111 : ∀ zQ, SS p e below T110 m 55 #[.val (.int (0 : Int32)), .val (.int c)] [(.ref b101)] zQ → Steps p.tables e below (s₁.setTop (entryFrame m #[(.int (0 : Int32)), (.int c)] 2)) zQ := by
    intro tt kt
    refine W0 tt ?_
    refine XS.iloadN X0.here hx rfl (hb hby d_method_4_0) rfl ?_
    refine XS.ifNo X0.here hx rfl (hb hby d_method_4_1) rfl ((if0 _ _).trans (teq (by decide)).2) ?_
    refine XS.bipush X0.here hx rfl (hb hby d_method_4_4) ?_
    show SS p e below s₁ m 6 #[.val (.int (0 : Int32)), .val (.int c)] [(.int (9 : Int32))] _
    refine st101 _ ?_
    refine XS.dup X101.here hx rfl (hb hby d_method_4_8) rfl rfl ?_
    refine XS.iconst X101.here hx rfl (hb hby d_method_4_9) ?_
    refine XS.bipush X101.here hx rfl (hb hby d_method_4_10) ?_
    show SS p e below T101 m 12 #[.val (.int (0 : Int32)), .val (.int c)] [(.int (115 : Int32)), (.int (0 : Int32)), (.ref b101), (.ref b101)] _
    refine st102 _ ?_
    refine XS.dup X102.here hx rfl (hb hby d_method_4_13) rfl rfl ?_
    refine XS.iconst X102.here hx rfl (hb hby d_method_4_14) ?_
    refine XS.bipush X102.here hx rfl (hb hby d_method_4_15) ?_
    show SS p e below T102 m 17 #[.val (.int (0 : Int32)), .val (.int c)] [(.int (116 : Int32)), (.int (1 : Int32)), (.ref b101), (.ref b101)] _
    refine st103 _ ?_
    refine XS.dup X103.here hx rfl (hb hby d_method_4_18) rfl rfl ?_
    refine XS.iconst X103.here hx rfl (hb hby d_method_4_19) ?_
    refine XS.bipush X103.here hx rfl (hb hby d_method_4_20) ?_
    show SS p e below T103 m 22 #[.val (.int (0 : Int32)), .val (.int c)] [(.int (97 : Int32)), (.int (2 : Int32)), (.ref b101), (.ref b101)] _
    refine st104 _ ?_
    refine XS.dup X104.here hx rfl (hb hby d_method_4_23) rfl rfl ?_
    refine XS.iconst X104.here hx rfl (hb hby d_method_4_24) ?_
    refine XS.bipush X104.here hx rfl (hb hby d_method_4_25) ?_
    show SS p e below T104 m 27 #[.val (.int (0 : Int32)), .val (.int c)] [(.int (110 : Int32)), (.int (3 : Int32)), (.ref b101), (.ref b101)] _
    refine st105 _ ?_
    refine XS.dup X105.here hx rfl (hb hby d_method_4_28) rfl rfl ?_
    refine XS.iconst X105.here hx rfl (hb hby d_method_4_29) ?_
    refine XS.bipush X105.here hx rfl (hb hby d_method_4_30) ?_
    show SS p e below T105 m 32 #[.val (.int (0 : Int32)), .val (.int c)] [(.int (100 : Int32)), (.int (4 : Int32)), (.ref b101), (.ref b101)] _
    refine st106 _ ?_
    refine XS.dup X106.here hx rfl (hb hby d_method_4_33) rfl rfl ?_
    refine XS.iconst X106.here hx rfl (hb hby d_method_4_34) ?_
    refine XS.bipush X106.here hx rfl (hb hby d_method_4_35) ?_
    show SS p e below T106 m 37 #[.val (.int (0 : Int32)), .val (.int c)] [(.int (97 : Int32)), (.int (5 : Int32)), (.ref b101), (.ref b101)] _
    refine st107 _ ?_
    refine XS.dup X107.here hx rfl (hb hby d_method_4_38) rfl rfl ?_
    refine XS.bipush X107.here hx rfl (hb hby d_method_4_39) ?_
    refine XS.bipush X107.here hx rfl (hb hby d_method_4_41) ?_
    show SS p e below T107 m 43 #[.val (.int (0 : Int32)), .val (.int c)] [(.int (114 : Int32)), (.int (6 : Int32)), (.ref b101), (.ref b101)] _
    refine st108 _ ?_
    refine XS.dup X108.here hx rfl (hb hby d_method_4_44) rfl rfl ?_
    refine XS.bipush X108.here hx rfl (hb hby d_method_4_45) ?_
    refine XS.bipush X108.here hx rfl (hb hby d_method_4_47) ?_
    show SS p e below T108 m 49 #[.val (.int (0 : Int32)), .val (.int c)] [(.int (100 : Int32)), (.int (7 : Int32)), (.ref b101), (.ref b101)] _
    refine st109 _ ?_
    refine XS.dup X109.here hx rfl (hb hby d_method_4_50) rfl rfl ?_
    refine XS.bipush X109.here hx rfl (hb hby d_method_4_51) ?_
    refine XS.iloadN X109.here hx rfl (hb hby d_method_4_53) rfl ?_
    show SS p e below T109 m 54 #[.val (.int (0 : Int32)), .val (.int c)] [(.int c), (.int (8 : Int32)), (.ref b101), (.ref b101)] _
    refine st110 _ ?_
    exact kt
  obtain ⟨fs, hr, hrun, hended, hW, hsame⟩ := X110.leave (v := some (.ref b101)) (fun h => by rw [Bd.returns] at h; cases h)
  refine ⟨_, _, W111 _ (own_retR X110 hx Bd.returns rfl rfl (hb hby d_method_4_55) hr), hrun, hended, _, _, rfl, ?_, ⟨_, rfl⟩, hW, hsame.mono (by decide) (by decide)⟩
  show Q_extended0 Z c h0 n0 _ T110.heap _
  rw [e110]
  exact ⟨b101, k101, rfl, N110, (Keep.trans (Keep.trans (Keep.trans (Keep.trans (Keep.trans (Keep.trans (Keep.trans (Keep.trans (Keep.trans (Keep.trans (Keep.refl h0 []) K101 all0) K102 (allS (Or.inr (Nat.le_of_eq g101.symm)) all0)) K103 (allS (Or.inr (Nat.le_of_eq g101.symm)) all0)) K104 (allS (Or.inr (Nat.le_of_eq g101.symm)) all0)) K105 (allS (Or.inr (Nat.le_of_eq g101.symm)) all0)) K106 (allS (Or.inr (Nat.le_of_eq g101.symm)) all0)) K107 (allS (Or.inr (Nat.le_of_eq g101.symm)) all0)) K108 (allS (Or.inr (Nat.le_of_eq g101.symm)) all0)) K109 (allS (Or.inr (Nat.le_of_eq g101.symm)) all0)) K110 (allS (Or.inr (Nat.le_of_eq g101.symm)) all0)), (Nat.le_of_eq g101.symm), J110⟩
def Q_full1 (Z : State)  (h0 : Heap) (n0 : Nat) (vQ_ : Option Value) (hQ_ : Heap) (LQ_ : List Loc) : Prop := ∃ r : Addr, ∃ kr : ClassId, vQ_ = some (.ref r) ∧ Fr n0 LQ_ ∧ Keep h0 hQ_ [] ∧ h0.size ≤ r ∧ Arv Z hQ_ r kr .char (7 : Int32) [(.int (107 : Int32)), (.int (101 : Int32)), (.int (121 : Int32)), (.int (85 : Int32)), (.int (115 : Int32)), (.int (101 : Int32)), (.int (114 : Int32))] (.int (0 : Int32))
set_option maxRecDepth 65536 in
set_option maxHeartbeats 40000000 in
theorem rm_full1 (l : Launch) (Z : State) (a0 : Array Value) (hw : HW a0 Z) (ws : List Jvm.Cond)  (h0 : Heap) (n0 : Nat) (Z0 : n0 ≤ h0.size)  :
    MetFree l yn11 (head1 (Jvm.Cond.code yn11 method_2_code 1 (some (.array .char)) :: ws) ({ frames := 0, cells := 1, slots := 7, locals := 0 } : Room)) (fun aQ_ UQ => aQ_ = #[(.int (1 : Int32))] ∧ Z.Warmed39 UQ.vm ∧ UQ.heap = h0) (fun _ _ _ _ _ => True) (fun _ UQ oQ UQ' => ∃ vQ_ LQ_, oQ = .returned vQ_ ∧ Q_full1 Z  h0 n0 vQ_ UQ'.heap LQ_ ∧ FrameEnd UQ oQ UQ' LQ_ ({ frames := 0, cells := 1, slots := 7, locals := 0 } : Room).cells ({ frames := 0, cells := 1, slots := 7, locals := 0 } : Room).slots) := by
  refine MetFree.of_bodySF (plainFor_of_name pn_com_example_composition_composition_definition_AbapLanguageVersionOfJsonNamePinLaw) hisR ?_
  intro p e s m args below meth cO s₁ Bd hml0 hP hK
  obtain ⟨rfl, hZ, hh⟩ := hP
  have hx := Bd.exec
  have hby := Bd.bytes
  have hml : cO.maxLocals = 1 := hml0
  have hown : s.vm.findClass "com/example/composition/composition/definition/AbapLanguageVersionOfJsonNamePinLaw" = some m.cls := findClass_of_methodNamed Bd.named
  have hnm := (name_of_methodNamed Bd.named Bd.method).1
  have X0 : Stand p l e ({ frames := 0, cells := 1, slots := 7, locals := 0 } : Room) s m #[(.int (1 : Int32))] below meth cO s₁ [] 0 0 := Stand.of_body Bd
  have e0 : s₁.heap = h0 := by rw [← hh, Bd.state]; rfl
  have N0 := Fr.nil n0
  have W0 : ∀ zQ, SS p e below s₁ m 0 #[.val (.int (1 : Int32))] [] zQ → Steps p.tables e below (s₁.setTop (entryFrame m #[(.int (1 : Int32))] 1)) zQ := fun tt kt => castTop (ef_full1 m (1 : Int32)) kt
  obtain ⟨T101, h101, k101, X101, e101, E101, A101, st101⟩ := newP X0 hx hZ (aty := .char) (w9 hw) e0 (g := (mkF m 58 #[.val (.int (1 : Int32))] [(.int (7 : Int32))])) rfl (hb hby d_method_2_58) (n := (7 : Int32)) rfl (by decide) (cap := 7) (by decide) (by decide) (by decide) (by decide)
  obtain ⟨b101, g101⟩ : ∃ z, z = h0.size := ⟨_, rfl⟩
  rw [← g101] at A101 st101
  have K101 := (Keep.refl h0 []).ext E101
  have G101 : Arv Z h101 b101 k101 .char (7 : Int32) [(.int (0 : Int32)), (.int (0 : Int32)), (.int (0 : Int32)), (.int (0 : Int32)), (.int (0 : Int32)), (.int (0 : Int32)), (.int (0 : Int32))] (.int (0 : Int32)) := (Arv.new A101 (by decide)).pad (pad_rep [] (.int (0 : Int32)) 7)
  obtain ⟨cl102, Ar102, q102, S102, M102, H102, F102g⟩ := id G101
  have hin102 : ¬ ((0 : Int32) < 0 ∨ cl102.slots.size ≤ ((0 : Int32)).toNatClampNeg) := inb_of S102 ⟨by decide, by decide⟩
  obtain ⟨T102, h102, X102, e102, Wr102, st102⟩ := stC X101 hx hZ e101 Ar102 (j := (0 : Int32)) hin102 (g := (mkF m 64 #[.val (.int (1 : Int32))] [(.int (107 : Int32)), (.int (0 : Int32)), (.ref b101), (.ref b101)])) rfl rfl (hb hby d_method_2_64)
  have G102 : Arv Z h102 b101 k101 .char (7 : Int32) [(.int (107 : Int32)), (.int (0 : Int32)), (.int (0 : Int32)), (.int (0 : Int32)), (.int (0 : Int32)), (.int (0 : Int32)), (.int (0 : Int32))] (.int (0 : Int32)) := Arv.set Ar102 q102 S102 M102 H102 F102g (fits_nar_char _) Wr102 0 rfl (Nat.le_of_ble_eq_true rfl)
  have K102 := Keep.of_wr Wr102
  have N102 := Fr.snoc X102 N0 (Nat.le_trans Z0 (Nat.le_of_eq g101.symm))
  obtain ⟨cl103, Ar103, q103, S103, M103, H103, F103g⟩ := id G102
  have hin103 : ¬ ((1 : Int32) < 0 ∨ cl103.slots.size ≤ ((1 : Int32)).toNatClampNeg) := inb_of S103 ⟨by decide, by decide⟩
  obtain ⟨T103, h103, X103, e103, Wr103, st103⟩ := stC X102 hx hZ e102 Ar103 (j := (1 : Int32)) hin103 (g := (mkF m 69 #[.val (.int (1 : Int32))] [(.int (101 : Int32)), (.int (1 : Int32)), (.ref b101), (.ref b101)])) rfl rfl (hb hby d_method_2_69)
  have G103 : Arv Z h103 b101 k101 .char (7 : Int32) [(.int (107 : Int32)), (.int (101 : Int32)), (.int (0 : Int32)), (.int (0 : Int32)), (.int (0 : Int32)), (.int (0 : Int32)), (.int (0 : Int32))] (.int (0 : Int32)) := Arv.set Ar103 q103 S103 M103 H103 F103g (fits_nar_char _) Wr103 1 rfl (Nat.le_of_ble_eq_true rfl)
  have K103 := Keep.of_wr Wr103
  have N103 := Fr.snoc X103 N102 (Nat.le_trans Z0 (Nat.le_of_eq g101.symm))
  obtain ⟨cl104, Ar104, q104, S104, M104, H104, F104g⟩ := id G103
  have hin104 : ¬ ((2 : Int32) < 0 ∨ cl104.slots.size ≤ ((2 : Int32)).toNatClampNeg) := inb_of S104 ⟨by decide, by decide⟩
  obtain ⟨T104, h104, X104, e104, Wr104, st104⟩ := stC X103 hx hZ e103 Ar104 (j := (2 : Int32)) hin104 (g := (mkF m 74 #[.val (.int (1 : Int32))] [(.int (121 : Int32)), (.int (2 : Int32)), (.ref b101), (.ref b101)])) rfl rfl (hb hby d_method_2_74)
  have G104 : Arv Z h104 b101 k101 .char (7 : Int32) [(.int (107 : Int32)), (.int (101 : Int32)), (.int (121 : Int32)), (.int (0 : Int32)), (.int (0 : Int32)), (.int (0 : Int32)), (.int (0 : Int32))] (.int (0 : Int32)) := Arv.set Ar104 q104 S104 M104 H104 F104g (fits_nar_char _) Wr104 2 rfl (Nat.le_of_ble_eq_true rfl)
  have K104 := Keep.of_wr Wr104
  have N104 := Fr.snoc X104 N103 (Nat.le_trans Z0 (Nat.le_of_eq g101.symm))
  obtain ⟨cl105, Ar105, q105, S105, M105, H105, F105g⟩ := id G104
  have hin105 : ¬ ((3 : Int32) < 0 ∨ cl105.slots.size ≤ ((3 : Int32)).toNatClampNeg) := inb_of S105 ⟨by decide, by decide⟩
  obtain ⟨T105, h105, X105, e105, Wr105, st105⟩ := stC X104 hx hZ e104 Ar105 (j := (3 : Int32)) hin105 (g := (mkF m 79 #[.val (.int (1 : Int32))] [(.int (85 : Int32)), (.int (3 : Int32)), (.ref b101), (.ref b101)])) rfl rfl (hb hby d_method_2_79)
  have G105 : Arv Z h105 b101 k101 .char (7 : Int32) [(.int (107 : Int32)), (.int (101 : Int32)), (.int (121 : Int32)), (.int (85 : Int32)), (.int (0 : Int32)), (.int (0 : Int32)), (.int (0 : Int32))] (.int (0 : Int32)) := Arv.set Ar105 q105 S105 M105 H105 F105g (fits_nar_char _) Wr105 3 rfl (Nat.le_of_ble_eq_true rfl)
  have K105 := Keep.of_wr Wr105
  have N105 := Fr.snoc X105 N104 (Nat.le_trans Z0 (Nat.le_of_eq g101.symm))
  obtain ⟨cl106, Ar106, q106, S106, M106, H106, F106g⟩ := id G105
  have hin106 : ¬ ((4 : Int32) < 0 ∨ cl106.slots.size ≤ ((4 : Int32)).toNatClampNeg) := inb_of S106 ⟨by decide, by decide⟩
  obtain ⟨T106, h106, X106, e106, Wr106, st106⟩ := stC X105 hx hZ e105 Ar106 (j := (4 : Int32)) hin106 (g := (mkF m 84 #[.val (.int (1 : Int32))] [(.int (115 : Int32)), (.int (4 : Int32)), (.ref b101), (.ref b101)])) rfl rfl (hb hby d_method_2_84)
  have G106 : Arv Z h106 b101 k101 .char (7 : Int32) [(.int (107 : Int32)), (.int (101 : Int32)), (.int (121 : Int32)), (.int (85 : Int32)), (.int (115 : Int32)), (.int (0 : Int32)), (.int (0 : Int32))] (.int (0 : Int32)) := Arv.set Ar106 q106 S106 M106 H106 F106g (fits_nar_char _) Wr106 4 rfl (Nat.le_of_ble_eq_true rfl)
  have K106 := Keep.of_wr Wr106
  have N106 := Fr.snoc X106 N105 (Nat.le_trans Z0 (Nat.le_of_eq g101.symm))
  obtain ⟨cl107, Ar107, q107, S107, M107, H107, F107g⟩ := id G106
  have hin107 : ¬ ((5 : Int32) < 0 ∨ cl107.slots.size ≤ ((5 : Int32)).toNatClampNeg) := inb_of S107 ⟨by decide, by decide⟩
  obtain ⟨T107, h107, X107, e107, Wr107, st107⟩ := stC X106 hx hZ e106 Ar107 (j := (5 : Int32)) hin107 (g := (mkF m 89 #[.val (.int (1 : Int32))] [(.int (101 : Int32)), (.int (5 : Int32)), (.ref b101), (.ref b101)])) rfl rfl (hb hby d_method_2_89)
  have G107 : Arv Z h107 b101 k101 .char (7 : Int32) [(.int (107 : Int32)), (.int (101 : Int32)), (.int (121 : Int32)), (.int (85 : Int32)), (.int (115 : Int32)), (.int (101 : Int32)), (.int (0 : Int32))] (.int (0 : Int32)) := Arv.set Ar107 q107 S107 M107 H107 F107g (fits_nar_char _) Wr107 5 rfl (Nat.le_of_ble_eq_true rfl)
  have K107 := Keep.of_wr Wr107
  have N107 := Fr.snoc X107 N106 (Nat.le_trans Z0 (Nat.le_of_eq g101.symm))
  obtain ⟨cl108, Ar108, q108, S108, M108, H108, F108g⟩ := id G107
  have hin108 : ¬ ((6 : Int32) < 0 ∨ cl108.slots.size ≤ ((6 : Int32)).toNatClampNeg) := inb_of S108 ⟨by decide, by decide⟩
  obtain ⟨T108, h108, X108, e108, Wr108, st108⟩ := stC X107 hx hZ e107 Ar108 (j := (6 : Int32)) hin108 (g := (mkF m 95 #[.val (.int (1 : Int32))] [(.int (114 : Int32)), (.int (6 : Int32)), (.ref b101), (.ref b101)])) rfl rfl (hb hby d_method_2_95)
  have G108 : Arv Z h108 b101 k101 .char (7 : Int32) [(.int (107 : Int32)), (.int (101 : Int32)), (.int (121 : Int32)), (.int (85 : Int32)), (.int (115 : Int32)), (.int (101 : Int32)), (.int (114 : Int32))] (.int (0 : Int32)) := Arv.set Ar108 q108 S108 M108 H108 F108g (fits_nar_char _) Wr108 6 rfl (Nat.le_of_ble_eq_true rfl)
  have K108 := Keep.of_wr Wr108
  have N108 := Fr.snoc X108 N107 (Nat.le_trans Z0 (Nat.le_of_eq g101.symm))
  have W109 : ∀ zQ, SS p e below T108 m 96 #[.val (.int (1 : Int32))] [(.ref b101)] zQ → Steps p.tables e below (s₁.setTop (entryFrame m #[(.int (1 : Int32))] 1)) zQ := by
    intro tt kt
    refine W0 tt ?_
    refine XS.iloadN X0.here hx rfl (hb hby d_method_2_0) rfl ?_
    refine XS.ifYes X0.here hx rfl (pc0 := 1) (pc' := 51) rfl (hb hby d_method_2_1) rfl ((if0 _ _).trans (feq (by decide)).2) (by decide) (by decide) ?_
    refine XS.iloadN X0.here hx rfl (hb hby d_method_2_51) rfl ?_
    refine XS.iconst X0.here hx rfl (hb hby d_method_2_52) ?_
    refine XS.icmpNo X0.here hx rfl (hb hby d_method_2_53) rfl (teq (by decide)).2 ?_
    refine XS.bipush X0.here hx rfl (hb hby d_method_2_56) ?_
    show SS p e below s₁ m 58 #[.val (.int (1 : Int32))] [(.int (7 : Int32))] _
    refine st101 _ ?_
    refine XS.dup X101.here hx rfl (hb hby d_method_2_60) rfl rfl ?_
    refine XS.iconst X101.here hx rfl (hb hby d_method_2_61) ?_
    refine XS.bipush X101.here hx rfl (hb hby d_method_2_62) ?_
    show SS p e below T101 m 64 #[.val (.int (1 : Int32))] [(.int (107 : Int32)), (.int (0 : Int32)), (.ref b101), (.ref b101)] _
    refine st102 _ ?_
    refine XS.dup X102.here hx rfl (hb hby d_method_2_65) rfl rfl ?_
    refine XS.iconst X102.here hx rfl (hb hby d_method_2_66) ?_
    refine XS.bipush X102.here hx rfl (hb hby d_method_2_67) ?_
    show SS p e below T102 m 69 #[.val (.int (1 : Int32))] [(.int (101 : Int32)), (.int (1 : Int32)), (.ref b101), (.ref b101)] _
    refine st103 _ ?_
    refine XS.dup X103.here hx rfl (hb hby d_method_2_70) rfl rfl ?_
    refine XS.iconst X103.here hx rfl (hb hby d_method_2_71) ?_
    refine XS.bipush X103.here hx rfl (hb hby d_method_2_72) ?_
    show SS p e below T103 m 74 #[.val (.int (1 : Int32))] [(.int (121 : Int32)), (.int (2 : Int32)), (.ref b101), (.ref b101)] _
    refine st104 _ ?_
    refine XS.dup X104.here hx rfl (hb hby d_method_2_75) rfl rfl ?_
    refine XS.iconst X104.here hx rfl (hb hby d_method_2_76) ?_
    refine XS.bipush X104.here hx rfl (hb hby d_method_2_77) ?_
    show SS p e below T104 m 79 #[.val (.int (1 : Int32))] [(.int (85 : Int32)), (.int (3 : Int32)), (.ref b101), (.ref b101)] _
    refine st105 _ ?_
    refine XS.dup X105.here hx rfl (hb hby d_method_2_80) rfl rfl ?_
    refine XS.iconst X105.here hx rfl (hb hby d_method_2_81) ?_
    refine XS.bipush X105.here hx rfl (hb hby d_method_2_82) ?_
    show SS p e below T105 m 84 #[.val (.int (1 : Int32))] [(.int (115 : Int32)), (.int (4 : Int32)), (.ref b101), (.ref b101)] _
    refine st106 _ ?_
    refine XS.dup X106.here hx rfl (hb hby d_method_2_85) rfl rfl ?_
    refine XS.iconst X106.here hx rfl (hb hby d_method_2_86) ?_
    refine XS.bipush X106.here hx rfl (hb hby d_method_2_87) ?_
    show SS p e below T106 m 89 #[.val (.int (1 : Int32))] [(.int (101 : Int32)), (.int (5 : Int32)), (.ref b101), (.ref b101)] _
    refine st107 _ ?_
    refine XS.dup X107.here hx rfl (hb hby d_method_2_90) rfl rfl ?_
    refine XS.bipush X107.here hx rfl (hb hby d_method_2_91) ?_
    refine XS.bipush X107.here hx rfl (hb hby d_method_2_93) ?_
    show SS p e below T107 m 95 #[.val (.int (1 : Int32))] [(.int (114 : Int32)), (.int (6 : Int32)), (.ref b101), (.ref b101)] _
    refine st108 _ ?_
    exact kt
  obtain ⟨fs, hr, hrun, hended, hW, hsame⟩ := X108.leave (v := some (.ref b101)) (fun h => by rw [Bd.returns] at h; cases h)
  refine ⟨_, _, W109 _ (own_retR X108 hx Bd.returns rfl rfl (hb hby d_method_2_96) hr), hrun, hended, _, _, rfl, ?_, ⟨_, rfl⟩, hW, hsame.mono (by decide) (by decide)⟩
  show Q_full1 Z  h0 n0 _ T108.heap _
  rw [e108]
  exact ⟨b101, k101, rfl, N108, (Keep.trans (Keep.trans (Keep.trans (Keep.trans (Keep.trans (Keep.trans (Keep.trans (Keep.trans (Keep.refl h0 []) K101 all0) K102 (allS (Or.inr (Nat.le_of_eq g101.symm)) all0)) K103 (allS (Or.inr (Nat.le_of_eq g101.symm)) all0)) K104 (allS (Or.inr (Nat.le_of_eq g101.symm)) all0)) K105 (allS (Or.inr (Nat.le_of_eq g101.symm)) all0)) K106 (allS (Or.inr (Nat.le_of_eq g101.symm)) all0)) K107 (allS (Or.inr (Nat.le_of_eq g101.symm)) all0)) K108 (allS (Or.inr (Nat.le_of_eq g101.symm)) all0)), (Nat.le_of_eq g101.symm), G108⟩
def Q_prefix1 (Z : State)  (h0 : Heap) (n0 : Nat) (vQ_ : Option Value) (hQ_ : Heap) (LQ_ : List Loc) : Prop := ∃ r : Addr, ∃ kr : ClassId, vQ_ = some (.ref r) ∧ Fr n0 LQ_ ∧ Keep h0 hQ_ [] ∧ h0.size ≤ r ∧ Arv Z hQ_ r kr .char (6 : Int32) [(.int (107 : Int32)), (.int (101 : Int32)), (.int (121 : Int32)), (.int (85 : Int32)), (.int (115 : Int32)), (.int (101 : Int32))] (.int (0 : Int32))
set_option maxRecDepth 65536 in
set_option maxHeartbeats 40000000 in
theorem rm_prefix1 (l : Launch) (Z : State) (a0 : Array Value) (hw : HW a0 Z) (ws : List Jvm.Cond)  (h0 : Heap) (n0 : Nat) (Z0 : n0 ≤ h0.size)  :
    MetFree l yn12 (head1 (Jvm.Cond.code yn12 method_3_code 1 (some (.array .char)) :: ws) ({ frames := 0, cells := 1, slots := 6, locals := 0 } : Room)) (fun aQ_ UQ => aQ_ = #[(.int (1 : Int32))] ∧ Z.Warmed39 UQ.vm ∧ UQ.heap = h0) (fun _ _ _ _ _ => True) (fun _ UQ oQ UQ' => ∃ vQ_ LQ_, oQ = .returned vQ_ ∧ Q_prefix1 Z  h0 n0 vQ_ UQ'.heap LQ_ ∧ FrameEnd UQ oQ UQ' LQ_ ({ frames := 0, cells := 1, slots := 6, locals := 0 } : Room).cells ({ frames := 0, cells := 1, slots := 6, locals := 0 } : Room).slots) := by
  refine MetFree.of_bodySF (plainFor_of_name pn_com_example_composition_composition_definition_AbapLanguageVersionOfJsonNamePinLaw) hisR ?_
  intro p e s m args below meth cO s₁ Bd hml0 hP hK
  obtain ⟨rfl, hZ, hh⟩ := hP
  have hx := Bd.exec
  have hby := Bd.bytes
  have hml : cO.maxLocals = 1 := hml0
  have hown : s.vm.findClass "com/example/composition/composition/definition/AbapLanguageVersionOfJsonNamePinLaw" = some m.cls := findClass_of_methodNamed Bd.named
  have hnm := (name_of_methodNamed Bd.named Bd.method).1
  have X0 : Stand p l e ({ frames := 0, cells := 1, slots := 6, locals := 0 } : Room) s m #[(.int (1 : Int32))] below meth cO s₁ [] 0 0 := Stand.of_body Bd
  have e0 : s₁.heap = h0 := by rw [← hh, Bd.state]; rfl
  have N0 := Fr.nil n0
  have W0 : ∀ zQ, SS p e below s₁ m 0 #[.val (.int (1 : Int32))] [] zQ → Steps p.tables e below (s₁.setTop (entryFrame m #[(.int (1 : Int32))] 1)) zQ := fun tt kt => castTop (ef_prefix1 m (1 : Int32)) kt
  obtain ⟨T101, h101, k101, X101, e101, E101, A101, st101⟩ := newP X0 hx hZ (aty := .char) (w9 hw) e0 (g := (mkF m 52 #[.val (.int (1 : Int32))] [(.int (6 : Int32))])) rfl (hb hby d_method_3_52) (n := (6 : Int32)) rfl (by decide) (cap := 6) (by decide) (by decide) (by decide) (by decide)
  obtain ⟨b101, g101⟩ : ∃ z, z = h0.size := ⟨_, rfl⟩
  rw [← g101] at A101 st101
  have K101 := (Keep.refl h0 []).ext E101
  have G101 : Arv Z h101 b101 k101 .char (6 : Int32) [(.int (0 : Int32)), (.int (0 : Int32)), (.int (0 : Int32)), (.int (0 : Int32)), (.int (0 : Int32)), (.int (0 : Int32))] (.int (0 : Int32)) := (Arv.new A101 (by decide)).pad (pad_rep [] (.int (0 : Int32)) 6)
  obtain ⟨cl102, Ar102, q102, S102, M102, H102, F102g⟩ := id G101
  have hin102 : ¬ ((0 : Int32) < 0 ∨ cl102.slots.size ≤ ((0 : Int32)).toNatClampNeg) := inb_of S102 ⟨by decide, by decide⟩
  obtain ⟨T102, h102, X102, e102, Wr102, st102⟩ := stC X101 hx hZ e101 Ar102 (j := (0 : Int32)) hin102 (g := (mkF m 58 #[.val (.int (1 : Int32))] [(.int (107 : Int32)), (.int (0 : Int32)), (.ref b101), (.ref b101)])) rfl rfl (hb hby d_method_3_58)
  have G102 : Arv Z h102 b101 k101 .char (6 : Int32) [(.int (107 : Int32)), (.int (0 : Int32)), (.int (0 : Int32)), (.int (0 : Int32)), (.int (0 : Int32)), (.int (0 : Int32))] (.int (0 : Int32)) := Arv.set Ar102 q102 S102 M102 H102 F102g (fits_nar_char _) Wr102 0 rfl (Nat.le_of_ble_eq_true rfl)
  have K102 := Keep.of_wr Wr102
  have N102 := Fr.snoc X102 N0 (Nat.le_trans Z0 (Nat.le_of_eq g101.symm))
  obtain ⟨cl103, Ar103, q103, S103, M103, H103, F103g⟩ := id G102
  have hin103 : ¬ ((1 : Int32) < 0 ∨ cl103.slots.size ≤ ((1 : Int32)).toNatClampNeg) := inb_of S103 ⟨by decide, by decide⟩
  obtain ⟨T103, h103, X103, e103, Wr103, st103⟩ := stC X102 hx hZ e102 Ar103 (j := (1 : Int32)) hin103 (g := (mkF m 63 #[.val (.int (1 : Int32))] [(.int (101 : Int32)), (.int (1 : Int32)), (.ref b101), (.ref b101)])) rfl rfl (hb hby d_method_3_63)
  have G103 : Arv Z h103 b101 k101 .char (6 : Int32) [(.int (107 : Int32)), (.int (101 : Int32)), (.int (0 : Int32)), (.int (0 : Int32)), (.int (0 : Int32)), (.int (0 : Int32))] (.int (0 : Int32)) := Arv.set Ar103 q103 S103 M103 H103 F103g (fits_nar_char _) Wr103 1 rfl (Nat.le_of_ble_eq_true rfl)
  have K103 := Keep.of_wr Wr103
  have N103 := Fr.snoc X103 N102 (Nat.le_trans Z0 (Nat.le_of_eq g101.symm))
  obtain ⟨cl104, Ar104, q104, S104, M104, H104, F104g⟩ := id G103
  have hin104 : ¬ ((2 : Int32) < 0 ∨ cl104.slots.size ≤ ((2 : Int32)).toNatClampNeg) := inb_of S104 ⟨by decide, by decide⟩
  obtain ⟨T104, h104, X104, e104, Wr104, st104⟩ := stC X103 hx hZ e103 Ar104 (j := (2 : Int32)) hin104 (g := (mkF m 68 #[.val (.int (1 : Int32))] [(.int (121 : Int32)), (.int (2 : Int32)), (.ref b101), (.ref b101)])) rfl rfl (hb hby d_method_3_68)
  have G104 : Arv Z h104 b101 k101 .char (6 : Int32) [(.int (107 : Int32)), (.int (101 : Int32)), (.int (121 : Int32)), (.int (0 : Int32)), (.int (0 : Int32)), (.int (0 : Int32))] (.int (0 : Int32)) := Arv.set Ar104 q104 S104 M104 H104 F104g (fits_nar_char _) Wr104 2 rfl (Nat.le_of_ble_eq_true rfl)
  have K104 := Keep.of_wr Wr104
  have N104 := Fr.snoc X104 N103 (Nat.le_trans Z0 (Nat.le_of_eq g101.symm))
  obtain ⟨cl105, Ar105, q105, S105, M105, H105, F105g⟩ := id G104
  have hin105 : ¬ ((3 : Int32) < 0 ∨ cl105.slots.size ≤ ((3 : Int32)).toNatClampNeg) := inb_of S105 ⟨by decide, by decide⟩
  obtain ⟨T105, h105, X105, e105, Wr105, st105⟩ := stC X104 hx hZ e104 Ar105 (j := (3 : Int32)) hin105 (g := (mkF m 73 #[.val (.int (1 : Int32))] [(.int (85 : Int32)), (.int (3 : Int32)), (.ref b101), (.ref b101)])) rfl rfl (hb hby d_method_3_73)
  have G105 : Arv Z h105 b101 k101 .char (6 : Int32) [(.int (107 : Int32)), (.int (101 : Int32)), (.int (121 : Int32)), (.int (85 : Int32)), (.int (0 : Int32)), (.int (0 : Int32))] (.int (0 : Int32)) := Arv.set Ar105 q105 S105 M105 H105 F105g (fits_nar_char _) Wr105 3 rfl (Nat.le_of_ble_eq_true rfl)
  have K105 := Keep.of_wr Wr105
  have N105 := Fr.snoc X105 N104 (Nat.le_trans Z0 (Nat.le_of_eq g101.symm))
  obtain ⟨cl106, Ar106, q106, S106, M106, H106, F106g⟩ := id G105
  have hin106 : ¬ ((4 : Int32) < 0 ∨ cl106.slots.size ≤ ((4 : Int32)).toNatClampNeg) := inb_of S106 ⟨by decide, by decide⟩
  obtain ⟨T106, h106, X106, e106, Wr106, st106⟩ := stC X105 hx hZ e105 Ar106 (j := (4 : Int32)) hin106 (g := (mkF m 78 #[.val (.int (1 : Int32))] [(.int (115 : Int32)), (.int (4 : Int32)), (.ref b101), (.ref b101)])) rfl rfl (hb hby d_method_3_78)
  have G106 : Arv Z h106 b101 k101 .char (6 : Int32) [(.int (107 : Int32)), (.int (101 : Int32)), (.int (121 : Int32)), (.int (85 : Int32)), (.int (115 : Int32)), (.int (0 : Int32))] (.int (0 : Int32)) := Arv.set Ar106 q106 S106 M106 H106 F106g (fits_nar_char _) Wr106 4 rfl (Nat.le_of_ble_eq_true rfl)
  have K106 := Keep.of_wr Wr106
  have N106 := Fr.snoc X106 N105 (Nat.le_trans Z0 (Nat.le_of_eq g101.symm))
  obtain ⟨cl107, Ar107, q107, S107, M107, H107, F107g⟩ := id G106
  have hin107 : ¬ ((5 : Int32) < 0 ∨ cl107.slots.size ≤ ((5 : Int32)).toNatClampNeg) := inb_of S107 ⟨by decide, by decide⟩
  obtain ⟨T107, h107, X107, e107, Wr107, st107⟩ := stC X106 hx hZ e106 Ar107 (j := (5 : Int32)) hin107 (g := (mkF m 83 #[.val (.int (1 : Int32))] [(.int (101 : Int32)), (.int (5 : Int32)), (.ref b101), (.ref b101)])) rfl rfl (hb hby d_method_3_83)
  have G107 : Arv Z h107 b101 k101 .char (6 : Int32) [(.int (107 : Int32)), (.int (101 : Int32)), (.int (121 : Int32)), (.int (85 : Int32)), (.int (115 : Int32)), (.int (101 : Int32))] (.int (0 : Int32)) := Arv.set Ar107 q107 S107 M107 H107 F107g (fits_nar_char _) Wr107 5 rfl (Nat.le_of_ble_eq_true rfl)
  have K107 := Keep.of_wr Wr107
  have N107 := Fr.snoc X107 N106 (Nat.le_trans Z0 (Nat.le_of_eq g101.symm))
  have W108 : ∀ zQ, SS p e below T107 m 84 #[.val (.int (1 : Int32))] [(.ref b101)] zQ → Steps p.tables e below (s₁.setTop (entryFrame m #[(.int (1 : Int32))] 1)) zQ := by
    intro tt kt
    refine W0 tt ?_
    refine XS.iloadN X0.here hx rfl (hb hby d_method_3_0) rfl ?_
    refine XS.ifYes X0.here hx rfl (pc0 := 1) (pc' := 45) rfl (hb hby d_method_3_1) rfl ((if0 _ _).trans (feq (by decide)).2) (by decide) (by decide) ?_
    refine XS.iloadN X0.here hx rfl (hb hby d_method_3_45) rfl ?_
    refine XS.iconst X0.here hx rfl (hb hby d_method_3_46) ?_
    refine XS.icmpNo X0.here hx rfl (hb hby d_method_3_47) rfl (teq (by decide)).2 ?_
    refine XS.bipush X0.here hx rfl (hb hby d_method_3_50) ?_
    show SS p e below s₁ m 52 #[.val (.int (1 : Int32))] [(.int (6 : Int32))] _
    refine st101 _ ?_
    refine XS.dup X101.here hx rfl (hb hby d_method_3_54) rfl rfl ?_
    refine XS.iconst X101.here hx rfl (hb hby d_method_3_55) ?_
    refine XS.bipush X101.here hx rfl (hb hby d_method_3_56) ?_
    show SS p e below T101 m 58 #[.val (.int (1 : Int32))] [(.int (107 : Int32)), (.int (0 : Int32)), (.ref b101), (.ref b101)] _
    refine st102 _ ?_
    refine XS.dup X102.here hx rfl (hb hby d_method_3_59) rfl rfl ?_
    refine XS.iconst X102.here hx rfl (hb hby d_method_3_60) ?_
    refine XS.bipush X102.here hx rfl (hb hby d_method_3_61) ?_
    show SS p e below T102 m 63 #[.val (.int (1 : Int32))] [(.int (101 : Int32)), (.int (1 : Int32)), (.ref b101), (.ref b101)] _
    refine st103 _ ?_
    refine XS.dup X103.here hx rfl (hb hby d_method_3_64) rfl rfl ?_
    refine XS.iconst X103.here hx rfl (hb hby d_method_3_65) ?_
    refine XS.bipush X103.here hx rfl (hb hby d_method_3_66) ?_
    show SS p e below T103 m 68 #[.val (.int (1 : Int32))] [(.int (121 : Int32)), (.int (2 : Int32)), (.ref b101), (.ref b101)] _
    refine st104 _ ?_
    refine XS.dup X104.here hx rfl (hb hby d_method_3_69) rfl rfl ?_
    refine XS.iconst X104.here hx rfl (hb hby d_method_3_70) ?_
    refine XS.bipush X104.here hx rfl (hb hby d_method_3_71) ?_
    show SS p e below T104 m 73 #[.val (.int (1 : Int32))] [(.int (85 : Int32)), (.int (3 : Int32)), (.ref b101), (.ref b101)] _
    refine st105 _ ?_
    refine XS.dup X105.here hx rfl (hb hby d_method_3_74) rfl rfl ?_
    refine XS.iconst X105.here hx rfl (hb hby d_method_3_75) ?_
    refine XS.bipush X105.here hx rfl (hb hby d_method_3_76) ?_
    show SS p e below T105 m 78 #[.val (.int (1 : Int32))] [(.int (115 : Int32)), (.int (4 : Int32)), (.ref b101), (.ref b101)] _
    refine st106 _ ?_
    refine XS.dup X106.here hx rfl (hb hby d_method_3_79) rfl rfl ?_
    refine XS.iconst X106.here hx rfl (hb hby d_method_3_80) ?_
    refine XS.bipush X106.here hx rfl (hb hby d_method_3_81) ?_
    show SS p e below T106 m 83 #[.val (.int (1 : Int32))] [(.int (101 : Int32)), (.int (5 : Int32)), (.ref b101), (.ref b101)] _
    refine st107 _ ?_
    exact kt
  obtain ⟨fs, hr, hrun, hended, hW, hsame⟩ := X107.leave (v := some (.ref b101)) (fun h => by rw [Bd.returns] at h; cases h)
  refine ⟨_, _, W108 _ (own_retR X107 hx Bd.returns rfl rfl (hb hby d_method_3_84) hr), hrun, hended, _, _, rfl, ?_, ⟨_, rfl⟩, hW, hsame.mono (by decide) (by decide)⟩
  show Q_prefix1 Z  h0 n0 _ T107.heap _
  rw [e107]
  exact ⟨b101, k101, rfl, N107, (Keep.trans (Keep.trans (Keep.trans (Keep.trans (Keep.trans (Keep.trans (Keep.trans (Keep.refl h0 []) K101 all0) K102 (allS (Or.inr (Nat.le_of_eq g101.symm)) all0)) K103 (allS (Or.inr (Nat.le_of_eq g101.symm)) all0)) K104 (allS (Or.inr (Nat.le_of_eq g101.symm)) all0)) K105 (allS (Or.inr (Nat.le_of_eq g101.symm)) all0)) K106 (allS (Or.inr (Nat.le_of_eq g101.symm)) all0)) K107 (allS (Or.inr (Nat.le_of_eq g101.symm)) all0)), (Nat.le_of_eq g101.symm), G107⟩
def Q_extended1 (Z : State) (c : Int32) (h0 : Heap) (n0 : Nat) (vQ_ : Option Value) (hQ_ : Heap) (LQ_ : List Loc) : Prop := ∃ r : Addr, ∃ kr : ClassId, vQ_ = some (.ref r) ∧ Fr n0 LQ_ ∧ Keep h0 hQ_ [] ∧ h0.size ≤ r ∧ Arv Z hQ_ r kr .char (8 : Int32) [(.int (107 : Int32)), (.int (101 : Int32)), (.int (121 : Int32)), (.int (85 : Int32)), (.int (115 : Int32)), (.int (101 : Int32)), (.int (114 : Int32)), (.int c)] (.int (0 : Int32))
set_option maxRecDepth 65536 in
set_option maxHeartbeats 40000000 in
theorem rm_extended1 (l : Launch) (Z : State) (a0 : Array Value) (hw : HW a0 Z) (ws : List Jvm.Cond) (c : Int32) (h0 : Heap) (n0 : Nat) (Z0 : n0 ≤ h0.size) (hc : B8 c) :
    MetFree l yn13 (head1 (Jvm.Cond.code yn13 method_4_code 2 (some (.array .char)) :: ws) ({ frames := 0, cells := 1, slots := 8, locals := 0 } : Room)) (fun aQ_ UQ => aQ_ = #[(.int (1 : Int32)), (.int c)] ∧ Z.Warmed39 UQ.vm ∧ UQ.heap = h0) (fun _ _ _ _ _ => True) (fun _ UQ oQ UQ' => ∃ vQ_ LQ_, oQ = .returned vQ_ ∧ Q_extended1 Z c h0 n0 vQ_ UQ'.heap LQ_ ∧ FrameEnd UQ oQ UQ' LQ_ ({ frames := 0, cells := 1, slots := 8, locals := 0 } : Room).cells ({ frames := 0, cells := 1, slots := 8, locals := 0 } : Room).slots) := by
  refine MetFree.of_bodySF (plainFor_of_name pn_com_example_composition_composition_definition_AbapLanguageVersionOfJsonNamePinLaw) hisR ?_
  intro p e s m args below meth cO s₁ Bd hml0 hP hK
  obtain ⟨rfl, hZ, hh⟩ := hP
  have hx := Bd.exec
  have hby := Bd.bytes
  have hml : cO.maxLocals = 2 := hml0
  have hown : s.vm.findClass "com/example/composition/composition/definition/AbapLanguageVersionOfJsonNamePinLaw" = some m.cls := findClass_of_methodNamed Bd.named
  have hnm := (name_of_methodNamed Bd.named Bd.method).1
  have X0 : Stand p l e ({ frames := 0, cells := 1, slots := 8, locals := 0 } : Room) s m #[(.int (1 : Int32)), (.int c)] below meth cO s₁ [] 0 0 := Stand.of_body Bd
  have e0 : s₁.heap = h0 := by rw [← hh, Bd.state]; rfl
  have N0 := Fr.nil n0
  have W0 : ∀ zQ, SS p e below s₁ m 0 #[.val (.int (1 : Int32)), .val (.int c)] [] zQ → Steps p.tables e below (s₁.setTop (entryFrame m #[(.int (1 : Int32)), (.int c)] 2)) zQ := fun tt kt => castTop (ef_extended1 m (1 : Int32) c) kt
  obtain ⟨T101, h101, k101, X101, e101, E101, A101, st101⟩ := newP X0 hx hZ (aty := .char) (w9 hw) e0 (g := (mkF m 63 #[.val (.int (1 : Int32)), .val (.int c)] [(.int (8 : Int32))])) rfl (hb hby d_method_4_63) (n := (8 : Int32)) rfl (by decide) (cap := 8) (by decide) (by decide) (by decide) (by decide)
  obtain ⟨b101, g101⟩ : ∃ z, z = h0.size := ⟨_, rfl⟩
  rw [← g101] at A101 st101
  have K101 := (Keep.refl h0 []).ext E101
  have G101 : Arv Z h101 b101 k101 .char (8 : Int32) [(.int (0 : Int32)), (.int (0 : Int32)), (.int (0 : Int32)), (.int (0 : Int32)), (.int (0 : Int32)), (.int (0 : Int32)), (.int (0 : Int32)), (.int (0 : Int32))] (.int (0 : Int32)) := (Arv.new A101 (by decide)).pad (pad_rep [] (.int (0 : Int32)) 8)
  obtain ⟨cl102, Ar102, q102, S102, M102, H102, F102g⟩ := id G101
  have hin102 : ¬ ((0 : Int32) < 0 ∨ cl102.slots.size ≤ ((0 : Int32)).toNatClampNeg) := inb_of S102 ⟨by decide, by decide⟩
  obtain ⟨T102, h102, X102, e102, Wr102, st102⟩ := stC X101 hx hZ e101 Ar102 (j := (0 : Int32)) hin102 (g := (mkF m 69 #[.val (.int (1 : Int32)), .val (.int c)] [(.int (107 : Int32)), (.int (0 : Int32)), (.ref b101), (.ref b101)])) rfl rfl (hb hby d_method_4_69)
  have G102 : Arv Z h102 b101 k101 .char (8 : Int32) [(.int (107 : Int32)), (.int (0 : Int32)), (.int (0 : Int32)), (.int (0 : Int32)), (.int (0 : Int32)), (.int (0 : Int32)), (.int (0 : Int32)), (.int (0 : Int32))] (.int (0 : Int32)) := Arv.set Ar102 q102 S102 M102 H102 F102g (fits_nar_char _) Wr102 0 rfl (Nat.le_of_ble_eq_true rfl)
  have K102 := Keep.of_wr Wr102
  have N102 := Fr.snoc X102 N0 (Nat.le_trans Z0 (Nat.le_of_eq g101.symm))
  have J102 : Arv Z h102 b101 k101 .char (8 : Int32) [(.int (107 : Int32)), (.int (0 : Int32)), (.int (0 : Int32)), (.int (0 : Int32)), (.int (0 : Int32)), (.int (0 : Int32)), (.int (0 : Int32)), (.int (0 : Int32))] (.int (0 : Int32)) := by first | exact G102 | (rw [own_nar8 hc] at G102; exact G102)
  obtain ⟨cl103, Ar103, q103, S103, M103, H103, F103g⟩ := id J102
  have hin103 : ¬ ((1 : Int32) < 0 ∨ cl103.slots.size ≤ ((1 : Int32)).toNatClampNeg) := inb_of S103 ⟨by decide, by decide⟩
  obtain ⟨T103, h103, X103, e103, Wr103, st103⟩ := stC X102 hx hZ e102 Ar103 (j := (1 : Int32)) hin103 (g := (mkF m 74 #[.val (.int (1 : Int32)), .val (.int c)] [(.int (101 : Int32)), (.int (1 : Int32)), (.ref b101), (.ref b101)])) rfl rfl (hb hby d_method_4_74)
  have G103 : Arv Z h103 b101 k101 .char (8 : Int32) [(.int (107 : Int32)), (.int (101 : Int32)), (.int (0 : Int32)), (.int (0 : Int32)), (.int (0 : Int32)), (.int (0 : Int32)), (.int (0 : Int32)), (.int (0 : Int32))] (.int (0 : Int32)) := Arv.set Ar103 q103 S103 M103 H103 F103g (fits_nar_char _) Wr103 1 rfl (Nat.le_of_ble_eq_true rfl)
  have K103 := Keep.of_wr Wr103
  have N103 := Fr.snoc X103 N102 (Nat.le_trans Z0 (Nat.le_of_eq g101.symm))
  have J103 : Arv Z h103 b101 k101 .char (8 : Int32) [(.int (107 : Int32)), (.int (101 : Int32)), (.int (0 : Int32)), (.int (0 : Int32)), (.int (0 : Int32)), (.int (0 : Int32)), (.int (0 : Int32)), (.int (0 : Int32))] (.int (0 : Int32)) := by first | exact G103 | (rw [own_nar8 hc] at G103; exact G103)
  obtain ⟨cl104, Ar104, q104, S104, M104, H104, F104g⟩ := id J103
  have hin104 : ¬ ((2 : Int32) < 0 ∨ cl104.slots.size ≤ ((2 : Int32)).toNatClampNeg) := inb_of S104 ⟨by decide, by decide⟩
  obtain ⟨T104, h104, X104, e104, Wr104, st104⟩ := stC X103 hx hZ e103 Ar104 (j := (2 : Int32)) hin104 (g := (mkF m 79 #[.val (.int (1 : Int32)), .val (.int c)] [(.int (121 : Int32)), (.int (2 : Int32)), (.ref b101), (.ref b101)])) rfl rfl (hb hby d_method_4_79)
  have G104 : Arv Z h104 b101 k101 .char (8 : Int32) [(.int (107 : Int32)), (.int (101 : Int32)), (.int (121 : Int32)), (.int (0 : Int32)), (.int (0 : Int32)), (.int (0 : Int32)), (.int (0 : Int32)), (.int (0 : Int32))] (.int (0 : Int32)) := Arv.set Ar104 q104 S104 M104 H104 F104g (fits_nar_char _) Wr104 2 rfl (Nat.le_of_ble_eq_true rfl)
  have K104 := Keep.of_wr Wr104
  have N104 := Fr.snoc X104 N103 (Nat.le_trans Z0 (Nat.le_of_eq g101.symm))
  have J104 : Arv Z h104 b101 k101 .char (8 : Int32) [(.int (107 : Int32)), (.int (101 : Int32)), (.int (121 : Int32)), (.int (0 : Int32)), (.int (0 : Int32)), (.int (0 : Int32)), (.int (0 : Int32)), (.int (0 : Int32))] (.int (0 : Int32)) := by first | exact G104 | (rw [own_nar8 hc] at G104; exact G104)
  obtain ⟨cl105, Ar105, q105, S105, M105, H105, F105g⟩ := id J104
  have hin105 : ¬ ((3 : Int32) < 0 ∨ cl105.slots.size ≤ ((3 : Int32)).toNatClampNeg) := inb_of S105 ⟨by decide, by decide⟩
  obtain ⟨T105, h105, X105, e105, Wr105, st105⟩ := stC X104 hx hZ e104 Ar105 (j := (3 : Int32)) hin105 (g := (mkF m 84 #[.val (.int (1 : Int32)), .val (.int c)] [(.int (85 : Int32)), (.int (3 : Int32)), (.ref b101), (.ref b101)])) rfl rfl (hb hby d_method_4_84)
  have G105 : Arv Z h105 b101 k101 .char (8 : Int32) [(.int (107 : Int32)), (.int (101 : Int32)), (.int (121 : Int32)), (.int (85 : Int32)), (.int (0 : Int32)), (.int (0 : Int32)), (.int (0 : Int32)), (.int (0 : Int32))] (.int (0 : Int32)) := Arv.set Ar105 q105 S105 M105 H105 F105g (fits_nar_char _) Wr105 3 rfl (Nat.le_of_ble_eq_true rfl)
  have K105 := Keep.of_wr Wr105
  have N105 := Fr.snoc X105 N104 (Nat.le_trans Z0 (Nat.le_of_eq g101.symm))
  have J105 : Arv Z h105 b101 k101 .char (8 : Int32) [(.int (107 : Int32)), (.int (101 : Int32)), (.int (121 : Int32)), (.int (85 : Int32)), (.int (0 : Int32)), (.int (0 : Int32)), (.int (0 : Int32)), (.int (0 : Int32))] (.int (0 : Int32)) := by first | exact G105 | (rw [own_nar8 hc] at G105; exact G105)
  obtain ⟨cl106, Ar106, q106, S106, M106, H106, F106g⟩ := id J105
  have hin106 : ¬ ((4 : Int32) < 0 ∨ cl106.slots.size ≤ ((4 : Int32)).toNatClampNeg) := inb_of S106 ⟨by decide, by decide⟩
  obtain ⟨T106, h106, X106, e106, Wr106, st106⟩ := stC X105 hx hZ e105 Ar106 (j := (4 : Int32)) hin106 (g := (mkF m 89 #[.val (.int (1 : Int32)), .val (.int c)] [(.int (115 : Int32)), (.int (4 : Int32)), (.ref b101), (.ref b101)])) rfl rfl (hb hby d_method_4_89)
  have G106 : Arv Z h106 b101 k101 .char (8 : Int32) [(.int (107 : Int32)), (.int (101 : Int32)), (.int (121 : Int32)), (.int (85 : Int32)), (.int (115 : Int32)), (.int (0 : Int32)), (.int (0 : Int32)), (.int (0 : Int32))] (.int (0 : Int32)) := Arv.set Ar106 q106 S106 M106 H106 F106g (fits_nar_char _) Wr106 4 rfl (Nat.le_of_ble_eq_true rfl)
  have K106 := Keep.of_wr Wr106
  have N106 := Fr.snoc X106 N105 (Nat.le_trans Z0 (Nat.le_of_eq g101.symm))
  have J106 : Arv Z h106 b101 k101 .char (8 : Int32) [(.int (107 : Int32)), (.int (101 : Int32)), (.int (121 : Int32)), (.int (85 : Int32)), (.int (115 : Int32)), (.int (0 : Int32)), (.int (0 : Int32)), (.int (0 : Int32))] (.int (0 : Int32)) := by first | exact G106 | (rw [own_nar8 hc] at G106; exact G106)
  obtain ⟨cl107, Ar107, q107, S107, M107, H107, F107g⟩ := id J106
  have hin107 : ¬ ((5 : Int32) < 0 ∨ cl107.slots.size ≤ ((5 : Int32)).toNatClampNeg) := inb_of S107 ⟨by decide, by decide⟩
  obtain ⟨T107, h107, X107, e107, Wr107, st107⟩ := stC X106 hx hZ e106 Ar107 (j := (5 : Int32)) hin107 (g := (mkF m 94 #[.val (.int (1 : Int32)), .val (.int c)] [(.int (101 : Int32)), (.int (5 : Int32)), (.ref b101), (.ref b101)])) rfl rfl (hb hby d_method_4_94)
  have G107 : Arv Z h107 b101 k101 .char (8 : Int32) [(.int (107 : Int32)), (.int (101 : Int32)), (.int (121 : Int32)), (.int (85 : Int32)), (.int (115 : Int32)), (.int (101 : Int32)), (.int (0 : Int32)), (.int (0 : Int32))] (.int (0 : Int32)) := Arv.set Ar107 q107 S107 M107 H107 F107g (fits_nar_char _) Wr107 5 rfl (Nat.le_of_ble_eq_true rfl)
  have K107 := Keep.of_wr Wr107
  have N107 := Fr.snoc X107 N106 (Nat.le_trans Z0 (Nat.le_of_eq g101.symm))
  have J107 : Arv Z h107 b101 k101 .char (8 : Int32) [(.int (107 : Int32)), (.int (101 : Int32)), (.int (121 : Int32)), (.int (85 : Int32)), (.int (115 : Int32)), (.int (101 : Int32)), (.int (0 : Int32)), (.int (0 : Int32))] (.int (0 : Int32)) := by first | exact G107 | (rw [own_nar8 hc] at G107; exact G107)
  obtain ⟨cl108, Ar108, q108, S108, M108, H108, F108g⟩ := id J107
  have hin108 : ¬ ((6 : Int32) < 0 ∨ cl108.slots.size ≤ ((6 : Int32)).toNatClampNeg) := inb_of S108 ⟨by decide, by decide⟩
  obtain ⟨T108, h108, X108, e108, Wr108, st108⟩ := stC X107 hx hZ e107 Ar108 (j := (6 : Int32)) hin108 (g := (mkF m 100 #[.val (.int (1 : Int32)), .val (.int c)] [(.int (114 : Int32)), (.int (6 : Int32)), (.ref b101), (.ref b101)])) rfl rfl (hb hby d_method_4_100)
  have G108 : Arv Z h108 b101 k101 .char (8 : Int32) [(.int (107 : Int32)), (.int (101 : Int32)), (.int (121 : Int32)), (.int (85 : Int32)), (.int (115 : Int32)), (.int (101 : Int32)), (.int (114 : Int32)), (.int (0 : Int32))] (.int (0 : Int32)) := Arv.set Ar108 q108 S108 M108 H108 F108g (fits_nar_char _) Wr108 6 rfl (Nat.le_of_ble_eq_true rfl)
  have K108 := Keep.of_wr Wr108
  have N108 := Fr.snoc X108 N107 (Nat.le_trans Z0 (Nat.le_of_eq g101.symm))
  have J108 : Arv Z h108 b101 k101 .char (8 : Int32) [(.int (107 : Int32)), (.int (101 : Int32)), (.int (121 : Int32)), (.int (85 : Int32)), (.int (115 : Int32)), (.int (101 : Int32)), (.int (114 : Int32)), (.int (0 : Int32))] (.int (0 : Int32)) := by first | exact G108 | (rw [own_nar8 hc] at G108; exact G108)
  obtain ⟨cl109, Ar109, q109, S109, M109, H109, F109g⟩ := id J108
  have hin109 : ¬ ((7 : Int32) < 0 ∨ cl109.slots.size ≤ ((7 : Int32)).toNatClampNeg) := inb_of S109 ⟨by decide, by decide⟩
  obtain ⟨T109, h109, X109, e109, Wr109, st109⟩ := stC X108 hx hZ e108 Ar109 (j := (7 : Int32)) hin109 (g := (mkF m 105 #[.val (.int (1 : Int32)), .val (.int c)] [(.int c), (.int (7 : Int32)), (.ref b101), (.ref b101)])) rfl rfl (hb hby d_method_4_105)
  have G109 : Arv Z h109 b101 k101 .char (8 : Int32) [(.int (107 : Int32)), (.int (101 : Int32)), (.int (121 : Int32)), (.int (85 : Int32)), (.int (115 : Int32)), (.int (101 : Int32)), (.int (114 : Int32)), (.int (nar .char c))] (.int (0 : Int32)) := Arv.set Ar109 q109 S109 M109 H109 F109g (fits_nar_char _) Wr109 7 rfl (Nat.le_of_ble_eq_true rfl)
  have K109 := Keep.of_wr Wr109
  have N109 := Fr.snoc X109 N108 (Nat.le_trans Z0 (Nat.le_of_eq g101.symm))
  have J109 : Arv Z h109 b101 k101 .char (8 : Int32) [(.int (107 : Int32)), (.int (101 : Int32)), (.int (121 : Int32)), (.int (85 : Int32)), (.int (115 : Int32)), (.int (101 : Int32)), (.int (114 : Int32)), (.int c)] (.int (0 : Int32)) := by first | exact G109 | (rw [own_nar8 hc] at G109; exact G109)
  have W110 : ∀ zQ, SS p e below T109 m 106 #[.val (.int (1 : Int32)), .val (.int c)] [(.ref b101)] zQ → Steps p.tables e below (s₁.setTop (entryFrame m #[(.int (1 : Int32)), (.int c)] 2)) zQ := by
    intro tt kt
    refine W0 tt ?_
    refine XS.iloadN X0.here hx rfl (hb hby d_method_4_0) rfl ?_
    refine XS.ifYes X0.here hx rfl (pc0 := 1) (pc' := 56) rfl (hb hby d_method_4_1) rfl ((if0 _ _).trans (feq (by decide)).2) (by decide) (by decide) ?_
    refine XS.iloadN X0.here hx rfl (hb hby d_method_4_56) rfl ?_
    refine XS.iconst X0.here hx rfl (hb hby d_method_4_57) ?_
    refine XS.icmpNo X0.here hx rfl (hb hby d_method_4_58) rfl (teq (by decide)).2 ?_
    refine XS.bipush X0.here hx rfl (hb hby d_method_4_61) ?_
    show SS p e below s₁ m 63 #[.val (.int (1 : Int32)), .val (.int c)] [(.int (8 : Int32))] _
    refine st101 _ ?_
    refine XS.dup X101.here hx rfl (hb hby d_method_4_65) rfl rfl ?_
    refine XS.iconst X101.here hx rfl (hb hby d_method_4_66) ?_
    refine XS.bipush X101.here hx rfl (hb hby d_method_4_67) ?_
    show SS p e below T101 m 69 #[.val (.int (1 : Int32)), .val (.int c)] [(.int (107 : Int32)), (.int (0 : Int32)), (.ref b101), (.ref b101)] _
    refine st102 _ ?_
    refine XS.dup X102.here hx rfl (hb hby d_method_4_70) rfl rfl ?_
    refine XS.iconst X102.here hx rfl (hb hby d_method_4_71) ?_
    refine XS.bipush X102.here hx rfl (hb hby d_method_4_72) ?_
    show SS p e below T102 m 74 #[.val (.int (1 : Int32)), .val (.int c)] [(.int (101 : Int32)), (.int (1 : Int32)), (.ref b101), (.ref b101)] _
    refine st103 _ ?_
    refine XS.dup X103.here hx rfl (hb hby d_method_4_75) rfl rfl ?_
    refine XS.iconst X103.here hx rfl (hb hby d_method_4_76) ?_
    refine XS.bipush X103.here hx rfl (hb hby d_method_4_77) ?_
    show SS p e below T103 m 79 #[.val (.int (1 : Int32)), .val (.int c)] [(.int (121 : Int32)), (.int (2 : Int32)), (.ref b101), (.ref b101)] _
    refine st104 _ ?_
    refine XS.dup X104.here hx rfl (hb hby d_method_4_80) rfl rfl ?_
    refine XS.iconst X104.here hx rfl (hb hby d_method_4_81) ?_
    refine XS.bipush X104.here hx rfl (hb hby d_method_4_82) ?_
    show SS p e below T104 m 84 #[.val (.int (1 : Int32)), .val (.int c)] [(.int (85 : Int32)), (.int (3 : Int32)), (.ref b101), (.ref b101)] _
    refine st105 _ ?_
    refine XS.dup X105.here hx rfl (hb hby d_method_4_85) rfl rfl ?_
    refine XS.iconst X105.here hx rfl (hb hby d_method_4_86) ?_
    refine XS.bipush X105.here hx rfl (hb hby d_method_4_87) ?_
    show SS p e below T105 m 89 #[.val (.int (1 : Int32)), .val (.int c)] [(.int (115 : Int32)), (.int (4 : Int32)), (.ref b101), (.ref b101)] _
    refine st106 _ ?_
    refine XS.dup X106.here hx rfl (hb hby d_method_4_90) rfl rfl ?_
    refine XS.iconst X106.here hx rfl (hb hby d_method_4_91) ?_
    refine XS.bipush X106.here hx rfl (hb hby d_method_4_92) ?_
    show SS p e below T106 m 94 #[.val (.int (1 : Int32)), .val (.int c)] [(.int (101 : Int32)), (.int (5 : Int32)), (.ref b101), (.ref b101)] _
    refine st107 _ ?_
    refine XS.dup X107.here hx rfl (hb hby d_method_4_95) rfl rfl ?_
    refine XS.bipush X107.here hx rfl (hb hby d_method_4_96) ?_
    refine XS.bipush X107.here hx rfl (hb hby d_method_4_98) ?_
    show SS p e below T107 m 100 #[.val (.int (1 : Int32)), .val (.int c)] [(.int (114 : Int32)), (.int (6 : Int32)), (.ref b101), (.ref b101)] _
    refine st108 _ ?_
    refine XS.dup X108.here hx rfl (hb hby d_method_4_101) rfl rfl ?_
    refine XS.bipush X108.here hx rfl (hb hby d_method_4_102) ?_
    refine XS.iloadN X108.here hx rfl (hb hby d_method_4_104) rfl ?_
    show SS p e below T108 m 105 #[.val (.int (1 : Int32)), .val (.int c)] [(.int c), (.int (7 : Int32)), (.ref b101), (.ref b101)] _
    refine st109 _ ?_
    exact kt
  obtain ⟨fs, hr, hrun, hended, hW, hsame⟩ := X109.leave (v := some (.ref b101)) (fun h => by rw [Bd.returns] at h; cases h)
  refine ⟨_, _, W110 _ (own_retR X109 hx Bd.returns rfl rfl (hb hby d_method_4_106) hr), hrun, hended, _, _, rfl, ?_, ⟨_, rfl⟩, hW, hsame.mono (by decide) (by decide)⟩
  show Q_extended1 Z c h0 n0 _ T109.heap _
  rw [e109]
  exact ⟨b101, k101, rfl, N109, (Keep.trans (Keep.trans (Keep.trans (Keep.trans (Keep.trans (Keep.trans (Keep.trans (Keep.trans (Keep.trans (Keep.refl h0 []) K101 all0) K102 (allS (Or.inr (Nat.le_of_eq g101.symm)) all0)) K103 (allS (Or.inr (Nat.le_of_eq g101.symm)) all0)) K104 (allS (Or.inr (Nat.le_of_eq g101.symm)) all0)) K105 (allS (Or.inr (Nat.le_of_eq g101.symm)) all0)) K106 (allS (Or.inr (Nat.le_of_eq g101.symm)) all0)) K107 (allS (Or.inr (Nat.le_of_eq g101.symm)) all0)) K108 (allS (Or.inr (Nat.le_of_eq g101.symm)) all0)) K109 (allS (Or.inr (Nat.le_of_eq g101.symm)) all0)), (Nat.le_of_eq g101.symm), J109⟩
def Q_full2 (Z : State)  (h0 : Heap) (n0 : Nat) (vQ_ : Option Value) (hQ_ : Heap) (LQ_ : List Loc) : Prop := ∃ r : Addr, ∃ kr : ClassId, vQ_ = some (.ref r) ∧ Fr n0 LQ_ ∧ Keep h0 hQ_ [] ∧ h0.size ≤ r ∧ Arv Z hQ_ r kr .char (16 : Int32) [(.int (99 : Int32)), (.int (108 : Int32)), (.int (111 : Int32)), (.int (117 : Int32)), (.int (100 : Int32)), (.int (68 : Int32)), (.int (101 : Int32)), (.int (118 : Int32)), (.int (101 : Int32)), (.int (108 : Int32)), (.int (111 : Int32)), (.int (112 : Int32)), (.int (109 : Int32)), (.int (101 : Int32)), (.int (110 : Int32)), (.int (116 : Int32))] (.int (0 : Int32))
set_option maxRecDepth 65536 in
set_option maxHeartbeats 40000000 in
theorem rm_full2 (l : Launch) (Z : State) (a0 : Array Value) (hw : HW a0 Z) (ws : List Jvm.Cond)  (h0 : Heap) (n0 : Nat) (Z0 : n0 ≤ h0.size)  :
    MetFree l yn11 (head1 (Jvm.Cond.code yn11 method_2_code 1 (some (.array .char)) :: ws) ({ frames := 0, cells := 1, slots := 16, locals := 0 } : Room)) (fun aQ_ UQ => aQ_ = #[(.int (2 : Int32))] ∧ Z.Warmed39 UQ.vm ∧ UQ.heap = h0) (fun _ _ _ _ _ => True) (fun _ UQ oQ UQ' => ∃ vQ_ LQ_, oQ = .returned vQ_ ∧ Q_full2 Z  h0 n0 vQ_ UQ'.heap LQ_ ∧ FrameEnd UQ oQ UQ' LQ_ ({ frames := 0, cells := 1, slots := 16, locals := 0 } : Room).cells ({ frames := 0, cells := 1, slots := 16, locals := 0 } : Room).slots) := by
  refine MetFree.of_bodySF (plainFor_of_name pn_com_example_composition_composition_definition_AbapLanguageVersionOfJsonNamePinLaw) hisR ?_
  intro p e s m args below meth cO s₁ Bd hml0 hP hK
  obtain ⟨rfl, hZ, hh⟩ := hP
  have hx := Bd.exec
  have hby := Bd.bytes
  have hml : cO.maxLocals = 1 := hml0
  have hown : s.vm.findClass "com/example/composition/composition/definition/AbapLanguageVersionOfJsonNamePinLaw" = some m.cls := findClass_of_methodNamed Bd.named
  have hnm := (name_of_methodNamed Bd.named Bd.method).1
  have X0 : Stand p l e ({ frames := 0, cells := 1, slots := 16, locals := 0 } : Room) s m #[(.int (2 : Int32))] below meth cO s₁ [] 0 0 := Stand.of_body Bd
  have e0 : s₁.heap = h0 := by rw [← hh, Bd.state]; rfl
  have N0 := Fr.nil n0
  have W0 : ∀ zQ, SS p e below s₁ m 0 #[.val (.int (2 : Int32))] [] zQ → Steps p.tables e below (s₁.setTop (entryFrame m #[(.int (2 : Int32))] 1)) zQ := fun tt kt => castTop (ef_full2 m (2 : Int32)) kt
  obtain ⟨T101, h101, k101, X101, e101, E101, A101, st101⟩ := newP X0 hx hZ (aty := .char) (w9 hw) e0 (g := (mkF m 99 #[.val (.int (2 : Int32))] [(.int (16 : Int32))])) rfl (hb hby d_method_2_99) (n := (16 : Int32)) rfl (by decide) (cap := 16) (by decide) (by decide) (by decide) (by decide)
  obtain ⟨b101, g101⟩ : ∃ z, z = h0.size := ⟨_, rfl⟩
  rw [← g101] at A101 st101
  have K101 := (Keep.refl h0 []).ext E101
  have G101 : Arv Z h101 b101 k101 .char (16 : Int32) [(.int (0 : Int32)), (.int (0 : Int32)), (.int (0 : Int32)), (.int (0 : Int32)), (.int (0 : Int32)), (.int (0 : Int32)), (.int (0 : Int32)), (.int (0 : Int32)), (.int (0 : Int32)), (.int (0 : Int32)), (.int (0 : Int32)), (.int (0 : Int32)), (.int (0 : Int32)), (.int (0 : Int32)), (.int (0 : Int32)), (.int (0 : Int32))] (.int (0 : Int32)) := (Arv.new A101 (by decide)).pad (pad_rep [] (.int (0 : Int32)) 16)
  obtain ⟨cl102, Ar102, q102, S102, M102, H102, F102g⟩ := id G101
  have hin102 : ¬ ((0 : Int32) < 0 ∨ cl102.slots.size ≤ ((0 : Int32)).toNatClampNeg) := inb_of S102 ⟨by decide, by decide⟩
  obtain ⟨T102, h102, X102, e102, Wr102, st102⟩ := stC X101 hx hZ e101 Ar102 (j := (0 : Int32)) hin102 (g := (mkF m 105 #[.val (.int (2 : Int32))] [(.int (99 : Int32)), (.int (0 : Int32)), (.ref b101), (.ref b101)])) rfl rfl (hb hby d_method_2_105)
  have G102 : Arv Z h102 b101 k101 .char (16 : Int32) [(.int (99 : Int32)), (.int (0 : Int32)), (.int (0 : Int32)), (.int (0 : Int32)), (.int (0 : Int32)), (.int (0 : Int32)), (.int (0 : Int32)), (.int (0 : Int32)), (.int (0 : Int32)), (.int (0 : Int32)), (.int (0 : Int32)), (.int (0 : Int32)), (.int (0 : Int32)), (.int (0 : Int32)), (.int (0 : Int32)), (.int (0 : Int32))] (.int (0 : Int32)) := Arv.set Ar102 q102 S102 M102 H102 F102g (fits_nar_char _) Wr102 0 rfl (Nat.le_of_ble_eq_true rfl)
  have K102 := Keep.of_wr Wr102
  have N102 := Fr.snoc X102 N0 (Nat.le_trans Z0 (Nat.le_of_eq g101.symm))
  obtain ⟨cl103, Ar103, q103, S103, M103, H103, F103g⟩ := id G102
  have hin103 : ¬ ((1 : Int32) < 0 ∨ cl103.slots.size ≤ ((1 : Int32)).toNatClampNeg) := inb_of S103 ⟨by decide, by decide⟩
  obtain ⟨T103, h103, X103, e103, Wr103, st103⟩ := stC X102 hx hZ e102 Ar103 (j := (1 : Int32)) hin103 (g := (mkF m 110 #[.val (.int (2 : Int32))] [(.int (108 : Int32)), (.int (1 : Int32)), (.ref b101), (.ref b101)])) rfl rfl (hb hby d_method_2_110)
  have G103 : Arv Z h103 b101 k101 .char (16 : Int32) [(.int (99 : Int32)), (.int (108 : Int32)), (.int (0 : Int32)), (.int (0 : Int32)), (.int (0 : Int32)), (.int (0 : Int32)), (.int (0 : Int32)), (.int (0 : Int32)), (.int (0 : Int32)), (.int (0 : Int32)), (.int (0 : Int32)), (.int (0 : Int32)), (.int (0 : Int32)), (.int (0 : Int32)), (.int (0 : Int32)), (.int (0 : Int32))] (.int (0 : Int32)) := Arv.set Ar103 q103 S103 M103 H103 F103g (fits_nar_char _) Wr103 1 rfl (Nat.le_of_ble_eq_true rfl)
  have K103 := Keep.of_wr Wr103
  have N103 := Fr.snoc X103 N102 (Nat.le_trans Z0 (Nat.le_of_eq g101.symm))
  obtain ⟨cl104, Ar104, q104, S104, M104, H104, F104g⟩ := id G103
  have hin104 : ¬ ((2 : Int32) < 0 ∨ cl104.slots.size ≤ ((2 : Int32)).toNatClampNeg) := inb_of S104 ⟨by decide, by decide⟩
  obtain ⟨T104, h104, X104, e104, Wr104, st104⟩ := stC X103 hx hZ e103 Ar104 (j := (2 : Int32)) hin104 (g := (mkF m 115 #[.val (.int (2 : Int32))] [(.int (111 : Int32)), (.int (2 : Int32)), (.ref b101), (.ref b101)])) rfl rfl (hb hby d_method_2_115)
  have G104 : Arv Z h104 b101 k101 .char (16 : Int32) [(.int (99 : Int32)), (.int (108 : Int32)), (.int (111 : Int32)), (.int (0 : Int32)), (.int (0 : Int32)), (.int (0 : Int32)), (.int (0 : Int32)), (.int (0 : Int32)), (.int (0 : Int32)), (.int (0 : Int32)), (.int (0 : Int32)), (.int (0 : Int32)), (.int (0 : Int32)), (.int (0 : Int32)), (.int (0 : Int32)), (.int (0 : Int32))] (.int (0 : Int32)) := Arv.set Ar104 q104 S104 M104 H104 F104g (fits_nar_char _) Wr104 2 rfl (Nat.le_of_ble_eq_true rfl)
  have K104 := Keep.of_wr Wr104
  have N104 := Fr.snoc X104 N103 (Nat.le_trans Z0 (Nat.le_of_eq g101.symm))
  obtain ⟨cl105, Ar105, q105, S105, M105, H105, F105g⟩ := id G104
  have hin105 : ¬ ((3 : Int32) < 0 ∨ cl105.slots.size ≤ ((3 : Int32)).toNatClampNeg) := inb_of S105 ⟨by decide, by decide⟩
  obtain ⟨T105, h105, X105, e105, Wr105, st105⟩ := stC X104 hx hZ e104 Ar105 (j := (3 : Int32)) hin105 (g := (mkF m 120 #[.val (.int (2 : Int32))] [(.int (117 : Int32)), (.int (3 : Int32)), (.ref b101), (.ref b101)])) rfl rfl (hb hby d_method_2_120)
  have G105 : Arv Z h105 b101 k101 .char (16 : Int32) [(.int (99 : Int32)), (.int (108 : Int32)), (.int (111 : Int32)), (.int (117 : Int32)), (.int (0 : Int32)), (.int (0 : Int32)), (.int (0 : Int32)), (.int (0 : Int32)), (.int (0 : Int32)), (.int (0 : Int32)), (.int (0 : Int32)), (.int (0 : Int32)), (.int (0 : Int32)), (.int (0 : Int32)), (.int (0 : Int32)), (.int (0 : Int32))] (.int (0 : Int32)) := Arv.set Ar105 q105 S105 M105 H105 F105g (fits_nar_char _) Wr105 3 rfl (Nat.le_of_ble_eq_true rfl)
  have K105 := Keep.of_wr Wr105
  have N105 := Fr.snoc X105 N104 (Nat.le_trans Z0 (Nat.le_of_eq g101.symm))
  obtain ⟨cl106, Ar106, q106, S106, M106, H106, F106g⟩ := id G105
  have hin106 : ¬ ((4 : Int32) < 0 ∨ cl106.slots.size ≤ ((4 : Int32)).toNatClampNeg) := inb_of S106 ⟨by decide, by decide⟩
  obtain ⟨T106, h106, X106, e106, Wr106, st106⟩ := stC X105 hx hZ e105 Ar106 (j := (4 : Int32)) hin106 (g := (mkF m 125 #[.val (.int (2 : Int32))] [(.int (100 : Int32)), (.int (4 : Int32)), (.ref b101), (.ref b101)])) rfl rfl (hb hby d_method_2_125)
  have G106 : Arv Z h106 b101 k101 .char (16 : Int32) [(.int (99 : Int32)), (.int (108 : Int32)), (.int (111 : Int32)), (.int (117 : Int32)), (.int (100 : Int32)), (.int (0 : Int32)), (.int (0 : Int32)), (.int (0 : Int32)), (.int (0 : Int32)), (.int (0 : Int32)), (.int (0 : Int32)), (.int (0 : Int32)), (.int (0 : Int32)), (.int (0 : Int32)), (.int (0 : Int32)), (.int (0 : Int32))] (.int (0 : Int32)) := Arv.set Ar106 q106 S106 M106 H106 F106g (fits_nar_char _) Wr106 4 rfl (Nat.le_of_ble_eq_true rfl)
  have K106 := Keep.of_wr Wr106
  have N106 := Fr.snoc X106 N105 (Nat.le_trans Z0 (Nat.le_of_eq g101.symm))
  obtain ⟨cl107, Ar107, q107, S107, M107, H107, F107g⟩ := id G106
  have hin107 : ¬ ((5 : Int32) < 0 ∨ cl107.slots.size ≤ ((5 : Int32)).toNatClampNeg) := inb_of S107 ⟨by decide, by decide⟩
  obtain ⟨T107, h107, X107, e107, Wr107, st107⟩ := stC X106 hx hZ e106 Ar107 (j := (5 : Int32)) hin107 (g := (mkF m 130 #[.val (.int (2 : Int32))] [(.int (68 : Int32)), (.int (5 : Int32)), (.ref b101), (.ref b101)])) rfl rfl (hb hby d_method_2_130)
  have G107 : Arv Z h107 b101 k101 .char (16 : Int32) [(.int (99 : Int32)), (.int (108 : Int32)), (.int (111 : Int32)), (.int (117 : Int32)), (.int (100 : Int32)), (.int (68 : Int32)), (.int (0 : Int32)), (.int (0 : Int32)), (.int (0 : Int32)), (.int (0 : Int32)), (.int (0 : Int32)), (.int (0 : Int32)), (.int (0 : Int32)), (.int (0 : Int32)), (.int (0 : Int32)), (.int (0 : Int32))] (.int (0 : Int32)) := Arv.set Ar107 q107 S107 M107 H107 F107g (fits_nar_char _) Wr107 5 rfl (Nat.le_of_ble_eq_true rfl)
  have K107 := Keep.of_wr Wr107
  have N107 := Fr.snoc X107 N106 (Nat.le_trans Z0 (Nat.le_of_eq g101.symm))
  obtain ⟨cl108, Ar108, q108, S108, M108, H108, F108g⟩ := id G107
  have hin108 : ¬ ((6 : Int32) < 0 ∨ cl108.slots.size ≤ ((6 : Int32)).toNatClampNeg) := inb_of S108 ⟨by decide, by decide⟩
  obtain ⟨T108, h108, X108, e108, Wr108, st108⟩ := stC X107 hx hZ e107 Ar108 (j := (6 : Int32)) hin108 (g := (mkF m 136 #[.val (.int (2 : Int32))] [(.int (101 : Int32)), (.int (6 : Int32)), (.ref b101), (.ref b101)])) rfl rfl (hb hby d_method_2_136)
  have G108 : Arv Z h108 b101 k101 .char (16 : Int32) [(.int (99 : Int32)), (.int (108 : Int32)), (.int (111 : Int32)), (.int (117 : Int32)), (.int (100 : Int32)), (.int (68 : Int32)), (.int (101 : Int32)), (.int (0 : Int32)), (.int (0 : Int32)), (.int (0 : Int32)), (.int (0 : Int32)), (.int (0 : Int32)), (.int (0 : Int32)), (.int (0 : Int32)), (.int (0 : Int32)), (.int (0 : Int32))] (.int (0 : Int32)) := Arv.set Ar108 q108 S108 M108 H108 F108g (fits_nar_char _) Wr108 6 rfl (Nat.le_of_ble_eq_true rfl)
  have K108 := Keep.of_wr Wr108
  have N108 := Fr.snoc X108 N107 (Nat.le_trans Z0 (Nat.le_of_eq g101.symm))
  obtain ⟨cl109, Ar109, q109, S109, M109, H109, F109g⟩ := id G108
  have hin109 : ¬ ((7 : Int32) < 0 ∨ cl109.slots.size ≤ ((7 : Int32)).toNatClampNeg) := inb_of S109 ⟨by decide, by decide⟩
  obtain ⟨T109, h109, X109, e109, Wr109, st109⟩ := stC X108 hx hZ e108 Ar109 (j := (7 : Int32)) hin109 (g := (mkF m 142 #[.val (.int (2 : Int32))] [(.int (118 : Int32)), (.int (7 : Int32)), (.ref b101), (.ref b101)])) rfl rfl (hb hby d_method_2_142)
  have G109 : Arv Z h109 b101 k101 .char (16 : Int32) [(.int (99 : Int32)), (.int (108 : Int32)), (.int (111 : Int32)), (.int (117 : Int32)), (.int (100 : Int32)), (.int (68 : Int32)), (.int (101 : Int32)), (.int (118 : Int32)), (.int (0 : Int32)), (.int (0 : Int32)), (.int (0 : Int32)), (.int (0 : Int32)), (.int (0 : Int32)), (.int (0 : Int32)), (.int (0 : Int32)), (.int (0 : Int32))] (.int (0 : Int32)) := Arv.set Ar109 q109 S109 M109 H109 F109g (fits_nar_char _) Wr109 7 rfl (Nat.le_of_ble_eq_true rfl)
  have K109 := Keep.of_wr Wr109
  have N109 := Fr.snoc X109 N108 (Nat.le_trans Z0 (Nat.le_of_eq g101.symm))
  obtain ⟨cl110, Ar110, q110, S110, M110, H110, F110g⟩ := id G109
  have hin110 : ¬ ((8 : Int32) < 0 ∨ cl110.slots.size ≤ ((8 : Int32)).toNatClampNeg) := inb_of S110 ⟨by decide, by decide⟩
  obtain ⟨T110, h110, X110, e110, Wr110, st110⟩ := stC X109 hx hZ e109 Ar110 (j := (8 : Int32)) hin110 (g := (mkF m 148 #[.val (.int (2 : Int32))] [(.int (101 : Int32)), (.int (8 : Int32)), (.ref b101), (.ref b101)])) rfl rfl (hb hby d_method_2_148)
  have G110 : Arv Z h110 b101 k101 .char (16 : Int32) [(.int (99 : Int32)), (.int (108 : Int32)), (.int (111 : Int32)), (.int (117 : Int32)), (.int (100 : Int32)), (.int (68 : Int32)), (.int (101 : Int32)), (.int (118 : Int32)), (.int (101 : Int32)), (.int (0 : Int32)), (.int (0 : Int32)), (.int (0 : Int32)), (.int (0 : Int32)), (.int (0 : Int32)), (.int (0 : Int32)), (.int (0 : Int32))] (.int (0 : Int32)) := Arv.set Ar110 q110 S110 M110 H110 F110g (fits_nar_char _) Wr110 8 rfl (Nat.le_of_ble_eq_true rfl)
  have K110 := Keep.of_wr Wr110
  have N110 := Fr.snoc X110 N109 (Nat.le_trans Z0 (Nat.le_of_eq g101.symm))
  obtain ⟨cl111, Ar111, q111, S111, M111, H111, F111g⟩ := id G110
  have hin111 : ¬ ((9 : Int32) < 0 ∨ cl111.slots.size ≤ ((9 : Int32)).toNatClampNeg) := inb_of S111 ⟨by decide, by decide⟩
  obtain ⟨T111, h111, X111, e111, Wr111, st111⟩ := stC X110 hx hZ e110 Ar111 (j := (9 : Int32)) hin111 (g := (mkF m 154 #[.val (.int (2 : Int32))] [(.int (108 : Int32)), (.int (9 : Int32)), (.ref b101), (.ref b101)])) rfl rfl (hb hby d_method_2_154)
  have G111 : Arv Z h111 b101 k101 .char (16 : Int32) [(.int (99 : Int32)), (.int (108 : Int32)), (.int (111 : Int32)), (.int (117 : Int32)), (.int (100 : Int32)), (.int (68 : Int32)), (.int (101 : Int32)), (.int (118 : Int32)), (.int (101 : Int32)), (.int (108 : Int32)), (.int (0 : Int32)), (.int (0 : Int32)), (.int (0 : Int32)), (.int (0 : Int32)), (.int (0 : Int32)), (.int (0 : Int32))] (.int (0 : Int32)) := Arv.set Ar111 q111 S111 M111 H111 F111g (fits_nar_char _) Wr111 9 rfl (Nat.le_of_ble_eq_true rfl)
  have K111 := Keep.of_wr Wr111
  have N111 := Fr.snoc X111 N110 (Nat.le_trans Z0 (Nat.le_of_eq g101.symm))
  obtain ⟨cl112, Ar112, q112, S112, M112, H112, F112g⟩ := id G111
  have hin112 : ¬ ((10 : Int32) < 0 ∨ cl112.slots.size ≤ ((10 : Int32)).toNatClampNeg) := inb_of S112 ⟨by decide, by decide⟩
  obtain ⟨T112, h112, X112, e112, Wr112, st112⟩ := stC X111 hx hZ e111 Ar112 (j := (10 : Int32)) hin112 (g := (mkF m 160 #[.val (.int (2 : Int32))] [(.int (111 : Int32)), (.int (10 : Int32)), (.ref b101), (.ref b101)])) rfl rfl (hb hby d_method_2_160)
  have G112 : Arv Z h112 b101 k101 .char (16 : Int32) [(.int (99 : Int32)), (.int (108 : Int32)), (.int (111 : Int32)), (.int (117 : Int32)), (.int (100 : Int32)), (.int (68 : Int32)), (.int (101 : Int32)), (.int (118 : Int32)), (.int (101 : Int32)), (.int (108 : Int32)), (.int (111 : Int32)), (.int (0 : Int32)), (.int (0 : Int32)), (.int (0 : Int32)), (.int (0 : Int32)), (.int (0 : Int32))] (.int (0 : Int32)) := Arv.set Ar112 q112 S112 M112 H112 F112g (fits_nar_char _) Wr112 10 rfl (Nat.le_of_ble_eq_true rfl)
  have K112 := Keep.of_wr Wr112
  have N112 := Fr.snoc X112 N111 (Nat.le_trans Z0 (Nat.le_of_eq g101.symm))
  obtain ⟨cl113, Ar113, q113, S113, M113, H113, F113g⟩ := id G112
  have hin113 : ¬ ((11 : Int32) < 0 ∨ cl113.slots.size ≤ ((11 : Int32)).toNatClampNeg) := inb_of S113 ⟨by decide, by decide⟩
  obtain ⟨T113, h113, X113, e113, Wr113, st113⟩ := stC X112 hx hZ e112 Ar113 (j := (11 : Int32)) hin113 (g := (mkF m 166 #[.val (.int (2 : Int32))] [(.int (112 : Int32)), (.int (11 : Int32)), (.ref b101), (.ref b101)])) rfl rfl (hb hby d_method_2_166)
  have G113 : Arv Z h113 b101 k101 .char (16 : Int32) [(.int (99 : Int32)), (.int (108 : Int32)), (.int (111 : Int32)), (.int (117 : Int32)), (.int (100 : Int32)), (.int (68 : Int32)), (.int (101 : Int32)), (.int (118 : Int32)), (.int (101 : Int32)), (.int (108 : Int32)), (.int (111 : Int32)), (.int (112 : Int32)), (.int (0 : Int32)), (.int (0 : Int32)), (.int (0 : Int32)), (.int (0 : Int32))] (.int (0 : Int32)) := Arv.set Ar113 q113 S113 M113 H113 F113g (fits_nar_char _) Wr113 11 rfl (Nat.le_of_ble_eq_true rfl)
  have K113 := Keep.of_wr Wr113
  have N113 := Fr.snoc X113 N112 (Nat.le_trans Z0 (Nat.le_of_eq g101.symm))
  obtain ⟨cl114, Ar114, q114, S114, M114, H114, F114g⟩ := id G113
  have hin114 : ¬ ((12 : Int32) < 0 ∨ cl114.slots.size ≤ ((12 : Int32)).toNatClampNeg) := inb_of S114 ⟨by decide, by decide⟩
  obtain ⟨T114, h114, X114, e114, Wr114, st114⟩ := stC X113 hx hZ e113 Ar114 (j := (12 : Int32)) hin114 (g := (mkF m 172 #[.val (.int (2 : Int32))] [(.int (109 : Int32)), (.int (12 : Int32)), (.ref b101), (.ref b101)])) rfl rfl (hb hby d_method_2_172)
  have G114 : Arv Z h114 b101 k101 .char (16 : Int32) [(.int (99 : Int32)), (.int (108 : Int32)), (.int (111 : Int32)), (.int (117 : Int32)), (.int (100 : Int32)), (.int (68 : Int32)), (.int (101 : Int32)), (.int (118 : Int32)), (.int (101 : Int32)), (.int (108 : Int32)), (.int (111 : Int32)), (.int (112 : Int32)), (.int (109 : Int32)), (.int (0 : Int32)), (.int (0 : Int32)), (.int (0 : Int32))] (.int (0 : Int32)) := Arv.set Ar114 q114 S114 M114 H114 F114g (fits_nar_char _) Wr114 12 rfl (Nat.le_of_ble_eq_true rfl)
  have K114 := Keep.of_wr Wr114
  have N114 := Fr.snoc X114 N113 (Nat.le_trans Z0 (Nat.le_of_eq g101.symm))
  obtain ⟨cl115, Ar115, q115, S115, M115, H115, F115g⟩ := id G114
  have hin115 : ¬ ((13 : Int32) < 0 ∨ cl115.slots.size ≤ ((13 : Int32)).toNatClampNeg) := inb_of S115 ⟨by decide, by decide⟩
  obtain ⟨T115, h115, X115, e115, Wr115, st115⟩ := stC X114 hx hZ e114 Ar115 (j := (13 : Int32)) hin115 (g := (mkF m 178 #[.val (.int (2 : Int32))] [(.int (101 : Int32)), (.int (13 : Int32)), (.ref b101), (.ref b101)])) rfl rfl (hb hby d_method_2_178)
  have G115 : Arv Z h115 b101 k101 .char (16 : Int32) [(.int (99 : Int32)), (.int (108 : Int32)), (.int (111 : Int32)), (.int (117 : Int32)), (.int (100 : Int32)), (.int (68 : Int32)), (.int (101 : Int32)), (.int (118 : Int32)), (.int (101 : Int32)), (.int (108 : Int32)), (.int (111 : Int32)), (.int (112 : Int32)), (.int (109 : Int32)), (.int (101 : Int32)), (.int (0 : Int32)), (.int (0 : Int32))] (.int (0 : Int32)) := Arv.set Ar115 q115 S115 M115 H115 F115g (fits_nar_char _) Wr115 13 rfl (Nat.le_of_ble_eq_true rfl)
  have K115 := Keep.of_wr Wr115
  have N115 := Fr.snoc X115 N114 (Nat.le_trans Z0 (Nat.le_of_eq g101.symm))
  obtain ⟨cl116, Ar116, q116, S116, M116, H116, F116g⟩ := id G115
  have hin116 : ¬ ((14 : Int32) < 0 ∨ cl116.slots.size ≤ ((14 : Int32)).toNatClampNeg) := inb_of S116 ⟨by decide, by decide⟩
  obtain ⟨T116, h116, X116, e116, Wr116, st116⟩ := stC X115 hx hZ e115 Ar116 (j := (14 : Int32)) hin116 (g := (mkF m 184 #[.val (.int (2 : Int32))] [(.int (110 : Int32)), (.int (14 : Int32)), (.ref b101), (.ref b101)])) rfl rfl (hb hby d_method_2_184)
  have G116 : Arv Z h116 b101 k101 .char (16 : Int32) [(.int (99 : Int32)), (.int (108 : Int32)), (.int (111 : Int32)), (.int (117 : Int32)), (.int (100 : Int32)), (.int (68 : Int32)), (.int (101 : Int32)), (.int (118 : Int32)), (.int (101 : Int32)), (.int (108 : Int32)), (.int (111 : Int32)), (.int (112 : Int32)), (.int (109 : Int32)), (.int (101 : Int32)), (.int (110 : Int32)), (.int (0 : Int32))] (.int (0 : Int32)) := Arv.set Ar116 q116 S116 M116 H116 F116g (fits_nar_char _) Wr116 14 rfl (Nat.le_of_ble_eq_true rfl)
  have K116 := Keep.of_wr Wr116
  have N116 := Fr.snoc X116 N115 (Nat.le_trans Z0 (Nat.le_of_eq g101.symm))
  obtain ⟨cl117, Ar117, q117, S117, M117, H117, F117g⟩ := id G116
  have hin117 : ¬ ((15 : Int32) < 0 ∨ cl117.slots.size ≤ ((15 : Int32)).toNatClampNeg) := inb_of S117 ⟨by decide, by decide⟩
  obtain ⟨T117, h117, X117, e117, Wr117, st117⟩ := stC X116 hx hZ e116 Ar117 (j := (15 : Int32)) hin117 (g := (mkF m 190 #[.val (.int (2 : Int32))] [(.int (116 : Int32)), (.int (15 : Int32)), (.ref b101), (.ref b101)])) rfl rfl (hb hby d_method_2_190)
  have G117 : Arv Z h117 b101 k101 .char (16 : Int32) [(.int (99 : Int32)), (.int (108 : Int32)), (.int (111 : Int32)), (.int (117 : Int32)), (.int (100 : Int32)), (.int (68 : Int32)), (.int (101 : Int32)), (.int (118 : Int32)), (.int (101 : Int32)), (.int (108 : Int32)), (.int (111 : Int32)), (.int (112 : Int32)), (.int (109 : Int32)), (.int (101 : Int32)), (.int (110 : Int32)), (.int (116 : Int32))] (.int (0 : Int32)) := Arv.set Ar117 q117 S117 M117 H117 F117g (fits_nar_char _) Wr117 15 rfl (Nat.le_of_ble_eq_true rfl)
  have K117 := Keep.of_wr Wr117
  have N117 := Fr.snoc X117 N116 (Nat.le_trans Z0 (Nat.le_of_eq g101.symm))
  have W118 : ∀ zQ, SS p e below T117 m 191 #[.val (.int (2 : Int32))] [(.ref b101)] zQ → Steps p.tables e below (s₁.setTop (entryFrame m #[(.int (2 : Int32))] 1)) zQ := by
    intro tt kt
    refine W0 tt ?_
    refine XS.iloadN X0.here hx rfl (hb hby d_method_2_0) rfl ?_
    refine XS.ifYes X0.here hx rfl (pc0 := 1) (pc' := 51) rfl (hb hby d_method_2_1) rfl ((if0 _ _).trans (feq (by decide)).2) (by decide) (by decide) ?_
    refine XS.iloadN X0.here hx rfl (hb hby d_method_2_51) rfl ?_
    refine XS.iconst X0.here hx rfl (hb hby d_method_2_52) ?_
    refine XS.icmpYes X0.here hx rfl (pc0 := 53) (pc' := 97) rfl (hb hby d_method_2_53) rfl (feq (by decide)).2 (by decide) (by decide) ?_
    refine XS.bipush X0.here hx rfl (hb hby d_method_2_97) ?_
    show SS p e below s₁ m 99 #[.val (.int (2 : Int32))] [(.int (16 : Int32))] _
    refine st101 _ ?_
    refine XS.dup X101.here hx rfl (hb hby d_method_2_101) rfl rfl ?_
    refine XS.iconst X101.here hx rfl (hb hby d_method_2_102) ?_
    refine XS.bipush X101.here hx rfl (hb hby d_method_2_103) ?_
    show SS p e below T101 m 105 #[.val (.int (2 : Int32))] [(.int (99 : Int32)), (.int (0 : Int32)), (.ref b101), (.ref b101)] _
    refine st102 _ ?_
    refine XS.dup X102.here hx rfl (hb hby d_method_2_106) rfl rfl ?_
    refine XS.iconst X102.here hx rfl (hb hby d_method_2_107) ?_
    refine XS.bipush X102.here hx rfl (hb hby d_method_2_108) ?_
    show SS p e below T102 m 110 #[.val (.int (2 : Int32))] [(.int (108 : Int32)), (.int (1 : Int32)), (.ref b101), (.ref b101)] _
    refine st103 _ ?_
    refine XS.dup X103.here hx rfl (hb hby d_method_2_111) rfl rfl ?_
    refine XS.iconst X103.here hx rfl (hb hby d_method_2_112) ?_
    refine XS.bipush X103.here hx rfl (hb hby d_method_2_113) ?_
    show SS p e below T103 m 115 #[.val (.int (2 : Int32))] [(.int (111 : Int32)), (.int (2 : Int32)), (.ref b101), (.ref b101)] _
    refine st104 _ ?_
    refine XS.dup X104.here hx rfl (hb hby d_method_2_116) rfl rfl ?_
    refine XS.iconst X104.here hx rfl (hb hby d_method_2_117) ?_
    refine XS.bipush X104.here hx rfl (hb hby d_method_2_118) ?_
    show SS p e below T104 m 120 #[.val (.int (2 : Int32))] [(.int (117 : Int32)), (.int (3 : Int32)), (.ref b101), (.ref b101)] _
    refine st105 _ ?_
    refine XS.dup X105.here hx rfl (hb hby d_method_2_121) rfl rfl ?_
    refine XS.iconst X105.here hx rfl (hb hby d_method_2_122) ?_
    refine XS.bipush X105.here hx rfl (hb hby d_method_2_123) ?_
    show SS p e below T105 m 125 #[.val (.int (2 : Int32))] [(.int (100 : Int32)), (.int (4 : Int32)), (.ref b101), (.ref b101)] _
    refine st106 _ ?_
    refine XS.dup X106.here hx rfl (hb hby d_method_2_126) rfl rfl ?_
    refine XS.iconst X106.here hx rfl (hb hby d_method_2_127) ?_
    refine XS.bipush X106.here hx rfl (hb hby d_method_2_128) ?_
    show SS p e below T106 m 130 #[.val (.int (2 : Int32))] [(.int (68 : Int32)), (.int (5 : Int32)), (.ref b101), (.ref b101)] _
    refine st107 _ ?_
    refine XS.dup X107.here hx rfl (hb hby d_method_2_131) rfl rfl ?_
    refine XS.bipush X107.here hx rfl (hb hby d_method_2_132) ?_
    refine XS.bipush X107.here hx rfl (hb hby d_method_2_134) ?_
    show SS p e below T107 m 136 #[.val (.int (2 : Int32))] [(.int (101 : Int32)), (.int (6 : Int32)), (.ref b101), (.ref b101)] _
    refine st108 _ ?_
    refine XS.dup X108.here hx rfl (hb hby d_method_2_137) rfl rfl ?_
    refine XS.bipush X108.here hx rfl (hb hby d_method_2_138) ?_
    refine XS.bipush X108.here hx rfl (hb hby d_method_2_140) ?_
    show SS p e below T108 m 142 #[.val (.int (2 : Int32))] [(.int (118 : Int32)), (.int (7 : Int32)), (.ref b101), (.ref b101)] _
    refine st109 _ ?_
    refine XS.dup X109.here hx rfl (hb hby d_method_2_143) rfl rfl ?_
    refine XS.bipush X109.here hx rfl (hb hby d_method_2_144) ?_
    refine XS.bipush X109.here hx rfl (hb hby d_method_2_146) ?_
    show SS p e below T109 m 148 #[.val (.int (2 : Int32))] [(.int (101 : Int32)), (.int (8 : Int32)), (.ref b101), (.ref b101)] _
    refine st110 _ ?_
    refine XS.dup X110.here hx rfl (hb hby d_method_2_149) rfl rfl ?_
    refine XS.bipush X110.here hx rfl (hb hby d_method_2_150) ?_
    refine XS.bipush X110.here hx rfl (hb hby d_method_2_152) ?_
    show SS p e below T110 m 154 #[.val (.int (2 : Int32))] [(.int (108 : Int32)), (.int (9 : Int32)), (.ref b101), (.ref b101)] _
    refine st111 _ ?_
    refine XS.dup X111.here hx rfl (hb hby d_method_2_155) rfl rfl ?_
    refine XS.bipush X111.here hx rfl (hb hby d_method_2_156) ?_
    refine XS.bipush X111.here hx rfl (hb hby d_method_2_158) ?_
    show SS p e below T111 m 160 #[.val (.int (2 : Int32))] [(.int (111 : Int32)), (.int (10 : Int32)), (.ref b101), (.ref b101)] _
    refine st112 _ ?_
    refine XS.dup X112.here hx rfl (hb hby d_method_2_161) rfl rfl ?_
    refine XS.bipush X112.here hx rfl (hb hby d_method_2_162) ?_
    refine XS.bipush X112.here hx rfl (hb hby d_method_2_164) ?_
    show SS p e below T112 m 166 #[.val (.int (2 : Int32))] [(.int (112 : Int32)), (.int (11 : Int32)), (.ref b101), (.ref b101)] _
    refine st113 _ ?_
    refine XS.dup X113.here hx rfl (hb hby d_method_2_167) rfl rfl ?_
    refine XS.bipush X113.here hx rfl (hb hby d_method_2_168) ?_
    refine XS.bipush X113.here hx rfl (hb hby d_method_2_170) ?_
    show SS p e below T113 m 172 #[.val (.int (2 : Int32))] [(.int (109 : Int32)), (.int (12 : Int32)), (.ref b101), (.ref b101)] _
    refine st114 _ ?_
    refine XS.dup X114.here hx rfl (hb hby d_method_2_173) rfl rfl ?_
    refine XS.bipush X114.here hx rfl (hb hby d_method_2_174) ?_
    refine XS.bipush X114.here hx rfl (hb hby d_method_2_176) ?_
    show SS p e below T114 m 178 #[.val (.int (2 : Int32))] [(.int (101 : Int32)), (.int (13 : Int32)), (.ref b101), (.ref b101)] _
    refine st115 _ ?_
    refine XS.dup X115.here hx rfl (hb hby d_method_2_179) rfl rfl ?_
    refine XS.bipush X115.here hx rfl (hb hby d_method_2_180) ?_
    refine XS.bipush X115.here hx rfl (hb hby d_method_2_182) ?_
    show SS p e below T115 m 184 #[.val (.int (2 : Int32))] [(.int (110 : Int32)), (.int (14 : Int32)), (.ref b101), (.ref b101)] _
    refine st116 _ ?_
    refine XS.dup X116.here hx rfl (hb hby d_method_2_185) rfl rfl ?_
    refine XS.bipush X116.here hx rfl (hb hby d_method_2_186) ?_
    refine XS.bipush X116.here hx rfl (hb hby d_method_2_188) ?_
    show SS p e below T116 m 190 #[.val (.int (2 : Int32))] [(.int (116 : Int32)), (.int (15 : Int32)), (.ref b101), (.ref b101)] _
    refine st117 _ ?_
    exact kt
  obtain ⟨fs, hr, hrun, hended, hW, hsame⟩ := X117.leave (v := some (.ref b101)) (fun h => by rw [Bd.returns] at h; cases h)
  refine ⟨_, _, W118 _ (own_retR X117 hx Bd.returns rfl rfl (hb hby d_method_2_191) hr), hrun, hended, _, _, rfl, ?_, ⟨_, rfl⟩, hW, hsame.mono (by decide) (by decide)⟩
  show Q_full2 Z  h0 n0 _ T117.heap _
  rw [e117]
  exact ⟨b101, k101, rfl, N117, (Keep.trans (Keep.trans (Keep.trans (Keep.trans (Keep.trans (Keep.trans (Keep.trans (Keep.trans (Keep.trans (Keep.trans (Keep.trans (Keep.trans (Keep.trans (Keep.trans (Keep.trans (Keep.trans (Keep.trans (Keep.refl h0 []) K101 all0) K102 (allS (Or.inr (Nat.le_of_eq g101.symm)) all0)) K103 (allS (Or.inr (Nat.le_of_eq g101.symm)) all0)) K104 (allS (Or.inr (Nat.le_of_eq g101.symm)) all0)) K105 (allS (Or.inr (Nat.le_of_eq g101.symm)) all0)) K106 (allS (Or.inr (Nat.le_of_eq g101.symm)) all0)) K107 (allS (Or.inr (Nat.le_of_eq g101.symm)) all0)) K108 (allS (Or.inr (Nat.le_of_eq g101.symm)) all0)) K109 (allS (Or.inr (Nat.le_of_eq g101.symm)) all0)) K110 (allS (Or.inr (Nat.le_of_eq g101.symm)) all0)) K111 (allS (Or.inr (Nat.le_of_eq g101.symm)) all0)) K112 (allS (Or.inr (Nat.le_of_eq g101.symm)) all0)) K113 (allS (Or.inr (Nat.le_of_eq g101.symm)) all0)) K114 (allS (Or.inr (Nat.le_of_eq g101.symm)) all0)) K115 (allS (Or.inr (Nat.le_of_eq g101.symm)) all0)) K116 (allS (Or.inr (Nat.le_of_eq g101.symm)) all0)) K117 (allS (Or.inr (Nat.le_of_eq g101.symm)) all0)), (Nat.le_of_eq g101.symm), G117⟩
def Q_prefix2 (Z : State)  (h0 : Heap) (n0 : Nat) (vQ_ : Option Value) (hQ_ : Heap) (LQ_ : List Loc) : Prop := ∃ r : Addr, ∃ kr : ClassId, vQ_ = some (.ref r) ∧ Fr n0 LQ_ ∧ Keep h0 hQ_ [] ∧ h0.size ≤ r ∧ Arv Z hQ_ r kr .char (15 : Int32) [(.int (99 : Int32)), (.int (108 : Int32)), (.int (111 : Int32)), (.int (117 : Int32)), (.int (100 : Int32)), (.int (68 : Int32)), (.int (101 : Int32)), (.int (118 : Int32)), (.int (101 : Int32)), (.int (108 : Int32)), (.int (111 : Int32)), (.int (112 : Int32)), (.int (109 : Int32)), (.int (101 : Int32)), (.int (110 : Int32))] (.int (0 : Int32))
set_option maxRecDepth 65536 in
set_option maxHeartbeats 40000000 in
theorem rm_prefix2 (l : Launch) (Z : State) (a0 : Array Value) (hw : HW a0 Z) (ws : List Jvm.Cond)  (h0 : Heap) (n0 : Nat) (Z0 : n0 ≤ h0.size)  :
    MetFree l yn12 (head1 (Jvm.Cond.code yn12 method_3_code 1 (some (.array .char)) :: ws) ({ frames := 0, cells := 1, slots := 15, locals := 0 } : Room)) (fun aQ_ UQ => aQ_ = #[(.int (2 : Int32))] ∧ Z.Warmed39 UQ.vm ∧ UQ.heap = h0) (fun _ _ _ _ _ => True) (fun _ UQ oQ UQ' => ∃ vQ_ LQ_, oQ = .returned vQ_ ∧ Q_prefix2 Z  h0 n0 vQ_ UQ'.heap LQ_ ∧ FrameEnd UQ oQ UQ' LQ_ ({ frames := 0, cells := 1, slots := 15, locals := 0 } : Room).cells ({ frames := 0, cells := 1, slots := 15, locals := 0 } : Room).slots) := by
  refine MetFree.of_bodySF (plainFor_of_name pn_com_example_composition_composition_definition_AbapLanguageVersionOfJsonNamePinLaw) hisR ?_
  intro p e s m args below meth cO s₁ Bd hml0 hP hK
  obtain ⟨rfl, hZ, hh⟩ := hP
  have hx := Bd.exec
  have hby := Bd.bytes
  have hml : cO.maxLocals = 1 := hml0
  have hown : s.vm.findClass "com/example/composition/composition/definition/AbapLanguageVersionOfJsonNamePinLaw" = some m.cls := findClass_of_methodNamed Bd.named
  have hnm := (name_of_methodNamed Bd.named Bd.method).1
  have X0 : Stand p l e ({ frames := 0, cells := 1, slots := 15, locals := 0 } : Room) s m #[(.int (2 : Int32))] below meth cO s₁ [] 0 0 := Stand.of_body Bd
  have e0 : s₁.heap = h0 := by rw [← hh, Bd.state]; rfl
  have N0 := Fr.nil n0
  have W0 : ∀ zQ, SS p e below s₁ m 0 #[.val (.int (2 : Int32))] [] zQ → Steps p.tables e below (s₁.setTop (entryFrame m #[(.int (2 : Int32))] 1)) zQ := fun tt kt => castTop (ef_prefix2 m (2 : Int32)) kt
  obtain ⟨T101, h101, k101, X101, e101, E101, A101, st101⟩ := newP X0 hx hZ (aty := .char) (w9 hw) e0 (g := (mkF m 87 #[.val (.int (2 : Int32))] [(.int (15 : Int32))])) rfl (hb hby d_method_3_87) (n := (15 : Int32)) rfl (by decide) (cap := 15) (by decide) (by decide) (by decide) (by decide)
  obtain ⟨b101, g101⟩ : ∃ z, z = h0.size := ⟨_, rfl⟩
  rw [← g101] at A101 st101
  have K101 := (Keep.refl h0 []).ext E101
  have G101 : Arv Z h101 b101 k101 .char (15 : Int32) [(.int (0 : Int32)), (.int (0 : Int32)), (.int (0 : Int32)), (.int (0 : Int32)), (.int (0 : Int32)), (.int (0 : Int32)), (.int (0 : Int32)), (.int (0 : Int32)), (.int (0 : Int32)), (.int (0 : Int32)), (.int (0 : Int32)), (.int (0 : Int32)), (.int (0 : Int32)), (.int (0 : Int32)), (.int (0 : Int32))] (.int (0 : Int32)) := (Arv.new A101 (by decide)).pad (pad_rep [] (.int (0 : Int32)) 15)
  obtain ⟨cl102, Ar102, q102, S102, M102, H102, F102g⟩ := id G101
  have hin102 : ¬ ((0 : Int32) < 0 ∨ cl102.slots.size ≤ ((0 : Int32)).toNatClampNeg) := inb_of S102 ⟨by decide, by decide⟩
  obtain ⟨T102, h102, X102, e102, Wr102, st102⟩ := stC X101 hx hZ e101 Ar102 (j := (0 : Int32)) hin102 (g := (mkF m 93 #[.val (.int (2 : Int32))] [(.int (99 : Int32)), (.int (0 : Int32)), (.ref b101), (.ref b101)])) rfl rfl (hb hby d_method_3_93)
  have G102 : Arv Z h102 b101 k101 .char (15 : Int32) [(.int (99 : Int32)), (.int (0 : Int32)), (.int (0 : Int32)), (.int (0 : Int32)), (.int (0 : Int32)), (.int (0 : Int32)), (.int (0 : Int32)), (.int (0 : Int32)), (.int (0 : Int32)), (.int (0 : Int32)), (.int (0 : Int32)), (.int (0 : Int32)), (.int (0 : Int32)), (.int (0 : Int32)), (.int (0 : Int32))] (.int (0 : Int32)) := Arv.set Ar102 q102 S102 M102 H102 F102g (fits_nar_char _) Wr102 0 rfl (Nat.le_of_ble_eq_true rfl)
  have K102 := Keep.of_wr Wr102
  have N102 := Fr.snoc X102 N0 (Nat.le_trans Z0 (Nat.le_of_eq g101.symm))
  obtain ⟨cl103, Ar103, q103, S103, M103, H103, F103g⟩ := id G102
  have hin103 : ¬ ((1 : Int32) < 0 ∨ cl103.slots.size ≤ ((1 : Int32)).toNatClampNeg) := inb_of S103 ⟨by decide, by decide⟩
  obtain ⟨T103, h103, X103, e103, Wr103, st103⟩ := stC X102 hx hZ e102 Ar103 (j := (1 : Int32)) hin103 (g := (mkF m 98 #[.val (.int (2 : Int32))] [(.int (108 : Int32)), (.int (1 : Int32)), (.ref b101), (.ref b101)])) rfl rfl (hb hby d_method_3_98)
  have G103 : Arv Z h103 b101 k101 .char (15 : Int32) [(.int (99 : Int32)), (.int (108 : Int32)), (.int (0 : Int32)), (.int (0 : Int32)), (.int (0 : Int32)), (.int (0 : Int32)), (.int (0 : Int32)), (.int (0 : Int32)), (.int (0 : Int32)), (.int (0 : Int32)), (.int (0 : Int32)), (.int (0 : Int32)), (.int (0 : Int32)), (.int (0 : Int32)), (.int (0 : Int32))] (.int (0 : Int32)) := Arv.set Ar103 q103 S103 M103 H103 F103g (fits_nar_char _) Wr103 1 rfl (Nat.le_of_ble_eq_true rfl)
  have K103 := Keep.of_wr Wr103
  have N103 := Fr.snoc X103 N102 (Nat.le_trans Z0 (Nat.le_of_eq g101.symm))
  obtain ⟨cl104, Ar104, q104, S104, M104, H104, F104g⟩ := id G103
  have hin104 : ¬ ((2 : Int32) < 0 ∨ cl104.slots.size ≤ ((2 : Int32)).toNatClampNeg) := inb_of S104 ⟨by decide, by decide⟩
  obtain ⟨T104, h104, X104, e104, Wr104, st104⟩ := stC X103 hx hZ e103 Ar104 (j := (2 : Int32)) hin104 (g := (mkF m 103 #[.val (.int (2 : Int32))] [(.int (111 : Int32)), (.int (2 : Int32)), (.ref b101), (.ref b101)])) rfl rfl (hb hby d_method_3_103)
  have G104 : Arv Z h104 b101 k101 .char (15 : Int32) [(.int (99 : Int32)), (.int (108 : Int32)), (.int (111 : Int32)), (.int (0 : Int32)), (.int (0 : Int32)), (.int (0 : Int32)), (.int (0 : Int32)), (.int (0 : Int32)), (.int (0 : Int32)), (.int (0 : Int32)), (.int (0 : Int32)), (.int (0 : Int32)), (.int (0 : Int32)), (.int (0 : Int32)), (.int (0 : Int32))] (.int (0 : Int32)) := Arv.set Ar104 q104 S104 M104 H104 F104g (fits_nar_char _) Wr104 2 rfl (Nat.le_of_ble_eq_true rfl)
  have K104 := Keep.of_wr Wr104
  have N104 := Fr.snoc X104 N103 (Nat.le_trans Z0 (Nat.le_of_eq g101.symm))
  obtain ⟨cl105, Ar105, q105, S105, M105, H105, F105g⟩ := id G104
  have hin105 : ¬ ((3 : Int32) < 0 ∨ cl105.slots.size ≤ ((3 : Int32)).toNatClampNeg) := inb_of S105 ⟨by decide, by decide⟩
  obtain ⟨T105, h105, X105, e105, Wr105, st105⟩ := stC X104 hx hZ e104 Ar105 (j := (3 : Int32)) hin105 (g := (mkF m 108 #[.val (.int (2 : Int32))] [(.int (117 : Int32)), (.int (3 : Int32)), (.ref b101), (.ref b101)])) rfl rfl (hb hby d_method_3_108)
  have G105 : Arv Z h105 b101 k101 .char (15 : Int32) [(.int (99 : Int32)), (.int (108 : Int32)), (.int (111 : Int32)), (.int (117 : Int32)), (.int (0 : Int32)), (.int (0 : Int32)), (.int (0 : Int32)), (.int (0 : Int32)), (.int (0 : Int32)), (.int (0 : Int32)), (.int (0 : Int32)), (.int (0 : Int32)), (.int (0 : Int32)), (.int (0 : Int32)), (.int (0 : Int32))] (.int (0 : Int32)) := Arv.set Ar105 q105 S105 M105 H105 F105g (fits_nar_char _) Wr105 3 rfl (Nat.le_of_ble_eq_true rfl)
  have K105 := Keep.of_wr Wr105
  have N105 := Fr.snoc X105 N104 (Nat.le_trans Z0 (Nat.le_of_eq g101.symm))
  obtain ⟨cl106, Ar106, q106, S106, M106, H106, F106g⟩ := id G105
  have hin106 : ¬ ((4 : Int32) < 0 ∨ cl106.slots.size ≤ ((4 : Int32)).toNatClampNeg) := inb_of S106 ⟨by decide, by decide⟩
  obtain ⟨T106, h106, X106, e106, Wr106, st106⟩ := stC X105 hx hZ e105 Ar106 (j := (4 : Int32)) hin106 (g := (mkF m 113 #[.val (.int (2 : Int32))] [(.int (100 : Int32)), (.int (4 : Int32)), (.ref b101), (.ref b101)])) rfl rfl (hb hby d_method_3_113)
  have G106 : Arv Z h106 b101 k101 .char (15 : Int32) [(.int (99 : Int32)), (.int (108 : Int32)), (.int (111 : Int32)), (.int (117 : Int32)), (.int (100 : Int32)), (.int (0 : Int32)), (.int (0 : Int32)), (.int (0 : Int32)), (.int (0 : Int32)), (.int (0 : Int32)), (.int (0 : Int32)), (.int (0 : Int32)), (.int (0 : Int32)), (.int (0 : Int32)), (.int (0 : Int32))] (.int (0 : Int32)) := Arv.set Ar106 q106 S106 M106 H106 F106g (fits_nar_char _) Wr106 4 rfl (Nat.le_of_ble_eq_true rfl)
  have K106 := Keep.of_wr Wr106
  have N106 := Fr.snoc X106 N105 (Nat.le_trans Z0 (Nat.le_of_eq g101.symm))
  obtain ⟨cl107, Ar107, q107, S107, M107, H107, F107g⟩ := id G106
  have hin107 : ¬ ((5 : Int32) < 0 ∨ cl107.slots.size ≤ ((5 : Int32)).toNatClampNeg) := inb_of S107 ⟨by decide, by decide⟩
  obtain ⟨T107, h107, X107, e107, Wr107, st107⟩ := stC X106 hx hZ e106 Ar107 (j := (5 : Int32)) hin107 (g := (mkF m 118 #[.val (.int (2 : Int32))] [(.int (68 : Int32)), (.int (5 : Int32)), (.ref b101), (.ref b101)])) rfl rfl (hb hby d_method_3_118)
  have G107 : Arv Z h107 b101 k101 .char (15 : Int32) [(.int (99 : Int32)), (.int (108 : Int32)), (.int (111 : Int32)), (.int (117 : Int32)), (.int (100 : Int32)), (.int (68 : Int32)), (.int (0 : Int32)), (.int (0 : Int32)), (.int (0 : Int32)), (.int (0 : Int32)), (.int (0 : Int32)), (.int (0 : Int32)), (.int (0 : Int32)), (.int (0 : Int32)), (.int (0 : Int32))] (.int (0 : Int32)) := Arv.set Ar107 q107 S107 M107 H107 F107g (fits_nar_char _) Wr107 5 rfl (Nat.le_of_ble_eq_true rfl)
  have K107 := Keep.of_wr Wr107
  have N107 := Fr.snoc X107 N106 (Nat.le_trans Z0 (Nat.le_of_eq g101.symm))
  obtain ⟨cl108, Ar108, q108, S108, M108, H108, F108g⟩ := id G107
  have hin108 : ¬ ((6 : Int32) < 0 ∨ cl108.slots.size ≤ ((6 : Int32)).toNatClampNeg) := inb_of S108 ⟨by decide, by decide⟩
  obtain ⟨T108, h108, X108, e108, Wr108, st108⟩ := stC X107 hx hZ e107 Ar108 (j := (6 : Int32)) hin108 (g := (mkF m 124 #[.val (.int (2 : Int32))] [(.int (101 : Int32)), (.int (6 : Int32)), (.ref b101), (.ref b101)])) rfl rfl (hb hby d_method_3_124)
  have G108 : Arv Z h108 b101 k101 .char (15 : Int32) [(.int (99 : Int32)), (.int (108 : Int32)), (.int (111 : Int32)), (.int (117 : Int32)), (.int (100 : Int32)), (.int (68 : Int32)), (.int (101 : Int32)), (.int (0 : Int32)), (.int (0 : Int32)), (.int (0 : Int32)), (.int (0 : Int32)), (.int (0 : Int32)), (.int (0 : Int32)), (.int (0 : Int32)), (.int (0 : Int32))] (.int (0 : Int32)) := Arv.set Ar108 q108 S108 M108 H108 F108g (fits_nar_char _) Wr108 6 rfl (Nat.le_of_ble_eq_true rfl)
  have K108 := Keep.of_wr Wr108
  have N108 := Fr.snoc X108 N107 (Nat.le_trans Z0 (Nat.le_of_eq g101.symm))
  obtain ⟨cl109, Ar109, q109, S109, M109, H109, F109g⟩ := id G108
  have hin109 : ¬ ((7 : Int32) < 0 ∨ cl109.slots.size ≤ ((7 : Int32)).toNatClampNeg) := inb_of S109 ⟨by decide, by decide⟩
  obtain ⟨T109, h109, X109, e109, Wr109, st109⟩ := stC X108 hx hZ e108 Ar109 (j := (7 : Int32)) hin109 (g := (mkF m 130 #[.val (.int (2 : Int32))] [(.int (118 : Int32)), (.int (7 : Int32)), (.ref b101), (.ref b101)])) rfl rfl (hb hby d_method_3_130)
  have G109 : Arv Z h109 b101 k101 .char (15 : Int32) [(.int (99 : Int32)), (.int (108 : Int32)), (.int (111 : Int32)), (.int (117 : Int32)), (.int (100 : Int32)), (.int (68 : Int32)), (.int (101 : Int32)), (.int (118 : Int32)), (.int (0 : Int32)), (.int (0 : Int32)), (.int (0 : Int32)), (.int (0 : Int32)), (.int (0 : Int32)), (.int (0 : Int32)), (.int (0 : Int32))] (.int (0 : Int32)) := Arv.set Ar109 q109 S109 M109 H109 F109g (fits_nar_char _) Wr109 7 rfl (Nat.le_of_ble_eq_true rfl)
  have K109 := Keep.of_wr Wr109
  have N109 := Fr.snoc X109 N108 (Nat.le_trans Z0 (Nat.le_of_eq g101.symm))
  obtain ⟨cl110, Ar110, q110, S110, M110, H110, F110g⟩ := id G109
  have hin110 : ¬ ((8 : Int32) < 0 ∨ cl110.slots.size ≤ ((8 : Int32)).toNatClampNeg) := inb_of S110 ⟨by decide, by decide⟩
  obtain ⟨T110, h110, X110, e110, Wr110, st110⟩ := stC X109 hx hZ e109 Ar110 (j := (8 : Int32)) hin110 (g := (mkF m 136 #[.val (.int (2 : Int32))] [(.int (101 : Int32)), (.int (8 : Int32)), (.ref b101), (.ref b101)])) rfl rfl (hb hby d_method_3_136)
  have G110 : Arv Z h110 b101 k101 .char (15 : Int32) [(.int (99 : Int32)), (.int (108 : Int32)), (.int (111 : Int32)), (.int (117 : Int32)), (.int (100 : Int32)), (.int (68 : Int32)), (.int (101 : Int32)), (.int (118 : Int32)), (.int (101 : Int32)), (.int (0 : Int32)), (.int (0 : Int32)), (.int (0 : Int32)), (.int (0 : Int32)), (.int (0 : Int32)), (.int (0 : Int32))] (.int (0 : Int32)) := Arv.set Ar110 q110 S110 M110 H110 F110g (fits_nar_char _) Wr110 8 rfl (Nat.le_of_ble_eq_true rfl)
  have K110 := Keep.of_wr Wr110
  have N110 := Fr.snoc X110 N109 (Nat.le_trans Z0 (Nat.le_of_eq g101.symm))
  obtain ⟨cl111, Ar111, q111, S111, M111, H111, F111g⟩ := id G110
  have hin111 : ¬ ((9 : Int32) < 0 ∨ cl111.slots.size ≤ ((9 : Int32)).toNatClampNeg) := inb_of S111 ⟨by decide, by decide⟩
  obtain ⟨T111, h111, X111, e111, Wr111, st111⟩ := stC X110 hx hZ e110 Ar111 (j := (9 : Int32)) hin111 (g := (mkF m 142 #[.val (.int (2 : Int32))] [(.int (108 : Int32)), (.int (9 : Int32)), (.ref b101), (.ref b101)])) rfl rfl (hb hby d_method_3_142)
  have G111 : Arv Z h111 b101 k101 .char (15 : Int32) [(.int (99 : Int32)), (.int (108 : Int32)), (.int (111 : Int32)), (.int (117 : Int32)), (.int (100 : Int32)), (.int (68 : Int32)), (.int (101 : Int32)), (.int (118 : Int32)), (.int (101 : Int32)), (.int (108 : Int32)), (.int (0 : Int32)), (.int (0 : Int32)), (.int (0 : Int32)), (.int (0 : Int32)), (.int (0 : Int32))] (.int (0 : Int32)) := Arv.set Ar111 q111 S111 M111 H111 F111g (fits_nar_char _) Wr111 9 rfl (Nat.le_of_ble_eq_true rfl)
  have K111 := Keep.of_wr Wr111
  have N111 := Fr.snoc X111 N110 (Nat.le_trans Z0 (Nat.le_of_eq g101.symm))
  obtain ⟨cl112, Ar112, q112, S112, M112, H112, F112g⟩ := id G111
  have hin112 : ¬ ((10 : Int32) < 0 ∨ cl112.slots.size ≤ ((10 : Int32)).toNatClampNeg) := inb_of S112 ⟨by decide, by decide⟩
  obtain ⟨T112, h112, X112, e112, Wr112, st112⟩ := stC X111 hx hZ e111 Ar112 (j := (10 : Int32)) hin112 (g := (mkF m 148 #[.val (.int (2 : Int32))] [(.int (111 : Int32)), (.int (10 : Int32)), (.ref b101), (.ref b101)])) rfl rfl (hb hby d_method_3_148)
  have G112 : Arv Z h112 b101 k101 .char (15 : Int32) [(.int (99 : Int32)), (.int (108 : Int32)), (.int (111 : Int32)), (.int (117 : Int32)), (.int (100 : Int32)), (.int (68 : Int32)), (.int (101 : Int32)), (.int (118 : Int32)), (.int (101 : Int32)), (.int (108 : Int32)), (.int (111 : Int32)), (.int (0 : Int32)), (.int (0 : Int32)), (.int (0 : Int32)), (.int (0 : Int32))] (.int (0 : Int32)) := Arv.set Ar112 q112 S112 M112 H112 F112g (fits_nar_char _) Wr112 10 rfl (Nat.le_of_ble_eq_true rfl)
  have K112 := Keep.of_wr Wr112
  have N112 := Fr.snoc X112 N111 (Nat.le_trans Z0 (Nat.le_of_eq g101.symm))
  obtain ⟨cl113, Ar113, q113, S113, M113, H113, F113g⟩ := id G112
  have hin113 : ¬ ((11 : Int32) < 0 ∨ cl113.slots.size ≤ ((11 : Int32)).toNatClampNeg) := inb_of S113 ⟨by decide, by decide⟩
  obtain ⟨T113, h113, X113, e113, Wr113, st113⟩ := stC X112 hx hZ e112 Ar113 (j := (11 : Int32)) hin113 (g := (mkF m 154 #[.val (.int (2 : Int32))] [(.int (112 : Int32)), (.int (11 : Int32)), (.ref b101), (.ref b101)])) rfl rfl (hb hby d_method_3_154)
  have G113 : Arv Z h113 b101 k101 .char (15 : Int32) [(.int (99 : Int32)), (.int (108 : Int32)), (.int (111 : Int32)), (.int (117 : Int32)), (.int (100 : Int32)), (.int (68 : Int32)), (.int (101 : Int32)), (.int (118 : Int32)), (.int (101 : Int32)), (.int (108 : Int32)), (.int (111 : Int32)), (.int (112 : Int32)), (.int (0 : Int32)), (.int (0 : Int32)), (.int (0 : Int32))] (.int (0 : Int32)) := Arv.set Ar113 q113 S113 M113 H113 F113g (fits_nar_char _) Wr113 11 rfl (Nat.le_of_ble_eq_true rfl)
  have K113 := Keep.of_wr Wr113
  have N113 := Fr.snoc X113 N112 (Nat.le_trans Z0 (Nat.le_of_eq g101.symm))
  obtain ⟨cl114, Ar114, q114, S114, M114, H114, F114g⟩ := id G113
  have hin114 : ¬ ((12 : Int32) < 0 ∨ cl114.slots.size ≤ ((12 : Int32)).toNatClampNeg) := inb_of S114 ⟨by decide, by decide⟩
  obtain ⟨T114, h114, X114, e114, Wr114, st114⟩ := stC X113 hx hZ e113 Ar114 (j := (12 : Int32)) hin114 (g := (mkF m 160 #[.val (.int (2 : Int32))] [(.int (109 : Int32)), (.int (12 : Int32)), (.ref b101), (.ref b101)])) rfl rfl (hb hby d_method_3_160)
  have G114 : Arv Z h114 b101 k101 .char (15 : Int32) [(.int (99 : Int32)), (.int (108 : Int32)), (.int (111 : Int32)), (.int (117 : Int32)), (.int (100 : Int32)), (.int (68 : Int32)), (.int (101 : Int32)), (.int (118 : Int32)), (.int (101 : Int32)), (.int (108 : Int32)), (.int (111 : Int32)), (.int (112 : Int32)), (.int (109 : Int32)), (.int (0 : Int32)), (.int (0 : Int32))] (.int (0 : Int32)) := Arv.set Ar114 q114 S114 M114 H114 F114g (fits_nar_char _) Wr114 12 rfl (Nat.le_of_ble_eq_true rfl)
  have K114 := Keep.of_wr Wr114
  have N114 := Fr.snoc X114 N113 (Nat.le_trans Z0 (Nat.le_of_eq g101.symm))
  obtain ⟨cl115, Ar115, q115, S115, M115, H115, F115g⟩ := id G114
  have hin115 : ¬ ((13 : Int32) < 0 ∨ cl115.slots.size ≤ ((13 : Int32)).toNatClampNeg) := inb_of S115 ⟨by decide, by decide⟩
  obtain ⟨T115, h115, X115, e115, Wr115, st115⟩ := stC X114 hx hZ e114 Ar115 (j := (13 : Int32)) hin115 (g := (mkF m 166 #[.val (.int (2 : Int32))] [(.int (101 : Int32)), (.int (13 : Int32)), (.ref b101), (.ref b101)])) rfl rfl (hb hby d_method_3_166)
  have G115 : Arv Z h115 b101 k101 .char (15 : Int32) [(.int (99 : Int32)), (.int (108 : Int32)), (.int (111 : Int32)), (.int (117 : Int32)), (.int (100 : Int32)), (.int (68 : Int32)), (.int (101 : Int32)), (.int (118 : Int32)), (.int (101 : Int32)), (.int (108 : Int32)), (.int (111 : Int32)), (.int (112 : Int32)), (.int (109 : Int32)), (.int (101 : Int32)), (.int (0 : Int32))] (.int (0 : Int32)) := Arv.set Ar115 q115 S115 M115 H115 F115g (fits_nar_char _) Wr115 13 rfl (Nat.le_of_ble_eq_true rfl)
  have K115 := Keep.of_wr Wr115
  have N115 := Fr.snoc X115 N114 (Nat.le_trans Z0 (Nat.le_of_eq g101.symm))
  obtain ⟨cl116, Ar116, q116, S116, M116, H116, F116g⟩ := id G115
  have hin116 : ¬ ((14 : Int32) < 0 ∨ cl116.slots.size ≤ ((14 : Int32)).toNatClampNeg) := inb_of S116 ⟨by decide, by decide⟩
  obtain ⟨T116, h116, X116, e116, Wr116, st116⟩ := stC X115 hx hZ e115 Ar116 (j := (14 : Int32)) hin116 (g := (mkF m 172 #[.val (.int (2 : Int32))] [(.int (110 : Int32)), (.int (14 : Int32)), (.ref b101), (.ref b101)])) rfl rfl (hb hby d_method_3_172)
  have G116 : Arv Z h116 b101 k101 .char (15 : Int32) [(.int (99 : Int32)), (.int (108 : Int32)), (.int (111 : Int32)), (.int (117 : Int32)), (.int (100 : Int32)), (.int (68 : Int32)), (.int (101 : Int32)), (.int (118 : Int32)), (.int (101 : Int32)), (.int (108 : Int32)), (.int (111 : Int32)), (.int (112 : Int32)), (.int (109 : Int32)), (.int (101 : Int32)), (.int (110 : Int32))] (.int (0 : Int32)) := Arv.set Ar116 q116 S116 M116 H116 F116g (fits_nar_char _) Wr116 14 rfl (Nat.le_of_ble_eq_true rfl)
  have K116 := Keep.of_wr Wr116
  have N116 := Fr.snoc X116 N115 (Nat.le_trans Z0 (Nat.le_of_eq g101.symm))
  have W117 : ∀ zQ, SS p e below T116 m 173 #[.val (.int (2 : Int32))] [(.ref b101)] zQ → Steps p.tables e below (s₁.setTop (entryFrame m #[(.int (2 : Int32))] 1)) zQ := by
    intro tt kt
    refine W0 tt ?_
    refine XS.iloadN X0.here hx rfl (hb hby d_method_3_0) rfl ?_
    refine XS.ifYes X0.here hx rfl (pc0 := 1) (pc' := 45) rfl (hb hby d_method_3_1) rfl ((if0 _ _).trans (feq (by decide)).2) (by decide) (by decide) ?_
    refine XS.iloadN X0.here hx rfl (hb hby d_method_3_45) rfl ?_
    refine XS.iconst X0.here hx rfl (hb hby d_method_3_46) ?_
    refine XS.icmpYes X0.here hx rfl (pc0 := 47) (pc' := 85) rfl (hb hby d_method_3_47) rfl (feq (by decide)).2 (by decide) (by decide) ?_
    refine XS.bipush X0.here hx rfl (hb hby d_method_3_85) ?_
    show SS p e below s₁ m 87 #[.val (.int (2 : Int32))] [(.int (15 : Int32))] _
    refine st101 _ ?_
    refine XS.dup X101.here hx rfl (hb hby d_method_3_89) rfl rfl ?_
    refine XS.iconst X101.here hx rfl (hb hby d_method_3_90) ?_
    refine XS.bipush X101.here hx rfl (hb hby d_method_3_91) ?_
    show SS p e below T101 m 93 #[.val (.int (2 : Int32))] [(.int (99 : Int32)), (.int (0 : Int32)), (.ref b101), (.ref b101)] _
    refine st102 _ ?_
    refine XS.dup X102.here hx rfl (hb hby d_method_3_94) rfl rfl ?_
    refine XS.iconst X102.here hx rfl (hb hby d_method_3_95) ?_
    refine XS.bipush X102.here hx rfl (hb hby d_method_3_96) ?_
    show SS p e below T102 m 98 #[.val (.int (2 : Int32))] [(.int (108 : Int32)), (.int (1 : Int32)), (.ref b101), (.ref b101)] _
    refine st103 _ ?_
    refine XS.dup X103.here hx rfl (hb hby d_method_3_99) rfl rfl ?_
    refine XS.iconst X103.here hx rfl (hb hby d_method_3_100) ?_
    refine XS.bipush X103.here hx rfl (hb hby d_method_3_101) ?_
    show SS p e below T103 m 103 #[.val (.int (2 : Int32))] [(.int (111 : Int32)), (.int (2 : Int32)), (.ref b101), (.ref b101)] _
    refine st104 _ ?_
    refine XS.dup X104.here hx rfl (hb hby d_method_3_104) rfl rfl ?_
    refine XS.iconst X104.here hx rfl (hb hby d_method_3_105) ?_
    refine XS.bipush X104.here hx rfl (hb hby d_method_3_106) ?_
    show SS p e below T104 m 108 #[.val (.int (2 : Int32))] [(.int (117 : Int32)), (.int (3 : Int32)), (.ref b101), (.ref b101)] _
    refine st105 _ ?_
    refine XS.dup X105.here hx rfl (hb hby d_method_3_109) rfl rfl ?_
    refine XS.iconst X105.here hx rfl (hb hby d_method_3_110) ?_
    refine XS.bipush X105.here hx rfl (hb hby d_method_3_111) ?_
    show SS p e below T105 m 113 #[.val (.int (2 : Int32))] [(.int (100 : Int32)), (.int (4 : Int32)), (.ref b101), (.ref b101)] _
    refine st106 _ ?_
    refine XS.dup X106.here hx rfl (hb hby d_method_3_114) rfl rfl ?_
    refine XS.iconst X106.here hx rfl (hb hby d_method_3_115) ?_
    refine XS.bipush X106.here hx rfl (hb hby d_method_3_116) ?_
    show SS p e below T106 m 118 #[.val (.int (2 : Int32))] [(.int (68 : Int32)), (.int (5 : Int32)), (.ref b101), (.ref b101)] _
    refine st107 _ ?_
    refine XS.dup X107.here hx rfl (hb hby d_method_3_119) rfl rfl ?_
    refine XS.bipush X107.here hx rfl (hb hby d_method_3_120) ?_
    refine XS.bipush X107.here hx rfl (hb hby d_method_3_122) ?_
    show SS p e below T107 m 124 #[.val (.int (2 : Int32))] [(.int (101 : Int32)), (.int (6 : Int32)), (.ref b101), (.ref b101)] _
    refine st108 _ ?_
    refine XS.dup X108.here hx rfl (hb hby d_method_3_125) rfl rfl ?_
    refine XS.bipush X108.here hx rfl (hb hby d_method_3_126) ?_
    refine XS.bipush X108.here hx rfl (hb hby d_method_3_128) ?_
    show SS p e below T108 m 130 #[.val (.int (2 : Int32))] [(.int (118 : Int32)), (.int (7 : Int32)), (.ref b101), (.ref b101)] _
    refine st109 _ ?_
    refine XS.dup X109.here hx rfl (hb hby d_method_3_131) rfl rfl ?_
    refine XS.bipush X109.here hx rfl (hb hby d_method_3_132) ?_
    refine XS.bipush X109.here hx rfl (hb hby d_method_3_134) ?_
    show SS p e below T109 m 136 #[.val (.int (2 : Int32))] [(.int (101 : Int32)), (.int (8 : Int32)), (.ref b101), (.ref b101)] _
    refine st110 _ ?_
    refine XS.dup X110.here hx rfl (hb hby d_method_3_137) rfl rfl ?_
    refine XS.bipush X110.here hx rfl (hb hby d_method_3_138) ?_
    refine XS.bipush X110.here hx rfl (hb hby d_method_3_140) ?_
    show SS p e below T110 m 142 #[.val (.int (2 : Int32))] [(.int (108 : Int32)), (.int (9 : Int32)), (.ref b101), (.ref b101)] _
    refine st111 _ ?_
    refine XS.dup X111.here hx rfl (hb hby d_method_3_143) rfl rfl ?_
    refine XS.bipush X111.here hx rfl (hb hby d_method_3_144) ?_
    refine XS.bipush X111.here hx rfl (hb hby d_method_3_146) ?_
    show SS p e below T111 m 148 #[.val (.int (2 : Int32))] [(.int (111 : Int32)), (.int (10 : Int32)), (.ref b101), (.ref b101)] _
    refine st112 _ ?_
    refine XS.dup X112.here hx rfl (hb hby d_method_3_149) rfl rfl ?_
    refine XS.bipush X112.here hx rfl (hb hby d_method_3_150) ?_
    refine XS.bipush X112.here hx rfl (hb hby d_method_3_152) ?_
    show SS p e below T112 m 154 #[.val (.int (2 : Int32))] [(.int (112 : Int32)), (.int (11 : Int32)), (.ref b101), (.ref b101)] _
    refine st113 _ ?_
    refine XS.dup X113.here hx rfl (hb hby d_method_3_155) rfl rfl ?_
    refine XS.bipush X113.here hx rfl (hb hby d_method_3_156) ?_
    refine XS.bipush X113.here hx rfl (hb hby d_method_3_158) ?_
    show SS p e below T113 m 160 #[.val (.int (2 : Int32))] [(.int (109 : Int32)), (.int (12 : Int32)), (.ref b101), (.ref b101)] _
    refine st114 _ ?_
    refine XS.dup X114.here hx rfl (hb hby d_method_3_161) rfl rfl ?_
    refine XS.bipush X114.here hx rfl (hb hby d_method_3_162) ?_
    refine XS.bipush X114.here hx rfl (hb hby d_method_3_164) ?_
    show SS p e below T114 m 166 #[.val (.int (2 : Int32))] [(.int (101 : Int32)), (.int (13 : Int32)), (.ref b101), (.ref b101)] _
    refine st115 _ ?_
    refine XS.dup X115.here hx rfl (hb hby d_method_3_167) rfl rfl ?_
    refine XS.bipush X115.here hx rfl (hb hby d_method_3_168) ?_
    refine XS.bipush X115.here hx rfl (hb hby d_method_3_170) ?_
    show SS p e below T115 m 172 #[.val (.int (2 : Int32))] [(.int (110 : Int32)), (.int (14 : Int32)), (.ref b101), (.ref b101)] _
    refine st116 _ ?_
    exact kt
  obtain ⟨fs, hr, hrun, hended, hW, hsame⟩ := X116.leave (v := some (.ref b101)) (fun h => by rw [Bd.returns] at h; cases h)
  refine ⟨_, _, W117 _ (own_retR X116 hx Bd.returns rfl rfl (hb hby d_method_3_173) hr), hrun, hended, _, _, rfl, ?_, ⟨_, rfl⟩, hW, hsame.mono (by decide) (by decide)⟩
  show Q_prefix2 Z  h0 n0 _ T116.heap _
  rw [e116]
  exact ⟨b101, k101, rfl, N116, (Keep.trans (Keep.trans (Keep.trans (Keep.trans (Keep.trans (Keep.trans (Keep.trans (Keep.trans (Keep.trans (Keep.trans (Keep.trans (Keep.trans (Keep.trans (Keep.trans (Keep.trans (Keep.trans (Keep.refl h0 []) K101 all0) K102 (allS (Or.inr (Nat.le_of_eq g101.symm)) all0)) K103 (allS (Or.inr (Nat.le_of_eq g101.symm)) all0)) K104 (allS (Or.inr (Nat.le_of_eq g101.symm)) all0)) K105 (allS (Or.inr (Nat.le_of_eq g101.symm)) all0)) K106 (allS (Or.inr (Nat.le_of_eq g101.symm)) all0)) K107 (allS (Or.inr (Nat.le_of_eq g101.symm)) all0)) K108 (allS (Or.inr (Nat.le_of_eq g101.symm)) all0)) K109 (allS (Or.inr (Nat.le_of_eq g101.symm)) all0)) K110 (allS (Or.inr (Nat.le_of_eq g101.symm)) all0)) K111 (allS (Or.inr (Nat.le_of_eq g101.symm)) all0)) K112 (allS (Or.inr (Nat.le_of_eq g101.symm)) all0)) K113 (allS (Or.inr (Nat.le_of_eq g101.symm)) all0)) K114 (allS (Or.inr (Nat.le_of_eq g101.symm)) all0)) K115 (allS (Or.inr (Nat.le_of_eq g101.symm)) all0)) K116 (allS (Or.inr (Nat.le_of_eq g101.symm)) all0)), (Nat.le_of_eq g101.symm), G116⟩
def Q_extended2 (Z : State) (c : Int32) (h0 : Heap) (n0 : Nat) (vQ_ : Option Value) (hQ_ : Heap) (LQ_ : List Loc) : Prop := ∃ r : Addr, ∃ kr : ClassId, vQ_ = some (.ref r) ∧ Fr n0 LQ_ ∧ Keep h0 hQ_ [] ∧ h0.size ≤ r ∧ Arv Z hQ_ r kr .char (17 : Int32) [(.int (99 : Int32)), (.int (108 : Int32)), (.int (111 : Int32)), (.int (117 : Int32)), (.int (100 : Int32)), (.int (68 : Int32)), (.int (101 : Int32)), (.int (118 : Int32)), (.int (101 : Int32)), (.int (108 : Int32)), (.int (111 : Int32)), (.int (112 : Int32)), (.int (109 : Int32)), (.int (101 : Int32)), (.int (110 : Int32)), (.int (116 : Int32)), (.int c)] (.int (0 : Int32))
set_option maxRecDepth 65536 in
set_option maxHeartbeats 40000000 in
theorem rm_extended2 (l : Launch) (Z : State) (a0 : Array Value) (hw : HW a0 Z) (ws : List Jvm.Cond) (c : Int32) (h0 : Heap) (n0 : Nat) (Z0 : n0 ≤ h0.size) (hc : B8 c) :
    MetFree l yn13 (head1 (Jvm.Cond.code yn13 method_4_code 2 (some (.array .char)) :: ws) ({ frames := 0, cells := 1, slots := 17, locals := 0 } : Room)) (fun aQ_ UQ => aQ_ = #[(.int (2 : Int32)), (.int c)] ∧ Z.Warmed39 UQ.vm ∧ UQ.heap = h0) (fun _ _ _ _ _ => True) (fun _ UQ oQ UQ' => ∃ vQ_ LQ_, oQ = .returned vQ_ ∧ Q_extended2 Z c h0 n0 vQ_ UQ'.heap LQ_ ∧ FrameEnd UQ oQ UQ' LQ_ ({ frames := 0, cells := 1, slots := 17, locals := 0 } : Room).cells ({ frames := 0, cells := 1, slots := 17, locals := 0 } : Room).slots) := by
  refine MetFree.of_bodySF (plainFor_of_name pn_com_example_composition_composition_definition_AbapLanguageVersionOfJsonNamePinLaw) hisR ?_
  intro p e s m args below meth cO s₁ Bd hml0 hP hK
  obtain ⟨rfl, hZ, hh⟩ := hP
  have hx := Bd.exec
  have hby := Bd.bytes
  have hml : cO.maxLocals = 2 := hml0
  have hown : s.vm.findClass "com/example/composition/composition/definition/AbapLanguageVersionOfJsonNamePinLaw" = some m.cls := findClass_of_methodNamed Bd.named
  have hnm := (name_of_methodNamed Bd.named Bd.method).1
  have X0 : Stand p l e ({ frames := 0, cells := 1, slots := 17, locals := 0 } : Room) s m #[(.int (2 : Int32)), (.int c)] below meth cO s₁ [] 0 0 := Stand.of_body Bd
  have e0 : s₁.heap = h0 := by rw [← hh, Bd.state]; rfl
  have N0 := Fr.nil n0
  have W0 : ∀ zQ, SS p e below s₁ m 0 #[.val (.int (2 : Int32)), .val (.int c)] [] zQ → Steps p.tables e below (s₁.setTop (entryFrame m #[(.int (2 : Int32)), (.int c)] 2)) zQ := fun tt kt => castTop (ef_extended2 m (2 : Int32) c) kt
  obtain ⟨T101, h101, k101, X101, e101, E101, A101, st101⟩ := newP X0 hx hZ (aty := .char) (w9 hw) e0 (g := (mkF m 109 #[.val (.int (2 : Int32)), .val (.int c)] [(.int (17 : Int32))])) rfl (hb hby d_method_4_109) (n := (17 : Int32)) rfl (by decide) (cap := 17) (by decide) (by decide) (by decide) (by decide)
  obtain ⟨b101, g101⟩ : ∃ z, z = h0.size := ⟨_, rfl⟩
  rw [← g101] at A101 st101
  have K101 := (Keep.refl h0 []).ext E101
  have G101 : Arv Z h101 b101 k101 .char (17 : Int32) [(.int (0 : Int32)), (.int (0 : Int32)), (.int (0 : Int32)), (.int (0 : Int32)), (.int (0 : Int32)), (.int (0 : Int32)), (.int (0 : Int32)), (.int (0 : Int32)), (.int (0 : Int32)), (.int (0 : Int32)), (.int (0 : Int32)), (.int (0 : Int32)), (.int (0 : Int32)), (.int (0 : Int32)), (.int (0 : Int32)), (.int (0 : Int32)), (.int (0 : Int32))] (.int (0 : Int32)) := (Arv.new A101 (by decide)).pad (pad_rep [] (.int (0 : Int32)) 17)
  obtain ⟨cl102, Ar102, q102, S102, M102, H102, F102g⟩ := id G101
  have hin102 : ¬ ((0 : Int32) < 0 ∨ cl102.slots.size ≤ ((0 : Int32)).toNatClampNeg) := inb_of S102 ⟨by decide, by decide⟩
  obtain ⟨T102, h102, X102, e102, Wr102, st102⟩ := stC X101 hx hZ e101 Ar102 (j := (0 : Int32)) hin102 (g := (mkF m 115 #[.val (.int (2 : Int32)), .val (.int c)] [(.int (99 : Int32)), (.int (0 : Int32)), (.ref b101), (.ref b101)])) rfl rfl (hb hby d_method_4_115)
  have G102 : Arv Z h102 b101 k101 .char (17 : Int32) [(.int (99 : Int32)), (.int (0 : Int32)), (.int (0 : Int32)), (.int (0 : Int32)), (.int (0 : Int32)), (.int (0 : Int32)), (.int (0 : Int32)), (.int (0 : Int32)), (.int (0 : Int32)), (.int (0 : Int32)), (.int (0 : Int32)), (.int (0 : Int32)), (.int (0 : Int32)), (.int (0 : Int32)), (.int (0 : Int32)), (.int (0 : Int32)), (.int (0 : Int32))] (.int (0 : Int32)) := Arv.set Ar102 q102 S102 M102 H102 F102g (fits_nar_char _) Wr102 0 rfl (Nat.le_of_ble_eq_true rfl)
  have K102 := Keep.of_wr Wr102
  have N102 := Fr.snoc X102 N0 (Nat.le_trans Z0 (Nat.le_of_eq g101.symm))
  have J102 : Arv Z h102 b101 k101 .char (17 : Int32) [(.int (99 : Int32)), (.int (0 : Int32)), (.int (0 : Int32)), (.int (0 : Int32)), (.int (0 : Int32)), (.int (0 : Int32)), (.int (0 : Int32)), (.int (0 : Int32)), (.int (0 : Int32)), (.int (0 : Int32)), (.int (0 : Int32)), (.int (0 : Int32)), (.int (0 : Int32)), (.int (0 : Int32)), (.int (0 : Int32)), (.int (0 : Int32)), (.int (0 : Int32))] (.int (0 : Int32)) := by first | exact G102 | (rw [own_nar8 hc] at G102; exact G102)
  obtain ⟨cl103, Ar103, q103, S103, M103, H103, F103g⟩ := id J102
  have hin103 : ¬ ((1 : Int32) < 0 ∨ cl103.slots.size ≤ ((1 : Int32)).toNatClampNeg) := inb_of S103 ⟨by decide, by decide⟩
  obtain ⟨T103, h103, X103, e103, Wr103, st103⟩ := stC X102 hx hZ e102 Ar103 (j := (1 : Int32)) hin103 (g := (mkF m 120 #[.val (.int (2 : Int32)), .val (.int c)] [(.int (108 : Int32)), (.int (1 : Int32)), (.ref b101), (.ref b101)])) rfl rfl (hb hby d_method_4_120)
  have G103 : Arv Z h103 b101 k101 .char (17 : Int32) [(.int (99 : Int32)), (.int (108 : Int32)), (.int (0 : Int32)), (.int (0 : Int32)), (.int (0 : Int32)), (.int (0 : Int32)), (.int (0 : Int32)), (.int (0 : Int32)), (.int (0 : Int32)), (.int (0 : Int32)), (.int (0 : Int32)), (.int (0 : Int32)), (.int (0 : Int32)), (.int (0 : Int32)), (.int (0 : Int32)), (.int (0 : Int32)), (.int (0 : Int32))] (.int (0 : Int32)) := Arv.set Ar103 q103 S103 M103 H103 F103g (fits_nar_char _) Wr103 1 rfl (Nat.le_of_ble_eq_true rfl)
  have K103 := Keep.of_wr Wr103
  have N103 := Fr.snoc X103 N102 (Nat.le_trans Z0 (Nat.le_of_eq g101.symm))
  have J103 : Arv Z h103 b101 k101 .char (17 : Int32) [(.int (99 : Int32)), (.int (108 : Int32)), (.int (0 : Int32)), (.int (0 : Int32)), (.int (0 : Int32)), (.int (0 : Int32)), (.int (0 : Int32)), (.int (0 : Int32)), (.int (0 : Int32)), (.int (0 : Int32)), (.int (0 : Int32)), (.int (0 : Int32)), (.int (0 : Int32)), (.int (0 : Int32)), (.int (0 : Int32)), (.int (0 : Int32)), (.int (0 : Int32))] (.int (0 : Int32)) := by first | exact G103 | (rw [own_nar8 hc] at G103; exact G103)
  obtain ⟨cl104, Ar104, q104, S104, M104, H104, F104g⟩ := id J103
  have hin104 : ¬ ((2 : Int32) < 0 ∨ cl104.slots.size ≤ ((2 : Int32)).toNatClampNeg) := inb_of S104 ⟨by decide, by decide⟩
  obtain ⟨T104, h104, X104, e104, Wr104, st104⟩ := stC X103 hx hZ e103 Ar104 (j := (2 : Int32)) hin104 (g := (mkF m 125 #[.val (.int (2 : Int32)), .val (.int c)] [(.int (111 : Int32)), (.int (2 : Int32)), (.ref b101), (.ref b101)])) rfl rfl (hb hby d_method_4_125)
  have G104 : Arv Z h104 b101 k101 .char (17 : Int32) [(.int (99 : Int32)), (.int (108 : Int32)), (.int (111 : Int32)), (.int (0 : Int32)), (.int (0 : Int32)), (.int (0 : Int32)), (.int (0 : Int32)), (.int (0 : Int32)), (.int (0 : Int32)), (.int (0 : Int32)), (.int (0 : Int32)), (.int (0 : Int32)), (.int (0 : Int32)), (.int (0 : Int32)), (.int (0 : Int32)), (.int (0 : Int32)), (.int (0 : Int32))] (.int (0 : Int32)) := Arv.set Ar104 q104 S104 M104 H104 F104g (fits_nar_char _) Wr104 2 rfl (Nat.le_of_ble_eq_true rfl)
  have K104 := Keep.of_wr Wr104
  have N104 := Fr.snoc X104 N103 (Nat.le_trans Z0 (Nat.le_of_eq g101.symm))
  have J104 : Arv Z h104 b101 k101 .char (17 : Int32) [(.int (99 : Int32)), (.int (108 : Int32)), (.int (111 : Int32)), (.int (0 : Int32)), (.int (0 : Int32)), (.int (0 : Int32)), (.int (0 : Int32)), (.int (0 : Int32)), (.int (0 : Int32)), (.int (0 : Int32)), (.int (0 : Int32)), (.int (0 : Int32)), (.int (0 : Int32)), (.int (0 : Int32)), (.int (0 : Int32)), (.int (0 : Int32)), (.int (0 : Int32))] (.int (0 : Int32)) := by first | exact G104 | (rw [own_nar8 hc] at G104; exact G104)
  obtain ⟨cl105, Ar105, q105, S105, M105, H105, F105g⟩ := id J104
  have hin105 : ¬ ((3 : Int32) < 0 ∨ cl105.slots.size ≤ ((3 : Int32)).toNatClampNeg) := inb_of S105 ⟨by decide, by decide⟩
  obtain ⟨T105, h105, X105, e105, Wr105, st105⟩ := stC X104 hx hZ e104 Ar105 (j := (3 : Int32)) hin105 (g := (mkF m 130 #[.val (.int (2 : Int32)), .val (.int c)] [(.int (117 : Int32)), (.int (3 : Int32)), (.ref b101), (.ref b101)])) rfl rfl (hb hby d_method_4_130)
  have G105 : Arv Z h105 b101 k101 .char (17 : Int32) [(.int (99 : Int32)), (.int (108 : Int32)), (.int (111 : Int32)), (.int (117 : Int32)), (.int (0 : Int32)), (.int (0 : Int32)), (.int (0 : Int32)), (.int (0 : Int32)), (.int (0 : Int32)), (.int (0 : Int32)), (.int (0 : Int32)), (.int (0 : Int32)), (.int (0 : Int32)), (.int (0 : Int32)), (.int (0 : Int32)), (.int (0 : Int32)), (.int (0 : Int32))] (.int (0 : Int32)) := Arv.set Ar105 q105 S105 M105 H105 F105g (fits_nar_char _) Wr105 3 rfl (Nat.le_of_ble_eq_true rfl)
  have K105 := Keep.of_wr Wr105
  have N105 := Fr.snoc X105 N104 (Nat.le_trans Z0 (Nat.le_of_eq g101.symm))
  have J105 : Arv Z h105 b101 k101 .char (17 : Int32) [(.int (99 : Int32)), (.int (108 : Int32)), (.int (111 : Int32)), (.int (117 : Int32)), (.int (0 : Int32)), (.int (0 : Int32)), (.int (0 : Int32)), (.int (0 : Int32)), (.int (0 : Int32)), (.int (0 : Int32)), (.int (0 : Int32)), (.int (0 : Int32)), (.int (0 : Int32)), (.int (0 : Int32)), (.int (0 : Int32)), (.int (0 : Int32)), (.int (0 : Int32))] (.int (0 : Int32)) := by first | exact G105 | (rw [own_nar8 hc] at G105; exact G105)
  obtain ⟨cl106, Ar106, q106, S106, M106, H106, F106g⟩ := id J105
  have hin106 : ¬ ((4 : Int32) < 0 ∨ cl106.slots.size ≤ ((4 : Int32)).toNatClampNeg) := inb_of S106 ⟨by decide, by decide⟩
  obtain ⟨T106, h106, X106, e106, Wr106, st106⟩ := stC X105 hx hZ e105 Ar106 (j := (4 : Int32)) hin106 (g := (mkF m 135 #[.val (.int (2 : Int32)), .val (.int c)] [(.int (100 : Int32)), (.int (4 : Int32)), (.ref b101), (.ref b101)])) rfl rfl (hb hby d_method_4_135)
  have G106 : Arv Z h106 b101 k101 .char (17 : Int32) [(.int (99 : Int32)), (.int (108 : Int32)), (.int (111 : Int32)), (.int (117 : Int32)), (.int (100 : Int32)), (.int (0 : Int32)), (.int (0 : Int32)), (.int (0 : Int32)), (.int (0 : Int32)), (.int (0 : Int32)), (.int (0 : Int32)), (.int (0 : Int32)), (.int (0 : Int32)), (.int (0 : Int32)), (.int (0 : Int32)), (.int (0 : Int32)), (.int (0 : Int32))] (.int (0 : Int32)) := Arv.set Ar106 q106 S106 M106 H106 F106g (fits_nar_char _) Wr106 4 rfl (Nat.le_of_ble_eq_true rfl)
  have K106 := Keep.of_wr Wr106
  have N106 := Fr.snoc X106 N105 (Nat.le_trans Z0 (Nat.le_of_eq g101.symm))
  have J106 : Arv Z h106 b101 k101 .char (17 : Int32) [(.int (99 : Int32)), (.int (108 : Int32)), (.int (111 : Int32)), (.int (117 : Int32)), (.int (100 : Int32)), (.int (0 : Int32)), (.int (0 : Int32)), (.int (0 : Int32)), (.int (0 : Int32)), (.int (0 : Int32)), (.int (0 : Int32)), (.int (0 : Int32)), (.int (0 : Int32)), (.int (0 : Int32)), (.int (0 : Int32)), (.int (0 : Int32)), (.int (0 : Int32))] (.int (0 : Int32)) := by first | exact G106 | (rw [own_nar8 hc] at G106; exact G106)
  obtain ⟨cl107, Ar107, q107, S107, M107, H107, F107g⟩ := id J106
  have hin107 : ¬ ((5 : Int32) < 0 ∨ cl107.slots.size ≤ ((5 : Int32)).toNatClampNeg) := inb_of S107 ⟨by decide, by decide⟩
  obtain ⟨T107, h107, X107, e107, Wr107, st107⟩ := stC X106 hx hZ e106 Ar107 (j := (5 : Int32)) hin107 (g := (mkF m 140 #[.val (.int (2 : Int32)), .val (.int c)] [(.int (68 : Int32)), (.int (5 : Int32)), (.ref b101), (.ref b101)])) rfl rfl (hb hby d_method_4_140)
  have G107 : Arv Z h107 b101 k101 .char (17 : Int32) [(.int (99 : Int32)), (.int (108 : Int32)), (.int (111 : Int32)), (.int (117 : Int32)), (.int (100 : Int32)), (.int (68 : Int32)), (.int (0 : Int32)), (.int (0 : Int32)), (.int (0 : Int32)), (.int (0 : Int32)), (.int (0 : Int32)), (.int (0 : Int32)), (.int (0 : Int32)), (.int (0 : Int32)), (.int (0 : Int32)), (.int (0 : Int32)), (.int (0 : Int32))] (.int (0 : Int32)) := Arv.set Ar107 q107 S107 M107 H107 F107g (fits_nar_char _) Wr107 5 rfl (Nat.le_of_ble_eq_true rfl)
  have K107 := Keep.of_wr Wr107
  have N107 := Fr.snoc X107 N106 (Nat.le_trans Z0 (Nat.le_of_eq g101.symm))
  have J107 : Arv Z h107 b101 k101 .char (17 : Int32) [(.int (99 : Int32)), (.int (108 : Int32)), (.int (111 : Int32)), (.int (117 : Int32)), (.int (100 : Int32)), (.int (68 : Int32)), (.int (0 : Int32)), (.int (0 : Int32)), (.int (0 : Int32)), (.int (0 : Int32)), (.int (0 : Int32)), (.int (0 : Int32)), (.int (0 : Int32)), (.int (0 : Int32)), (.int (0 : Int32)), (.int (0 : Int32)), (.int (0 : Int32))] (.int (0 : Int32)) := by first | exact G107 | (rw [own_nar8 hc] at G107; exact G107)
  obtain ⟨cl108, Ar108, q108, S108, M108, H108, F108g⟩ := id J107
  have hin108 : ¬ ((6 : Int32) < 0 ∨ cl108.slots.size ≤ ((6 : Int32)).toNatClampNeg) := inb_of S108 ⟨by decide, by decide⟩
  obtain ⟨T108, h108, X108, e108, Wr108, st108⟩ := stC X107 hx hZ e107 Ar108 (j := (6 : Int32)) hin108 (g := (mkF m 146 #[.val (.int (2 : Int32)), .val (.int c)] [(.int (101 : Int32)), (.int (6 : Int32)), (.ref b101), (.ref b101)])) rfl rfl (hb hby d_method_4_146)
  have G108 : Arv Z h108 b101 k101 .char (17 : Int32) [(.int (99 : Int32)), (.int (108 : Int32)), (.int (111 : Int32)), (.int (117 : Int32)), (.int (100 : Int32)), (.int (68 : Int32)), (.int (101 : Int32)), (.int (0 : Int32)), (.int (0 : Int32)), (.int (0 : Int32)), (.int (0 : Int32)), (.int (0 : Int32)), (.int (0 : Int32)), (.int (0 : Int32)), (.int (0 : Int32)), (.int (0 : Int32)), (.int (0 : Int32))] (.int (0 : Int32)) := Arv.set Ar108 q108 S108 M108 H108 F108g (fits_nar_char _) Wr108 6 rfl (Nat.le_of_ble_eq_true rfl)
  have K108 := Keep.of_wr Wr108
  have N108 := Fr.snoc X108 N107 (Nat.le_trans Z0 (Nat.le_of_eq g101.symm))
  have J108 : Arv Z h108 b101 k101 .char (17 : Int32) [(.int (99 : Int32)), (.int (108 : Int32)), (.int (111 : Int32)), (.int (117 : Int32)), (.int (100 : Int32)), (.int (68 : Int32)), (.int (101 : Int32)), (.int (0 : Int32)), (.int (0 : Int32)), (.int (0 : Int32)), (.int (0 : Int32)), (.int (0 : Int32)), (.int (0 : Int32)), (.int (0 : Int32)), (.int (0 : Int32)), (.int (0 : Int32)), (.int (0 : Int32))] (.int (0 : Int32)) := by first | exact G108 | (rw [own_nar8 hc] at G108; exact G108)
  obtain ⟨cl109, Ar109, q109, S109, M109, H109, F109g⟩ := id J108
  have hin109 : ¬ ((7 : Int32) < 0 ∨ cl109.slots.size ≤ ((7 : Int32)).toNatClampNeg) := inb_of S109 ⟨by decide, by decide⟩
  obtain ⟨T109, h109, X109, e109, Wr109, st109⟩ := stC X108 hx hZ e108 Ar109 (j := (7 : Int32)) hin109 (g := (mkF m 152 #[.val (.int (2 : Int32)), .val (.int c)] [(.int (118 : Int32)), (.int (7 : Int32)), (.ref b101), (.ref b101)])) rfl rfl (hb hby d_method_4_152)
  have G109 : Arv Z h109 b101 k101 .char (17 : Int32) [(.int (99 : Int32)), (.int (108 : Int32)), (.int (111 : Int32)), (.int (117 : Int32)), (.int (100 : Int32)), (.int (68 : Int32)), (.int (101 : Int32)), (.int (118 : Int32)), (.int (0 : Int32)), (.int (0 : Int32)), (.int (0 : Int32)), (.int (0 : Int32)), (.int (0 : Int32)), (.int (0 : Int32)), (.int (0 : Int32)), (.int (0 : Int32)), (.int (0 : Int32))] (.int (0 : Int32)) := Arv.set Ar109 q109 S109 M109 H109 F109g (fits_nar_char _) Wr109 7 rfl (Nat.le_of_ble_eq_true rfl)
  have K109 := Keep.of_wr Wr109
  have N109 := Fr.snoc X109 N108 (Nat.le_trans Z0 (Nat.le_of_eq g101.symm))
  have J109 : Arv Z h109 b101 k101 .char (17 : Int32) [(.int (99 : Int32)), (.int (108 : Int32)), (.int (111 : Int32)), (.int (117 : Int32)), (.int (100 : Int32)), (.int (68 : Int32)), (.int (101 : Int32)), (.int (118 : Int32)), (.int (0 : Int32)), (.int (0 : Int32)), (.int (0 : Int32)), (.int (0 : Int32)), (.int (0 : Int32)), (.int (0 : Int32)), (.int (0 : Int32)), (.int (0 : Int32)), (.int (0 : Int32))] (.int (0 : Int32)) := by first | exact G109 | (rw [own_nar8 hc] at G109; exact G109)
  obtain ⟨cl110, Ar110, q110, S110, M110, H110, F110g⟩ := id J109
  have hin110 : ¬ ((8 : Int32) < 0 ∨ cl110.slots.size ≤ ((8 : Int32)).toNatClampNeg) := inb_of S110 ⟨by decide, by decide⟩
  obtain ⟨T110, h110, X110, e110, Wr110, st110⟩ := stC X109 hx hZ e109 Ar110 (j := (8 : Int32)) hin110 (g := (mkF m 158 #[.val (.int (2 : Int32)), .val (.int c)] [(.int (101 : Int32)), (.int (8 : Int32)), (.ref b101), (.ref b101)])) rfl rfl (hb hby d_method_4_158)
  have G110 : Arv Z h110 b101 k101 .char (17 : Int32) [(.int (99 : Int32)), (.int (108 : Int32)), (.int (111 : Int32)), (.int (117 : Int32)), (.int (100 : Int32)), (.int (68 : Int32)), (.int (101 : Int32)), (.int (118 : Int32)), (.int (101 : Int32)), (.int (0 : Int32)), (.int (0 : Int32)), (.int (0 : Int32)), (.int (0 : Int32)), (.int (0 : Int32)), (.int (0 : Int32)), (.int (0 : Int32)), (.int (0 : Int32))] (.int (0 : Int32)) := Arv.set Ar110 q110 S110 M110 H110 F110g (fits_nar_char _) Wr110 8 rfl (Nat.le_of_ble_eq_true rfl)
  have K110 := Keep.of_wr Wr110
  have N110 := Fr.snoc X110 N109 (Nat.le_trans Z0 (Nat.le_of_eq g101.symm))
  have J110 : Arv Z h110 b101 k101 .char (17 : Int32) [(.int (99 : Int32)), (.int (108 : Int32)), (.int (111 : Int32)), (.int (117 : Int32)), (.int (100 : Int32)), (.int (68 : Int32)), (.int (101 : Int32)), (.int (118 : Int32)), (.int (101 : Int32)), (.int (0 : Int32)), (.int (0 : Int32)), (.int (0 : Int32)), (.int (0 : Int32)), (.int (0 : Int32)), (.int (0 : Int32)), (.int (0 : Int32)), (.int (0 : Int32))] (.int (0 : Int32)) := by first | exact G110 | (rw [own_nar8 hc] at G110; exact G110)
  obtain ⟨cl111, Ar111, q111, S111, M111, H111, F111g⟩ := id J110
  have hin111 : ¬ ((9 : Int32) < 0 ∨ cl111.slots.size ≤ ((9 : Int32)).toNatClampNeg) := inb_of S111 ⟨by decide, by decide⟩
  obtain ⟨T111, h111, X111, e111, Wr111, st111⟩ := stC X110 hx hZ e110 Ar111 (j := (9 : Int32)) hin111 (g := (mkF m 164 #[.val (.int (2 : Int32)), .val (.int c)] [(.int (108 : Int32)), (.int (9 : Int32)), (.ref b101), (.ref b101)])) rfl rfl (hb hby d_method_4_164)
  have G111 : Arv Z h111 b101 k101 .char (17 : Int32) [(.int (99 : Int32)), (.int (108 : Int32)), (.int (111 : Int32)), (.int (117 : Int32)), (.int (100 : Int32)), (.int (68 : Int32)), (.int (101 : Int32)), (.int (118 : Int32)), (.int (101 : Int32)), (.int (108 : Int32)), (.int (0 : Int32)), (.int (0 : Int32)), (.int (0 : Int32)), (.int (0 : Int32)), (.int (0 : Int32)), (.int (0 : Int32)), (.int (0 : Int32))] (.int (0 : Int32)) := Arv.set Ar111 q111 S111 M111 H111 F111g (fits_nar_char _) Wr111 9 rfl (Nat.le_of_ble_eq_true rfl)
  have K111 := Keep.of_wr Wr111
  have N111 := Fr.snoc X111 N110 (Nat.le_trans Z0 (Nat.le_of_eq g101.symm))
  have J111 : Arv Z h111 b101 k101 .char (17 : Int32) [(.int (99 : Int32)), (.int (108 : Int32)), (.int (111 : Int32)), (.int (117 : Int32)), (.int (100 : Int32)), (.int (68 : Int32)), (.int (101 : Int32)), (.int (118 : Int32)), (.int (101 : Int32)), (.int (108 : Int32)), (.int (0 : Int32)), (.int (0 : Int32)), (.int (0 : Int32)), (.int (0 : Int32)), (.int (0 : Int32)), (.int (0 : Int32)), (.int (0 : Int32))] (.int (0 : Int32)) := by first | exact G111 | (rw [own_nar8 hc] at G111; exact G111)
  obtain ⟨cl112, Ar112, q112, S112, M112, H112, F112g⟩ := id J111
  have hin112 : ¬ ((10 : Int32) < 0 ∨ cl112.slots.size ≤ ((10 : Int32)).toNatClampNeg) := inb_of S112 ⟨by decide, by decide⟩
  obtain ⟨T112, h112, X112, e112, Wr112, st112⟩ := stC X111 hx hZ e111 Ar112 (j := (10 : Int32)) hin112 (g := (mkF m 170 #[.val (.int (2 : Int32)), .val (.int c)] [(.int (111 : Int32)), (.int (10 : Int32)), (.ref b101), (.ref b101)])) rfl rfl (hb hby d_method_4_170)
  have G112 : Arv Z h112 b101 k101 .char (17 : Int32) [(.int (99 : Int32)), (.int (108 : Int32)), (.int (111 : Int32)), (.int (117 : Int32)), (.int (100 : Int32)), (.int (68 : Int32)), (.int (101 : Int32)), (.int (118 : Int32)), (.int (101 : Int32)), (.int (108 : Int32)), (.int (111 : Int32)), (.int (0 : Int32)), (.int (0 : Int32)), (.int (0 : Int32)), (.int (0 : Int32)), (.int (0 : Int32)), (.int (0 : Int32))] (.int (0 : Int32)) := Arv.set Ar112 q112 S112 M112 H112 F112g (fits_nar_char _) Wr112 10 rfl (Nat.le_of_ble_eq_true rfl)
  have K112 := Keep.of_wr Wr112
  have N112 := Fr.snoc X112 N111 (Nat.le_trans Z0 (Nat.le_of_eq g101.symm))
  have J112 : Arv Z h112 b101 k101 .char (17 : Int32) [(.int (99 : Int32)), (.int (108 : Int32)), (.int (111 : Int32)), (.int (117 : Int32)), (.int (100 : Int32)), (.int (68 : Int32)), (.int (101 : Int32)), (.int (118 : Int32)), (.int (101 : Int32)), (.int (108 : Int32)), (.int (111 : Int32)), (.int (0 : Int32)), (.int (0 : Int32)), (.int (0 : Int32)), (.int (0 : Int32)), (.int (0 : Int32)), (.int (0 : Int32))] (.int (0 : Int32)) := by first | exact G112 | (rw [own_nar8 hc] at G112; exact G112)
  obtain ⟨cl113, Ar113, q113, S113, M113, H113, F113g⟩ := id J112
  have hin113 : ¬ ((11 : Int32) < 0 ∨ cl113.slots.size ≤ ((11 : Int32)).toNatClampNeg) := inb_of S113 ⟨by decide, by decide⟩
  obtain ⟨T113, h113, X113, e113, Wr113, st113⟩ := stC X112 hx hZ e112 Ar113 (j := (11 : Int32)) hin113 (g := (mkF m 176 #[.val (.int (2 : Int32)), .val (.int c)] [(.int (112 : Int32)), (.int (11 : Int32)), (.ref b101), (.ref b101)])) rfl rfl (hb hby d_method_4_176)
  have G113 : Arv Z h113 b101 k101 .char (17 : Int32) [(.int (99 : Int32)), (.int (108 : Int32)), (.int (111 : Int32)), (.int (117 : Int32)), (.int (100 : Int32)), (.int (68 : Int32)), (.int (101 : Int32)), (.int (118 : Int32)), (.int (101 : Int32)), (.int (108 : Int32)), (.int (111 : Int32)), (.int (112 : Int32)), (.int (0 : Int32)), (.int (0 : Int32)), (.int (0 : Int32)), (.int (0 : Int32)), (.int (0 : Int32))] (.int (0 : Int32)) := Arv.set Ar113 q113 S113 M113 H113 F113g (fits_nar_char _) Wr113 11 rfl (Nat.le_of_ble_eq_true rfl)
  have K113 := Keep.of_wr Wr113
  have N113 := Fr.snoc X113 N112 (Nat.le_trans Z0 (Nat.le_of_eq g101.symm))
  have J113 : Arv Z h113 b101 k101 .char (17 : Int32) [(.int (99 : Int32)), (.int (108 : Int32)), (.int (111 : Int32)), (.int (117 : Int32)), (.int (100 : Int32)), (.int (68 : Int32)), (.int (101 : Int32)), (.int (118 : Int32)), (.int (101 : Int32)), (.int (108 : Int32)), (.int (111 : Int32)), (.int (112 : Int32)), (.int (0 : Int32)), (.int (0 : Int32)), (.int (0 : Int32)), (.int (0 : Int32)), (.int (0 : Int32))] (.int (0 : Int32)) := by first | exact G113 | (rw [own_nar8 hc] at G113; exact G113)
  obtain ⟨cl114, Ar114, q114, S114, M114, H114, F114g⟩ := id J113
  have hin114 : ¬ ((12 : Int32) < 0 ∨ cl114.slots.size ≤ ((12 : Int32)).toNatClampNeg) := inb_of S114 ⟨by decide, by decide⟩
  obtain ⟨T114, h114, X114, e114, Wr114, st114⟩ := stC X113 hx hZ e113 Ar114 (j := (12 : Int32)) hin114 (g := (mkF m 182 #[.val (.int (2 : Int32)), .val (.int c)] [(.int (109 : Int32)), (.int (12 : Int32)), (.ref b101), (.ref b101)])) rfl rfl (hb hby d_method_4_182)
  have G114 : Arv Z h114 b101 k101 .char (17 : Int32) [(.int (99 : Int32)), (.int (108 : Int32)), (.int (111 : Int32)), (.int (117 : Int32)), (.int (100 : Int32)), (.int (68 : Int32)), (.int (101 : Int32)), (.int (118 : Int32)), (.int (101 : Int32)), (.int (108 : Int32)), (.int (111 : Int32)), (.int (112 : Int32)), (.int (109 : Int32)), (.int (0 : Int32)), (.int (0 : Int32)), (.int (0 : Int32)), (.int (0 : Int32))] (.int (0 : Int32)) := Arv.set Ar114 q114 S114 M114 H114 F114g (fits_nar_char _) Wr114 12 rfl (Nat.le_of_ble_eq_true rfl)
  have K114 := Keep.of_wr Wr114
  have N114 := Fr.snoc X114 N113 (Nat.le_trans Z0 (Nat.le_of_eq g101.symm))
  have J114 : Arv Z h114 b101 k101 .char (17 : Int32) [(.int (99 : Int32)), (.int (108 : Int32)), (.int (111 : Int32)), (.int (117 : Int32)), (.int (100 : Int32)), (.int (68 : Int32)), (.int (101 : Int32)), (.int (118 : Int32)), (.int (101 : Int32)), (.int (108 : Int32)), (.int (111 : Int32)), (.int (112 : Int32)), (.int (109 : Int32)), (.int (0 : Int32)), (.int (0 : Int32)), (.int (0 : Int32)), (.int (0 : Int32))] (.int (0 : Int32)) := by first | exact G114 | (rw [own_nar8 hc] at G114; exact G114)
  obtain ⟨cl115, Ar115, q115, S115, M115, H115, F115g⟩ := id J114
  have hin115 : ¬ ((13 : Int32) < 0 ∨ cl115.slots.size ≤ ((13 : Int32)).toNatClampNeg) := inb_of S115 ⟨by decide, by decide⟩
  obtain ⟨T115, h115, X115, e115, Wr115, st115⟩ := stC X114 hx hZ e114 Ar115 (j := (13 : Int32)) hin115 (g := (mkF m 188 #[.val (.int (2 : Int32)), .val (.int c)] [(.int (101 : Int32)), (.int (13 : Int32)), (.ref b101), (.ref b101)])) rfl rfl (hb hby d_method_4_188)
  have G115 : Arv Z h115 b101 k101 .char (17 : Int32) [(.int (99 : Int32)), (.int (108 : Int32)), (.int (111 : Int32)), (.int (117 : Int32)), (.int (100 : Int32)), (.int (68 : Int32)), (.int (101 : Int32)), (.int (118 : Int32)), (.int (101 : Int32)), (.int (108 : Int32)), (.int (111 : Int32)), (.int (112 : Int32)), (.int (109 : Int32)), (.int (101 : Int32)), (.int (0 : Int32)), (.int (0 : Int32)), (.int (0 : Int32))] (.int (0 : Int32)) := Arv.set Ar115 q115 S115 M115 H115 F115g (fits_nar_char _) Wr115 13 rfl (Nat.le_of_ble_eq_true rfl)
  have K115 := Keep.of_wr Wr115
  have N115 := Fr.snoc X115 N114 (Nat.le_trans Z0 (Nat.le_of_eq g101.symm))
  have J115 : Arv Z h115 b101 k101 .char (17 : Int32) [(.int (99 : Int32)), (.int (108 : Int32)), (.int (111 : Int32)), (.int (117 : Int32)), (.int (100 : Int32)), (.int (68 : Int32)), (.int (101 : Int32)), (.int (118 : Int32)), (.int (101 : Int32)), (.int (108 : Int32)), (.int (111 : Int32)), (.int (112 : Int32)), (.int (109 : Int32)), (.int (101 : Int32)), (.int (0 : Int32)), (.int (0 : Int32)), (.int (0 : Int32))] (.int (0 : Int32)) := by first | exact G115 | (rw [own_nar8 hc] at G115; exact G115)
  obtain ⟨cl116, Ar116, q116, S116, M116, H116, F116g⟩ := id J115
  have hin116 : ¬ ((14 : Int32) < 0 ∨ cl116.slots.size ≤ ((14 : Int32)).toNatClampNeg) := inb_of S116 ⟨by decide, by decide⟩
  obtain ⟨T116, h116, X116, e116, Wr116, st116⟩ := stC X115 hx hZ e115 Ar116 (j := (14 : Int32)) hin116 (g := (mkF m 194 #[.val (.int (2 : Int32)), .val (.int c)] [(.int (110 : Int32)), (.int (14 : Int32)), (.ref b101), (.ref b101)])) rfl rfl (hb hby d_method_4_194)
  have G116 : Arv Z h116 b101 k101 .char (17 : Int32) [(.int (99 : Int32)), (.int (108 : Int32)), (.int (111 : Int32)), (.int (117 : Int32)), (.int (100 : Int32)), (.int (68 : Int32)), (.int (101 : Int32)), (.int (118 : Int32)), (.int (101 : Int32)), (.int (108 : Int32)), (.int (111 : Int32)), (.int (112 : Int32)), (.int (109 : Int32)), (.int (101 : Int32)), (.int (110 : Int32)), (.int (0 : Int32)), (.int (0 : Int32))] (.int (0 : Int32)) := Arv.set Ar116 q116 S116 M116 H116 F116g (fits_nar_char _) Wr116 14 rfl (Nat.le_of_ble_eq_true rfl)
  have K116 := Keep.of_wr Wr116
  have N116 := Fr.snoc X116 N115 (Nat.le_trans Z0 (Nat.le_of_eq g101.symm))
  have J116 : Arv Z h116 b101 k101 .char (17 : Int32) [(.int (99 : Int32)), (.int (108 : Int32)), (.int (111 : Int32)), (.int (117 : Int32)), (.int (100 : Int32)), (.int (68 : Int32)), (.int (101 : Int32)), (.int (118 : Int32)), (.int (101 : Int32)), (.int (108 : Int32)), (.int (111 : Int32)), (.int (112 : Int32)), (.int (109 : Int32)), (.int (101 : Int32)), (.int (110 : Int32)), (.int (0 : Int32)), (.int (0 : Int32))] (.int (0 : Int32)) := by first | exact G116 | (rw [own_nar8 hc] at G116; exact G116)
  obtain ⟨cl117, Ar117, q117, S117, M117, H117, F117g⟩ := id J116
  have hin117 : ¬ ((15 : Int32) < 0 ∨ cl117.slots.size ≤ ((15 : Int32)).toNatClampNeg) := inb_of S117 ⟨by decide, by decide⟩
  obtain ⟨T117, h117, X117, e117, Wr117, st117⟩ := stC X116 hx hZ e116 Ar117 (j := (15 : Int32)) hin117 (g := (mkF m 200 #[.val (.int (2 : Int32)), .val (.int c)] [(.int (116 : Int32)), (.int (15 : Int32)), (.ref b101), (.ref b101)])) rfl rfl (hb hby d_method_4_200)
  have G117 : Arv Z h117 b101 k101 .char (17 : Int32) [(.int (99 : Int32)), (.int (108 : Int32)), (.int (111 : Int32)), (.int (117 : Int32)), (.int (100 : Int32)), (.int (68 : Int32)), (.int (101 : Int32)), (.int (118 : Int32)), (.int (101 : Int32)), (.int (108 : Int32)), (.int (111 : Int32)), (.int (112 : Int32)), (.int (109 : Int32)), (.int (101 : Int32)), (.int (110 : Int32)), (.int (116 : Int32)), (.int (0 : Int32))] (.int (0 : Int32)) := Arv.set Ar117 q117 S117 M117 H117 F117g (fits_nar_char _) Wr117 15 rfl (Nat.le_of_ble_eq_true rfl)
  have K117 := Keep.of_wr Wr117
  have N117 := Fr.snoc X117 N116 (Nat.le_trans Z0 (Nat.le_of_eq g101.symm))
  have J117 : Arv Z h117 b101 k101 .char (17 : Int32) [(.int (99 : Int32)), (.int (108 : Int32)), (.int (111 : Int32)), (.int (117 : Int32)), (.int (100 : Int32)), (.int (68 : Int32)), (.int (101 : Int32)), (.int (118 : Int32)), (.int (101 : Int32)), (.int (108 : Int32)), (.int (111 : Int32)), (.int (112 : Int32)), (.int (109 : Int32)), (.int (101 : Int32)), (.int (110 : Int32)), (.int (116 : Int32)), (.int (0 : Int32))] (.int (0 : Int32)) := by first | exact G117 | (rw [own_nar8 hc] at G117; exact G117)
  obtain ⟨cl118, Ar118, q118, S118, M118, H118, F118g⟩ := id J117
  have hin118 : ¬ ((16 : Int32) < 0 ∨ cl118.slots.size ≤ ((16 : Int32)).toNatClampNeg) := inb_of S118 ⟨by decide, by decide⟩
  obtain ⟨T118, h118, X118, e118, Wr118, st118⟩ := stC X117 hx hZ e117 Ar118 (j := (16 : Int32)) hin118 (g := (mkF m 205 #[.val (.int (2 : Int32)), .val (.int c)] [(.int c), (.int (16 : Int32)), (.ref b101), (.ref b101)])) rfl rfl (hb hby d_method_4_205)
  have G118 : Arv Z h118 b101 k101 .char (17 : Int32) [(.int (99 : Int32)), (.int (108 : Int32)), (.int (111 : Int32)), (.int (117 : Int32)), (.int (100 : Int32)), (.int (68 : Int32)), (.int (101 : Int32)), (.int (118 : Int32)), (.int (101 : Int32)), (.int (108 : Int32)), (.int (111 : Int32)), (.int (112 : Int32)), (.int (109 : Int32)), (.int (101 : Int32)), (.int (110 : Int32)), (.int (116 : Int32)), (.int (nar .char c))] (.int (0 : Int32)) := Arv.set Ar118 q118 S118 M118 H118 F118g (fits_nar_char _) Wr118 16 rfl (Nat.le_of_ble_eq_true rfl)
  have K118 := Keep.of_wr Wr118
  have N118 := Fr.snoc X118 N117 (Nat.le_trans Z0 (Nat.le_of_eq g101.symm))
  have J118 : Arv Z h118 b101 k101 .char (17 : Int32) [(.int (99 : Int32)), (.int (108 : Int32)), (.int (111 : Int32)), (.int (117 : Int32)), (.int (100 : Int32)), (.int (68 : Int32)), (.int (101 : Int32)), (.int (118 : Int32)), (.int (101 : Int32)), (.int (108 : Int32)), (.int (111 : Int32)), (.int (112 : Int32)), (.int (109 : Int32)), (.int (101 : Int32)), (.int (110 : Int32)), (.int (116 : Int32)), (.int c)] (.int (0 : Int32)) := by first | exact G118 | (rw [own_nar8 hc] at G118; exact G118)
  have W119 : ∀ zQ, SS p e below T118 m 206 #[.val (.int (2 : Int32)), .val (.int c)] [(.ref b101)] zQ → Steps p.tables e below (s₁.setTop (entryFrame m #[(.int (2 : Int32)), (.int c)] 2)) zQ := by
    intro tt kt
    refine W0 tt ?_
    refine XS.iloadN X0.here hx rfl (hb hby d_method_4_0) rfl ?_
    refine XS.ifYes X0.here hx rfl (pc0 := 1) (pc' := 56) rfl (hb hby d_method_4_1) rfl ((if0 _ _).trans (feq (by decide)).2) (by decide) (by decide) ?_
    refine XS.iloadN X0.here hx rfl (hb hby d_method_4_56) rfl ?_
    refine XS.iconst X0.here hx rfl (hb hby d_method_4_57) ?_
    refine XS.icmpYes X0.here hx rfl (pc0 := 58) (pc' := 107) rfl (hb hby d_method_4_58) rfl (feq (by decide)).2 (by decide) (by decide) ?_
    refine XS.bipush X0.here hx rfl (hb hby d_method_4_107) ?_
    show SS p e below s₁ m 109 #[.val (.int (2 : Int32)), .val (.int c)] [(.int (17 : Int32))] _
    refine st101 _ ?_
    refine XS.dup X101.here hx rfl (hb hby d_method_4_111) rfl rfl ?_
    refine XS.iconst X101.here hx rfl (hb hby d_method_4_112) ?_
    refine XS.bipush X101.here hx rfl (hb hby d_method_4_113) ?_
    show SS p e below T101 m 115 #[.val (.int (2 : Int32)), .val (.int c)] [(.int (99 : Int32)), (.int (0 : Int32)), (.ref b101), (.ref b101)] _
    refine st102 _ ?_
    refine XS.dup X102.here hx rfl (hb hby d_method_4_116) rfl rfl ?_
    refine XS.iconst X102.here hx rfl (hb hby d_method_4_117) ?_
    refine XS.bipush X102.here hx rfl (hb hby d_method_4_118) ?_
    show SS p e below T102 m 120 #[.val (.int (2 : Int32)), .val (.int c)] [(.int (108 : Int32)), (.int (1 : Int32)), (.ref b101), (.ref b101)] _
    refine st103 _ ?_
    refine XS.dup X103.here hx rfl (hb hby d_method_4_121) rfl rfl ?_
    refine XS.iconst X103.here hx rfl (hb hby d_method_4_122) ?_
    refine XS.bipush X103.here hx rfl (hb hby d_method_4_123) ?_
    show SS p e below T103 m 125 #[.val (.int (2 : Int32)), .val (.int c)] [(.int (111 : Int32)), (.int (2 : Int32)), (.ref b101), (.ref b101)] _
    refine st104 _ ?_
    refine XS.dup X104.here hx rfl (hb hby d_method_4_126) rfl rfl ?_
    refine XS.iconst X104.here hx rfl (hb hby d_method_4_127) ?_
    refine XS.bipush X104.here hx rfl (hb hby d_method_4_128) ?_
    show SS p e below T104 m 130 #[.val (.int (2 : Int32)), .val (.int c)] [(.int (117 : Int32)), (.int (3 : Int32)), (.ref b101), (.ref b101)] _
    refine st105 _ ?_
    refine XS.dup X105.here hx rfl (hb hby d_method_4_131) rfl rfl ?_
    refine XS.iconst X105.here hx rfl (hb hby d_method_4_132) ?_
    refine XS.bipush X105.here hx rfl (hb hby d_method_4_133) ?_
    show SS p e below T105 m 135 #[.val (.int (2 : Int32)), .val (.int c)] [(.int (100 : Int32)), (.int (4 : Int32)), (.ref b101), (.ref b101)] _
    refine st106 _ ?_
    refine XS.dup X106.here hx rfl (hb hby d_method_4_136) rfl rfl ?_
    refine XS.iconst X106.here hx rfl (hb hby d_method_4_137) ?_
    refine XS.bipush X106.here hx rfl (hb hby d_method_4_138) ?_
    show SS p e below T106 m 140 #[.val (.int (2 : Int32)), .val (.int c)] [(.int (68 : Int32)), (.int (5 : Int32)), (.ref b101), (.ref b101)] _
    refine st107 _ ?_
    refine XS.dup X107.here hx rfl (hb hby d_method_4_141) rfl rfl ?_
    refine XS.bipush X107.here hx rfl (hb hby d_method_4_142) ?_
    refine XS.bipush X107.here hx rfl (hb hby d_method_4_144) ?_
    show SS p e below T107 m 146 #[.val (.int (2 : Int32)), .val (.int c)] [(.int (101 : Int32)), (.int (6 : Int32)), (.ref b101), (.ref b101)] _
    refine st108 _ ?_
    refine XS.dup X108.here hx rfl (hb hby d_method_4_147) rfl rfl ?_
    refine XS.bipush X108.here hx rfl (hb hby d_method_4_148) ?_
    refine XS.bipush X108.here hx rfl (hb hby d_method_4_150) ?_
    show SS p e below T108 m 152 #[.val (.int (2 : Int32)), .val (.int c)] [(.int (118 : Int32)), (.int (7 : Int32)), (.ref b101), (.ref b101)] _
    refine st109 _ ?_
    refine XS.dup X109.here hx rfl (hb hby d_method_4_153) rfl rfl ?_
    refine XS.bipush X109.here hx rfl (hb hby d_method_4_154) ?_
    refine XS.bipush X109.here hx rfl (hb hby d_method_4_156) ?_
    show SS p e below T109 m 158 #[.val (.int (2 : Int32)), .val (.int c)] [(.int (101 : Int32)), (.int (8 : Int32)), (.ref b101), (.ref b101)] _
    refine st110 _ ?_
    refine XS.dup X110.here hx rfl (hb hby d_method_4_159) rfl rfl ?_
    refine XS.bipush X110.here hx rfl (hb hby d_method_4_160) ?_
    refine XS.bipush X110.here hx rfl (hb hby d_method_4_162) ?_
    show SS p e below T110 m 164 #[.val (.int (2 : Int32)), .val (.int c)] [(.int (108 : Int32)), (.int (9 : Int32)), (.ref b101), (.ref b101)] _
    refine st111 _ ?_
    refine XS.dup X111.here hx rfl (hb hby d_method_4_165) rfl rfl ?_
    refine XS.bipush X111.here hx rfl (hb hby d_method_4_166) ?_
    refine XS.bipush X111.here hx rfl (hb hby d_method_4_168) ?_
    show SS p e below T111 m 170 #[.val (.int (2 : Int32)), .val (.int c)] [(.int (111 : Int32)), (.int (10 : Int32)), (.ref b101), (.ref b101)] _
    refine st112 _ ?_
    refine XS.dup X112.here hx rfl (hb hby d_method_4_171) rfl rfl ?_
    refine XS.bipush X112.here hx rfl (hb hby d_method_4_172) ?_
    refine XS.bipush X112.here hx rfl (hb hby d_method_4_174) ?_
    show SS p e below T112 m 176 #[.val (.int (2 : Int32)), .val (.int c)] [(.int (112 : Int32)), (.int (11 : Int32)), (.ref b101), (.ref b101)] _
    refine st113 _ ?_
    refine XS.dup X113.here hx rfl (hb hby d_method_4_177) rfl rfl ?_
    refine XS.bipush X113.here hx rfl (hb hby d_method_4_178) ?_
    refine XS.bipush X113.here hx rfl (hb hby d_method_4_180) ?_
    show SS p e below T113 m 182 #[.val (.int (2 : Int32)), .val (.int c)] [(.int (109 : Int32)), (.int (12 : Int32)), (.ref b101), (.ref b101)] _
    refine st114 _ ?_
    refine XS.dup X114.here hx rfl (hb hby d_method_4_183) rfl rfl ?_
    refine XS.bipush X114.here hx rfl (hb hby d_method_4_184) ?_
    refine XS.bipush X114.here hx rfl (hb hby d_method_4_186) ?_
    show SS p e below T114 m 188 #[.val (.int (2 : Int32)), .val (.int c)] [(.int (101 : Int32)), (.int (13 : Int32)), (.ref b101), (.ref b101)] _
    refine st115 _ ?_
    refine XS.dup X115.here hx rfl (hb hby d_method_4_189) rfl rfl ?_
    refine XS.bipush X115.here hx rfl (hb hby d_method_4_190) ?_
    refine XS.bipush X115.here hx rfl (hb hby d_method_4_192) ?_
    show SS p e below T115 m 194 #[.val (.int (2 : Int32)), .val (.int c)] [(.int (110 : Int32)), (.int (14 : Int32)), (.ref b101), (.ref b101)] _
    refine st116 _ ?_
    refine XS.dup X116.here hx rfl (hb hby d_method_4_195) rfl rfl ?_
    refine XS.bipush X116.here hx rfl (hb hby d_method_4_196) ?_
    refine XS.bipush X116.here hx rfl (hb hby d_method_4_198) ?_
    show SS p e below T116 m 200 #[.val (.int (2 : Int32)), .val (.int c)] [(.int (116 : Int32)), (.int (15 : Int32)), (.ref b101), (.ref b101)] _
    refine st117 _ ?_
    refine XS.dup X117.here hx rfl (hb hby d_method_4_201) rfl rfl ?_
    refine XS.bipush X117.here hx rfl (hb hby d_method_4_202) ?_
    refine XS.iloadN X117.here hx rfl (hb hby d_method_4_204) rfl ?_
    show SS p e below T117 m 205 #[.val (.int (2 : Int32)), .val (.int c)] [(.int c), (.int (16 : Int32)), (.ref b101), (.ref b101)] _
    refine st118 _ ?_
    exact kt
  obtain ⟨fs, hr, hrun, hended, hW, hsame⟩ := X118.leave (v := some (.ref b101)) (fun h => by rw [Bd.returns] at h; cases h)
  refine ⟨_, _, W119 _ (own_retR X118 hx Bd.returns rfl rfl (hb hby d_method_4_206) hr), hrun, hended, _, _, rfl, ?_, ⟨_, rfl⟩, hW, hsame.mono (by decide) (by decide)⟩
  show Q_extended2 Z c h0 n0 _ T118.heap _
  rw [e118]
  exact ⟨b101, k101, rfl, N118, (Keep.trans (Keep.trans (Keep.trans (Keep.trans (Keep.trans (Keep.trans (Keep.trans (Keep.trans (Keep.trans (Keep.trans (Keep.trans (Keep.trans (Keep.trans (Keep.trans (Keep.trans (Keep.trans (Keep.trans (Keep.trans (Keep.refl h0 []) K101 all0) K102 (allS (Or.inr (Nat.le_of_eq g101.symm)) all0)) K103 (allS (Or.inr (Nat.le_of_eq g101.symm)) all0)) K104 (allS (Or.inr (Nat.le_of_eq g101.symm)) all0)) K105 (allS (Or.inr (Nat.le_of_eq g101.symm)) all0)) K106 (allS (Or.inr (Nat.le_of_eq g101.symm)) all0)) K107 (allS (Or.inr (Nat.le_of_eq g101.symm)) all0)) K108 (allS (Or.inr (Nat.le_of_eq g101.symm)) all0)) K109 (allS (Or.inr (Nat.le_of_eq g101.symm)) all0)) K110 (allS (Or.inr (Nat.le_of_eq g101.symm)) all0)) K111 (allS (Or.inr (Nat.le_of_eq g101.symm)) all0)) K112 (allS (Or.inr (Nat.le_of_eq g101.symm)) all0)) K113 (allS (Or.inr (Nat.le_of_eq g101.symm)) all0)) K114 (allS (Or.inr (Nat.le_of_eq g101.symm)) all0)) K115 (allS (Or.inr (Nat.le_of_eq g101.symm)) all0)) K116 (allS (Or.inr (Nat.le_of_eq g101.symm)) all0)) K117 (allS (Or.inr (Nat.le_of_eq g101.symm)) all0)) K118 (allS (Or.inr (Nat.le_of_eq g101.symm)) all0)), (Nat.le_of_eq g101.symm), J118⟩
def Q_reqNN (Z : State) (a : Addr) (h0 : Heap) (n0 : Nat) (vQ_ : Option Value) (hQ_ : Heap) (LQ_ : List Loc) : Prop := vQ_ = some (.ref a) ∧ Fr n0 LQ_ ∧ hQ_ = h0
set_option maxRecDepth 65536 in
set_option maxHeartbeats 40000000 in
theorem rm_reqNN (l : Launch) (Z : State) (a0 : Array Value) (hw : HW a0 Z) (ws : List Jvm.Cond) (a : Addr) (h0 : Heap) (n0 : Nat) (Z0 : n0 ≤ h0.size)  :
    MetFree l yn14 (head1 (Jvm.Cond.code yn14 jdk_31_method_10_code 1 (some (.object "java/lang/Object")) :: ws) ({ frames := 0, cells := 0, slots := 0, locals := 0 } : Room)) (fun aQ_ UQ => aQ_ = #[(.ref a)] ∧ Z.Warmed39 UQ.vm ∧ UQ.heap = h0) (fun _ _ _ _ _ => True) (fun _ UQ oQ UQ' => ∃ vQ_ LQ_, oQ = .returned vQ_ ∧ Q_reqNN Z a h0 n0 vQ_ UQ'.heap LQ_ ∧ FrameEnd UQ oQ UQ' LQ_ ({ frames := 0, cells := 0, slots := 0, locals := 0 } : Room).cells ({ frames := 0, cells := 0, slots := 0, locals := 0 } : Room).slots) := by
  refine MetFree.of_bodySF (plainFor_of_name pn_java_util_Objects) hisR ?_
  intro p e s m args below meth cO s₁ Bd hml0 hP hK
  obtain ⟨rfl, hZ, hh⟩ := hP
  have hx := Bd.exec
  have hby := Bd.bytes
  have hml : cO.maxLocals = 1 := hml0
  have hown : s.vm.findClass "java/util/Objects" = some m.cls := findClass_of_methodNamed Bd.named
  have hnm := (name_of_methodNamed Bd.named Bd.method).1
  have X0 : Stand p l e ({ frames := 0, cells := 0, slots := 0, locals := 0 } : Room) s m #[(.ref a)] below meth cO s₁ [] 0 0 := Stand.of_body Bd
  have e0 : s₁.heap = h0 := by rw [← hh, Bd.state]; rfl
  have N0 := Fr.nil n0
  have W0 : ∀ zQ, SS p e below s₁ m 0 #[.val (.ref a)] [] zQ → Steps p.tables e below (s₁.setTop (entryFrame m #[(.ref a)] 1)) zQ := fun tt kt => castTop (ef_reqNN m a) kt
  have W101 : ∀ zQ, SS p e below s₁ m 13 #[.val (.ref a)] [(.ref a)] zQ → Steps p.tables e below (s₁.setTop (entryFrame m #[(.ref a)] 1)) zQ := by
    intro tt kt
    refine W0 tt ?_
    refine XS.aloadN X0.here hx rfl (hb hby d_jdk_31_method_10_0) rfl rfl ?_
    refine XS.ifnonnullYes X0.here hx rfl (pc0 := 1) (pc' := 12) rfl (hb hby d_jdk_31_method_10_1) rfl (by decide) (by decide) ?_
    refine XS.aloadN X0.here hx rfl (hb hby d_jdk_31_method_10_12) rfl rfl ?_
    exact kt
  obtain ⟨fs, hr, hrun, hended, hW, hsame⟩ := X0.leave (v := some (.ref a)) (fun h => by rw [Bd.returns] at h; cases h)
  refine ⟨_, _, W101 _ (own_retR X0 hx Bd.returns rfl rfl (hb hby d_jdk_31_method_10_13) hr), hrun, hended, _, _, rfl, ?_, ⟨_, rfl⟩, hW, hsame.mono (by decide) (by decide)⟩
  show Q_reqNN Z a h0 n0 _ s₁.heap _
  rw [e0]
  exact ⟨rfl, N0, rfl⟩
def Q_opInit (Z : State) (a : Addr) (v : Addr) (h0 : Heap) (n0 : Nat) (vQ_ : Option Value) (hQ_ : Heap) (LQ_ : List Loc) : Prop := vQ_ = none ∧ Fr n0 LQ_ ∧ Keep h0 hQ_ [a] ∧ Exa Z hQ_ a "java/util/Optional" ∧ Fld Z hQ_ a "java/util/Optional" "value" "Ljava/lang/Object;" (.ref v)
set_option maxRecDepth 65536 in
set_option maxHeartbeats 40000000 in
theorem rm_opInit (l : Launch) (Z : State) (a0 : Array Value) (hw : HW a0 Z) (ws : List Jvm.Cond) (a : Addr) (v : Addr) (h0 : Heap) (n0 : Nat) (Z0 : n0 ≤ h0.size) (E1 : Exa Z h0 a "java/util/Optional") (F1 : Fld Z h0 a "java/util/Optional" "value" "Ljava/lang/Object;" .null) (g1 : n0 ≤ a) :
    MetFree l yn15 (head1 (Jvm.Cond.code yn15 jdk_32_method_2_code 2 none :: ws) ({ frames := 1, cells := 0, slots := 0, locals := 12 } : Room)) (fun aQ_ UQ => aQ_ = #[(.ref a), (.ref v)] ∧ Z.Warmed39 UQ.vm ∧ UQ.heap = h0) (fun _ _ _ _ _ => True) (fun _ UQ oQ UQ' => ∃ vQ_ LQ_, oQ = .returned vQ_ ∧ Q_opInit Z a v h0 n0 vQ_ UQ'.heap LQ_ ∧ FrameEnd UQ oQ UQ' LQ_ ({ frames := 1, cells := 0, slots := 0, locals := 12 } : Room).cells ({ frames := 1, cells := 0, slots := 0, locals := 12 } : Room).slots) := by
  refine MetFree.of_bodySF (plainFor_of_name pn_java_util_Optional) hisR ?_
  intro p e s m args below meth cO s₁ Bd hml0 hP hK
  obtain ⟨rfl, hZ, hh⟩ := hP
  have hx := Bd.exec
  have hby := Bd.bytes
  have hml : cO.maxLocals = 2 := hml0
  have hown : s.vm.findClass "java/util/Optional" = some m.cls := findClass_of_methodNamed Bd.named
  have hnm := (name_of_methodNamed Bd.named Bd.method).1
  have X0 : Stand p l e ({ frames := 1, cells := 0, slots := 0, locals := 12 } : Room) s m #[(.ref a), (.ref v)] below meth cO s₁ [] 0 0 := Stand.of_body Bd
  have e0 : s₁.heap = h0 := by rw [← hh, Bd.state]; rfl
  have N0 := Fr.nil n0
  have W0 : ∀ zQ, SS p e below s₁ m 0 #[.val (.ref a), .val (.ref v)] [] zQ → Steps p.tables e below (s₁.setTop (entryFrame m #[(.ref a), (.ref v)] 2)) zQ := fun tt kt => castTop (ef_opInit m a v) kt
  obtain ⟨T101, X101, e101, st101⟩ := initO X0 hx hZ hown (w84 hw) (w18 hw) (w19 hw) e0 (g := (mkF m 1 #[.val (.ref a), .val (.ref v)] [(.ref a)])) rfl (by rw [hml]; rfl) rfl (hb hby d_jdk_32_method_2_1) (by decide) (W := 0) (by show 2 * 0 + _ ≤ _; exact Nat.le_of_eq rfl) (by decide)
  obtain ⟨T102, h102, X102, e102, Wr102, st102⟩ := putF X101 hx hZ hown (host := "") (Or.inl (w85 hw)) Via.refl e101 F1 E1 (Or.inr ⟨(w86 hw), rfl, hnm⟩) (w75 hw) (ty := (.object "java/lang/Object")) (by decide) rfl rfl (g := (mkF m 6 #[.val (.ref a), .val (.ref v)] [(.ref v), (.ref a)])) rfl rfl (hb hby d_jdk_32_method_2_6)
  have K102 := Keep.of_wr Wr102
  have G102 := F1.same Wr102
  have N102 := Fr.snoc X102 N0 g1
  have W103 : ∀ zQ, SS p e below T102 m 9 #[.val (.ref a), .val (.ref v)] [] zQ → Steps p.tables e below (s₁.setTop (entryFrame m #[(.ref a), (.ref v)] 2)) zQ := by
    intro tt kt
    refine W0 tt ?_
    refine XS.aloadN X0.here hx rfl (hb hby d_jdk_32_method_2_0) rfl rfl ?_
    show SS p e below s₁ m 1 #[.val (.ref a), .val (.ref v)] [(.ref a)] _
    refine st101 _ ?_
    refine XS.aloadN X101.here hx rfl (hb hby d_jdk_32_method_2_4) rfl rfl ?_
    refine XS.aloadN X101.here hx rfl (hb hby d_jdk_32_method_2_5) rfl rfl ?_
    show SS p e below T101 m 6 #[.val (.ref a), .val (.ref v)] [(.ref v), (.ref a)] _
    refine st102 _ ?_
    exact kt
  have F104 : Exa Z h102 a "java/util/Optional" := (E1.keep K102)
  obtain ⟨fs, hr, hrun, hended, hW, hsame⟩ := X102.leave (v := none) (fun _ => rfl)
  refine ⟨_, _, W103 _ (X102.returnOut hx Bd.returns (hb hby d_jdk_32_method_2_9) hr), hrun, hended, _, _, rfl, ?_, ⟨_, rfl⟩, hW, hsame.mono (by decide) (by decide)⟩
  show Q_opInit Z a v h0 n0 _ T102.heap _
  rw [e102]
  exact ⟨rfl, N102, (Keep.trans (Keep.refl h0 [a]) K102 (allS (Or.inl (List.mem_of_getElem? (i := 0) rfl)) all0)), F104, G102⟩
def Q_opOf (Z : State) (v : Addr) (h0 : Heap) (n0 : Nat) (vQ_ : Option Value) (hQ_ : Heap) (LQ_ : List Loc) : Prop := ∃ r : Addr, vQ_ = some (.ref r) ∧ Fr n0 LQ_ ∧ Keep h0 hQ_ [] ∧ h0.size ≤ r ∧ Exa Z hQ_ r "java/util/Optional" ∧ Fld Z hQ_ r "java/util/Optional" "value" "Ljava/lang/Object;" (.ref v)
set_option maxRecDepth 65536 in
set_option maxHeartbeats 40000000 in
theorem rm_opOf (l : Launch) (Z : State) (a0 : Array Value) (hw : HW a0 Z) (ws : List Jvm.Cond) (v : Addr) (h0 : Heap) (n0 : Nat) (Z0 : n0 ≤ h0.size)  :
    MetFree l yn16 (head1 (Jvm.Cond.code yn16 jdk_32_method_3_code 1 (some (.object "java/util/Optional")) :: ws) ({ frames := 2, cells := 1, slots := 1, locals := 26 } : Room)) (fun aQ_ UQ => aQ_ = #[(.ref v)] ∧ Z.Warmed39 UQ.vm ∧ UQ.heap = h0) (fun _ _ _ _ _ => True) (fun _ UQ oQ UQ' => ∃ vQ_ LQ_, oQ = .returned vQ_ ∧ Q_opOf Z v h0 n0 vQ_ UQ'.heap LQ_ ∧ FrameEnd UQ oQ UQ' LQ_ ({ frames := 2, cells := 1, slots := 1, locals := 26 } : Room).cells ({ frames := 2, cells := 1, slots := 1, locals := 26 } : Room).slots) := by
  refine MetFree.of_bodySF (plainFor_of_name pn_java_util_Optional) hisR ?_
  intro p e s m args below meth cO s₁ Bd hml0 hP hK
  obtain ⟨rfl, hZ, hh⟩ := hP
  have hx := Bd.exec
  have hby := Bd.bytes
  have hml : cO.maxLocals = 1 := hml0
  have hown : s.vm.findClass "java/util/Optional" = some m.cls := findClass_of_methodNamed Bd.named
  have hnm := (name_of_methodNamed Bd.named Bd.method).1
  have X0 : Stand p l e ({ frames := 2, cells := 1, slots := 1, locals := 26 } : Room) s m #[(.ref v)] below meth cO s₁ [] 0 0 := Stand.of_body Bd
  have e0 : s₁.heap = h0 := by rw [← hh, Bd.state]; rfl
  have N0 := Fr.nil n0
  have W0 : ∀ zQ, SS p e below s₁ m 0 #[.val (.ref v)] [] zQ → Steps p.tables e below (s₁.setTop (entryFrame m #[(.ref v)] 1)) zQ := fun tt kt => castTop (ef_opOf m v) kt
  obtain ⟨T101, h101, X101, e101, E101, A101, D101, U101, st101⟩ := newO X0 hx hZ hown (w74 hw) (w75 hw) (w72 hw) e0 (g := (mkF m 0 #[.val (.ref v)] [])) rfl (hb hby d_jdk_32_method_3_0) (by decide) (by decide)
  obtain ⟨b101, g101⟩ : ∃ z, z = h0.size := ⟨_, rfl⟩
  rw [← g101] at A101 D101 U101 st101
  have K101 := (Keep.refl h0 []).ext E101
  have G101_value : Fld Z h101 b101 "java/util/Optional" "value" "Ljava/lang/Object;" .null := D101 (Or.inr (w86 hw)) (ty := (.object "java/lang/Object")) (by decide)
  obtain ⟨_, _, ⟨T102, L102, k102, n102⟩, -, X102, ⟨Lc102, hQ102, l102, y102, z102⟩, st102⟩ := Jvm.LawKit.callS X101 hx (y := yn14) hown (mvT hZ (w76 hw)) (mvT hZ (w77 hw)) (mvT hZ (w78 hw)) (mvT hZ (w79 hw)) (by decide) (backOf (W := 2) (rm_reqNN l Z a0 hw [] v h101 n0 (Nat.le_trans Z0 K101.1) ) hZ (w79 hw) (w78 hw) (by decide) (by decide)) (g := (mkF m 5 #[.val (.ref v)] [(.ref v), (.ref b101), (.ref b101)])) rfl (by rw [hml]; rfl) (argsL := [(.ref v)]) (rest := [(.ref b101), (.ref b101)]) (lenOf pd__28_Ljava_2f_lang_2f_Object_3b__29_Ljava_2f_lang_2f_Object_3b_ rfl) rfl (by show 2 * 0 + _ ≤ _; exact Nat.le_of_eq rfl) (hb hby d_jdk_32_method_3_5) (fun _ _ => ⟨rfl, e101, (Nat.le_of_ble_eq_true rfl), (Nat.le_of_ble_eq_true rfl)⟩)
  dsimp only [Pt.U, Pt.locs, Pt.cells, Pt.slots] at X102 l102 y102 z102 st102 hQ102
  subst l102 y102 z102
  obtain ⟨rfl, Nq102, eq102⟩ := hQ102
  have N102 := Fr.app N0 Nq102
  obtain ⟨_, _, ⟨T103, L103, k103, n103⟩, -, X103, ⟨Lc103, hQ103, l103, y103, z103⟩, st103⟩ := X102.specialBack hx (y := yn15) rfl hown (mvT hZ (w80 hw)) (mvT hZ (w81 hw)) (mvT hZ (w83 hw)) (by decide) (backOf (W := 1) (rm_opInit l Z a0 hw [] b101 v h101 n0 (Nat.le_trans Z0 K101.1) A101 G101_value (Nat.le_trans Z0 (Nat.le_of_eq g101.symm))) hZ (w83 hw) (w72 hw) (by decide) (by decide)) (g := (mkF m 8 #[.val (.ref v)] [(.ref v), (.ref b101), (.ref b101)])) rfl (by rw [hml]; rfl) (Steps.refl _) (a := b101) (argsL := [(.ref v)]) (rest := [(.ref b101)]) (lenOf pd__28_Ljava_2f_lang_2f_Object_3b__29_V rfl) rfl (by show 2 * 0 + _ ≤ _; exact Nat.le_of_eq rfl) (hb hby d_jdk_32_method_3_8) (fun _ _ => ⟨rfl, eq102, (Nat.le_of_ble_eq_true rfl), (Nat.le_of_ble_eq_true rfl)⟩)
  dsimp only [Pt.U, Pt.locs, Pt.cells, Pt.slots] at X103 l103 y103 z103 st103 hQ103
  subst l103 y103 z103
  obtain ⟨rfl, Nq103, K103, P103_0, P103_1⟩ := hQ103
  have N103 := Fr.app N102 Nq103
  have W104 : ∀ zQ, SS p e below T103 m 11 #[.val (.ref v)] [(.ref b101)] zQ → Steps p.tables e below (s₁.setTop (entryFrame m #[(.ref v)] 1)) zQ := by
    intro tt kt
    refine W0 tt ?_
    refine st101 _ ?_
    refine XS.dup X101.here hx rfl (hb hby d_jdk_32_method_3_3) rfl rfl ?_
    refine XS.aloadN X101.here hx rfl (hb hby d_jdk_32_method_3_4) rfl rfl ?_
    show SS p e below T101 m 5 #[.val (.ref v)] [(.ref v), (.ref b101), (.ref b101)] _
    refine st102 _ ?_
    show SS p e below T102 m 8 #[.val (.ref v)] [(.ref v), (.ref b101), (.ref b101)] _
    refine st103.trans ?_
    exact kt
  obtain ⟨fs, hr, hrun, hended, hW, hsame⟩ := X103.leave (v := some (.ref b101)) (fun h => by rw [Bd.returns] at h; cases h)
  refine ⟨_, _, W104 _ (own_retR X103 hx Bd.returns rfl rfl (hb hby d_jdk_32_method_3_11) hr), hrun, hended, _, _, rfl, ?_, ⟨_, rfl⟩, hW, hsame.mono (by decide) (by decide)⟩
  show Q_opOf Z v h0 n0 _ T103.heap _
  exact ⟨b101, rfl, N103, (Keep.trans (Keep.trans (Keep.refl h0 []) K101 all0) K103 (allS (Or.inr (Nat.le_of_eq g101.symm)) all0)), (Nat.le_of_eq g101.symm), P103_0, P103_1⟩
def Q_opEmpty (Z : State) (oE : Addr) (h0 : Heap) (n0 : Nat) (vQ_ : Option Value) (hQ_ : Heap) (LQ_ : List Loc) : Prop := vQ_ = some (.ref oE) ∧ Fr n0 LQ_ ∧ hQ_ = h0
set_option maxRecDepth 65536 in
set_option maxHeartbeats 40000000 in
theorem rm_opEmpty (l : Launch) (Z : State) (a0 : Array Value) (hw : HW a0 Z) (ws : List Jvm.Cond) (oE : Addr) (h0 : Heap) (n0 : Nat) (Z0 : n0 ≤ h0.size) (O0 : Old Z n0 h0) (S_EMPTY : Sta Z Z.heap "java/util/Optional" "EMPTY" "Ljava/util/Optional;" (.ref oE)) :
    MetFree l yn17 (head1 (Jvm.Cond.code yn17 jdk_32_method_1_code 1 (some (.object "java/util/Optional")) :: ws) ({ frames := 0, cells := 0, slots := 0, locals := 0 } : Room)) (fun aQ_ UQ => aQ_ = #[] ∧ Z.Warmed39 UQ.vm ∧ UQ.heap = h0) (fun _ _ _ _ _ => True) (fun _ UQ oQ UQ' => ∃ vQ_ LQ_, oQ = .returned vQ_ ∧ Q_opEmpty Z oE h0 n0 vQ_ UQ'.heap LQ_ ∧ FrameEnd UQ oQ UQ' LQ_ ({ frames := 0, cells := 0, slots := 0, locals := 0 } : Room).cells ({ frames := 0, cells := 0, slots := 0, locals := 0 } : Room).slots) := by
  refine MetFree.of_bodySF (plainFor_of_name pn_java_util_Optional) hisR ?_
  intro p e s m args below meth cO s₁ Bd hml0 hP hK
  obtain ⟨rfl, hZ, hh⟩ := hP
  have hx := Bd.exec
  have hby := Bd.bytes
  have hml : cO.maxLocals = 1 := hml0
  have hown : s.vm.findClass "java/util/Optional" = some m.cls := findClass_of_methodNamed Bd.named
  have hnm := (name_of_methodNamed Bd.named Bd.method).1
  have X0 : Stand p l e ({ frames := 0, cells := 0, slots := 0, locals := 0 } : Room) s m #[] below meth cO s₁ [] 0 0 := Stand.of_body Bd
  have e0 : s₁.heap = h0 := by rw [← hh, Bd.state]; rfl
  have N0 := Fr.nil n0
  have W0 : ∀ zQ, SS p e below s₁ m 0 #[.unset] [] zQ → Steps p.tables e below (s₁.setTop (entryFrame m #[] 1)) zQ := fun tt kt => castTop (ef_opEmpty m ) kt
  have F102 : Sta Z h0 "java/util/Optional" "EMPTY" "Ljava/util/Optional;" (.ref oE) := S_EMPTY.ext O0.2
  obtain ⟨T101, X101, e101, st101⟩ := getS2 X0 hx hZ hown (host := "") (Or.inl (w108 hw)) Via.refl e0 F102 (g := (mkF m 0 #[.unset] [])) rfl (hb hby d_jdk_32_method_1_0)
  have W103 : ∀ zQ, SS p e below T101 m 5 #[.val (.ref oE)] [(.ref oE)] zQ → Steps p.tables e below (s₁.setTop (entryFrame m #[] 1)) zQ := by
    intro tt kt
    refine W0 tt ?_
    refine st101 _ ?_
    refine XS.astoreN X101.here hx rfl (hb hby d_jdk_32_method_1_3) rfl rfl (l' := #[.val (.ref oE)]) rfl ?_
    refine XS.aloadN X101.here hx rfl (hb hby d_jdk_32_method_1_4) rfl rfl ?_
    exact kt
  obtain ⟨fs, hr, hrun, hended, hW, hsame⟩ := X101.leave (v := some (.ref oE)) (fun h => by rw [Bd.returns] at h; cases h)
  refine ⟨_, _, W103 _ (own_retR X101 hx Bd.returns rfl rfl (hb hby d_jdk_32_method_1_5) hr), hrun, hended, _, _, rfl, ?_, ⟨_, rfl⟩, hW, hsame.mono (by decide) (by decide)⟩
  show Q_opEmpty Z oE h0 n0 _ T101.heap _
  rw [e101]
  exact ⟨rfl, N0, rfl⟩
def Q_isP1 (Z : State) (a : Addr) (w : Addr) (h0 : Heap) (n0 : Nat) (vQ_ : Option Value) (hQ_ : Heap) (LQ_ : List Loc) : Prop := vQ_ = some (.int (1 : Int32)) ∧ Fr n0 LQ_ ∧ hQ_ = h0
set_option maxRecDepth 65536 in
set_option maxHeartbeats 40000000 in
theorem rm_isP1 (l : Launch) (Z : State) (a0 : Array Value) (hw : HW a0 Z) (ws : List Jvm.Cond) (a : Addr) (w : Addr) (h0 : Heap) (n0 : Nat) (Z0 : n0 ≤ h0.size) (F1 : Fld Z h0 a "java/util/Optional" "value" "Ljava/lang/Object;" (.ref w)) :
    MetFree l yn18 (head1 (Jvm.Cond.code yn18 jdk_32_method_6_code 1 (some .boolean) :: ws) ({ frames := 0, cells := 0, slots := 0, locals := 0 } : Room)) (fun aQ_ UQ => aQ_ = #[(.ref a)] ∧ Z.Warmed39 UQ.vm ∧ UQ.heap = h0) (fun _ _ _ _ _ => True) (fun _ UQ oQ UQ' => ∃ vQ_ LQ_, oQ = .returned vQ_ ∧ Q_isP1 Z a w h0 n0 vQ_ UQ'.heap LQ_ ∧ FrameEnd UQ oQ UQ' LQ_ ({ frames := 0, cells := 0, slots := 0, locals := 0 } : Room).cells ({ frames := 0, cells := 0, slots := 0, locals := 0 } : Room).slots) := by
  refine MetFree.of_bodySF (plainFor_of_name pn_java_util_Optional) hisR ?_
  intro p e s m args below meth cO s₁ Bd hml0 hP hK
  obtain ⟨rfl, hZ, hh⟩ := hP
  have hx := Bd.exec
  have hby := Bd.bytes
  have hml : cO.maxLocals = 1 := hml0
  have hown : s.vm.findClass "java/util/Optional" = some m.cls := findClass_of_methodNamed Bd.named
  have hnm := (name_of_methodNamed Bd.named Bd.method).1
  have X0 : Stand p l e ({ frames := 0, cells := 0, slots := 0, locals := 0 } : Room) s m #[(.ref a)] below meth cO s₁ [] 0 0 := Stand.of_body Bd
  have e0 : s₁.heap = h0 := by rw [← hh, Bd.state]; rfl
  have N0 := Fr.nil n0
  have W0 : ∀ zQ, SS p e below s₁ m 0 #[.val (.ref a)] [] zQ → Steps p.tables e below (s₁.setTop (entryFrame m #[(.ref a)] 1)) zQ := fun tt kt => castTop (ef_isP1 m a) kt
  obtain ⟨T101, X101, e101, st101⟩ := getF X0 hx hZ hown (host := "") (Or.inl (w85 hw)) Via.refl e0 F1 (g := (mkF m 1 #[.val (.ref a)] [(.ref a)])) rfl rfl (hb hby d_jdk_32_method_6_1)
  have W102 : ∀ zQ, SS p e below T101 m 12 #[.val (.ref a)] [(.int (1 : Int32))] zQ → Steps p.tables e below (s₁.setTop (entryFrame m #[(.ref a)] 1)) zQ := by
    intro tt kt
    refine W0 tt ?_
    refine XS.aloadN X0.here hx rfl (hb hby d_jdk_32_method_6_0) rfl rfl ?_
    show SS p e below s₁ m 1 #[.val (.ref a)] [(.ref a)] _
    refine st101 _ ?_
    refine XS.ifnullNo X101.here hx rfl (hb hby d_jdk_32_method_6_4) rfl ?_
    refine XS.iconst X101.here hx rfl (hb hby d_jdk_32_method_6_7) ?_
    refine XS.goto X101.here hx rfl (pc0 := 8) (pc' := 12) rfl (hb hby d_jdk_32_method_6_8) (by decide) (by decide) ?_
    exact kt
  obtain ⟨fs, hr, hrun, hended, hW, hsame⟩ := X101.leave (v := some (.int (nar .boolean (1 : Int32)))) (fun h => by rw [Bd.returns] at h; cases h)
  refine ⟨_, _, W102 _ (retN X101 hx (t := .boolean) Bd.returns (by simp) (hb hby d_jdk_32_method_6_12) hr), hrun, hended, _, _, rfl, ?_, ⟨_, rfl⟩, hW, hsame.mono (by decide) (by decide)⟩
  show Q_isP1 Z a w h0 n0 _ T101.heap _
  rw [e101]
  exact ⟨rfl, N0, rfl⟩
def Q_isP0 (Z : State) (a : Addr) (h0 : Heap) (n0 : Nat) (vQ_ : Option Value) (hQ_ : Heap) (LQ_ : List Loc) : Prop := vQ_ = some (.int (0 : Int32)) ∧ Fr n0 LQ_ ∧ hQ_ = h0
set_option maxRecDepth 65536 in
set_option maxHeartbeats 40000000 in
theorem rm_isP0 (l : Launch) (Z : State) (a0 : Array Value) (hw : HW a0 Z) (ws : List Jvm.Cond) (a : Addr) (h0 : Heap) (n0 : Nat) (Z0 : n0 ≤ h0.size) (F1 : Fld Z h0 a "java/util/Optional" "value" "Ljava/lang/Object;" .null) :
    MetFree l yn18 (head1 (Jvm.Cond.code yn18 jdk_32_method_6_code 1 (some .boolean) :: ws) ({ frames := 0, cells := 0, slots := 0, locals := 0 } : Room)) (fun aQ_ UQ => aQ_ = #[(.ref a)] ∧ Z.Warmed39 UQ.vm ∧ UQ.heap = h0) (fun _ _ _ _ _ => True) (fun _ UQ oQ UQ' => ∃ vQ_ LQ_, oQ = .returned vQ_ ∧ Q_isP0 Z a h0 n0 vQ_ UQ'.heap LQ_ ∧ FrameEnd UQ oQ UQ' LQ_ ({ frames := 0, cells := 0, slots := 0, locals := 0 } : Room).cells ({ frames := 0, cells := 0, slots := 0, locals := 0 } : Room).slots) := by
  refine MetFree.of_bodySF (plainFor_of_name pn_java_util_Optional) hisR ?_
  intro p e s m args below meth cO s₁ Bd hml0 hP hK
  obtain ⟨rfl, hZ, hh⟩ := hP
  have hx := Bd.exec
  have hby := Bd.bytes
  have hml : cO.maxLocals = 1 := hml0
  have hown : s.vm.findClass "java/util/Optional" = some m.cls := findClass_of_methodNamed Bd.named
  have hnm := (name_of_methodNamed Bd.named Bd.method).1
  have X0 : Stand p l e ({ frames := 0, cells := 0, slots := 0, locals := 0 } : Room) s m #[(.ref a)] below meth cO s₁ [] 0 0 := Stand.of_body Bd
  have e0 : s₁.heap = h0 := by rw [← hh, Bd.state]; rfl
  have N0 := Fr.nil n0
  have W0 : ∀ zQ, SS p e below s₁ m 0 #[.val (.ref a)] [] zQ → Steps p.tables e below (s₁.setTop (entryFrame m #[(.ref a)] 1)) zQ := fun tt kt => castTop (ef_isP0 m a) kt
  obtain ⟨T101, X101, e101, st101⟩ := getF X0 hx hZ hown (host := "") (Or.inl (w85 hw)) Via.refl e0 F1 (g := (mkF m 1 #[.val (.ref a)] [(.ref a)])) rfl rfl (hb hby d_jdk_32_method_6_1)
  have W102 : ∀ zQ, SS p e below T101 m 12 #[.val (.ref a)] [(.int (0 : Int32))] zQ → Steps p.tables e below (s₁.setTop (entryFrame m #[(.ref a)] 1)) zQ := by
    intro tt kt
    refine W0 tt ?_
    refine XS.aloadN X0.here hx rfl (hb hby d_jdk_32_method_6_0) rfl rfl ?_
    show SS p e below s₁ m 1 #[.val (.ref a)] [(.ref a)] _
    refine st101 _ ?_
    refine XS.ifnullYes X101.here hx rfl (pc0 := 4) (pc' := 11) rfl (hb hby d_jdk_32_method_6_4) rfl (by decide) (by decide) ?_
    refine XS.iconst X101.here hx rfl (hb hby d_jdk_32_method_6_11) ?_
    exact kt
  obtain ⟨fs, hr, hrun, hended, hW, hsame⟩ := X101.leave (v := some (.int (nar .boolean (0 : Int32)))) (fun h => by rw [Bd.returns] at h; cases h)
  refine ⟨_, _, W102 _ (retN X101 hx (t := .boolean) Bd.returns (by simp) (hb hby d_jdk_32_method_6_12) hr), hrun, hended, _, _, rfl, ?_, ⟨_, rfl⟩, hW, hsame.mono (by decide) (by decide)⟩
  show Q_isP0 Z a h0 n0 _ T101.heap _
  rw [e101]
  exact ⟨rfl, N0, rfl⟩
def Q_opGet (Z : State) (a : Addr) (w : Addr) (h0 : Heap) (n0 : Nat) (vQ_ : Option Value) (hQ_ : Heap) (LQ_ : List Loc) : Prop := vQ_ = some (.ref w) ∧ Fr n0 LQ_ ∧ hQ_ = h0
set_option maxRecDepth 65536 in
set_option maxHeartbeats 40000000 in
theorem rm_opGet (l : Launch) (Z : State) (a0 : Array Value) (hw : HW a0 Z) (ws : List Jvm.Cond) (a : Addr) (w : Addr) (h0 : Heap) (n0 : Nat) (Z0 : n0 ≤ h0.size) (F1 : Fld Z h0 a "java/util/Optional" "value" "Ljava/lang/Object;" (.ref w)) :
    MetFree l yn19 (head1 (Jvm.Cond.code yn19 jdk_32_method_5_code 1 (some (.object "java/lang/Object")) :: ws) ({ frames := 0, cells := 0, slots := 0, locals := 0 } : Room)) (fun aQ_ UQ => aQ_ = #[(.ref a)] ∧ Z.Warmed39 UQ.vm ∧ UQ.heap = h0) (fun _ _ _ _ _ => True) (fun _ UQ oQ UQ' => ∃ vQ_ LQ_, oQ = .returned vQ_ ∧ Q_opGet Z a w h0 n0 vQ_ UQ'.heap LQ_ ∧ FrameEnd UQ oQ UQ' LQ_ ({ frames := 0, cells := 0, slots := 0, locals := 0 } : Room).cells ({ frames := 0, cells := 0, slots := 0, locals := 0 } : Room).slots) := by
  refine MetFree.of_bodySF (plainFor_of_name pn_java_util_Optional) hisR ?_
  intro p e s m args below meth cO s₁ Bd hml0 hP hK
  obtain ⟨rfl, hZ, hh⟩ := hP
  have hx := Bd.exec
  have hby := Bd.bytes
  have hml : cO.maxLocals = 1 := hml0
  have hown : s.vm.findClass "java/util/Optional" = some m.cls := findClass_of_methodNamed Bd.named
  have hnm := (name_of_methodNamed Bd.named Bd.method).1
  have X0 : Stand p l e ({ frames := 0, cells := 0, slots := 0, locals := 0 } : Room) s m #[(.ref a)] below meth cO s₁ [] 0 0 := Stand.of_body Bd
  have e0 : s₁.heap = h0 := by rw [← hh, Bd.state]; rfl
  have N0 := Fr.nil n0
  have W0 : ∀ zQ, SS p e below s₁ m 0 #[.val (.ref a)] [] zQ → Steps p.tables e below (s₁.setTop (entryFrame m #[(.ref a)] 1)) zQ := fun tt kt => castTop (ef_opGet m a) kt
  obtain ⟨T101, X101, e101, st101⟩ := getF X0 hx hZ hown (host := "") (Or.inl (w85 hw)) Via.refl e0 F1 (g := (mkF m 1 #[.val (.ref a)] [(.ref a)])) rfl rfl (hb hby d_jdk_32_method_5_1)
  obtain ⟨T102, X102, e102, st102⟩ := getF X101 hx hZ hown (host := "") (Or.inl (w85 hw)) Via.refl e101 F1 (g := (mkF m 18 #[.val (.ref a)] [(.ref a)])) rfl rfl (hb hby d_jdk_32_method_5_18)
  have W103 : ∀ zQ, SS p e below T102 m 21 #[.val (.ref a)] [(.ref w)] zQ → Steps p.tables e below (s₁.setTop (entryFrame m #[(.ref a)] 1)) zQ := by
    intro tt kt
    refine W0 tt ?_
    refine XS.aloadN X0.here hx rfl (hb hby d_jdk_32_method_5_0) rfl rfl ?_
    show SS p e below s₁ m 1 #[.val (.ref a)] [(.ref a)] _
    refine st101 _ ?_
    refine XS.ifnonnullYes X101.here hx rfl (pc0 := 4) (pc' := 17) rfl (hb hby d_jdk_32_method_5_4) rfl (by decide) (by decide) ?_
    refine XS.aloadN X101.here hx rfl (hb hby d_jdk_32_method_5_17) rfl rfl ?_
    show SS p e below T101 m 18 #[.val (.ref a)] [(.ref a)] _
    refine st102 _ ?_
    exact kt
  obtain ⟨fs, hr, hrun, hended, hW, hsame⟩ := X102.leave (v := some (.ref w)) (fun h => by rw [Bd.returns] at h; cases h)
  refine ⟨_, _, W103 _ (own_retR X102 hx Bd.returns rfl rfl (hb hby d_jdk_32_method_5_21) hr), hrun, hended, _, _, rfl, ?_, ⟨_, rfl⟩, hW, hsame.mono (by decide) (by decide)⟩
  show Q_opGet Z a w h0 n0 _ T102.heap _
  rw [e102]
  exact ⟨rfl, N0, rfl⟩
def Q_const0 (Z : State) (o0 : Addr) (h0 : Heap) (n0 : Nat) (vQ_ : Option Value) (hQ_ : Heap) (LQ_ : List Loc) : Prop := vQ_ = some (.ref o0) ∧ Fr n0 LQ_ ∧ hQ_ = h0
set_option maxRecDepth 65536 in
set_option maxHeartbeats 40000000 in
theorem rm_const0 (l : Launch) (Z : State) (a0 : Array Value) (hw : HW a0 Z) (ws : List Jvm.Cond) (o0 : Addr) (h0 : Heap) (n0 : Nat) (Z0 : n0 ≤ h0.size) (O0 : Old Z n0 h0) (S_0 : Sta Z Z.heap "com/example/composition/composition/definition/AbapLanguageVersion" "STANDARD" "Lcom/example/composition/composition/definition/AbapLanguageVersion;" (.ref o0)) :
    MetFree l yn20 (head1 (Jvm.Cond.code yn20 method_5_code 1 (some (.object "com/example/composition/composition/definition/AbapLanguageVersion")) :: ws) ({ frames := 0, cells := 0, slots := 0, locals := 0 } : Room)) (fun aQ_ UQ => aQ_ = #[(.int (0 : Int32))] ∧ Z.Warmed39 UQ.vm ∧ UQ.heap = h0) (fun _ _ _ _ _ => True) (fun _ UQ oQ UQ' => ∃ vQ_ LQ_, oQ = .returned vQ_ ∧ Q_const0 Z o0 h0 n0 vQ_ UQ'.heap LQ_ ∧ FrameEnd UQ oQ UQ' LQ_ ({ frames := 0, cells := 0, slots := 0, locals := 0 } : Room).cells ({ frames := 0, cells := 0, slots := 0, locals := 0 } : Room).slots) := by
  refine MetFree.of_bodySF (plainFor_of_name pn_com_example_composition_composition_definition_AbapLanguageVersionOfJsonNamePinLaw) hisR ?_
  intro p e s m args below meth cO s₁ Bd hml0 hP hK
  obtain ⟨rfl, hZ, hh⟩ := hP
  have hx := Bd.exec
  have hby := Bd.bytes
  have hml : cO.maxLocals = 1 := hml0
  have hown : s.vm.findClass "com/example/composition/composition/definition/AbapLanguageVersionOfJsonNamePinLaw" = some m.cls := findClass_of_methodNamed Bd.named
  have hnm := (name_of_methodNamed Bd.named Bd.method).1
  have X0 : Stand p l e ({ frames := 0, cells := 0, slots := 0, locals := 0 } : Room) s m #[(.int (0 : Int32))] below meth cO s₁ [] 0 0 := Stand.of_body Bd
  have e0 : s₁.heap = h0 := by rw [← hh, Bd.state]; rfl
  have N0 := Fr.nil n0
  have W0 : ∀ zQ, SS p e below s₁ m 0 #[.val (.int (0 : Int32))] [] zQ → Steps p.tables e below (s₁.setTop (entryFrame m #[(.int (0 : Int32))] 1)) zQ := fun tt kt => castTop (ef_const0 m (0 : Int32)) kt
  have F102 : Sta Z h0 "com/example/composition/composition/definition/AbapLanguageVersion" "STANDARD" "Lcom/example/composition/composition/definition/AbapLanguageVersion;" (.ref o0) := S_0.ext O0.2
  obtain ⟨T101, X101, e101, st101⟩ := getS2 X0 hx hZ hown (host := "") (Or.inl (w100 hw)) Via.refl e0 F102 (g := (mkF m 4 #[.val (.int (0 : Int32))] [])) rfl (hb hby d_method_5_4)
  have W103 : ∀ zQ, SS p e below T101 m 7 #[.val (.int (0 : Int32))] [(.ref o0)] zQ → Steps p.tables e below (s₁.setTop (entryFrame m #[(.int (0 : Int32))] 1)) zQ := by
    intro tt kt
    refine W0 tt ?_
    refine XS.iloadN X0.here hx rfl (hb hby d_method_5_0) rfl ?_
    refine XS.ifNo X0.here hx rfl (hb hby d_method_5_1) rfl ((if0 _ _).trans (teq (by decide)).2) ?_
    show SS p e below s₁ m 4 #[.val (.int (0 : Int32))] [] _
    refine st101 _ ?_
    exact kt
  obtain ⟨fs, hr, hrun, hended, hW, hsame⟩ := X101.leave (v := some (.ref o0)) (fun h => by rw [Bd.returns] at h; cases h)
  refine ⟨_, _, W103 _ (own_retR X101 hx Bd.returns rfl rfl (hb hby d_method_5_7) hr), hrun, hended, _, _, rfl, ?_, ⟨_, rfl⟩, hW, hsame.mono (by decide) (by decide)⟩
  show Q_const0 Z o0 h0 n0 _ T101.heap _
  rw [e101]
  exact ⟨rfl, N0, rfl⟩
def Q_const1 (Z : State) (o1 : Addr) (h0 : Heap) (n0 : Nat) (vQ_ : Option Value) (hQ_ : Heap) (LQ_ : List Loc) : Prop := vQ_ = some (.ref o1) ∧ Fr n0 LQ_ ∧ hQ_ = h0
set_option maxRecDepth 65536 in
set_option maxHeartbeats 40000000 in
theorem rm_const1 (l : Launch) (Z : State) (a0 : Array Value) (hw : HW a0 Z) (ws : List Jvm.Cond) (o1 : Addr) (h0 : Heap) (n0 : Nat) (Z0 : n0 ≤ h0.size) (O0 : Old Z n0 h0) (S_1 : Sta Z Z.heap "com/example/composition/composition/definition/AbapLanguageVersion" "KEY_USER" "Lcom/example/composition/composition/definition/AbapLanguageVersion;" (.ref o1)) :
    MetFree l yn20 (head1 (Jvm.Cond.code yn20 method_5_code 1 (some (.object "com/example/composition/composition/definition/AbapLanguageVersion")) :: ws) ({ frames := 0, cells := 0, slots := 0, locals := 0 } : Room)) (fun aQ_ UQ => aQ_ = #[(.int (1 : Int32))] ∧ Z.Warmed39 UQ.vm ∧ UQ.heap = h0) (fun _ _ _ _ _ => True) (fun _ UQ oQ UQ' => ∃ vQ_ LQ_, oQ = .returned vQ_ ∧ Q_const1 Z o1 h0 n0 vQ_ UQ'.heap LQ_ ∧ FrameEnd UQ oQ UQ' LQ_ ({ frames := 0, cells := 0, slots := 0, locals := 0 } : Room).cells ({ frames := 0, cells := 0, slots := 0, locals := 0 } : Room).slots) := by
  refine MetFree.of_bodySF (plainFor_of_name pn_com_example_composition_composition_definition_AbapLanguageVersionOfJsonNamePinLaw) hisR ?_
  intro p e s m args below meth cO s₁ Bd hml0 hP hK
  obtain ⟨rfl, hZ, hh⟩ := hP
  have hx := Bd.exec
  have hby := Bd.bytes
  have hml : cO.maxLocals = 1 := hml0
  have hown : s.vm.findClass "com/example/composition/composition/definition/AbapLanguageVersionOfJsonNamePinLaw" = some m.cls := findClass_of_methodNamed Bd.named
  have hnm := (name_of_methodNamed Bd.named Bd.method).1
  have X0 : Stand p l e ({ frames := 0, cells := 0, slots := 0, locals := 0 } : Room) s m #[(.int (1 : Int32))] below meth cO s₁ [] 0 0 := Stand.of_body Bd
  have e0 : s₁.heap = h0 := by rw [← hh, Bd.state]; rfl
  have N0 := Fr.nil n0
  have W0 : ∀ zQ, SS p e below s₁ m 0 #[.val (.int (1 : Int32))] [] zQ → Steps p.tables e below (s₁.setTop (entryFrame m #[(.int (1 : Int32))] 1)) zQ := fun tt kt => castTop (ef_const1 m (1 : Int32)) kt
  have F102 : Sta Z h0 "com/example/composition/composition/definition/AbapLanguageVersion" "KEY_USER" "Lcom/example/composition/composition/definition/AbapLanguageVersion;" (.ref o1) := S_1.ext O0.2
  obtain ⟨T101, X101, e101, st101⟩ := getS2 X0 hx hZ hown (host := "") (Or.inl (w101 hw)) Via.refl e0 F102 (g := (mkF m 13 #[.val (.int (1 : Int32))] [])) rfl (hb hby d_method_5_13)
  have W103 : ∀ zQ, SS p e below T101 m 16 #[.val (.int (1 : Int32))] [(.ref o1)] zQ → Steps p.tables e below (s₁.setTop (entryFrame m #[(.int (1 : Int32))] 1)) zQ := by
    intro tt kt
    refine W0 tt ?_
    refine XS.iloadN X0.here hx rfl (hb hby d_method_5_0) rfl ?_
    refine XS.ifYes X0.here hx rfl (pc0 := 1) (pc' := 8) rfl (hb hby d_method_5_1) rfl ((if0 _ _).trans (feq (by decide)).2) (by decide) (by decide) ?_
    refine XS.iloadN X0.here hx rfl (hb hby d_method_5_8) rfl ?_
    refine XS.iconst X0.here hx rfl (hb hby d_method_5_9) ?_
    refine XS.icmpNo X0.here hx rfl (hb hby d_method_5_10) rfl (teq (by decide)).2 ?_
    show SS p e below s₁ m 13 #[.val (.int (1 : Int32))] [] _
    refine st101 _ ?_
    exact kt
  obtain ⟨fs, hr, hrun, hended, hW, hsame⟩ := X101.leave (v := some (.ref o1)) (fun h => by rw [Bd.returns] at h; cases h)
  refine ⟨_, _, W103 _ (own_retR X101 hx Bd.returns rfl rfl (hb hby d_method_5_16) hr), hrun, hended, _, _, rfl, ?_, ⟨_, rfl⟩, hW, hsame.mono (by decide) (by decide)⟩
  show Q_const1 Z o1 h0 n0 _ T101.heap _
  rw [e101]
  exact ⟨rfl, N0, rfl⟩
def Q_const2 (Z : State) (o2 : Addr) (h0 : Heap) (n0 : Nat) (vQ_ : Option Value) (hQ_ : Heap) (LQ_ : List Loc) : Prop := vQ_ = some (.ref o2) ∧ Fr n0 LQ_ ∧ hQ_ = h0
set_option maxRecDepth 65536 in
set_option maxHeartbeats 40000000 in
theorem rm_const2 (l : Launch) (Z : State) (a0 : Array Value) (hw : HW a0 Z) (ws : List Jvm.Cond) (o2 : Addr) (h0 : Heap) (n0 : Nat) (Z0 : n0 ≤ h0.size) (O0 : Old Z n0 h0) (S_2 : Sta Z Z.heap "com/example/composition/composition/definition/AbapLanguageVersion" "CLOUD_DEVELOPMENT" "Lcom/example/composition/composition/definition/AbapLanguageVersion;" (.ref o2)) :
    MetFree l yn20 (head1 (Jvm.Cond.code yn20 method_5_code 1 (some (.object "com/example/composition/composition/definition/AbapLanguageVersion")) :: ws) ({ frames := 0, cells := 0, slots := 0, locals := 0 } : Room)) (fun aQ_ UQ => aQ_ = #[(.int (2 : Int32))] ∧ Z.Warmed39 UQ.vm ∧ UQ.heap = h0) (fun _ _ _ _ _ => True) (fun _ UQ oQ UQ' => ∃ vQ_ LQ_, oQ = .returned vQ_ ∧ Q_const2 Z o2 h0 n0 vQ_ UQ'.heap LQ_ ∧ FrameEnd UQ oQ UQ' LQ_ ({ frames := 0, cells := 0, slots := 0, locals := 0 } : Room).cells ({ frames := 0, cells := 0, slots := 0, locals := 0 } : Room).slots) := by
  refine MetFree.of_bodySF (plainFor_of_name pn_com_example_composition_composition_definition_AbapLanguageVersionOfJsonNamePinLaw) hisR ?_
  intro p e s m args below meth cO s₁ Bd hml0 hP hK
  obtain ⟨rfl, hZ, hh⟩ := hP
  have hx := Bd.exec
  have hby := Bd.bytes
  have hml : cO.maxLocals = 1 := hml0
  have hown : s.vm.findClass "com/example/composition/composition/definition/AbapLanguageVersionOfJsonNamePinLaw" = some m.cls := findClass_of_methodNamed Bd.named
  have hnm := (name_of_methodNamed Bd.named Bd.method).1
  have X0 : Stand p l e ({ frames := 0, cells := 0, slots := 0, locals := 0 } : Room) s m #[(.int (2 : Int32))] below meth cO s₁ [] 0 0 := Stand.of_body Bd
  have e0 : s₁.heap = h0 := by rw [← hh, Bd.state]; rfl
  have N0 := Fr.nil n0
  have W0 : ∀ zQ, SS p e below s₁ m 0 #[.val (.int (2 : Int32))] [] zQ → Steps p.tables e below (s₁.setTop (entryFrame m #[(.int (2 : Int32))] 1)) zQ := fun tt kt => castTop (ef_const2 m (2 : Int32)) kt
  have F102 : Sta Z h0 "com/example/composition/composition/definition/AbapLanguageVersion" "CLOUD_DEVELOPMENT" "Lcom/example/composition/composition/definition/AbapLanguageVersion;" (.ref o2) := S_2.ext O0.2
  obtain ⟨T101, X101, e101, st101⟩ := getS2 X0 hx hZ hown (host := "") (Or.inl (w109 hw)) Via.refl e0 F102 (g := (mkF m 17 #[.val (.int (2 : Int32))] [])) rfl (hb hby d_method_5_17)
  have W103 : ∀ zQ, SS p e below T101 m 20 #[.val (.int (2 : Int32))] [(.ref o2)] zQ → Steps p.tables e below (s₁.setTop (entryFrame m #[(.int (2 : Int32))] 1)) zQ := by
    intro tt kt
    refine W0 tt ?_
    refine XS.iloadN X0.here hx rfl (hb hby d_method_5_0) rfl ?_
    refine XS.ifYes X0.here hx rfl (pc0 := 1) (pc' := 8) rfl (hb hby d_method_5_1) rfl ((if0 _ _).trans (feq (by decide)).2) (by decide) (by decide) ?_
    refine XS.iloadN X0.here hx rfl (hb hby d_method_5_8) rfl ?_
    refine XS.iconst X0.here hx rfl (hb hby d_method_5_9) ?_
    refine XS.icmpYes X0.here hx rfl (pc0 := 10) (pc' := 17) rfl (hb hby d_method_5_10) rfl (feq (by decide)).2 (by decide) (by decide) ?_
    show SS p e below s₁ m 17 #[.val (.int (2 : Int32))] [] _
    refine st101 _ ?_
    exact kt
  obtain ⟨fs, hr, hrun, hended, hW, hsame⟩ := X101.leave (v := some (.ref o2)) (fun h => by rw [Bd.returns] at h; cases h)
  refine ⟨_, _, W103 _ (own_retR X101 hx Bd.returns rfl rfl (hb hby d_method_5_20) hr), hrun, hended, _, _, rfl, ?_, ⟨_, rfl⟩, hW, hsame.mono (by decide) (by decide)⟩
  show Q_const2 Z o2 h0 n0 _ T101.heap _
  rw [e101]
  exact ⟨rfl, N0, rfl⟩
def Q_values (Z : State) (o0 : Addr) (o1 : Addr) (o2 : Addr) (oV : Addr) (kV : ClassId) (h0 : Heap) (n0 : Nat) (vQ_ : Option Value) (hQ_ : Heap) (LQ_ : List Loc) : Prop := ∃ r : Addr, vQ_ = some (.ref r) ∧ Fr n0 LQ_ ∧ Keep h0 hQ_ [] ∧ h0.size ≤ r ∧ Arv Z hQ_ r kV (.object "com/example/composition/composition/definition/AbapLanguageVersion") (3 : Int32) [(.ref o0), (.ref o1), (.ref o2)] .null
set_option maxRecDepth 65536 in
set_option maxHeartbeats 40000000 in
theorem rm_values (l : Launch) (Z : State) (a0 : Array Value) (hw : HW a0 Z) (ws : List Jvm.Cond) (o0 : Addr) (o1 : Addr) (o2 : Addr) (oV : Addr) (kV : ClassId) (h0 : Heap) (n0 : Nat) (Z0 : n0 ≤ h0.size) (O0 : Old Z n0 h0) (S_0 : Sta Z Z.heap "com/example/composition/composition/definition/AbapLanguageVersion" "STANDARD" "Lcom/example/composition/composition/definition/AbapLanguageVersion;" (.ref o0)) (S_1 : Sta Z Z.heap "com/example/composition/composition/definition/AbapLanguageVersion" "KEY_USER" "Lcom/example/composition/composition/definition/AbapLanguageVersion;" (.ref o1)) (S_2 : Sta Z Z.heap "com/example/composition/composition/definition/AbapLanguageVersion" "CLOUD_DEVELOPMENT" "Lcom/example/composition/composition/definition/AbapLanguageVersion;" (.ref o2)) (S_V : Sta Z Z.heap "com/example/composition/composition/definition/AbapLanguageVersion" "$VALUES" "[Lcom/example/composition/composition/definition/AbapLanguageVersion;" (.ref oV)) (E_V : Exa Z Z.heap oV "[Lcom/example/composition/composition/definition/AbapLanguageVersion;") (V_V : Arv Z Z.heap oV kV (.object "com/example/composition/composition/definition/AbapLanguageVersion") (3 : Int32) [(.ref o0), (.ref o1), (.ref o2)] .null) :
    MetFree l yn21 (head1 (Jvm.Cond.code yn21 prog_11_method_1_code 0 (some (.array (.object "com/example/composition/composition/definition/AbapLanguageVersion"))) :: ws) ({ frames := 1, cells := 1, slots := 3, locals := 14 } : Room)) (fun aQ_ UQ => aQ_ = #[] ∧ Z.Warmed39 UQ.vm ∧ UQ.heap = h0) (fun _ _ _ _ _ => True) (fun _ UQ oQ UQ' => ∃ vQ_ LQ_, oQ = .returned vQ_ ∧ Q_values Z o0 o1 o2 oV kV h0 n0 vQ_ UQ'.heap LQ_ ∧ FrameEnd UQ oQ UQ' LQ_ ({ frames := 1, cells := 1, slots := 3, locals := 14 } : Room).cells ({ frames := 1, cells := 1, slots := 3, locals := 14 } : Room).slots) := by
  refine MetFree.of_bodySF (plainFor_of_name pn_com_example_composition_composition_definition_AbapLanguageVersion) hisR ?_
  intro p e s m args below meth cO s₁ Bd hml0 hP hK
  obtain ⟨rfl, hZ, hh⟩ := hP
  have hx := Bd.exec
  have hby := Bd.bytes
  have hml : cO.maxLocals = 0 := hml0
  have hown : s.vm.findClass "com/example/composition/composition/definition/AbapLanguageVersion" = some m.cls := findClass_of_methodNamed Bd.named
  have hnm := (name_of_methodNamed Bd.named Bd.method).1
  have X0 : Stand p l e ({ frames := 1, cells := 1, slots := 3, locals := 14 } : Room) s m #[] below meth cO s₁ [] 0 0 := Stand.of_body Bd
  have e0 : s₁.heap = h0 := by rw [← hh, Bd.state]; rfl
  have N0 := Fr.nil n0
  have W0 : ∀ zQ, SS p e below s₁ m 0 #[] [] zQ → Steps p.tables e below (s₁.setTop (entryFrame m #[] 0)) zQ := fun tt kt => castTop (ef_values m ) kt
  have F102 : Sta Z h0 "com/example/composition/composition/definition/AbapLanguageVersion" "$VALUES" "[Lcom/example/composition/composition/definition/AbapLanguageVersion;" (.ref oV) := S_V.ext O0.2
  obtain ⟨T101, X101, e101, st101⟩ := getS2 X0 hx hZ hown (host := "") (Or.inl (w43 hw)) Via.refl e0 F102 (g := (mkF m 0 #[] [])) rfl (hb hby d_prog_11_method_1_0)
  have F104 : Exa Z h0 oV "[Lcom/example/composition/composition/definition/AbapLanguageVersion;" := E_V.ext O0.2
  have F105 : Arv Z h0 oV kV (.object "com/example/composition/composition/definition/AbapLanguageVersion") (3 : Int32) [(.ref o0), (.ref o1), (.ref o2)] .null := V_V.ext O0.2
  obtain ⟨T103, h103, X103, e103, E103, A103, C103, st103⟩ := cloneH X101 hx hZ hown (w45 hw) (w46 hw) (w50 hw) (w48 hw) (w49 hw) (w51 hw) e101 (Arv.arh F105) F104 (g := (mkF m 3 #[] [(.ref oV)])) rfl (by rw [hml]; rfl) rfl (hb hby d_prog_11_method_1_3) (by decide) (W := 0) (cap := 3) (by show 2 * 0 + _ ≤ _; exact Nat.le_of_eq rfl) (by decide) (by decide) (by decide) (by decide)
  obtain ⟨b103, g103⟩ : ∃ z, z = h0.size := ⟨_, rfl⟩
  rw [← g103] at A103 C103 st103
  have K103 := (Keep.refl h0 []).ext E103
  have G103 : Arv Z h103 b103 kV (.object "com/example/composition/composition/definition/AbapLanguageVersion") (3 : Int32) [(.ref o0), (.ref o1), (.ref o2)] .null := A103
  obtain ⟨T106, X106, e106, st106⟩ := castY X103 hx hZ hown (w56 hw) e103 (Ins.self C103) (g := (mkF m 6 #[] [(.ref b103)])) rfl rfl (hb hby d_prog_11_method_1_6)
  have W107 : ∀ zQ, SS p e below T106 m 9 #[] [(.ref b103)] zQ → Steps p.tables e below (s₁.setTop (entryFrame m #[] 0)) zQ := by
    intro tt kt
    refine W0 tt ?_
    refine st101 _ ?_
    show SS p e below T101 m 3 #[] [(.ref oV)] _
    refine st103 _ ?_
    show SS p e below T103 m 6 #[] [(.ref b103)] _
    refine st106 _ ?_
    exact kt
  obtain ⟨fs, hr, hrun, hended, hW, hsame⟩ := X106.leave (v := some (.ref b103)) (fun h => by rw [Bd.returns] at h; cases h)
  refine ⟨_, _, W107 _ (own_retR X106 hx Bd.returns rfl rfl (hb hby d_prog_11_method_1_9) hr), hrun, hended, _, _, rfl, ?_, ⟨_, rfl⟩, hW, hsame.mono (by decide) (by decide)⟩
  show Q_values Z o0 o1 o2 oV kV h0 n0 _ T106.heap _
  rw [e106]
  exact ⟨b103, rfl, N0, (Keep.trans (Keep.refl h0 []) K103 all0), (Nat.le_of_eq g103.symm), G103⟩
def Q_of0 (Z : State) (a : Addr) (t : Addr) (kb : ClassId) (cs : List Int32) (o0 : Addr) (o1 : Addr) (o2 : Addr) (oV : Addr) (kV : ClassId) (j0 : Addr) (v0 : Addr) (kv0 : ClassId) (j1 : Addr) (v1 : Addr) (kv1 : ClassId) (j2 : Addr) (v2 : Addr) (kv2 : ClassId) (oE : Addr) (cS : Int32) (h0 : Heap) (n0 : Nat) (vQ_ : Option Value) (hQ_ : Heap) (LQ_ : List Loc) : Prop := ∃ r : Addr, vQ_ = some (.ref r) ∧ Fr n0 LQ_ ∧ Keep h0 hQ_ [] ∧ h0.size ≤ r ∧ Exa Z hQ_ r "java/util/Optional" ∧ Fld Z hQ_ r "java/util/Optional" "value" "Ljava/lang/Object;" (.ref o0)
set_option maxRecDepth 65536 in
set_option maxHeartbeats 40000000 in
theorem rm_of0 (l : Launch) (Z : State) (a0 : Array Value) (hw : HW a0 Z) (ws : List Jvm.Cond) (a : Addr) (t : Addr) (kb : ClassId) (cs : List Int32) (o0 : Addr) (o1 : Addr) (o2 : Addr) (oV : Addr) (kV : ClassId) (j0 : Addr) (v0 : Addr) (kv0 : ClassId) (j1 : Addr) (v1 : Addr) (kv1 : ClassId) (j2 : Addr) (v2 : Addr) (kv2 : ClassId) (oE : Addr) (cS : Int32) (h0 : Heap) (n0 : Nat) (Z0 : n0 ≤ h0.size) (O0 : Old Z n0 h0) (S_V : Sta Z Z.heap "com/example/composition/composition/definition/AbapLanguageVersion" "$VALUES" "[Lcom/example/composition/composition/definition/AbapLanguageVersion;" (.ref oV)) (S_0 : Sta Z Z.heap "com/example/composition/composition/definition/AbapLanguageVersion" "STANDARD" "Lcom/example/composition/composition/definition/AbapLanguageVersion;" (.ref o0)) (S_1 : Sta Z Z.heap "com/example/composition/composition/definition/AbapLanguageVersion" "KEY_USER" "Lcom/example/composition/composition/definition/AbapLanguageVersion;" (.ref o1)) (S_2 : Sta Z Z.heap "com/example/composition/composition/definition/AbapLanguageVersion" "CLOUD_DEVELOPMENT" "Lcom/example/composition/composition/definition/AbapLanguageVersion;" (.ref o2)) (E_V : Exa Z Z.heap oV "[Lcom/example/composition/composition/definition/AbapLanguageVersion;") (V_V : Arv Z Z.heap oV kV (.object "com/example/composition/composition/definition/AbapLanguageVersion") (3 : Int32) [(.ref o0), (.ref o1), (.ref o2)] .null) (E_0 : Exa Z Z.heap o0 "com/example/composition/composition/definition/AbapLanguageVersion") (Fj_0 : Fld Z Z.heap o0 "com/example/composition/composition/definition/AbapLanguageVersion" "jsonName" "Ljava/lang/String;" (.ref j0)) (Ej_0 : Exa Z Z.heap j0 "java/lang/String") (Fc_0 : Fld Z Z.heap j0 "java/lang/String" "coder" "B" (.int (0 : Int32))) (Fv_0 : Fld Z Z.heap j0 "java/lang/String" "value" "[B" (.ref v0)) (Vv_0 : Arv Z Z.heap v0 kv0 .byte (8 : Int32) [(.int (115 : Int32)), (.int (116 : Int32)), (.int (97 : Int32)), (.int (110 : Int32)), (.int (100 : Int32)), (.int (97 : Int32)), (.int (114 : Int32)), (.int (100 : Int32))] (.int (0 : Int32))) (E_1 : Exa Z Z.heap o1 "com/example/composition/composition/definition/AbapLanguageVersion") (Fj_1 : Fld Z Z.heap o1 "com/example/composition/composition/definition/AbapLanguageVersion" "jsonName" "Ljava/lang/String;" (.ref j1)) (Ej_1 : Exa Z Z.heap j1 "java/lang/String") (Fc_1 : Fld Z Z.heap j1 "java/lang/String" "coder" "B" (.int (0 : Int32))) (Fv_1 : Fld Z Z.heap j1 "java/lang/String" "value" "[B" (.ref v1)) (Vv_1 : Arv Z Z.heap v1 kv1 .byte (7 : Int32) [(.int (107 : Int32)), (.int (101 : Int32)), (.int (121 : Int32)), (.int (85 : Int32)), (.int (115 : Int32)), (.int (101 : Int32)), (.int (114 : Int32))] (.int (0 : Int32))) (E_2 : Exa Z Z.heap o2 "com/example/composition/composition/definition/AbapLanguageVersion") (Fj_2 : Fld Z Z.heap o2 "com/example/composition/composition/definition/AbapLanguageVersion" "jsonName" "Ljava/lang/String;" (.ref j2)) (Ej_2 : Exa Z Z.heap j2 "java/lang/String") (Fc_2 : Fld Z Z.heap j2 "java/lang/String" "coder" "B" (.int (0 : Int32))) (Fv_2 : Fld Z Z.heap j2 "java/lang/String" "value" "[B" (.ref v2)) (Vv_2 : Arv Z Z.heap v2 kv2 .byte (16 : Int32) [(.int (99 : Int32)), (.int (108 : Int32)), (.int (111 : Int32)), (.int (117 : Int32)), (.int (100 : Int32)), (.int (68 : Int32)), (.int (101 : Int32)), (.int (118 : Int32)), (.int (101 : Int32)), (.int (108 : Int32)), (.int (111 : Int32)), (.int (112 : Int32)), (.int (109 : Int32)), (.int (101 : Int32)), (.int (110 : Int32)), (.int (116 : Int32))] (.int (0 : Int32))) (S_EMPTY : Sta Z Z.heap "java/util/Optional" "EMPTY" "Ljava/util/Optional;" (.ref oE)) (E_EMPTY : Exa Z Z.heap oE "java/util/Optional") (F_EMPTY : Fld Z Z.heap oE "java/util/Optional" "value" "Ljava/lang/Object;" .null) (S_cs : Sta Z Z.heap "java/lang/String" "COMPACT_STRINGS" "Z" (.int cS)) (hcS : ¬ (cS = (0 : Int32))) (hS : Str Z h0 a t kb cs) (hl : lat cs = true) (g1 : n0 ≤ a) (he : jn0 = cs) :
    MetFree l yn22 (head1 (Jvm.Cond.code yn22 prog_11_method_6_code 5 (some (.object "java/util/Optional")) :: ws) ({ frames := 3, cells := 2, slots := 4, locals := 38 } : Room)) (fun aQ_ UQ => aQ_ = #[(.ref a)] ∧ Z.Warmed39 UQ.vm ∧ UQ.heap = h0) (fun _ _ _ _ _ => True) (fun _ UQ oQ UQ' => ∃ vQ_ LQ_, oQ = .returned vQ_ ∧ Q_of0 Z a t kb cs o0 o1 o2 oV kV j0 v0 kv0 j1 v1 kv1 j2 v2 kv2 oE cS h0 n0 vQ_ UQ'.heap LQ_ ∧ FrameEnd UQ oQ UQ' LQ_ ({ frames := 3, cells := 2, slots := 4, locals := 38 } : Room).cells ({ frames := 3, cells := 2, slots := 4, locals := 38 } : Room).slots) := by
  refine MetFree.of_bodySF (plainFor_of_name pn_com_example_composition_composition_definition_AbapLanguageVersion) hisR ?_
  intro p e s m args below meth cO s₁ Bd hml0 hP hK
  obtain ⟨rfl, hZ, hh⟩ := hP
  have hx := Bd.exec
  have hby := Bd.bytes
  have hml : cO.maxLocals = 5 := hml0
  have hown : s.vm.findClass "com/example/composition/composition/definition/AbapLanguageVersion" = some m.cls := findClass_of_methodNamed Bd.named
  have hnm := (name_of_methodNamed Bd.named Bd.method).1
  have X0 : Stand p l e ({ frames := 3, cells := 2, slots := 4, locals := 38 } : Room) s m #[(.ref a)] below meth cO s₁ [] 0 0 := Stand.of_body Bd
  have e0 : s₁.heap = h0 := by rw [← hh, Bd.state]; rfl
  have N0 := Fr.nil n0
  have W0 : ∀ zQ, SS p e below s₁ m 0 #[.val (.ref a), .unset, .unset, .unset, .unset] [] zQ → Steps p.tables e below (s₁.setTop (entryFrame m #[(.ref a)] 5)) zQ := fun tt kt => castTop (ef_of0 m a) kt
  have F101 : Exa Z h0 j0 "java/lang/String" := Ej_0.ext O0.2
  have F102 : Fld Z h0 j0 "java/lang/String" "value" "[B" (.ref v0) := Fv_0.ext O0.2
  have F103 : Fld Z h0 j0 "java/lang/String" "coder" "B" (.int (0 : Int32)) := Fc_0.ext O0.2
  have F104 : Arv Z h0 v0 kv0 .byte (8 : Int32) [(.int (115 : Int32)), (.int (116 : Int32)), (.int (97 : Int32)), (.int (110 : Int32)), (.int (100 : Int32)), (.int (97 : Int32)), (.int (114 : Int32)), (.int (100 : Int32))] (.int (0 : Int32)) := Vv_0.ext O0.2
  have SJ0 : Str Z h0 j0 v0 kv0 jn0 := ⟨F101, F102, F103, F104, by decide, by decide⟩
  have F105 : Exa Z h0 j1 "java/lang/String" := Ej_1.ext O0.2
  have F106 : Fld Z h0 j1 "java/lang/String" "value" "[B" (.ref v1) := Fv_1.ext O0.2
  have F107 : Fld Z h0 j1 "java/lang/String" "coder" "B" (.int (0 : Int32)) := Fc_1.ext O0.2
  have F108 : Arv Z h0 v1 kv1 .byte (7 : Int32) [(.int (107 : Int32)), (.int (101 : Int32)), (.int (121 : Int32)), (.int (85 : Int32)), (.int (115 : Int32)), (.int (101 : Int32)), (.int (114 : Int32))] (.int (0 : Int32)) := Vv_1.ext O0.2
  have SJ1 : Str Z h0 j1 v1 kv1 jn1 := ⟨F105, F106, F107, F108, by decide, by decide⟩
  have F109 : Exa Z h0 j2 "java/lang/String" := Ej_2.ext O0.2
  have F110 : Fld Z h0 j2 "java/lang/String" "value" "[B" (.ref v2) := Fv_2.ext O0.2
  have F111 : Fld Z h0 j2 "java/lang/String" "coder" "B" (.int (0 : Int32)) := Fc_2.ext O0.2
  have F112 : Arv Z h0 v2 kv2 .byte (16 : Int32) [(.int (99 : Int32)), (.int (108 : Int32)), (.int (111 : Int32)), (.int (117 : Int32)), (.int (100 : Int32)), (.int (68 : Int32)), (.int (101 : Int32)), (.int (118 : Int32)), (.int (101 : Int32)), (.int (108 : Int32)), (.int (111 : Int32)), (.int (112 : Int32)), (.int (109 : Int32)), (.int (101 : Int32)), (.int (110 : Int32)), (.int (116 : Int32))] (.int (0 : Int32)) := Vv_2.ext O0.2
  have SJ2 : Str Z h0 j2 v2 kv2 jn2 := ⟨F109, F110, F111, F112, by decide, by decide⟩
  obtain ⟨_, _, ⟨T113, L113, k113, n113⟩, -, X113, ⟨Lc113, hQ113, l113, y113, z113⟩, st113⟩ := Jvm.LawKit.callS X0 hx (y := yn21) hown (mvT hZ (w40 hw)) (mvT hZ (w41 hw)) (mvT hZ (w38 hw)) (mvT hZ (w42 hw)) (by decide) (backOf (W := 0) (rm_values l Z a0 hw [] o0 o1 o2 oV kV h0 n0 Z0 O0 S_0 S_1 S_2 S_V E_V V_V) hZ (w42 hw) (w38 hw) (by decide) (by decide)) (g := (mkF m 0 #[.val (.ref a), .unset, .unset, .unset, .unset] [])) rfl (by rw [hml]; rfl) (argsL := []) (rest := []) (lenOf pd__28__29__5b_Lcom_2f_example_2f_composition_2f_composition_2f_definition_2f_AbapLanguageVersion_3b_ rfl) rfl (by show 2 * 0 + _ ≤ _; exact Nat.le_of_eq rfl) (hb hby d_prog_11_method_6_0) (fun _ _ => ⟨rfl, e0, (Nat.le_of_ble_eq_true rfl), (Nat.le_of_ble_eq_true rfl)⟩)
  dsimp only [Pt.U, Pt.locs, Pt.cells, Pt.slots] at X113 l113 y113 z113 st113 hQ113
  subst l113 y113 z113
  obtain ⟨r_114, rfl, Nq113, K113, P113_0, P113_1⟩ := hQ113
  have N113 := Fr.app N0 Nq113
  obtain ⟨cl115, Ar115, -, S115, M115, -, -⟩ := id P113_1
  obtain ⟨cl116, Ar116, q116, S116, M116, H116, F116g⟩ := id P113_1
  have hin116 : ¬ ((0 : Int32) < 0 ∨ cl116.slots.size ≤ ((0 : Int32)).toNatClampNeg) := inb_of S116 ⟨by decide, by decide⟩
  have hat116 : cl116.slots[((0 : Int32)).toNatClampNeg]? = some (.ref o0) := Has.at H116 hin116 rfl
  have O117 : Old Z n0 T113.heap := (O0.keep K113 all0)
  have F118 : Fld Z T113.heap o0 "com/example/composition/composition/definition/AbapLanguageVersion" "jsonName" "Ljava/lang/String;" (.ref j0) := Fj_0.ext O117.2
  obtain ⟨T119, X119, e119, st119⟩ := getF X113 hx hZ hown (host := "") (Or.inl (w58 hw)) Via.refl rfl F118 (g := (mkF m 21 #[.val (.ref a), .val (.ref r_114), .val (.int (3 : Int32)), .val (.int (0 : Int32)), .val (.ref o0)] [(.ref o0)])) rfl rfl (hb hby d_prog_11_method_6_21)
  have F120 : Str Z T113.heap j0 v0 kv0 jn0 := (SJ0.keep K113 nin0 nin0)
  have F121 : Str Z T113.heap a t kb cs := (hS.keep K113 nin0 nin0)
  have F123 : Exa Z T113.heap j0 "java/lang/String" := (F101.keep K113)
  obtain ⟨cq122, kq122, q122a, q122b, q122c⟩ := isOf hZ e119 F123
  obtain ⟨_, _, ⟨T122, L122, k122, n122⟩, -, X122, ⟨Lc122, hQ122, l122, y122, z122⟩, st122⟩ := X119.virtualBack hx (y := yn10) (z := yn10) hown (mvT hZ (w60 hw)) (mvT hZ (w61 hw)) (notFace_of_selects (args := #[]) (mvT hZ (w63 hw))) (mvT hZ (w63 hw)) (mvT hZ (w62 hw)) (by decide) (backOf (W := 0) (rm_sequals l Z a0 hw [] j0 a v0 t kv0 kb jn0 cs cS T113.heap n0 (Nat.le_trans Z0 K113.1) O117 S_cs hcS F120 F121 (by decide) hl (Nat.ne_of_lt (Nat.lt_of_lt_of_le (Nat.lt_of_lt_of_eq Ej_0.lt O0.1) g1))) hZ (w64 hw) (w4 hw) (by decide) (by decide)) q122a q122c (g := (mkF m 25 #[.val (.ref a), .val (.ref r_114), .val (.int (3 : Int32)), .val (.int (0 : Int32)), .val (.ref o0)] [(.ref a), (.ref j0)])) rfl (by rw [hml]; rfl) (Steps.refl _) (argsL := [(.ref a)]) (rest := []) (lenOf pd__28_Ljava_2f_lang_2f_Object_3b__29_Z rfl) rfl (by show 2 * 0 + _ ≤ _; exact Nat.le_of_eq rfl) (hb hby d_prog_11_method_6_25) (fun _ _ => ⟨rfl, e119, (Nat.le_of_ble_eq_true rfl), (Nat.le_of_ble_eq_true rfl)⟩)
  dsimp only [Pt.U, Pt.locs, Pt.cells, Pt.slots] at X122 l122 y122 z122 st122 hQ122
  subst l122 y122 z122
  obtain ⟨rfl, Nq122, eq122⟩ := hQ122
  have N122 := Fr.app N113 Nq122
  obtain ⟨_, _, ⟨T124, L124, k124, n124⟩, -, X124, ⟨Lc124, hQ124, l124, y124, z124⟩, st124⟩ := Jvm.LawKit.callS X122 hx (y := yn16) hown (mvT hZ (w70 hw)) (mvT hZ (w71 hw)) (mvT hZ (w72 hw)) (mvT hZ (w73 hw)) (by decide) (backOf (W := 0) (rm_opOf l Z a0 hw [] o0 T113.heap n0 (Nat.le_trans Z0 K113.1) ) hZ (w73 hw) (w72 hw) (by decide) (by decide)) (g := (mkF m 33 #[.val (.ref a), .val (.ref r_114), .val (.int (3 : Int32)), .val (.int (0 : Int32)), .val (.ref o0)] [(.ref o0)])) rfl (by rw [hml]; rfl) (argsL := [(.ref o0)]) (rest := []) (lenOf pd__28_Ljava_2f_lang_2f_Object_3b__29_Ljava_2f_util_2f_Optional_3b_ rfl) rfl (by show 2 * 0 + _ ≤ _; exact Nat.le_of_eq rfl) (hb hby d_prog_11_method_6_33) (fun _ _ => ⟨rfl, eq122, (Nat.le_of_ble_eq_true rfl), (Nat.le_of_ble_eq_true rfl)⟩)
  dsimp only [Pt.U, Pt.locs, Pt.cells, Pt.slots] at X124 l124 y124 z124 st124 hQ124
  subst l124 y124 z124
  obtain ⟨r_125, rfl, Nq124, K124, P124_0, P124_1, P124_2⟩ := hQ124
  have N124 := Fr.app N122 Nq124
  have W126 : ∀ zQ, SS p e below T124 m 36 #[.val (.ref a), .val (.ref r_114), .val (.int (3 : Int32)), .val (.int (0 : Int32)), .val (.ref o0)] [(.ref r_125)] zQ → Steps p.tables e below (s₁.setTop (entryFrame m #[(.ref a)] 5)) zQ := by
    intro tt kt
    refine W0 tt ?_
    refine st113 _ ?_
    refine XS.astoreN X113.here hx rfl (hb hby d_prog_11_method_6_3) rfl rfl (l' := #[.val (.ref a), .val (.ref r_114), .unset, .unset, .unset]) rfl ?_
    refine XS.aloadN X113.here hx rfl (hb hby d_prog_11_method_6_4) rfl rfl ?_
    show SS p e below T113 m 5 #[.val (.ref a), .val (.ref r_114), .unset, .unset, .unset] [(.ref r_114)] _
    refine X113.arraylength hx (by first | exact Ar115.1 | (rw [rfl]; exact Ar115.1)) (State.isArrayOf_alike hZ.alike Ar115.2.1) (g := (mkF m 5 #[.val (.ref a), .val (.ref r_114), .unset, .unset, .unset] [(.ref r_114)])) rfl rfl (hb hby d_prog_11_method_6_5) _ ?_
    rw [len_of S115 M115]
    refine XS.istoreN X113.here hx rfl (hb hby d_prog_11_method_6_6) rfl (l' := #[.val (.ref a), .val (.ref r_114), .val (.int (3 : Int32)), .unset, .unset]) rfl ?_
    refine XS.iconst X113.here hx rfl (hb hby d_prog_11_method_6_7) ?_
    refine XS.istoreN X113.here hx rfl (hb hby d_prog_11_method_6_8) rfl (l' := #[.val (.ref a), .val (.ref r_114), .val (.int (3 : Int32)), .val (.int (0 : Int32)), .unset]) rfl ?_
    refine XS.iloadN X113.here hx rfl (hb hby d_prog_11_method_6_9) rfl ?_
    refine XS.iloadN X113.here hx rfl (hb hby d_prog_11_method_6_10) rfl ?_
    show SS p e below T113 m 11 #[.val (.ref a), .val (.ref r_114), .val (.int (3 : Int32)), .val (.int (0 : Int32)), .unset] [(.int (3 : Int32)), (.int (0 : Int32))] _
    refine XS.icmpNo X113.here hx rfl (hb hby d_prog_11_method_6_11) rfl (tlt (by decide)).2.1 ?_
    refine XS.aloadN X113.here hx rfl (hb hby d_prog_11_method_6_14) rfl rfl ?_
    refine XS.iloadN X113.here hx rfl (hb hby d_prog_11_method_6_15) rfl ?_
    show SS p e below T113 m 16 #[.val (.ref a), .val (.ref r_114), .val (.int (3 : Int32)), .val (.int (0 : Int32)), .unset] [(.int (0 : Int32)), (.ref r_114)] _
    refine X113.aaload hx (j := (0 : Int32)) (v := (.ref o0)) (by first | exact Ar116.1 | (rw [rfl]; exact Ar116.1)) (State.isArrayOf_alike hZ.alike Ar116.2.1) rfl Ar116.2.2 hin116 hat116 (g := (mkF m 16 #[.val (.ref a), .val (.ref r_114), .val (.int (3 : Int32)), .val (.int (0 : Int32)), .unset] [(.int (0 : Int32)), (.ref r_114)])) rfl rfl (hb hby d_prog_11_method_6_16) _ ?_
    refine XS.astore X113.here hx rfl (hb hby d_prog_11_method_6_17) rfl rfl (l' := #[.val (.ref a), .val (.ref r_114), .val (.int (3 : Int32)), .val (.int (0 : Int32)), .val (.ref o0)]) rfl ?_
    refine XS.aload X113.here hx rfl (hb hby d_prog_11_method_6_19) rfl rfl ?_
    show SS p e below T113 m 21 #[.val (.ref a), .val (.ref r_114), .val (.int (3 : Int32)), .val (.int (0 : Int32)), .val (.ref o0)] [(.ref o0)] _
    refine st119 _ ?_
    refine XS.aloadN X119.here hx rfl (hb hby d_prog_11_method_6_24) rfl rfl ?_
    show SS p e below T119 m 25 #[.val (.ref a), .val (.ref r_114), .val (.int (3 : Int32)), .val (.int (0 : Int32)), .val (.ref o0)] [(.ref a), (.ref j0)] _
    refine st122.trans ?_
    show SS p e below T122 m 28 #[.val (.ref a), .val (.ref r_114), .val (.int (3 : Int32)), .val (.int (0 : Int32)), .val (.ref o0)] [(.int (if jn0 = cs then (1 : Int32) else (0 : Int32)))] _
    rw [show (if jn0 = cs then (1 : Int32) else (0 : Int32)) = (1 : Int32) from if_pos he]
    refine XS.ifNo X122.here hx rfl (hb hby d_prog_11_method_6_28) rfl ((if0 _ _).trans (feq (by decide)).1) ?_
    refine XS.aload X122.here hx rfl (hb hby d_prog_11_method_6_31) rfl rfl ?_
    show SS p e below T122 m 33 #[.val (.ref a), .val (.ref r_114), .val (.int (3 : Int32)), .val (.int (0 : Int32)), .val (.ref o0)] [(.ref o0)] _
    refine st124 _ ?_
    exact kt
  obtain ⟨fs, hr, hrun, hended, hW, hsame⟩ := X124.leave (v := some (.ref r_125)) (fun h => by rw [Bd.returns] at h; cases h)
  refine ⟨_, _, W126 _ (own_retR X124 hx Bd.returns rfl rfl (hb hby d_prog_11_method_6_36) hr), hrun, hended, _, _, rfl, ?_, ⟨_, rfl⟩, hW, hsame.mono (by decide) (by decide)⟩
  show Q_of0 Z a t kb cs o0 o1 o2 oV kV j0 v0 kv0 j1 v1 kv1 j2 v2 kv2 oE cS h0 n0 _ T124.heap _
  exact ⟨r_125, rfl, N124, (Keep.trans (Keep.trans (Keep.refl h0 []) K113 all0) K124 all0), (Nat.le_trans K113.1 P124_0), P124_1, P124_2⟩
def Q_of1 (Z : State) (a : Addr) (t : Addr) (kb : ClassId) (cs : List Int32) (o0 : Addr) (o1 : Addr) (o2 : Addr) (oV : Addr) (kV : ClassId) (j0 : Addr) (v0 : Addr) (kv0 : ClassId) (j1 : Addr) (v1 : Addr) (kv1 : ClassId) (j2 : Addr) (v2 : Addr) (kv2 : ClassId) (oE : Addr) (cS : Int32) (h0 : Heap) (n0 : Nat) (vQ_ : Option Value) (hQ_ : Heap) (LQ_ : List Loc) : Prop := ∃ r : Addr, vQ_ = some (.ref r) ∧ Fr n0 LQ_ ∧ Keep h0 hQ_ [] ∧ h0.size ≤ r ∧ Exa Z hQ_ r "java/util/Optional" ∧ Fld Z hQ_ r "java/util/Optional" "value" "Ljava/lang/Object;" (.ref o1)
set_option maxRecDepth 65536 in
set_option maxHeartbeats 40000000 in
theorem rm_of1 (l : Launch) (Z : State) (a0 : Array Value) (hw : HW a0 Z) (ws : List Jvm.Cond) (a : Addr) (t : Addr) (kb : ClassId) (cs : List Int32) (o0 : Addr) (o1 : Addr) (o2 : Addr) (oV : Addr) (kV : ClassId) (j0 : Addr) (v0 : Addr) (kv0 : ClassId) (j1 : Addr) (v1 : Addr) (kv1 : ClassId) (j2 : Addr) (v2 : Addr) (kv2 : ClassId) (oE : Addr) (cS : Int32) (h0 : Heap) (n0 : Nat) (Z0 : n0 ≤ h0.size) (O0 : Old Z n0 h0) (S_V : Sta Z Z.heap "com/example/composition/composition/definition/AbapLanguageVersion" "$VALUES" "[Lcom/example/composition/composition/definition/AbapLanguageVersion;" (.ref oV)) (S_0 : Sta Z Z.heap "com/example/composition/composition/definition/AbapLanguageVersion" "STANDARD" "Lcom/example/composition/composition/definition/AbapLanguageVersion;" (.ref o0)) (S_1 : Sta Z Z.heap "com/example/composition/composition/definition/AbapLanguageVersion" "KEY_USER" "Lcom/example/composition/composition/definition/AbapLanguageVersion;" (.ref o1)) (S_2 : Sta Z Z.heap "com/example/composition/composition/definition/AbapLanguageVersion" "CLOUD_DEVELOPMENT" "Lcom/example/composition/composition/definition/AbapLanguageVersion;" (.ref o2)) (E_V : Exa Z Z.heap oV "[Lcom/example/composition/composition/definition/AbapLanguageVersion;") (V_V : Arv Z Z.heap oV kV (.object "com/example/composition/composition/definition/AbapLanguageVersion") (3 : Int32) [(.ref o0), (.ref o1), (.ref o2)] .null) (E_0 : Exa Z Z.heap o0 "com/example/composition/composition/definition/AbapLanguageVersion") (Fj_0 : Fld Z Z.heap o0 "com/example/composition/composition/definition/AbapLanguageVersion" "jsonName" "Ljava/lang/String;" (.ref j0)) (Ej_0 : Exa Z Z.heap j0 "java/lang/String") (Fc_0 : Fld Z Z.heap j0 "java/lang/String" "coder" "B" (.int (0 : Int32))) (Fv_0 : Fld Z Z.heap j0 "java/lang/String" "value" "[B" (.ref v0)) (Vv_0 : Arv Z Z.heap v0 kv0 .byte (8 : Int32) [(.int (115 : Int32)), (.int (116 : Int32)), (.int (97 : Int32)), (.int (110 : Int32)), (.int (100 : Int32)), (.int (97 : Int32)), (.int (114 : Int32)), (.int (100 : Int32))] (.int (0 : Int32))) (E_1 : Exa Z Z.heap o1 "com/example/composition/composition/definition/AbapLanguageVersion") (Fj_1 : Fld Z Z.heap o1 "com/example/composition/composition/definition/AbapLanguageVersion" "jsonName" "Ljava/lang/String;" (.ref j1)) (Ej_1 : Exa Z Z.heap j1 "java/lang/String") (Fc_1 : Fld Z Z.heap j1 "java/lang/String" "coder" "B" (.int (0 : Int32))) (Fv_1 : Fld Z Z.heap j1 "java/lang/String" "value" "[B" (.ref v1)) (Vv_1 : Arv Z Z.heap v1 kv1 .byte (7 : Int32) [(.int (107 : Int32)), (.int (101 : Int32)), (.int (121 : Int32)), (.int (85 : Int32)), (.int (115 : Int32)), (.int (101 : Int32)), (.int (114 : Int32))] (.int (0 : Int32))) (E_2 : Exa Z Z.heap o2 "com/example/composition/composition/definition/AbapLanguageVersion") (Fj_2 : Fld Z Z.heap o2 "com/example/composition/composition/definition/AbapLanguageVersion" "jsonName" "Ljava/lang/String;" (.ref j2)) (Ej_2 : Exa Z Z.heap j2 "java/lang/String") (Fc_2 : Fld Z Z.heap j2 "java/lang/String" "coder" "B" (.int (0 : Int32))) (Fv_2 : Fld Z Z.heap j2 "java/lang/String" "value" "[B" (.ref v2)) (Vv_2 : Arv Z Z.heap v2 kv2 .byte (16 : Int32) [(.int (99 : Int32)), (.int (108 : Int32)), (.int (111 : Int32)), (.int (117 : Int32)), (.int (100 : Int32)), (.int (68 : Int32)), (.int (101 : Int32)), (.int (118 : Int32)), (.int (101 : Int32)), (.int (108 : Int32)), (.int (111 : Int32)), (.int (112 : Int32)), (.int (109 : Int32)), (.int (101 : Int32)), (.int (110 : Int32)), (.int (116 : Int32))] (.int (0 : Int32))) (S_EMPTY : Sta Z Z.heap "java/util/Optional" "EMPTY" "Ljava/util/Optional;" (.ref oE)) (E_EMPTY : Exa Z Z.heap oE "java/util/Optional") (F_EMPTY : Fld Z Z.heap oE "java/util/Optional" "value" "Ljava/lang/Object;" .null) (S_cs : Sta Z Z.heap "java/lang/String" "COMPACT_STRINGS" "Z" (.int cS)) (hcS : ¬ (cS = (0 : Int32))) (hS : Str Z h0 a t kb cs) (hl : lat cs = true) (g1 : n0 ≤ a) (hn0 : ¬ (jn0 = cs)) (he : jn1 = cs) :
    MetFree l yn22 (head1 (Jvm.Cond.code yn22 prog_11_method_6_code 5 (some (.object "java/util/Optional")) :: ws) ({ frames := 3, cells := 2, slots := 4, locals := 38 } : Room)) (fun aQ_ UQ => aQ_ = #[(.ref a)] ∧ Z.Warmed39 UQ.vm ∧ UQ.heap = h0) (fun _ _ _ _ _ => True) (fun _ UQ oQ UQ' => ∃ vQ_ LQ_, oQ = .returned vQ_ ∧ Q_of1 Z a t kb cs o0 o1 o2 oV kV j0 v0 kv0 j1 v1 kv1 j2 v2 kv2 oE cS h0 n0 vQ_ UQ'.heap LQ_ ∧ FrameEnd UQ oQ UQ' LQ_ ({ frames := 3, cells := 2, slots := 4, locals := 38 } : Room).cells ({ frames := 3, cells := 2, slots := 4, locals := 38 } : Room).slots) := by
  refine MetFree.of_bodySF (plainFor_of_name pn_com_example_composition_composition_definition_AbapLanguageVersion) hisR ?_
  intro p e s m args below meth cO s₁ Bd hml0 hP hK
  obtain ⟨rfl, hZ, hh⟩ := hP
  have hx := Bd.exec
  have hby := Bd.bytes
  have hml : cO.maxLocals = 5 := hml0
  have hown : s.vm.findClass "com/example/composition/composition/definition/AbapLanguageVersion" = some m.cls := findClass_of_methodNamed Bd.named
  have hnm := (name_of_methodNamed Bd.named Bd.method).1
  have X0 : Stand p l e ({ frames := 3, cells := 2, slots := 4, locals := 38 } : Room) s m #[(.ref a)] below meth cO s₁ [] 0 0 := Stand.of_body Bd
  have e0 : s₁.heap = h0 := by rw [← hh, Bd.state]; rfl
  have N0 := Fr.nil n0
  have W0 : ∀ zQ, SS p e below s₁ m 0 #[.val (.ref a), .unset, .unset, .unset, .unset] [] zQ → Steps p.tables e below (s₁.setTop (entryFrame m #[(.ref a)] 5)) zQ := fun tt kt => castTop (ef_of1 m a) kt
  have F101 : Exa Z h0 j0 "java/lang/String" := Ej_0.ext O0.2
  have F102 : Fld Z h0 j0 "java/lang/String" "value" "[B" (.ref v0) := Fv_0.ext O0.2
  have F103 : Fld Z h0 j0 "java/lang/String" "coder" "B" (.int (0 : Int32)) := Fc_0.ext O0.2
  have F104 : Arv Z h0 v0 kv0 .byte (8 : Int32) [(.int (115 : Int32)), (.int (116 : Int32)), (.int (97 : Int32)), (.int (110 : Int32)), (.int (100 : Int32)), (.int (97 : Int32)), (.int (114 : Int32)), (.int (100 : Int32))] (.int (0 : Int32)) := Vv_0.ext O0.2
  have SJ0 : Str Z h0 j0 v0 kv0 jn0 := ⟨F101, F102, F103, F104, by decide, by decide⟩
  have F105 : Exa Z h0 j1 "java/lang/String" := Ej_1.ext O0.2
  have F106 : Fld Z h0 j1 "java/lang/String" "value" "[B" (.ref v1) := Fv_1.ext O0.2
  have F107 : Fld Z h0 j1 "java/lang/String" "coder" "B" (.int (0 : Int32)) := Fc_1.ext O0.2
  have F108 : Arv Z h0 v1 kv1 .byte (7 : Int32) [(.int (107 : Int32)), (.int (101 : Int32)), (.int (121 : Int32)), (.int (85 : Int32)), (.int (115 : Int32)), (.int (101 : Int32)), (.int (114 : Int32))] (.int (0 : Int32)) := Vv_1.ext O0.2
  have SJ1 : Str Z h0 j1 v1 kv1 jn1 := ⟨F105, F106, F107, F108, by decide, by decide⟩
  have F109 : Exa Z h0 j2 "java/lang/String" := Ej_2.ext O0.2
  have F110 : Fld Z h0 j2 "java/lang/String" "value" "[B" (.ref v2) := Fv_2.ext O0.2
  have F111 : Fld Z h0 j2 "java/lang/String" "coder" "B" (.int (0 : Int32)) := Fc_2.ext O0.2
  have F112 : Arv Z h0 v2 kv2 .byte (16 : Int32) [(.int (99 : Int32)), (.int (108 : Int32)), (.int (111 : Int32)), (.int (117 : Int32)), (.int (100 : Int32)), (.int (68 : Int32)), (.int (101 : Int32)), (.int (118 : Int32)), (.int (101 : Int32)), (.int (108 : Int32)), (.int (111 : Int32)), (.int (112 : Int32)), (.int (109 : Int32)), (.int (101 : Int32)), (.int (110 : Int32)), (.int (116 : Int32))] (.int (0 : Int32)) := Vv_2.ext O0.2
  have SJ2 : Str Z h0 j2 v2 kv2 jn2 := ⟨F109, F110, F111, F112, by decide, by decide⟩
  obtain ⟨_, _, ⟨T113, L113, k113, n113⟩, -, X113, ⟨Lc113, hQ113, l113, y113, z113⟩, st113⟩ := Jvm.LawKit.callS X0 hx (y := yn21) hown (mvT hZ (w40 hw)) (mvT hZ (w41 hw)) (mvT hZ (w38 hw)) (mvT hZ (w42 hw)) (by decide) (backOf (W := 0) (rm_values l Z a0 hw [] o0 o1 o2 oV kV h0 n0 Z0 O0 S_0 S_1 S_2 S_V E_V V_V) hZ (w42 hw) (w38 hw) (by decide) (by decide)) (g := (mkF m 0 #[.val (.ref a), .unset, .unset, .unset, .unset] [])) rfl (by rw [hml]; rfl) (argsL := []) (rest := []) (lenOf pd__28__29__5b_Lcom_2f_example_2f_composition_2f_composition_2f_definition_2f_AbapLanguageVersion_3b_ rfl) rfl (by show 2 * 0 + _ ≤ _; exact Nat.le_of_eq rfl) (hb hby d_prog_11_method_6_0) (fun _ _ => ⟨rfl, e0, (Nat.le_of_ble_eq_true rfl), (Nat.le_of_ble_eq_true rfl)⟩)
  dsimp only [Pt.U, Pt.locs, Pt.cells, Pt.slots] at X113 l113 y113 z113 st113 hQ113
  subst l113 y113 z113
  obtain ⟨r_114, rfl, Nq113, K113, P113_0, P113_1⟩ := hQ113
  have N113 := Fr.app N0 Nq113
  obtain ⟨cl115, Ar115, -, S115, M115, -, -⟩ := id P113_1
  obtain ⟨cl116, Ar116, q116, S116, M116, H116, F116g⟩ := id P113_1
  have hin116 : ¬ ((0 : Int32) < 0 ∨ cl116.slots.size ≤ ((0 : Int32)).toNatClampNeg) := inb_of S116 ⟨by decide, by decide⟩
  have hat116 : cl116.slots[((0 : Int32)).toNatClampNeg]? = some (.ref o0) := Has.at H116 hin116 rfl
  have O117 : Old Z n0 T113.heap := (O0.keep K113 all0)
  have F118 : Fld Z T113.heap o0 "com/example/composition/composition/definition/AbapLanguageVersion" "jsonName" "Ljava/lang/String;" (.ref j0) := Fj_0.ext O117.2
  obtain ⟨T119, X119, e119, st119⟩ := getF X113 hx hZ hown (host := "") (Or.inl (w58 hw)) Via.refl rfl F118 (g := (mkF m 21 #[.val (.ref a), .val (.ref r_114), .val (.int (3 : Int32)), .val (.int (0 : Int32)), .val (.ref o0)] [(.ref o0)])) rfl rfl (hb hby d_prog_11_method_6_21)
  have F120 : Str Z T113.heap j0 v0 kv0 jn0 := (SJ0.keep K113 nin0 nin0)
  have F121 : Str Z T113.heap a t kb cs := (hS.keep K113 nin0 nin0)
  have F123 : Exa Z T113.heap j0 "java/lang/String" := (F101.keep K113)
  obtain ⟨cq122, kq122, q122a, q122b, q122c⟩ := isOf hZ e119 F123
  obtain ⟨_, _, ⟨T122, L122, k122, n122⟩, -, X122, ⟨Lc122, hQ122, l122, y122, z122⟩, st122⟩ := X119.virtualBack hx (y := yn10) (z := yn10) hown (mvT hZ (w60 hw)) (mvT hZ (w61 hw)) (notFace_of_selects (args := #[]) (mvT hZ (w63 hw))) (mvT hZ (w63 hw)) (mvT hZ (w62 hw)) (by decide) (backOf (W := 0) (rm_sequals l Z a0 hw [] j0 a v0 t kv0 kb jn0 cs cS T113.heap n0 (Nat.le_trans Z0 K113.1) O117 S_cs hcS F120 F121 (by decide) hl (Nat.ne_of_lt (Nat.lt_of_lt_of_le (Nat.lt_of_lt_of_eq Ej_0.lt O0.1) g1))) hZ (w64 hw) (w4 hw) (by decide) (by decide)) q122a q122c (g := (mkF m 25 #[.val (.ref a), .val (.ref r_114), .val (.int (3 : Int32)), .val (.int (0 : Int32)), .val (.ref o0)] [(.ref a), (.ref j0)])) rfl (by rw [hml]; rfl) (Steps.refl _) (argsL := [(.ref a)]) (rest := []) (lenOf pd__28_Ljava_2f_lang_2f_Object_3b__29_Z rfl) rfl (by show 2 * 0 + _ ≤ _; exact Nat.le_of_eq rfl) (hb hby d_prog_11_method_6_25) (fun _ _ => ⟨rfl, e119, (Nat.le_of_ble_eq_true rfl), (Nat.le_of_ble_eq_true rfl)⟩)
  dsimp only [Pt.U, Pt.locs, Pt.cells, Pt.slots] at X122 l122 y122 z122 st122 hQ122
  subst l122 y122 z122
  obtain ⟨rfl, Nq122, eq122⟩ := hQ122
  have N122 := Fr.app N113 Nq122
  obtain ⟨cl124, Ar124, q124, S124, M124, H124, F124g⟩ := id P113_1
  have hin124 : ¬ ((1 : Int32) < 0 ∨ cl124.slots.size ≤ ((1 : Int32)).toNatClampNeg) := inb_of S124 ⟨by decide, by decide⟩
  have hat124 : cl124.slots[((1 : Int32)).toNatClampNeg]? = some (.ref o1) := Has.at H124 hin124 rfl
  have F125 : Fld Z T113.heap o1 "com/example/composition/composition/definition/AbapLanguageVersion" "jsonName" "Ljava/lang/String;" (.ref j1) := Fj_1.ext O117.2
  obtain ⟨T126, X126, e126, st126⟩ := getF X122 hx hZ hown (host := "") (Or.inl (w58 hw)) Via.refl eq122 F125 (g := (mkF m 21 #[.val (.ref a), .val (.ref r_114), .val (.int (3 : Int32)), .val (.int (1 : Int32)), .val (.ref o1)] [(.ref o1)])) rfl rfl (hb hby d_prog_11_method_6_21)
  have F127 : Str Z T113.heap j1 v1 kv1 jn1 := (SJ1.keep K113 nin0 nin0)
  have F129 : Exa Z T113.heap j1 "java/lang/String" := (F105.keep K113)
  obtain ⟨cq128, kq128, q128a, q128b, q128c⟩ := isOf hZ e126 F129
  obtain ⟨_, _, ⟨T128, L128, k128, n128⟩, -, X128, ⟨Lc128, hQ128, l128, y128, z128⟩, st128⟩ := X126.virtualBack hx (y := yn10) (z := yn10) hown (mvT hZ (w60 hw)) (mvT hZ (w61 hw)) (notFace_of_selects (args := #[]) (mvT hZ (w63 hw))) (mvT hZ (w63 hw)) (mvT hZ (w62 hw)) (by decide) (backOf (W := 0) (rm_sequals l Z a0 hw [] j1 a v1 t kv1 kb jn1 cs cS T113.heap n0 (Nat.le_trans Z0 K113.1) O117 S_cs hcS F127 F121 (by decide) hl (Nat.ne_of_lt (Nat.lt_of_lt_of_le (Nat.lt_of_lt_of_eq Ej_1.lt O0.1) g1))) hZ (w64 hw) (w4 hw) (by decide) (by decide)) q128a q128c (g := (mkF m 25 #[.val (.ref a), .val (.ref r_114), .val (.int (3 : Int32)), .val (.int (1 : Int32)), .val (.ref o1)] [(.ref a), (.ref j1)])) rfl (by rw [hml]; rfl) (Steps.refl _) (argsL := [(.ref a)]) (rest := []) (lenOf pd__28_Ljava_2f_lang_2f_Object_3b__29_Z rfl) rfl (by show 2 * 0 + _ ≤ _; exact Nat.le_of_eq rfl) (hb hby d_prog_11_method_6_25) (fun _ _ => ⟨rfl, e126, (Nat.le_of_ble_eq_true rfl), (Nat.le_of_ble_eq_true rfl)⟩)
  dsimp only [Pt.U, Pt.locs, Pt.cells, Pt.slots] at X128 l128 y128 z128 st128 hQ128
  subst l128 y128 z128
  obtain ⟨rfl, Nq128, eq128⟩ := hQ128
  have N128 := Fr.app N122 Nq128
  obtain ⟨_, _, ⟨T130, L130, k130, n130⟩, -, X130, ⟨Lc130, hQ130, l130, y130, z130⟩, st130⟩ := Jvm.LawKit.callS X128 hx (y := yn16) hown (mvT hZ (w70 hw)) (mvT hZ (w71 hw)) (mvT hZ (w72 hw)) (mvT hZ (w73 hw)) (by decide) (backOf (W := 0) (rm_opOf l Z a0 hw [] o1 T113.heap n0 (Nat.le_trans Z0 K113.1) ) hZ (w73 hw) (w72 hw) (by decide) (by decide)) (g := (mkF m 33 #[.val (.ref a), .val (.ref r_114), .val (.int (3 : Int32)), .val (.int (1 : Int32)), .val (.ref o1)] [(.ref o1)])) rfl (by rw [hml]; rfl) (argsL := [(.ref o1)]) (rest := []) (lenOf pd__28_Ljava_2f_lang_2f_Object_3b__29_Ljava_2f_util_2f_Optional_3b_ rfl) rfl (by show 2 * 0 + _ ≤ _; exact Nat.le_of_eq rfl) (hb hby d_prog_11_method_6_33) (fun _ _ => ⟨rfl, eq128, (Nat.le_of_ble_eq_true rfl), (Nat.le_of_ble_eq_true rfl)⟩)
  dsimp only [Pt.U, Pt.locs, Pt.cells, Pt.slots] at X130 l130 y130 z130 st130 hQ130
  subst l130 y130 z130
  obtain ⟨r_131, rfl, Nq130, K130, P130_0, P130_1, P130_2⟩ := hQ130
  have N130 := Fr.app N128 Nq130
  have W132 : ∀ zQ, SS p e below T130 m 36 #[.val (.ref a), .val (.ref r_114), .val (.int (3 : Int32)), .val (.int (1 : Int32)), .val (.ref o1)] [(.ref r_131)] zQ → Steps p.tables e below (s₁.setTop (entryFrame m #[(.ref a)] 5)) zQ := by
    intro tt kt
    refine W0 tt ?_
    refine st113 _ ?_
    refine XS.astoreN X113.here hx rfl (hb hby d_prog_11_method_6_3) rfl rfl (l' := #[.val (.ref a), .val (.ref r_114), .unset, .unset, .unset]) rfl ?_
    refine XS.aloadN X113.here hx rfl (hb hby d_prog_11_method_6_4) rfl rfl ?_
    show SS p e below T113 m 5 #[.val (.ref a), .val (.ref r_114), .unset, .unset, .unset] [(.ref r_114)] _
    refine X113.arraylength hx (by first | exact Ar115.1 | (rw [rfl]; exact Ar115.1)) (State.isArrayOf_alike hZ.alike Ar115.2.1) (g := (mkF m 5 #[.val (.ref a), .val (.ref r_114), .unset, .unset, .unset] [(.ref r_114)])) rfl rfl (hb hby d_prog_11_method_6_5) _ ?_
    rw [len_of S115 M115]
    refine XS.istoreN X113.here hx rfl (hb hby d_prog_11_method_6_6) rfl (l' := #[.val (.ref a), .val (.ref r_114), .val (.int (3 : Int32)), .unset, .unset]) rfl ?_
    refine XS.iconst X113.here hx rfl (hb hby d_prog_11_method_6_7) ?_
    refine XS.istoreN X113.here hx rfl (hb hby d_prog_11_method_6_8) rfl (l' := #[.val (.ref a), .val (.ref r_114), .val (.int (3 : Int32)), .val (.int (0 : Int32)), .unset]) rfl ?_
    refine XS.iloadN X113.here hx rfl (hb hby d_prog_11_method_6_9) rfl ?_
    refine XS.iloadN X113.here hx rfl (hb hby d_prog_11_method_6_10) rfl ?_
    show SS p e below T113 m 11 #[.val (.ref a), .val (.ref r_114), .val (.int (3 : Int32)), .val (.int (0 : Int32)), .unset] [(.int (3 : Int32)), (.int (0 : Int32))] _
    refine XS.icmpNo X113.here hx rfl (hb hby d_prog_11_method_6_11) rfl (tlt (by decide)).2.1 ?_
    refine XS.aloadN X113.here hx rfl (hb hby d_prog_11_method_6_14) rfl rfl ?_
    refine XS.iloadN X113.here hx rfl (hb hby d_prog_11_method_6_15) rfl ?_
    show SS p e below T113 m 16 #[.val (.ref a), .val (.ref r_114), .val (.int (3 : Int32)), .val (.int (0 : Int32)), .unset] [(.int (0 : Int32)), (.ref r_114)] _
    refine X113.aaload hx (j := (0 : Int32)) (v := (.ref o0)) (by first | exact Ar116.1 | (rw [rfl]; exact Ar116.1)) (State.isArrayOf_alike hZ.alike Ar116.2.1) rfl Ar116.2.2 hin116 hat116 (g := (mkF m 16 #[.val (.ref a), .val (.ref r_114), .val (.int (3 : Int32)), .val (.int (0 : Int32)), .unset] [(.int (0 : Int32)), (.ref r_114)])) rfl rfl (hb hby d_prog_11_method_6_16) _ ?_
    refine XS.astore X113.here hx rfl (hb hby d_prog_11_method_6_17) rfl rfl (l' := #[.val (.ref a), .val (.ref r_114), .val (.int (3 : Int32)), .val (.int (0 : Int32)), .val (.ref o0)]) rfl ?_
    refine XS.aload X113.here hx rfl (hb hby d_prog_11_method_6_19) rfl rfl ?_
    show SS p e below T113 m 21 #[.val (.ref a), .val (.ref r_114), .val (.int (3 : Int32)), .val (.int (0 : Int32)), .val (.ref o0)] [(.ref o0)] _
    refine st119 _ ?_
    refine XS.aloadN X119.here hx rfl (hb hby d_prog_11_method_6_24) rfl rfl ?_
    show SS p e below T119 m 25 #[.val (.ref a), .val (.ref r_114), .val (.int (3 : Int32)), .val (.int (0 : Int32)), .val (.ref o0)] [(.ref a), (.ref j0)] _
    refine st122.trans ?_
    show SS p e below T122 m 28 #[.val (.ref a), .val (.ref r_114), .val (.int (3 : Int32)), .val (.int (0 : Int32)), .val (.ref o0)] [(.int (if jn0 = cs then (1 : Int32) else (0 : Int32)))] _
    rw [show (if jn0 = cs then (1 : Int32) else (0 : Int32)) = (0 : Int32) from if_neg hn0]
    refine XS.ifYes X122.here hx rfl (pc0 := 28) (pc' := 37) rfl (hb hby d_prog_11_method_6_28) rfl ((if0 _ _).trans (teq (by decide)).1) (by decide) (by decide) ?_
    show SS p e below T122 m 37 #[.val (.ref a), .val (.ref r_114), .val (.int (3 : Int32)), .val (.int (0 : Int32)), .val (.ref o0)] [] _
    refine XS.iinc X122.here hx rfl (hb hby d_prog_11_method_6_37) rfl (l' := #[.val (.ref a), .val (.ref r_114), .val (.int (3 : Int32)), .val (.int (1 : Int32)), .val (.ref o0)]) rfl ?_
    refine XS.goto X122.here hx rfl (pc0 := 40) (pc' := 9) rfl (hb hby d_prog_11_method_6_40) (by decide) (by decide) ?_
    refine XS.iloadN X122.here hx rfl (hb hby d_prog_11_method_6_9) rfl ?_
    refine XS.iloadN X122.here hx rfl (hb hby d_prog_11_method_6_10) rfl ?_
    refine XS.icmpNo X122.here hx rfl (hb hby d_prog_11_method_6_11) rfl (tlt (by decide)).2.1 ?_
    refine XS.aloadN X122.here hx rfl (hb hby d_prog_11_method_6_14) rfl rfl ?_
    show SS p e below T122 m 15 #[.val (.ref a), .val (.ref r_114), .val (.int (3 : Int32)), .val (.int (1 : Int32)), .val (.ref o0)] [(.ref r_114)] _
    refine XS.iloadN X122.here hx rfl (hb hby d_prog_11_method_6_15) rfl ?_
    show SS p e below T122 m 16 #[.val (.ref a), .val (.ref r_114), .val (.int (3 : Int32)), .val (.int (1 : Int32)), .val (.ref o0)] [(.int (1 : Int32)), (.ref r_114)] _
    refine X122.aaload hx (j := (1 : Int32)) (v := (.ref o1)) (by first | exact Ar124.1 | (rw [eq122]; exact Ar124.1)) (State.isArrayOf_alike hZ.alike Ar124.2.1) rfl Ar124.2.2 hin124 hat124 (g := (mkF m 16 #[.val (.ref a), .val (.ref r_114), .val (.int (3 : Int32)), .val (.int (1 : Int32)), .val (.ref o0)] [(.int (1 : Int32)), (.ref r_114)])) rfl rfl (hb hby d_prog_11_method_6_16) _ ?_
    refine XS.astore X122.here hx rfl (hb hby d_prog_11_method_6_17) rfl rfl (l' := #[.val (.ref a), .val (.ref r_114), .val (.int (3 : Int32)), .val (.int (1 : Int32)), .val (.ref o1)]) rfl ?_
    refine XS.aload X122.here hx rfl (hb hby d_prog_11_method_6_19) rfl rfl ?_
    show SS p e below T122 m 21 #[.val (.ref a), .val (.ref r_114), .val (.int (3 : Int32)), .val (.int (1 : Int32)), .val (.ref o1)] [(.ref o1)] _
    refine st126 _ ?_
    refine XS.aloadN X126.here hx rfl (hb hby d_prog_11_method_6_24) rfl rfl ?_
    show SS p e below T126 m 25 #[.val (.ref a), .val (.ref r_114), .val (.int (3 : Int32)), .val (.int (1 : Int32)), .val (.ref o1)] [(.ref a), (.ref j1)] _
    refine st128.trans ?_
    show SS p e below T128 m 28 #[.val (.ref a), .val (.ref r_114), .val (.int (3 : Int32)), .val (.int (1 : Int32)), .val (.ref o1)] [(.int (if jn1 = cs then (1 : Int32) else (0 : Int32)))] _
    rw [show (if jn1 = cs then (1 : Int32) else (0 : Int32)) = (1 : Int32) from if_pos he]
    refine XS.ifNo X128.here hx rfl (hb hby d_prog_11_method_6_28) rfl ((if0 _ _).trans (feq (by decide)).1) ?_
    refine XS.aload X128.here hx rfl (hb hby d_prog_11_method_6_31) rfl rfl ?_
    show SS p e below T128 m 33 #[.val (.ref a), .val (.ref r_114), .val (.int (3 : Int32)), .val (.int (1 : Int32)), .val (.ref o1)] [(.ref o1)] _
    refine st130 _ ?_
    exact kt
  obtain ⟨fs, hr, hrun, hended, hW, hsame⟩ := X130.leave (v := some (.ref r_131)) (fun h => by rw [Bd.returns] at h; cases h)
  refine ⟨_, _, W132 _ (own_retR X130 hx Bd.returns rfl rfl (hb hby d_prog_11_method_6_36) hr), hrun, hended, _, _, rfl, ?_, ⟨_, rfl⟩, hW, hsame.mono (by decide) (by decide)⟩
  show Q_of1 Z a t kb cs o0 o1 o2 oV kV j0 v0 kv0 j1 v1 kv1 j2 v2 kv2 oE cS h0 n0 _ T130.heap _
  exact ⟨r_131, rfl, N130, (Keep.trans (Keep.trans (Keep.refl h0 []) K113 all0) K130 all0), (Nat.le_trans K113.1 P130_0), P130_1, P130_2⟩
def Q_of2 (Z : State) (a : Addr) (t : Addr) (kb : ClassId) (cs : List Int32) (o0 : Addr) (o1 : Addr) (o2 : Addr) (oV : Addr) (kV : ClassId) (j0 : Addr) (v0 : Addr) (kv0 : ClassId) (j1 : Addr) (v1 : Addr) (kv1 : ClassId) (j2 : Addr) (v2 : Addr) (kv2 : ClassId) (oE : Addr) (cS : Int32) (h0 : Heap) (n0 : Nat) (vQ_ : Option Value) (hQ_ : Heap) (LQ_ : List Loc) : Prop := ∃ r : Addr, vQ_ = some (.ref r) ∧ Fr n0 LQ_ ∧ Keep h0 hQ_ [] ∧ h0.size ≤ r ∧ Exa Z hQ_ r "java/util/Optional" ∧ Fld Z hQ_ r "java/util/Optional" "value" "Ljava/lang/Object;" (.ref o2)
set_option maxRecDepth 65536 in
set_option maxHeartbeats 40000000 in
theorem rm_of2 (l : Launch) (Z : State) (a0 : Array Value) (hw : HW a0 Z) (ws : List Jvm.Cond) (a : Addr) (t : Addr) (kb : ClassId) (cs : List Int32) (o0 : Addr) (o1 : Addr) (o2 : Addr) (oV : Addr) (kV : ClassId) (j0 : Addr) (v0 : Addr) (kv0 : ClassId) (j1 : Addr) (v1 : Addr) (kv1 : ClassId) (j2 : Addr) (v2 : Addr) (kv2 : ClassId) (oE : Addr) (cS : Int32) (h0 : Heap) (n0 : Nat) (Z0 : n0 ≤ h0.size) (O0 : Old Z n0 h0) (S_V : Sta Z Z.heap "com/example/composition/composition/definition/AbapLanguageVersion" "$VALUES" "[Lcom/example/composition/composition/definition/AbapLanguageVersion;" (.ref oV)) (S_0 : Sta Z Z.heap "com/example/composition/composition/definition/AbapLanguageVersion" "STANDARD" "Lcom/example/composition/composition/definition/AbapLanguageVersion;" (.ref o0)) (S_1 : Sta Z Z.heap "com/example/composition/composition/definition/AbapLanguageVersion" "KEY_USER" "Lcom/example/composition/composition/definition/AbapLanguageVersion;" (.ref o1)) (S_2 : Sta Z Z.heap "com/example/composition/composition/definition/AbapLanguageVersion" "CLOUD_DEVELOPMENT" "Lcom/example/composition/composition/definition/AbapLanguageVersion;" (.ref o2)) (E_V : Exa Z Z.heap oV "[Lcom/example/composition/composition/definition/AbapLanguageVersion;") (V_V : Arv Z Z.heap oV kV (.object "com/example/composition/composition/definition/AbapLanguageVersion") (3 : Int32) [(.ref o0), (.ref o1), (.ref o2)] .null) (E_0 : Exa Z Z.heap o0 "com/example/composition/composition/definition/AbapLanguageVersion") (Fj_0 : Fld Z Z.heap o0 "com/example/composition/composition/definition/AbapLanguageVersion" "jsonName" "Ljava/lang/String;" (.ref j0)) (Ej_0 : Exa Z Z.heap j0 "java/lang/String") (Fc_0 : Fld Z Z.heap j0 "java/lang/String" "coder" "B" (.int (0 : Int32))) (Fv_0 : Fld Z Z.heap j0 "java/lang/String" "value" "[B" (.ref v0)) (Vv_0 : Arv Z Z.heap v0 kv0 .byte (8 : Int32) [(.int (115 : Int32)), (.int (116 : Int32)), (.int (97 : Int32)), (.int (110 : Int32)), (.int (100 : Int32)), (.int (97 : Int32)), (.int (114 : Int32)), (.int (100 : Int32))] (.int (0 : Int32))) (E_1 : Exa Z Z.heap o1 "com/example/composition/composition/definition/AbapLanguageVersion") (Fj_1 : Fld Z Z.heap o1 "com/example/composition/composition/definition/AbapLanguageVersion" "jsonName" "Ljava/lang/String;" (.ref j1)) (Ej_1 : Exa Z Z.heap j1 "java/lang/String") (Fc_1 : Fld Z Z.heap j1 "java/lang/String" "coder" "B" (.int (0 : Int32))) (Fv_1 : Fld Z Z.heap j1 "java/lang/String" "value" "[B" (.ref v1)) (Vv_1 : Arv Z Z.heap v1 kv1 .byte (7 : Int32) [(.int (107 : Int32)), (.int (101 : Int32)), (.int (121 : Int32)), (.int (85 : Int32)), (.int (115 : Int32)), (.int (101 : Int32)), (.int (114 : Int32))] (.int (0 : Int32))) (E_2 : Exa Z Z.heap o2 "com/example/composition/composition/definition/AbapLanguageVersion") (Fj_2 : Fld Z Z.heap o2 "com/example/composition/composition/definition/AbapLanguageVersion" "jsonName" "Ljava/lang/String;" (.ref j2)) (Ej_2 : Exa Z Z.heap j2 "java/lang/String") (Fc_2 : Fld Z Z.heap j2 "java/lang/String" "coder" "B" (.int (0 : Int32))) (Fv_2 : Fld Z Z.heap j2 "java/lang/String" "value" "[B" (.ref v2)) (Vv_2 : Arv Z Z.heap v2 kv2 .byte (16 : Int32) [(.int (99 : Int32)), (.int (108 : Int32)), (.int (111 : Int32)), (.int (117 : Int32)), (.int (100 : Int32)), (.int (68 : Int32)), (.int (101 : Int32)), (.int (118 : Int32)), (.int (101 : Int32)), (.int (108 : Int32)), (.int (111 : Int32)), (.int (112 : Int32)), (.int (109 : Int32)), (.int (101 : Int32)), (.int (110 : Int32)), (.int (116 : Int32))] (.int (0 : Int32))) (S_EMPTY : Sta Z Z.heap "java/util/Optional" "EMPTY" "Ljava/util/Optional;" (.ref oE)) (E_EMPTY : Exa Z Z.heap oE "java/util/Optional") (F_EMPTY : Fld Z Z.heap oE "java/util/Optional" "value" "Ljava/lang/Object;" .null) (S_cs : Sta Z Z.heap "java/lang/String" "COMPACT_STRINGS" "Z" (.int cS)) (hcS : ¬ (cS = (0 : Int32))) (hS : Str Z h0 a t kb cs) (hl : lat cs = true) (g1 : n0 ≤ a) (hn0 : ¬ (jn0 = cs)) (hn1 : ¬ (jn1 = cs)) (he : jn2 = cs) :
    MetFree l yn22 (head1 (Jvm.Cond.code yn22 prog_11_method_6_code 5 (some (.object "java/util/Optional")) :: ws) ({ frames := 3, cells := 2, slots := 4, locals := 38 } : Room)) (fun aQ_ UQ => aQ_ = #[(.ref a)] ∧ Z.Warmed39 UQ.vm ∧ UQ.heap = h0) (fun _ _ _ _ _ => True) (fun _ UQ oQ UQ' => ∃ vQ_ LQ_, oQ = .returned vQ_ ∧ Q_of2 Z a t kb cs o0 o1 o2 oV kV j0 v0 kv0 j1 v1 kv1 j2 v2 kv2 oE cS h0 n0 vQ_ UQ'.heap LQ_ ∧ FrameEnd UQ oQ UQ' LQ_ ({ frames := 3, cells := 2, slots := 4, locals := 38 } : Room).cells ({ frames := 3, cells := 2, slots := 4, locals := 38 } : Room).slots) := by
  refine MetFree.of_bodySF (plainFor_of_name pn_com_example_composition_composition_definition_AbapLanguageVersion) hisR ?_
  intro p e s m args below meth cO s₁ Bd hml0 hP hK
  obtain ⟨rfl, hZ, hh⟩ := hP
  have hx := Bd.exec
  have hby := Bd.bytes
  have hml : cO.maxLocals = 5 := hml0
  have hown : s.vm.findClass "com/example/composition/composition/definition/AbapLanguageVersion" = some m.cls := findClass_of_methodNamed Bd.named
  have hnm := (name_of_methodNamed Bd.named Bd.method).1
  have X0 : Stand p l e ({ frames := 3, cells := 2, slots := 4, locals := 38 } : Room) s m #[(.ref a)] below meth cO s₁ [] 0 0 := Stand.of_body Bd
  have e0 : s₁.heap = h0 := by rw [← hh, Bd.state]; rfl
  have N0 := Fr.nil n0
  have W0 : ∀ zQ, SS p e below s₁ m 0 #[.val (.ref a), .unset, .unset, .unset, .unset] [] zQ → Steps p.tables e below (s₁.setTop (entryFrame m #[(.ref a)] 5)) zQ := fun tt kt => castTop (ef_of2 m a) kt
  have F101 : Exa Z h0 j0 "java/lang/String" := Ej_0.ext O0.2
  have F102 : Fld Z h0 j0 "java/lang/String" "value" "[B" (.ref v0) := Fv_0.ext O0.2
  have F103 : Fld Z h0 j0 "java/lang/String" "coder" "B" (.int (0 : Int32)) := Fc_0.ext O0.2
  have F104 : Arv Z h0 v0 kv0 .byte (8 : Int32) [(.int (115 : Int32)), (.int (116 : Int32)), (.int (97 : Int32)), (.int (110 : Int32)), (.int (100 : Int32)), (.int (97 : Int32)), (.int (114 : Int32)), (.int (100 : Int32))] (.int (0 : Int32)) := Vv_0.ext O0.2
  have SJ0 : Str Z h0 j0 v0 kv0 jn0 := ⟨F101, F102, F103, F104, by decide, by decide⟩
  have F105 : Exa Z h0 j1 "java/lang/String" := Ej_1.ext O0.2
  have F106 : Fld Z h0 j1 "java/lang/String" "value" "[B" (.ref v1) := Fv_1.ext O0.2
  have F107 : Fld Z h0 j1 "java/lang/String" "coder" "B" (.int (0 : Int32)) := Fc_1.ext O0.2
  have F108 : Arv Z h0 v1 kv1 .byte (7 : Int32) [(.int (107 : Int32)), (.int (101 : Int32)), (.int (121 : Int32)), (.int (85 : Int32)), (.int (115 : Int32)), (.int (101 : Int32)), (.int (114 : Int32))] (.int (0 : Int32)) := Vv_1.ext O0.2
  have SJ1 : Str Z h0 j1 v1 kv1 jn1 := ⟨F105, F106, F107, F108, by decide, by decide⟩
  have F109 : Exa Z h0 j2 "java/lang/String" := Ej_2.ext O0.2
  have F110 : Fld Z h0 j2 "java/lang/String" "value" "[B" (.ref v2) := Fv_2.ext O0.2
  have F111 : Fld Z h0 j2 "java/lang/String" "coder" "B" (.int (0 : Int32)) := Fc_2.ext O0.2
  have F112 : Arv Z h0 v2 kv2 .byte (16 : Int32) [(.int (99 : Int32)), (.int (108 : Int32)), (.int (111 : Int32)), (.int (117 : Int32)), (.int (100 : Int32)), (.int (68 : Int32)), (.int (101 : Int32)), (.int (118 : Int32)), (.int (101 : Int32)), (.int (108 : Int32)), (.int (111 : Int32)), (.int (112 : Int32)), (.int (109 : Int32)), (.int (101 : Int32)), (.int (110 : Int32)), (.int (116 : Int32))] (.int (0 : Int32)) := Vv_2.ext O0.2
  have SJ2 : Str Z h0 j2 v2 kv2 jn2 := ⟨F109, F110, F111, F112, by decide, by decide⟩
  obtain ⟨_, _, ⟨T113, L113, k113, n113⟩, -, X113, ⟨Lc113, hQ113, l113, y113, z113⟩, st113⟩ := Jvm.LawKit.callS X0 hx (y := yn21) hown (mvT hZ (w40 hw)) (mvT hZ (w41 hw)) (mvT hZ (w38 hw)) (mvT hZ (w42 hw)) (by decide) (backOf (W := 0) (rm_values l Z a0 hw [] o0 o1 o2 oV kV h0 n0 Z0 O0 S_0 S_1 S_2 S_V E_V V_V) hZ (w42 hw) (w38 hw) (by decide) (by decide)) (g := (mkF m 0 #[.val (.ref a), .unset, .unset, .unset, .unset] [])) rfl (by rw [hml]; rfl) (argsL := []) (rest := []) (lenOf pd__28__29__5b_Lcom_2f_example_2f_composition_2f_composition_2f_definition_2f_AbapLanguageVersion_3b_ rfl) rfl (by show 2 * 0 + _ ≤ _; exact Nat.le_of_eq rfl) (hb hby d_prog_11_method_6_0) (fun _ _ => ⟨rfl, e0, (Nat.le_of_ble_eq_true rfl), (Nat.le_of_ble_eq_true rfl)⟩)
  dsimp only [Pt.U, Pt.locs, Pt.cells, Pt.slots] at X113 l113 y113 z113 st113 hQ113
  subst l113 y113 z113
  obtain ⟨r_114, rfl, Nq113, K113, P113_0, P113_1⟩ := hQ113
  have N113 := Fr.app N0 Nq113
  obtain ⟨cl115, Ar115, -, S115, M115, -, -⟩ := id P113_1
  obtain ⟨cl116, Ar116, q116, S116, M116, H116, F116g⟩ := id P113_1
  have hin116 : ¬ ((0 : Int32) < 0 ∨ cl116.slots.size ≤ ((0 : Int32)).toNatClampNeg) := inb_of S116 ⟨by decide, by decide⟩
  have hat116 : cl116.slots[((0 : Int32)).toNatClampNeg]? = some (.ref o0) := Has.at H116 hin116 rfl
  have O117 : Old Z n0 T113.heap := (O0.keep K113 all0)
  have F118 : Fld Z T113.heap o0 "com/example/composition/composition/definition/AbapLanguageVersion" "jsonName" "Ljava/lang/String;" (.ref j0) := Fj_0.ext O117.2
  obtain ⟨T119, X119, e119, st119⟩ := getF X113 hx hZ hown (host := "") (Or.inl (w58 hw)) Via.refl rfl F118 (g := (mkF m 21 #[.val (.ref a), .val (.ref r_114), .val (.int (3 : Int32)), .val (.int (0 : Int32)), .val (.ref o0)] [(.ref o0)])) rfl rfl (hb hby d_prog_11_method_6_21)
  have F120 : Str Z T113.heap j0 v0 kv0 jn0 := (SJ0.keep K113 nin0 nin0)
  have F121 : Str Z T113.heap a t kb cs := (hS.keep K113 nin0 nin0)
  have F123 : Exa Z T113.heap j0 "java/lang/String" := (F101.keep K113)
  obtain ⟨cq122, kq122, q122a, q122b, q122c⟩ := isOf hZ e119 F123
  obtain ⟨_, _, ⟨T122, L122, k122, n122⟩, -, X122, ⟨Lc122, hQ122, l122, y122, z122⟩, st122⟩ := X119.virtualBack hx (y := yn10) (z := yn10) hown (mvT hZ (w60 hw)) (mvT hZ (w61 hw)) (notFace_of_selects (args := #[]) (mvT hZ (w63 hw))) (mvT hZ (w63 hw)) (mvT hZ (w62 hw)) (by decide) (backOf (W := 0) (rm_sequals l Z a0 hw [] j0 a v0 t kv0 kb jn0 cs cS T113.heap n0 (Nat.le_trans Z0 K113.1) O117 S_cs hcS F120 F121 (by decide) hl (Nat.ne_of_lt (Nat.lt_of_lt_of_le (Nat.lt_of_lt_of_eq Ej_0.lt O0.1) g1))) hZ (w64 hw) (w4 hw) (by decide) (by decide)) q122a q122c (g := (mkF m 25 #[.val (.ref a), .val (.ref r_114), .val (.int (3 : Int32)), .val (.int (0 : Int32)), .val (.ref o0)] [(.ref a), (.ref j0)])) rfl (by rw [hml]; rfl) (Steps.refl _) (argsL := [(.ref a)]) (rest := []) (lenOf pd__28_Ljava_2f_lang_2f_Object_3b__29_Z rfl) rfl (by show 2 * 0 + _ ≤ _; exact Nat.le_of_eq rfl) (hb hby d_prog_11_method_6_25) (fun _ _ => ⟨rfl, e119, (Nat.le_of_ble_eq_true rfl), (Nat.le_of_ble_eq_true rfl)⟩)
  dsimp only [Pt.U, Pt.locs, Pt.cells, Pt.slots] at X122 l122 y122 z122 st122 hQ122
  subst l122 y122 z122
  obtain ⟨rfl, Nq122, eq122⟩ := hQ122
  have N122 := Fr.app N113 Nq122
  obtain ⟨cl124, Ar124, q124, S124, M124, H124, F124g⟩ := id P113_1
  have hin124 : ¬ ((1 : Int32) < 0 ∨ cl124.slots.size ≤ ((1 : Int32)).toNatClampNeg) := inb_of S124 ⟨by decide, by decide⟩
  have hat124 : cl124.slots[((1 : Int32)).toNatClampNeg]? = some (.ref o1) := Has.at H124 hin124 rfl
  have F125 : Fld Z T113.heap o1 "com/example/composition/composition/definition/AbapLanguageVersion" "jsonName" "Ljava/lang/String;" (.ref j1) := Fj_1.ext O117.2
  obtain ⟨T126, X126, e126, st126⟩ := getF X122 hx hZ hown (host := "") (Or.inl (w58 hw)) Via.refl eq122 F125 (g := (mkF m 21 #[.val (.ref a), .val (.ref r_114), .val (.int (3 : Int32)), .val (.int (1 : Int32)), .val (.ref o1)] [(.ref o1)])) rfl rfl (hb hby d_prog_11_method_6_21)
  have F127 : Str Z T113.heap j1 v1 kv1 jn1 := (SJ1.keep K113 nin0 nin0)
  have F129 : Exa Z T113.heap j1 "java/lang/String" := (F105.keep K113)
  obtain ⟨cq128, kq128, q128a, q128b, q128c⟩ := isOf hZ e126 F129
  obtain ⟨_, _, ⟨T128, L128, k128, n128⟩, -, X128, ⟨Lc128, hQ128, l128, y128, z128⟩, st128⟩ := X126.virtualBack hx (y := yn10) (z := yn10) hown (mvT hZ (w60 hw)) (mvT hZ (w61 hw)) (notFace_of_selects (args := #[]) (mvT hZ (w63 hw))) (mvT hZ (w63 hw)) (mvT hZ (w62 hw)) (by decide) (backOf (W := 0) (rm_sequals l Z a0 hw [] j1 a v1 t kv1 kb jn1 cs cS T113.heap n0 (Nat.le_trans Z0 K113.1) O117 S_cs hcS F127 F121 (by decide) hl (Nat.ne_of_lt (Nat.lt_of_lt_of_le (Nat.lt_of_lt_of_eq Ej_1.lt O0.1) g1))) hZ (w64 hw) (w4 hw) (by decide) (by decide)) q128a q128c (g := (mkF m 25 #[.val (.ref a), .val (.ref r_114), .val (.int (3 : Int32)), .val (.int (1 : Int32)), .val (.ref o1)] [(.ref a), (.ref j1)])) rfl (by rw [hml]; rfl) (Steps.refl _) (argsL := [(.ref a)]) (rest := []) (lenOf pd__28_Ljava_2f_lang_2f_Object_3b__29_Z rfl) rfl (by show 2 * 0 + _ ≤ _; exact Nat.le_of_eq rfl) (hb hby d_prog_11_method_6_25) (fun _ _ => ⟨rfl, e126, (Nat.le_of_ble_eq_true rfl), (Nat.le_of_ble_eq_true rfl)⟩)
  dsimp only [Pt.U, Pt.locs, Pt.cells, Pt.slots] at X128 l128 y128 z128 st128 hQ128
  subst l128 y128 z128
  obtain ⟨rfl, Nq128, eq128⟩ := hQ128
  have N128 := Fr.app N122 Nq128
  obtain ⟨cl130, Ar130, q130, S130, M130, H130, F130g⟩ := id P113_1
  have hin130 : ¬ ((2 : Int32) < 0 ∨ cl130.slots.size ≤ ((2 : Int32)).toNatClampNeg) := inb_of S130 ⟨by decide, by decide⟩
  have hat130 : cl130.slots[((2 : Int32)).toNatClampNeg]? = some (.ref o2) := Has.at H130 hin130 rfl
  have F131 : Fld Z T113.heap o2 "com/example/composition/composition/definition/AbapLanguageVersion" "jsonName" "Ljava/lang/String;" (.ref j2) := Fj_2.ext O117.2
  obtain ⟨T132, X132, e132, st132⟩ := getF X128 hx hZ hown (host := "") (Or.inl (w58 hw)) Via.refl eq128 F131 (g := (mkF m 21 #[.val (.ref a), .val (.ref r_114), .val (.int (3 : Int32)), .val (.int (2 : Int32)), .val (.ref o2)] [(.ref o2)])) rfl rfl (hb hby d_prog_11_method_6_21)
  have F133 : Str Z T113.heap j2 v2 kv2 jn2 := (SJ2.keep K113 nin0 nin0)
  have F135 : Exa Z T113.heap j2 "java/lang/String" := (F109.keep K113)
  obtain ⟨cq134, kq134, q134a, q134b, q134c⟩ := isOf hZ e132 F135
  obtain ⟨_, _, ⟨T134, L134, k134, n134⟩, -, X134, ⟨Lc134, hQ134, l134, y134, z134⟩, st134⟩ := X132.virtualBack hx (y := yn10) (z := yn10) hown (mvT hZ (w60 hw)) (mvT hZ (w61 hw)) (notFace_of_selects (args := #[]) (mvT hZ (w63 hw))) (mvT hZ (w63 hw)) (mvT hZ (w62 hw)) (by decide) (backOf (W := 0) (rm_sequals l Z a0 hw [] j2 a v2 t kv2 kb jn2 cs cS T113.heap n0 (Nat.le_trans Z0 K113.1) O117 S_cs hcS F133 F121 (by decide) hl (Nat.ne_of_lt (Nat.lt_of_lt_of_le (Nat.lt_of_lt_of_eq Ej_2.lt O0.1) g1))) hZ (w64 hw) (w4 hw) (by decide) (by decide)) q134a q134c (g := (mkF m 25 #[.val (.ref a), .val (.ref r_114), .val (.int (3 : Int32)), .val (.int (2 : Int32)), .val (.ref o2)] [(.ref a), (.ref j2)])) rfl (by rw [hml]; rfl) (Steps.refl _) (argsL := [(.ref a)]) (rest := []) (lenOf pd__28_Ljava_2f_lang_2f_Object_3b__29_Z rfl) rfl (by show 2 * 0 + _ ≤ _; exact Nat.le_of_eq rfl) (hb hby d_prog_11_method_6_25) (fun _ _ => ⟨rfl, e132, (Nat.le_of_ble_eq_true rfl), (Nat.le_of_ble_eq_true rfl)⟩)
  dsimp only [Pt.U, Pt.locs, Pt.cells, Pt.slots] at X134 l134 y134 z134 st134 hQ134
  subst l134 y134 z134
  obtain ⟨rfl, Nq134, eq134⟩ := hQ134
  have N134 := Fr.app N128 Nq134
  obtain ⟨_, _, ⟨T136, L136, k136, n136⟩, -, X136, ⟨Lc136, hQ136, l136, y136, z136⟩, st136⟩ := Jvm.LawKit.callS X134 hx (y := yn16) hown (mvT hZ (w70 hw)) (mvT hZ (w71 hw)) (mvT hZ (w72 hw)) (mvT hZ (w73 hw)) (by decide) (backOf (W := 0) (rm_opOf l Z a0 hw [] o2 T113.heap n0 (Nat.le_trans Z0 K113.1) ) hZ (w73 hw) (w72 hw) (by decide) (by decide)) (g := (mkF m 33 #[.val (.ref a), .val (.ref r_114), .val (.int (3 : Int32)), .val (.int (2 : Int32)), .val (.ref o2)] [(.ref o2)])) rfl (by rw [hml]; rfl) (argsL := [(.ref o2)]) (rest := []) (lenOf pd__28_Ljava_2f_lang_2f_Object_3b__29_Ljava_2f_util_2f_Optional_3b_ rfl) rfl (by show 2 * 0 + _ ≤ _; exact Nat.le_of_eq rfl) (hb hby d_prog_11_method_6_33) (fun _ _ => ⟨rfl, eq134, (Nat.le_of_ble_eq_true rfl), (Nat.le_of_ble_eq_true rfl)⟩)
  dsimp only [Pt.U, Pt.locs, Pt.cells, Pt.slots] at X136 l136 y136 z136 st136 hQ136
  subst l136 y136 z136
  obtain ⟨r_137, rfl, Nq136, K136, P136_0, P136_1, P136_2⟩ := hQ136
  have N136 := Fr.app N134 Nq136
  have W138 : ∀ zQ, SS p e below T136 m 36 #[.val (.ref a), .val (.ref r_114), .val (.int (3 : Int32)), .val (.int (2 : Int32)), .val (.ref o2)] [(.ref r_137)] zQ → Steps p.tables e below (s₁.setTop (entryFrame m #[(.ref a)] 5)) zQ := by
    intro tt kt
    refine W0 tt ?_
    refine st113 _ ?_
    refine XS.astoreN X113.here hx rfl (hb hby d_prog_11_method_6_3) rfl rfl (l' := #[.val (.ref a), .val (.ref r_114), .unset, .unset, .unset]) rfl ?_
    refine XS.aloadN X113.here hx rfl (hb hby d_prog_11_method_6_4) rfl rfl ?_
    show SS p e below T113 m 5 #[.val (.ref a), .val (.ref r_114), .unset, .unset, .unset] [(.ref r_114)] _
    refine X113.arraylength hx (by first | exact Ar115.1 | (rw [rfl]; exact Ar115.1)) (State.isArrayOf_alike hZ.alike Ar115.2.1) (g := (mkF m 5 #[.val (.ref a), .val (.ref r_114), .unset, .unset, .unset] [(.ref r_114)])) rfl rfl (hb hby d_prog_11_method_6_5) _ ?_
    rw [len_of S115 M115]
    refine XS.istoreN X113.here hx rfl (hb hby d_prog_11_method_6_6) rfl (l' := #[.val (.ref a), .val (.ref r_114), .val (.int (3 : Int32)), .unset, .unset]) rfl ?_
    refine XS.iconst X113.here hx rfl (hb hby d_prog_11_method_6_7) ?_
    refine XS.istoreN X113.here hx rfl (hb hby d_prog_11_method_6_8) rfl (l' := #[.val (.ref a), .val (.ref r_114), .val (.int (3 : Int32)), .val (.int (0 : Int32)), .unset]) rfl ?_
    refine XS.iloadN X113.here hx rfl (hb hby d_prog_11_method_6_9) rfl ?_
    refine XS.iloadN X113.here hx rfl (hb hby d_prog_11_method_6_10) rfl ?_
    show SS p e below T113 m 11 #[.val (.ref a), .val (.ref r_114), .val (.int (3 : Int32)), .val (.int (0 : Int32)), .unset] [(.int (3 : Int32)), (.int (0 : Int32))] _
    refine XS.icmpNo X113.here hx rfl (hb hby d_prog_11_method_6_11) rfl (tlt (by decide)).2.1 ?_
    refine XS.aloadN X113.here hx rfl (hb hby d_prog_11_method_6_14) rfl rfl ?_
    refine XS.iloadN X113.here hx rfl (hb hby d_prog_11_method_6_15) rfl ?_
    show SS p e below T113 m 16 #[.val (.ref a), .val (.ref r_114), .val (.int (3 : Int32)), .val (.int (0 : Int32)), .unset] [(.int (0 : Int32)), (.ref r_114)] _
    refine X113.aaload hx (j := (0 : Int32)) (v := (.ref o0)) (by first | exact Ar116.1 | (rw [rfl]; exact Ar116.1)) (State.isArrayOf_alike hZ.alike Ar116.2.1) rfl Ar116.2.2 hin116 hat116 (g := (mkF m 16 #[.val (.ref a), .val (.ref r_114), .val (.int (3 : Int32)), .val (.int (0 : Int32)), .unset] [(.int (0 : Int32)), (.ref r_114)])) rfl rfl (hb hby d_prog_11_method_6_16) _ ?_
    refine XS.astore X113.here hx rfl (hb hby d_prog_11_method_6_17) rfl rfl (l' := #[.val (.ref a), .val (.ref r_114), .val (.int (3 : Int32)), .val (.int (0 : Int32)), .val (.ref o0)]) rfl ?_
    refine XS.aload X113.here hx rfl (hb hby d_prog_11_method_6_19) rfl rfl ?_
    show SS p e below T113 m 21 #[.val (.ref a), .val (.ref r_114), .val (.int (3 : Int32)), .val (.int (0 : Int32)), .val (.ref o0)] [(.ref o0)] _
    refine st119 _ ?_
    refine XS.aloadN X119.here hx rfl (hb hby d_prog_11_method_6_24) rfl rfl ?_
    show SS p e below T119 m 25 #[.val (.ref a), .val (.ref r_114), .val (.int (3 : Int32)), .val (.int (0 : Int32)), .val (.ref o0)] [(.ref a), (.ref j0)] _
    refine st122.trans ?_
    show SS p e below T122 m 28 #[.val (.ref a), .val (.ref r_114), .val (.int (3 : Int32)), .val (.int (0 : Int32)), .val (.ref o0)] [(.int (if jn0 = cs then (1 : Int32) else (0 : Int32)))] _
    rw [show (if jn0 = cs then (1 : Int32) else (0 : Int32)) = (0 : Int32) from if_neg hn0]
    refine XS.ifYes X122.here hx rfl (pc0 := 28) (pc' := 37) rfl (hb hby d_prog_11_method_6_28) rfl ((if0 _ _).trans (teq (by decide)).1) (by decide) (by decide) ?_
    show SS p e below T122 m 37 #[.val (.ref a), .val (.ref r_114), .val (.int (3 : Int32)), .val (.int (0 : Int32)), .val (.ref o0)] [] _
    refine XS.iinc X122.here hx rfl (hb hby d_prog_11_method_6_37) rfl (l' := #[.val (.ref a), .val (.ref r_114), .val (.int (3 : Int32)), .val (.int (1 : Int32)), .val (.ref o0)]) rfl ?_
    refine XS.goto X122.here hx rfl (pc0 := 40) (pc' := 9) rfl (hb hby d_prog_11_method_6_40) (by decide) (by decide) ?_
    refine XS.iloadN X122.here hx rfl (hb hby d_prog_11_method_6_9) rfl ?_
    refine XS.iloadN X122.here hx rfl (hb hby d_prog_11_method_6_10) rfl ?_
    refine XS.icmpNo X122.here hx rfl (hb hby d_prog_11_method_6_11) rfl (tlt (by decide)).2.1 ?_
    refine XS.aloadN X122.here hx rfl (hb hby d_prog_11_method_6_14) rfl rfl ?_
    show SS p e below T122 m 15 #[.val (.ref a), .val (.ref r_114), .val (.int (3 : Int32)), .val (.int (1 : Int32)), .val (.ref o0)] [(.ref r_114)] _
    refine XS.iloadN X122.here hx rfl (hb hby d_prog_11_method_6_15) rfl ?_
    show SS p e below T122 m 16 #[.val (.ref a), .val (.ref r_114), .val (.int (3 : Int32)), .val (.int (1 : Int32)), .val (.ref o0)] [(.int (1 : Int32)), (.ref r_114)] _
    refine X122.aaload hx (j := (1 : Int32)) (v := (.ref o1)) (by first | exact Ar124.1 | (rw [eq122]; exact Ar124.1)) (State.isArrayOf_alike hZ.alike Ar124.2.1) rfl Ar124.2.2 hin124 hat124 (g := (mkF m 16 #[.val (.ref a), .val (.ref r_114), .val (.int (3 : Int32)), .val (.int (1 : Int32)), .val (.ref o0)] [(.int (1 : Int32)), (.ref r_114)])) rfl rfl (hb hby d_prog_11_method_6_16) _ ?_
    refine XS.astore X122.here hx rfl (hb hby d_prog_11_method_6_17) rfl rfl (l' := #[.val (.ref a), .val (.ref r_114), .val (.int (3 : Int32)), .val (.int (1 : Int32)), .val (.ref o1)]) rfl ?_
    refine XS.aload X122.here hx rfl (hb hby d_prog_11_method_6_19) rfl rfl ?_
    show SS p e below T122 m 21 #[.val (.ref a), .val (.ref r_114), .val (.int (3 : Int32)), .val (.int (1 : Int32)), .val (.ref o1)] [(.ref o1)] _
    refine st126 _ ?_
    refine XS.aloadN X126.here hx rfl (hb hby d_prog_11_method_6_24) rfl rfl ?_
    show SS p e below T126 m 25 #[.val (.ref a), .val (.ref r_114), .val (.int (3 : Int32)), .val (.int (1 : Int32)), .val (.ref o1)] [(.ref a), (.ref j1)] _
    refine st128.trans ?_
    show SS p e below T128 m 28 #[.val (.ref a), .val (.ref r_114), .val (.int (3 : Int32)), .val (.int (1 : Int32)), .val (.ref o1)] [(.int (if jn1 = cs then (1 : Int32) else (0 : Int32)))] _
    rw [show (if jn1 = cs then (1 : Int32) else (0 : Int32)) = (0 : Int32) from if_neg hn1]
    refine XS.ifYes X128.here hx rfl (pc0 := 28) (pc' := 37) rfl (hb hby d_prog_11_method_6_28) rfl ((if0 _ _).trans (teq (by decide)).1) (by decide) (by decide) ?_
    show SS p e below T128 m 37 #[.val (.ref a), .val (.ref r_114), .val (.int (3 : Int32)), .val (.int (1 : Int32)), .val (.ref o1)] [] _
    refine XS.iinc X128.here hx rfl (hb hby d_prog_11_method_6_37) rfl (l' := #[.val (.ref a), .val (.ref r_114), .val (.int (3 : Int32)), .val (.int (2 : Int32)), .val (.ref o1)]) rfl ?_
    refine XS.goto X128.here hx rfl (pc0 := 40) (pc' := 9) rfl (hb hby d_prog_11_method_6_40) (by decide) (by decide) ?_
    refine XS.iloadN X128.here hx rfl (hb hby d_prog_11_method_6_9) rfl ?_
    refine XS.iloadN X128.here hx rfl (hb hby d_prog_11_method_6_10) rfl ?_
    refine XS.icmpNo X128.here hx rfl (hb hby d_prog_11_method_6_11) rfl (tlt (by decide)).2.1 ?_
    refine XS.aloadN X128.here hx rfl (hb hby d_prog_11_method_6_14) rfl rfl ?_
    show SS p e below T128 m 15 #[.val (.ref a), .val (.ref r_114), .val (.int (3 : Int32)), .val (.int (2 : Int32)), .val (.ref o1)] [(.ref r_114)] _
    refine XS.iloadN X128.here hx rfl (hb hby d_prog_11_method_6_15) rfl ?_
    show SS p e below T128 m 16 #[.val (.ref a), .val (.ref r_114), .val (.int (3 : Int32)), .val (.int (2 : Int32)), .val (.ref o1)] [(.int (2 : Int32)), (.ref r_114)] _
    refine X128.aaload hx (j := (2 : Int32)) (v := (.ref o2)) (by first | exact Ar130.1 | (rw [eq128]; exact Ar130.1)) (State.isArrayOf_alike hZ.alike Ar130.2.1) rfl Ar130.2.2 hin130 hat130 (g := (mkF m 16 #[.val (.ref a), .val (.ref r_114), .val (.int (3 : Int32)), .val (.int (2 : Int32)), .val (.ref o1)] [(.int (2 : Int32)), (.ref r_114)])) rfl rfl (hb hby d_prog_11_method_6_16) _ ?_
    refine XS.astore X128.here hx rfl (hb hby d_prog_11_method_6_17) rfl rfl (l' := #[.val (.ref a), .val (.ref r_114), .val (.int (3 : Int32)), .val (.int (2 : Int32)), .val (.ref o2)]) rfl ?_
    refine XS.aload X128.here hx rfl (hb hby d_prog_11_method_6_19) rfl rfl ?_
    show SS p e below T128 m 21 #[.val (.ref a), .val (.ref r_114), .val (.int (3 : Int32)), .val (.int (2 : Int32)), .val (.ref o2)] [(.ref o2)] _
    refine st132 _ ?_
    refine XS.aloadN X132.here hx rfl (hb hby d_prog_11_method_6_24) rfl rfl ?_
    show SS p e below T132 m 25 #[.val (.ref a), .val (.ref r_114), .val (.int (3 : Int32)), .val (.int (2 : Int32)), .val (.ref o2)] [(.ref a), (.ref j2)] _
    refine st134.trans ?_
    show SS p e below T134 m 28 #[.val (.ref a), .val (.ref r_114), .val (.int (3 : Int32)), .val (.int (2 : Int32)), .val (.ref o2)] [(.int (if jn2 = cs then (1 : Int32) else (0 : Int32)))] _
    rw [show (if jn2 = cs then (1 : Int32) else (0 : Int32)) = (1 : Int32) from if_pos he]
    refine XS.ifNo X134.here hx rfl (hb hby d_prog_11_method_6_28) rfl ((if0 _ _).trans (feq (by decide)).1) ?_
    refine XS.aload X134.here hx rfl (hb hby d_prog_11_method_6_31) rfl rfl ?_
    show SS p e below T134 m 33 #[.val (.ref a), .val (.ref r_114), .val (.int (3 : Int32)), .val (.int (2 : Int32)), .val (.ref o2)] [(.ref o2)] _
    refine st136 _ ?_
    exact kt
  obtain ⟨fs, hr, hrun, hended, hW, hsame⟩ := X136.leave (v := some (.ref r_137)) (fun h => by rw [Bd.returns] at h; cases h)
  refine ⟨_, _, W138 _ (own_retR X136 hx Bd.returns rfl rfl (hb hby d_prog_11_method_6_36) hr), hrun, hended, _, _, rfl, ?_, ⟨_, rfl⟩, hW, hsame.mono (by decide) (by decide)⟩
  show Q_of2 Z a t kb cs o0 o1 o2 oV kV j0 v0 kv0 j1 v1 kv1 j2 v2 kv2 oE cS h0 n0 _ T136.heap _
  exact ⟨r_137, rfl, N136, (Keep.trans (Keep.trans (Keep.refl h0 []) K113 all0) K136 all0), (Nat.le_trans K113.1 P136_0), P136_1, P136_2⟩
def Q_of3 (Z : State) (a : Addr) (t : Addr) (kb : ClassId) (cs : List Int32) (o0 : Addr) (o1 : Addr) (o2 : Addr) (oV : Addr) (kV : ClassId) (j0 : Addr) (v0 : Addr) (kv0 : ClassId) (j1 : Addr) (v1 : Addr) (kv1 : ClassId) (j2 : Addr) (v2 : Addr) (kv2 : ClassId) (oE : Addr) (cS : Int32) (h0 : Heap) (n0 : Nat) (vQ_ : Option Value) (hQ_ : Heap) (LQ_ : List Loc) : Prop := vQ_ = some (.ref oE) ∧ Fr n0 LQ_ ∧ Keep h0 hQ_ []
set_option maxRecDepth 65536 in
set_option maxHeartbeats 40000000 in
theorem rm_of3 (l : Launch) (Z : State) (a0 : Array Value) (hw : HW a0 Z) (ws : List Jvm.Cond) (a : Addr) (t : Addr) (kb : ClassId) (cs : List Int32) (o0 : Addr) (o1 : Addr) (o2 : Addr) (oV : Addr) (kV : ClassId) (j0 : Addr) (v0 : Addr) (kv0 : ClassId) (j1 : Addr) (v1 : Addr) (kv1 : ClassId) (j2 : Addr) (v2 : Addr) (kv2 : ClassId) (oE : Addr) (cS : Int32) (h0 : Heap) (n0 : Nat) (Z0 : n0 ≤ h0.size) (O0 : Old Z n0 h0) (S_V : Sta Z Z.heap "com/example/composition/composition/definition/AbapLanguageVersion" "$VALUES" "[Lcom/example/composition/composition/definition/AbapLanguageVersion;" (.ref oV)) (S_0 : Sta Z Z.heap "com/example/composition/composition/definition/AbapLanguageVersion" "STANDARD" "Lcom/example/composition/composition/definition/AbapLanguageVersion;" (.ref o0)) (S_1 : Sta Z Z.heap "com/example/composition/composition/definition/AbapLanguageVersion" "KEY_USER" "Lcom/example/composition/composition/definition/AbapLanguageVersion;" (.ref o1)) (S_2 : Sta Z Z.heap "com/example/composition/composition/definition/AbapLanguageVersion" "CLOUD_DEVELOPMENT" "Lcom/example/composition/composition/definition/AbapLanguageVersion;" (.ref o2)) (E_V : Exa Z Z.heap oV "[Lcom/example/composition/composition/definition/AbapLanguageVersion;") (V_V : Arv Z Z.heap oV kV (.object "com/example/composition/composition/definition/AbapLanguageVersion") (3 : Int32) [(.ref o0), (.ref o1), (.ref o2)] .null) (E_0 : Exa Z Z.heap o0 "com/example/composition/composition/definition/AbapLanguageVersion") (Fj_0 : Fld Z Z.heap o0 "com/example/composition/composition/definition/AbapLanguageVersion" "jsonName" "Ljava/lang/String;" (.ref j0)) (Ej_0 : Exa Z Z.heap j0 "java/lang/String") (Fc_0 : Fld Z Z.heap j0 "java/lang/String" "coder" "B" (.int (0 : Int32))) (Fv_0 : Fld Z Z.heap j0 "java/lang/String" "value" "[B" (.ref v0)) (Vv_0 : Arv Z Z.heap v0 kv0 .byte (8 : Int32) [(.int (115 : Int32)), (.int (116 : Int32)), (.int (97 : Int32)), (.int (110 : Int32)), (.int (100 : Int32)), (.int (97 : Int32)), (.int (114 : Int32)), (.int (100 : Int32))] (.int (0 : Int32))) (E_1 : Exa Z Z.heap o1 "com/example/composition/composition/definition/AbapLanguageVersion") (Fj_1 : Fld Z Z.heap o1 "com/example/composition/composition/definition/AbapLanguageVersion" "jsonName" "Ljava/lang/String;" (.ref j1)) (Ej_1 : Exa Z Z.heap j1 "java/lang/String") (Fc_1 : Fld Z Z.heap j1 "java/lang/String" "coder" "B" (.int (0 : Int32))) (Fv_1 : Fld Z Z.heap j1 "java/lang/String" "value" "[B" (.ref v1)) (Vv_1 : Arv Z Z.heap v1 kv1 .byte (7 : Int32) [(.int (107 : Int32)), (.int (101 : Int32)), (.int (121 : Int32)), (.int (85 : Int32)), (.int (115 : Int32)), (.int (101 : Int32)), (.int (114 : Int32))] (.int (0 : Int32))) (E_2 : Exa Z Z.heap o2 "com/example/composition/composition/definition/AbapLanguageVersion") (Fj_2 : Fld Z Z.heap o2 "com/example/composition/composition/definition/AbapLanguageVersion" "jsonName" "Ljava/lang/String;" (.ref j2)) (Ej_2 : Exa Z Z.heap j2 "java/lang/String") (Fc_2 : Fld Z Z.heap j2 "java/lang/String" "coder" "B" (.int (0 : Int32))) (Fv_2 : Fld Z Z.heap j2 "java/lang/String" "value" "[B" (.ref v2)) (Vv_2 : Arv Z Z.heap v2 kv2 .byte (16 : Int32) [(.int (99 : Int32)), (.int (108 : Int32)), (.int (111 : Int32)), (.int (117 : Int32)), (.int (100 : Int32)), (.int (68 : Int32)), (.int (101 : Int32)), (.int (118 : Int32)), (.int (101 : Int32)), (.int (108 : Int32)), (.int (111 : Int32)), (.int (112 : Int32)), (.int (109 : Int32)), (.int (101 : Int32)), (.int (110 : Int32)), (.int (116 : Int32))] (.int (0 : Int32))) (S_EMPTY : Sta Z Z.heap "java/util/Optional" "EMPTY" "Ljava/util/Optional;" (.ref oE)) (E_EMPTY : Exa Z Z.heap oE "java/util/Optional") (F_EMPTY : Fld Z Z.heap oE "java/util/Optional" "value" "Ljava/lang/Object;" .null) (S_cs : Sta Z Z.heap "java/lang/String" "COMPACT_STRINGS" "Z" (.int cS)) (hcS : ¬ (cS = (0 : Int32))) (hS : Str Z h0 a t kb cs) (hl : lat cs = true) (g1 : n0 ≤ a) (hn0 : ¬ (jn0 = cs)) (hn1 : ¬ (jn1 = cs)) (hn2 : ¬ (jn2 = cs)) :
    MetFree l yn22 (head1 (Jvm.Cond.code yn22 prog_11_method_6_code 5 (some (.object "java/util/Optional")) :: ws) ({ frames := 2, cells := 1, slots := 3, locals := 28 } : Room)) (fun aQ_ UQ => aQ_ = #[(.ref a)] ∧ Z.Warmed39 UQ.vm ∧ UQ.heap = h0) (fun _ _ _ _ _ => True) (fun _ UQ oQ UQ' => ∃ vQ_ LQ_, oQ = .returned vQ_ ∧ Q_of3 Z a t kb cs o0 o1 o2 oV kV j0 v0 kv0 j1 v1 kv1 j2 v2 kv2 oE cS h0 n0 vQ_ UQ'.heap LQ_ ∧ FrameEnd UQ oQ UQ' LQ_ ({ frames := 2, cells := 1, slots := 3, locals := 28 } : Room).cells ({ frames := 2, cells := 1, slots := 3, locals := 28 } : Room).slots) := by
  refine MetFree.of_bodySF (plainFor_of_name pn_com_example_composition_composition_definition_AbapLanguageVersion) hisR ?_
  intro p e s m args below meth cO s₁ Bd hml0 hP hK
  obtain ⟨rfl, hZ, hh⟩ := hP
  have hx := Bd.exec
  have hby := Bd.bytes
  have hml : cO.maxLocals = 5 := hml0
  have hown : s.vm.findClass "com/example/composition/composition/definition/AbapLanguageVersion" = some m.cls := findClass_of_methodNamed Bd.named
  have hnm := (name_of_methodNamed Bd.named Bd.method).1
  have X0 : Stand p l e ({ frames := 2, cells := 1, slots := 3, locals := 28 } : Room) s m #[(.ref a)] below meth cO s₁ [] 0 0 := Stand.of_body Bd
  have e0 : s₁.heap = h0 := by rw [← hh, Bd.state]; rfl
  have N0 := Fr.nil n0
  have W0 : ∀ zQ, SS p e below s₁ m 0 #[.val (.ref a), .unset, .unset, .unset, .unset] [] zQ → Steps p.tables e below (s₁.setTop (entryFrame m #[(.ref a)] 5)) zQ := fun tt kt => castTop (ef_of3 m a) kt
  have F101 : Exa Z h0 j0 "java/lang/String" := Ej_0.ext O0.2
  have F102 : Fld Z h0 j0 "java/lang/String" "value" "[B" (.ref v0) := Fv_0.ext O0.2
  have F103 : Fld Z h0 j0 "java/lang/String" "coder" "B" (.int (0 : Int32)) := Fc_0.ext O0.2
  have F104 : Arv Z h0 v0 kv0 .byte (8 : Int32) [(.int (115 : Int32)), (.int (116 : Int32)), (.int (97 : Int32)), (.int (110 : Int32)), (.int (100 : Int32)), (.int (97 : Int32)), (.int (114 : Int32)), (.int (100 : Int32))] (.int (0 : Int32)) := Vv_0.ext O0.2
  have SJ0 : Str Z h0 j0 v0 kv0 jn0 := ⟨F101, F102, F103, F104, by decide, by decide⟩
  have F105 : Exa Z h0 j1 "java/lang/String" := Ej_1.ext O0.2
  have F106 : Fld Z h0 j1 "java/lang/String" "value" "[B" (.ref v1) := Fv_1.ext O0.2
  have F107 : Fld Z h0 j1 "java/lang/String" "coder" "B" (.int (0 : Int32)) := Fc_1.ext O0.2
  have F108 : Arv Z h0 v1 kv1 .byte (7 : Int32) [(.int (107 : Int32)), (.int (101 : Int32)), (.int (121 : Int32)), (.int (85 : Int32)), (.int (115 : Int32)), (.int (101 : Int32)), (.int (114 : Int32))] (.int (0 : Int32)) := Vv_1.ext O0.2
  have SJ1 : Str Z h0 j1 v1 kv1 jn1 := ⟨F105, F106, F107, F108, by decide, by decide⟩
  have F109 : Exa Z h0 j2 "java/lang/String" := Ej_2.ext O0.2
  have F110 : Fld Z h0 j2 "java/lang/String" "value" "[B" (.ref v2) := Fv_2.ext O0.2
  have F111 : Fld Z h0 j2 "java/lang/String" "coder" "B" (.int (0 : Int32)) := Fc_2.ext O0.2
  have F112 : Arv Z h0 v2 kv2 .byte (16 : Int32) [(.int (99 : Int32)), (.int (108 : Int32)), (.int (111 : Int32)), (.int (117 : Int32)), (.int (100 : Int32)), (.int (68 : Int32)), (.int (101 : Int32)), (.int (118 : Int32)), (.int (101 : Int32)), (.int (108 : Int32)), (.int (111 : Int32)), (.int (112 : Int32)), (.int (109 : Int32)), (.int (101 : Int32)), (.int (110 : Int32)), (.int (116 : Int32))] (.int (0 : Int32)) := Vv_2.ext O0.2
  have SJ2 : Str Z h0 j2 v2 kv2 jn2 := ⟨F109, F110, F111, F112, by decide, by decide⟩
  obtain ⟨_, _, ⟨T113, L113, k113, n113⟩, -, X113, ⟨Lc113, hQ113, l113, y113, z113⟩, st113⟩ := Jvm.LawKit.callS X0 hx (y := yn21) hown (mvT hZ (w40 hw)) (mvT hZ (w41 hw)) (mvT hZ (w38 hw)) (mvT hZ (w42 hw)) (by decide) (backOf (W := 0) (rm_values l Z a0 hw [] o0 o1 o2 oV kV h0 n0 Z0 O0 S_0 S_1 S_2 S_V E_V V_V) hZ (w42 hw) (w38 hw) (by decide) (by decide)) (g := (mkF m 0 #[.val (.ref a), .unset, .unset, .unset, .unset] [])) rfl (by rw [hml]; rfl) (argsL := []) (rest := []) (lenOf pd__28__29__5b_Lcom_2f_example_2f_composition_2f_composition_2f_definition_2f_AbapLanguageVersion_3b_ rfl) rfl (by show 2 * 0 + _ ≤ _; exact Nat.le_of_eq rfl) (hb hby d_prog_11_method_6_0) (fun _ _ => ⟨rfl, e0, (Nat.le_of_ble_eq_true rfl), (Nat.le_of_ble_eq_true rfl)⟩)
  dsimp only [Pt.U, Pt.locs, Pt.cells, Pt.slots] at X113 l113 y113 z113 st113 hQ113
  subst l113 y113 z113
  obtain ⟨r_114, rfl, Nq113, K113, P113_0, P113_1⟩ := hQ113
  have N113 := Fr.app N0 Nq113
  obtain ⟨cl115, Ar115, -, S115, M115, -, -⟩ := id P113_1
  obtain ⟨cl116, Ar116, q116, S116, M116, H116, F116g⟩ := id P113_1
  have hin116 : ¬ ((0 : Int32) < 0 ∨ cl116.slots.size ≤ ((0 : Int32)).toNatClampNeg) := inb_of S116 ⟨by decide, by decide⟩
  have hat116 : cl116.slots[((0 : Int32)).toNatClampNeg]? = some (.ref o0) := Has.at H116 hin116 rfl
  have O117 : Old Z n0 T113.heap := (O0.keep K113 all0)
  have F118 : Fld Z T113.heap o0 "com/example/composition/composition/definition/AbapLanguageVersion" "jsonName" "Ljava/lang/String;" (.ref j0) := Fj_0.ext O117.2
  obtain ⟨T119, X119, e119, st119⟩ := getF X113 hx hZ hown (host := "") (Or.inl (w58 hw)) Via.refl rfl F118 (g := (mkF m 21 #[.val (.ref a), .val (.ref r_114), .val (.int (3 : Int32)), .val (.int (0 : Int32)), .val (.ref o0)] [(.ref o0)])) rfl rfl (hb hby d_prog_11_method_6_21)
  have F120 : Str Z T113.heap j0 v0 kv0 jn0 := (SJ0.keep K113 nin0 nin0)
  have F121 : Str Z T113.heap a t kb cs := (hS.keep K113 nin0 nin0)
  have F123 : Exa Z T113.heap j0 "java/lang/String" := (F101.keep K113)
  obtain ⟨cq122, kq122, q122a, q122b, q122c⟩ := isOf hZ e119 F123
  obtain ⟨_, _, ⟨T122, L122, k122, n122⟩, -, X122, ⟨Lc122, hQ122, l122, y122, z122⟩, st122⟩ := X119.virtualBack hx (y := yn10) (z := yn10) hown (mvT hZ (w60 hw)) (mvT hZ (w61 hw)) (notFace_of_selects (args := #[]) (mvT hZ (w63 hw))) (mvT hZ (w63 hw)) (mvT hZ (w62 hw)) (by decide) (backOf (W := 0) (rm_sequals l Z a0 hw [] j0 a v0 t kv0 kb jn0 cs cS T113.heap n0 (Nat.le_trans Z0 K113.1) O117 S_cs hcS F120 F121 (by decide) hl (Nat.ne_of_lt (Nat.lt_of_lt_of_le (Nat.lt_of_lt_of_eq Ej_0.lt O0.1) g1))) hZ (w64 hw) (w4 hw) (by decide) (by decide)) q122a q122c (g := (mkF m 25 #[.val (.ref a), .val (.ref r_114), .val (.int (3 : Int32)), .val (.int (0 : Int32)), .val (.ref o0)] [(.ref a), (.ref j0)])) rfl (by rw [hml]; rfl) (Steps.refl _) (argsL := [(.ref a)]) (rest := []) (lenOf pd__28_Ljava_2f_lang_2f_Object_3b__29_Z rfl) rfl (by show 2 * 0 + _ ≤ _; exact Nat.le_of_eq rfl) (hb hby d_prog_11_method_6_25) (fun _ _ => ⟨rfl, e119, (Nat.le_of_ble_eq_true rfl), (Nat.le_of_ble_eq_true rfl)⟩)
  dsimp only [Pt.U, Pt.locs, Pt.cells, Pt.slots] at X122 l122 y122 z122 st122 hQ122
  subst l122 y122 z122
  obtain ⟨rfl, Nq122, eq122⟩ := hQ122
  have N122 := Fr.app N113 Nq122
  obtain ⟨cl124, Ar124, q124, S124, M124, H124, F124g⟩ := id P113_1
  have hin124 : ¬ ((1 : Int32) < 0 ∨ cl124.slots.size ≤ ((1 : Int32)).toNatClampNeg) := inb_of S124 ⟨by decide, by decide⟩
  have hat124 : cl124.slots[((1 : Int32)).toNatClampNeg]? = some (.ref o1) := Has.at H124 hin124 rfl
  have F125 : Fld Z T113.heap o1 "com/example/composition/composition/definition/AbapLanguageVersion" "jsonName" "Ljava/lang/String;" (.ref j1) := Fj_1.ext O117.2
  obtain ⟨T126, X126, e126, st126⟩ := getF X122 hx hZ hown (host := "") (Or.inl (w58 hw)) Via.refl eq122 F125 (g := (mkF m 21 #[.val (.ref a), .val (.ref r_114), .val (.int (3 : Int32)), .val (.int (1 : Int32)), .val (.ref o1)] [(.ref o1)])) rfl rfl (hb hby d_prog_11_method_6_21)
  have F127 : Str Z T113.heap j1 v1 kv1 jn1 := (SJ1.keep K113 nin0 nin0)
  have F129 : Exa Z T113.heap j1 "java/lang/String" := (F105.keep K113)
  obtain ⟨cq128, kq128, q128a, q128b, q128c⟩ := isOf hZ e126 F129
  obtain ⟨_, _, ⟨T128, L128, k128, n128⟩, -, X128, ⟨Lc128, hQ128, l128, y128, z128⟩, st128⟩ := X126.virtualBack hx (y := yn10) (z := yn10) hown (mvT hZ (w60 hw)) (mvT hZ (w61 hw)) (notFace_of_selects (args := #[]) (mvT hZ (w63 hw))) (mvT hZ (w63 hw)) (mvT hZ (w62 hw)) (by decide) (backOf (W := 0) (rm_sequals l Z a0 hw [] j1 a v1 t kv1 kb jn1 cs cS T113.heap n0 (Nat.le_trans Z0 K113.1) O117 S_cs hcS F127 F121 (by decide) hl (Nat.ne_of_lt (Nat.lt_of_lt_of_le (Nat.lt_of_lt_of_eq Ej_1.lt O0.1) g1))) hZ (w64 hw) (w4 hw) (by decide) (by decide)) q128a q128c (g := (mkF m 25 #[.val (.ref a), .val (.ref r_114), .val (.int (3 : Int32)), .val (.int (1 : Int32)), .val (.ref o1)] [(.ref a), (.ref j1)])) rfl (by rw [hml]; rfl) (Steps.refl _) (argsL := [(.ref a)]) (rest := []) (lenOf pd__28_Ljava_2f_lang_2f_Object_3b__29_Z rfl) rfl (by show 2 * 0 + _ ≤ _; exact Nat.le_of_eq rfl) (hb hby d_prog_11_method_6_25) (fun _ _ => ⟨rfl, e126, (Nat.le_of_ble_eq_true rfl), (Nat.le_of_ble_eq_true rfl)⟩)
  dsimp only [Pt.U, Pt.locs, Pt.cells, Pt.slots] at X128 l128 y128 z128 st128 hQ128
  subst l128 y128 z128
  obtain ⟨rfl, Nq128, eq128⟩ := hQ128
  have N128 := Fr.app N122 Nq128
  obtain ⟨cl130, Ar130, q130, S130, M130, H130, F130g⟩ := id P113_1
  have hin130 : ¬ ((2 : Int32) < 0 ∨ cl130.slots.size ≤ ((2 : Int32)).toNatClampNeg) := inb_of S130 ⟨by decide, by decide⟩
  have hat130 : cl130.slots[((2 : Int32)).toNatClampNeg]? = some (.ref o2) := Has.at H130 hin130 rfl
  have F131 : Fld Z T113.heap o2 "com/example/composition/composition/definition/AbapLanguageVersion" "jsonName" "Ljava/lang/String;" (.ref j2) := Fj_2.ext O117.2
  obtain ⟨T132, X132, e132, st132⟩ := getF X128 hx hZ hown (host := "") (Or.inl (w58 hw)) Via.refl eq128 F131 (g := (mkF m 21 #[.val (.ref a), .val (.ref r_114), .val (.int (3 : Int32)), .val (.int (2 : Int32)), .val (.ref o2)] [(.ref o2)])) rfl rfl (hb hby d_prog_11_method_6_21)
  have F133 : Str Z T113.heap j2 v2 kv2 jn2 := (SJ2.keep K113 nin0 nin0)
  have F135 : Exa Z T113.heap j2 "java/lang/String" := (F109.keep K113)
  obtain ⟨cq134, kq134, q134a, q134b, q134c⟩ := isOf hZ e132 F135
  obtain ⟨_, _, ⟨T134, L134, k134, n134⟩, -, X134, ⟨Lc134, hQ134, l134, y134, z134⟩, st134⟩ := X132.virtualBack hx (y := yn10) (z := yn10) hown (mvT hZ (w60 hw)) (mvT hZ (w61 hw)) (notFace_of_selects (args := #[]) (mvT hZ (w63 hw))) (mvT hZ (w63 hw)) (mvT hZ (w62 hw)) (by decide) (backOf (W := 0) (rm_sequals l Z a0 hw [] j2 a v2 t kv2 kb jn2 cs cS T113.heap n0 (Nat.le_trans Z0 K113.1) O117 S_cs hcS F133 F121 (by decide) hl (Nat.ne_of_lt (Nat.lt_of_lt_of_le (Nat.lt_of_lt_of_eq Ej_2.lt O0.1) g1))) hZ (w64 hw) (w4 hw) (by decide) (by decide)) q134a q134c (g := (mkF m 25 #[.val (.ref a), .val (.ref r_114), .val (.int (3 : Int32)), .val (.int (2 : Int32)), .val (.ref o2)] [(.ref a), (.ref j2)])) rfl (by rw [hml]; rfl) (Steps.refl _) (argsL := [(.ref a)]) (rest := []) (lenOf pd__28_Ljava_2f_lang_2f_Object_3b__29_Z rfl) rfl (by show 2 * 0 + _ ≤ _; exact Nat.le_of_eq rfl) (hb hby d_prog_11_method_6_25) (fun _ _ => ⟨rfl, e132, (Nat.le_of_ble_eq_true rfl), (Nat.le_of_ble_eq_true rfl)⟩)
  dsimp only [Pt.U, Pt.locs, Pt.cells, Pt.slots] at X134 l134 y134 z134 st134 hQ134
  subst l134 y134 z134
  obtain ⟨rfl, Nq134, eq134⟩ := hQ134
  have N134 := Fr.app N128 Nq134
  obtain ⟨_, _, ⟨T136, L136, k136, n136⟩, -, X136, ⟨Lc136, hQ136, l136, y136, z136⟩, st136⟩ := Jvm.LawKit.callS X134 hx (y := yn17) hown (mvT hZ (w105 hw)) (mvT hZ (w106 hw)) (mvT hZ (w72 hw)) (mvT hZ (w107 hw)) (by decide) (backOf (W := 0) (rm_opEmpty l Z a0 hw [] oE T113.heap n0 (Nat.le_trans Z0 K113.1) O117 S_EMPTY) hZ (w107 hw) (w72 hw) (by decide) (by decide)) (g := (mkF m 43 #[.val (.ref a), .val (.ref r_114), .val (.int (3 : Int32)), .val (.int (3 : Int32)), .val (.ref o2)] [])) rfl (by rw [hml]; rfl) (argsL := []) (rest := []) (lenOf pd__28__29_Ljava_2f_util_2f_Optional_3b_ rfl) rfl (by show 2 * 0 + _ ≤ _; exact Nat.le_of_eq rfl) (hb hby d_prog_11_method_6_43) (fun _ _ => ⟨rfl, eq134, (Nat.le_of_ble_eq_true rfl), (Nat.le_of_ble_eq_true rfl)⟩)
  dsimp only [Pt.U, Pt.locs, Pt.cells, Pt.slots] at X136 l136 y136 z136 st136 hQ136
  subst l136 y136 z136
  obtain ⟨rfl, Nq136, eq136⟩ := hQ136
  have N136 := Fr.app N134 Nq136
  have W137 : ∀ zQ, SS p e below T136 m 46 #[.val (.ref a), .val (.ref r_114), .val (.int (3 : Int32)), .val (.int (3 : Int32)), .val (.ref o2)] [(.ref oE)] zQ → Steps p.tables e below (s₁.setTop (entryFrame m #[(.ref a)] 5)) zQ := by
    intro tt kt
    refine W0 tt ?_
    refine st113 _ ?_
    refine XS.astoreN X113.here hx rfl (hb hby d_prog_11_method_6_3) rfl rfl (l' := #[.val (.ref a), .val (.ref r_114), .unset, .unset, .unset]) rfl ?_
    refine XS.aloadN X113.here hx rfl (hb hby d_prog_11_method_6_4) rfl rfl ?_
    show SS p e below T113 m 5 #[.val (.ref a), .val (.ref r_114), .unset, .unset, .unset] [(.ref r_114)] _
    refine X113.arraylength hx (by first | exact Ar115.1 | (rw [rfl]; exact Ar115.1)) (State.isArrayOf_alike hZ.alike Ar115.2.1) (g := (mkF m 5 #[.val (.ref a), .val (.ref r_114), .unset, .unset, .unset] [(.ref r_114)])) rfl rfl (hb hby d_prog_11_method_6_5) _ ?_
    rw [len_of S115 M115]
    refine XS.istoreN X113.here hx rfl (hb hby d_prog_11_method_6_6) rfl (l' := #[.val (.ref a), .val (.ref r_114), .val (.int (3 : Int32)), .unset, .unset]) rfl ?_
    refine XS.iconst X113.here hx rfl (hb hby d_prog_11_method_6_7) ?_
    refine XS.istoreN X113.here hx rfl (hb hby d_prog_11_method_6_8) rfl (l' := #[.val (.ref a), .val (.ref r_114), .val (.int (3 : Int32)), .val (.int (0 : Int32)), .unset]) rfl ?_
    refine XS.iloadN X113.here hx rfl (hb hby d_prog_11_method_6_9) rfl ?_
    refine XS.iloadN X113.here hx rfl (hb hby d_prog_11_method_6_10) rfl ?_
    show SS p e below T113 m 11 #[.val (.ref a), .val (.ref r_114), .val (.int (3 : Int32)), .val (.int (0 : Int32)), .unset] [(.int (3 : Int32)), (.int (0 : Int32))] _
    refine XS.icmpNo X113.here hx rfl (hb hby d_prog_11_method_6_11) rfl (tlt (by decide)).2.1 ?_
    refine XS.aloadN X113.here hx rfl (hb hby d_prog_11_method_6_14) rfl rfl ?_
    refine XS.iloadN X113.here hx rfl (hb hby d_prog_11_method_6_15) rfl ?_
    show SS p e below T113 m 16 #[.val (.ref a), .val (.ref r_114), .val (.int (3 : Int32)), .val (.int (0 : Int32)), .unset] [(.int (0 : Int32)), (.ref r_114)] _
    refine X113.aaload hx (j := (0 : Int32)) (v := (.ref o0)) (by first | exact Ar116.1 | (rw [rfl]; exact Ar116.1)) (State.isArrayOf_alike hZ.alike Ar116.2.1) rfl Ar116.2.2 hin116 hat116 (g := (mkF m 16 #[.val (.ref a), .val (.ref r_114), .val (.int (3 : Int32)), .val (.int (0 : Int32)), .unset] [(.int (0 : Int32)), (.ref r_114)])) rfl rfl (hb hby d_prog_11_method_6_16) _ ?_
    refine XS.astore X113.here hx rfl (hb hby d_prog_11_method_6_17) rfl rfl (l' := #[.val (.ref a), .val (.ref r_114), .val (.int (3 : Int32)), .val (.int (0 : Int32)), .val (.ref o0)]) rfl ?_
    refine XS.aload X113.here hx rfl (hb hby d_prog_11_method_6_19) rfl rfl ?_
    show SS p e below T113 m 21 #[.val (.ref a), .val (.ref r_114), .val (.int (3 : Int32)), .val (.int (0 : Int32)), .val (.ref o0)] [(.ref o0)] _
    refine st119 _ ?_
    refine XS.aloadN X119.here hx rfl (hb hby d_prog_11_method_6_24) rfl rfl ?_
    show SS p e below T119 m 25 #[.val (.ref a), .val (.ref r_114), .val (.int (3 : Int32)), .val (.int (0 : Int32)), .val (.ref o0)] [(.ref a), (.ref j0)] _
    refine st122.trans ?_
    show SS p e below T122 m 28 #[.val (.ref a), .val (.ref r_114), .val (.int (3 : Int32)), .val (.int (0 : Int32)), .val (.ref o0)] [(.int (if jn0 = cs then (1 : Int32) else (0 : Int32)))] _
    rw [show (if jn0 = cs then (1 : Int32) else (0 : Int32)) = (0 : Int32) from if_neg hn0]
    refine XS.ifYes X122.here hx rfl (pc0 := 28) (pc' := 37) rfl (hb hby d_prog_11_method_6_28) rfl ((if0 _ _).trans (teq (by decide)).1) (by decide) (by decide) ?_
    show SS p e below T122 m 37 #[.val (.ref a), .val (.ref r_114), .val (.int (3 : Int32)), .val (.int (0 : Int32)), .val (.ref o0)] [] _
    refine XS.iinc X122.here hx rfl (hb hby d_prog_11_method_6_37) rfl (l' := #[.val (.ref a), .val (.ref r_114), .val (.int (3 : Int32)), .val (.int (1 : Int32)), .val (.ref o0)]) rfl ?_
    refine XS.goto X122.here hx rfl (pc0 := 40) (pc' := 9) rfl (hb hby d_prog_11_method_6_40) (by decide) (by decide) ?_
    refine XS.iloadN X122.here hx rfl (hb hby d_prog_11_method_6_9) rfl ?_
    refine XS.iloadN X122.here hx rfl (hb hby d_prog_11_method_6_10) rfl ?_
    refine XS.icmpNo X122.here hx rfl (hb hby d_prog_11_method_6_11) rfl (tlt (by decide)).2.1 ?_
    refine XS.aloadN X122.here hx rfl (hb hby d_prog_11_method_6_14) rfl rfl ?_
    show SS p e below T122 m 15 #[.val (.ref a), .val (.ref r_114), .val (.int (3 : Int32)), .val (.int (1 : Int32)), .val (.ref o0)] [(.ref r_114)] _
    refine XS.iloadN X122.here hx rfl (hb hby d_prog_11_method_6_15) rfl ?_
    show SS p e below T122 m 16 #[.val (.ref a), .val (.ref r_114), .val (.int (3 : Int32)), .val (.int (1 : Int32)), .val (.ref o0)] [(.int (1 : Int32)), (.ref r_114)] _
    refine X122.aaload hx (j := (1 : Int32)) (v := (.ref o1)) (by first | exact Ar124.1 | (rw [eq122]; exact Ar124.1)) (State.isArrayOf_alike hZ.alike Ar124.2.1) rfl Ar124.2.2 hin124 hat124 (g := (mkF m 16 #[.val (.ref a), .val (.ref r_114), .val (.int (3 : Int32)), .val (.int (1 : Int32)), .val (.ref o0)] [(.int (1 : Int32)), (.ref r_114)])) rfl rfl (hb hby d_prog_11_method_6_16) _ ?_
    refine XS.astore X122.here hx rfl (hb hby d_prog_11_method_6_17) rfl rfl (l' := #[.val (.ref a), .val (.ref r_114), .val (.int (3 : Int32)), .val (.int (1 : Int32)), .val (.ref o1)]) rfl ?_
    refine XS.aload X122.here hx rfl (hb hby d_prog_11_method_6_19) rfl rfl ?_
    show SS p e below T122 m 21 #[.val (.ref a), .val (.ref r_114), .val (.int (3 : Int32)), .val (.int (1 : Int32)), .val (.ref o1)] [(.ref o1)] _
    refine st126 _ ?_
    refine XS.aloadN X126.here hx rfl (hb hby d_prog_11_method_6_24) rfl rfl ?_
    show SS p e below T126 m 25 #[.val (.ref a), .val (.ref r_114), .val (.int (3 : Int32)), .val (.int (1 : Int32)), .val (.ref o1)] [(.ref a), (.ref j1)] _
    refine st128.trans ?_
    show SS p e below T128 m 28 #[.val (.ref a), .val (.ref r_114), .val (.int (3 : Int32)), .val (.int (1 : Int32)), .val (.ref o1)] [(.int (if jn1 = cs then (1 : Int32) else (0 : Int32)))] _
    rw [show (if jn1 = cs then (1 : Int32) else (0 : Int32)) = (0 : Int32) from if_neg hn1]
    refine XS.ifYes X128.here hx rfl (pc0 := 28) (pc' := 37) rfl (hb hby d_prog_11_method_6_28) rfl ((if0 _ _).trans (teq (by decide)).1) (by decide) (by decide) ?_
    show SS p e below T128 m 37 #[.val (.ref a), .val (.ref r_114), .val (.int (3 : Int32)), .val (.int (1 : Int32)), .val (.ref o1)] [] _
    refine XS.iinc X128.here hx rfl (hb hby d_prog_11_method_6_37) rfl (l' := #[.val (.ref a), .val (.ref r_114), .val (.int (3 : Int32)), .val (.int (2 : Int32)), .val (.ref o1)]) rfl ?_
    refine XS.goto X128.here hx rfl (pc0 := 40) (pc' := 9) rfl (hb hby d_prog_11_method_6_40) (by decide) (by decide) ?_
    refine XS.iloadN X128.here hx rfl (hb hby d_prog_11_method_6_9) rfl ?_
    refine XS.iloadN X128.here hx rfl (hb hby d_prog_11_method_6_10) rfl ?_
    refine XS.icmpNo X128.here hx rfl (hb hby d_prog_11_method_6_11) rfl (tlt (by decide)).2.1 ?_
    refine XS.aloadN X128.here hx rfl (hb hby d_prog_11_method_6_14) rfl rfl ?_
    show SS p e below T128 m 15 #[.val (.ref a), .val (.ref r_114), .val (.int (3 : Int32)), .val (.int (2 : Int32)), .val (.ref o1)] [(.ref r_114)] _
    refine XS.iloadN X128.here hx rfl (hb hby d_prog_11_method_6_15) rfl ?_
    show SS p e below T128 m 16 #[.val (.ref a), .val (.ref r_114), .val (.int (3 : Int32)), .val (.int (2 : Int32)), .val (.ref o1)] [(.int (2 : Int32)), (.ref r_114)] _
    refine X128.aaload hx (j := (2 : Int32)) (v := (.ref o2)) (by first | exact Ar130.1 | (rw [eq128]; exact Ar130.1)) (State.isArrayOf_alike hZ.alike Ar130.2.1) rfl Ar130.2.2 hin130 hat130 (g := (mkF m 16 #[.val (.ref a), .val (.ref r_114), .val (.int (3 : Int32)), .val (.int (2 : Int32)), .val (.ref o1)] [(.int (2 : Int32)), (.ref r_114)])) rfl rfl (hb hby d_prog_11_method_6_16) _ ?_
    refine XS.astore X128.here hx rfl (hb hby d_prog_11_method_6_17) rfl rfl (l' := #[.val (.ref a), .val (.ref r_114), .val (.int (3 : Int32)), .val (.int (2 : Int32)), .val (.ref o2)]) rfl ?_
    refine XS.aload X128.here hx rfl (hb hby d_prog_11_method_6_19) rfl rfl ?_
    show SS p e below T128 m 21 #[.val (.ref a), .val (.ref r_114), .val (.int (3 : Int32)), .val (.int (2 : Int32)), .val (.ref o2)] [(.ref o2)] _
    refine st132 _ ?_
    refine XS.aloadN X132.here hx rfl (hb hby d_prog_11_method_6_24) rfl rfl ?_
    show SS p e below T132 m 25 #[.val (.ref a), .val (.ref r_114), .val (.int (3 : Int32)), .val (.int (2 : Int32)), .val (.ref o2)] [(.ref a), (.ref j2)] _
    refine st134.trans ?_
    show SS p e below T134 m 28 #[.val (.ref a), .val (.ref r_114), .val (.int (3 : Int32)), .val (.int (2 : Int32)), .val (.ref o2)] [(.int (if jn2 = cs then (1 : Int32) else (0 : Int32)))] _
    rw [show (if jn2 = cs then (1 : Int32) else (0 : Int32)) = (0 : Int32) from if_neg hn2]
    refine XS.ifYes X134.here hx rfl (pc0 := 28) (pc' := 37) rfl (hb hby d_prog_11_method_6_28) rfl ((if0 _ _).trans (teq (by decide)).1) (by decide) (by decide) ?_
    show SS p e below T134 m 37 #[.val (.ref a), .val (.ref r_114), .val (.int (3 : Int32)), .val (.int (2 : Int32)), .val (.ref o2)] [] _
    refine XS.iinc X134.here hx rfl (hb hby d_prog_11_method_6_37) rfl (l' := #[.val (.ref a), .val (.ref r_114), .val (.int (3 : Int32)), .val (.int (3 : Int32)), .val (.ref o2)]) rfl ?_
    refine XS.goto X134.here hx rfl (pc0 := 40) (pc' := 9) rfl (hb hby d_prog_11_method_6_40) (by decide) (by decide) ?_
    refine XS.iloadN X134.here hx rfl (hb hby d_prog_11_method_6_9) rfl ?_
    refine XS.iloadN X134.here hx rfl (hb hby d_prog_11_method_6_10) rfl ?_
    refine XS.icmpYes X134.here hx rfl (pc0 := 11) (pc' := 43) rfl (hb hby d_prog_11_method_6_11) rfl (flt (by decide)).2.1 (by decide) (by decide) ?_
    show SS p e below T134 m 43 #[.val (.ref a), .val (.ref r_114), .val (.int (3 : Int32)), .val (.int (3 : Int32)), .val (.ref o2)] [] _
    refine st136 _ ?_
    exact kt
  obtain ⟨fs, hr, hrun, hended, hW, hsame⟩ := X136.leave (v := some (.ref oE)) (fun h => by rw [Bd.returns] at h; cases h)
  refine ⟨_, _, W137 _ (own_retR X136 hx Bd.returns rfl rfl (hb hby d_prog_11_method_6_46) hr), hrun, hended, _, _, rfl, ?_, ⟨_, rfl⟩, hW, hsame.mono (by decide) (by decide)⟩
  show Q_of3 Z a t kb cs o0 o1 o2 oV kV j0 v0 kv0 j1 v1 kv1 j2 v2 kv2 oE cS h0 n0 _ T136.heap _
  rw [eq136]
  exact ⟨rfl, N136, (Keep.trans (Keep.refl h0 []) K113 all0)⟩
def Q_law (Z : State) (sel : Int32) (pos : Int32) (ch : Int32) (len : Int32) (o0 : Addr) (o1 : Addr) (o2 : Addr) (oV : Addr) (kV : ClassId) (j0 : Addr) (v0 : Addr) (kv0 : ClassId) (j1 : Addr) (v1 : Addr) (kv1 : ClassId) (j2 : Addr) (v2 : Addr) (kv2 : ClassId) (oE : Addr) (cS : Int32) (h0 : Heap) (n0 : Nat) (vQ_ : Option Value) (hQ_ : Heap) (LQ_ : List Loc) : Prop := vQ_ = some (.int (1 : Int32)) ∧ Fr n0 LQ_ ∧ Keep h0 hQ_ []
set_option maxRecDepth 65536 in
set_option maxHeartbeats 40000000 in
theorem rm_law (l : Launch) (Z : State) (a0 : Array Value) (hw : HW a0 Z) (ws : List Jvm.Cond) (sel : Int32) (pos : Int32) (ch : Int32) (len : Int32) (o0 : Addr) (o1 : Addr) (o2 : Addr) (oV : Addr) (kV : ClassId) (j0 : Addr) (v0 : Addr) (kv0 : ClassId) (j1 : Addr) (v1 : Addr) (kv1 : ClassId) (j2 : Addr) (v2 : Addr) (kv2 : ClassId) (oE : Addr) (cS : Int32) (h0 : Heap) (n0 : Nat) (Z0 : n0 ≤ h0.size) (O0 : Old Z n0 h0) (S_V : Sta Z Z.heap "com/example/composition/composition/definition/AbapLanguageVersion" "$VALUES" "[Lcom/example/composition/composition/definition/AbapLanguageVersion;" (.ref oV)) (S_0 : Sta Z Z.heap "com/example/composition/composition/definition/AbapLanguageVersion" "STANDARD" "Lcom/example/composition/composition/definition/AbapLanguageVersion;" (.ref o0)) (S_1 : Sta Z Z.heap "com/example/composition/composition/definition/AbapLanguageVersion" "KEY_USER" "Lcom/example/composition/composition/definition/AbapLanguageVersion;" (.ref o1)) (S_2 : Sta Z Z.heap "com/example/composition/composition/definition/AbapLanguageVersion" "CLOUD_DEVELOPMENT" "Lcom/example/composition/composition/definition/AbapLanguageVersion;" (.ref o2)) (E_V : Exa Z Z.heap oV "[Lcom/example/composition/composition/definition/AbapLanguageVersion;") (V_V : Arv Z Z.heap oV kV (.object "com/example/composition/composition/definition/AbapLanguageVersion") (3 : Int32) [(.ref o0), (.ref o1), (.ref o2)] .null) (E_0 : Exa Z Z.heap o0 "com/example/composition/composition/definition/AbapLanguageVersion") (Fj_0 : Fld Z Z.heap o0 "com/example/composition/composition/definition/AbapLanguageVersion" "jsonName" "Ljava/lang/String;" (.ref j0)) (Ej_0 : Exa Z Z.heap j0 "java/lang/String") (Fc_0 : Fld Z Z.heap j0 "java/lang/String" "coder" "B" (.int (0 : Int32))) (Fv_0 : Fld Z Z.heap j0 "java/lang/String" "value" "[B" (.ref v0)) (Vv_0 : Arv Z Z.heap v0 kv0 .byte (8 : Int32) [(.int (115 : Int32)), (.int (116 : Int32)), (.int (97 : Int32)), (.int (110 : Int32)), (.int (100 : Int32)), (.int (97 : Int32)), (.int (114 : Int32)), (.int (100 : Int32))] (.int (0 : Int32))) (E_1 : Exa Z Z.heap o1 "com/example/composition/composition/definition/AbapLanguageVersion") (Fj_1 : Fld Z Z.heap o1 "com/example/composition/composition/definition/AbapLanguageVersion" "jsonName" "Ljava/lang/String;" (.ref j1)) (Ej_1 : Exa Z Z.heap j1 "java/lang/String") (Fc_1 : Fld Z Z.heap j1 "java/lang/String" "coder" "B" (.int (0 : Int32))) (Fv_1 : Fld Z Z.heap j1 "java/lang/String" "value" "[B" (.ref v1)) (Vv_1 : Arv Z Z.heap v1 kv1 .byte (7 : Int32) [(.int (107 : Int32)), (.int (101 : Int32)), (.int (121 : Int32)), (.int (85 : Int32)), (.int (115 : Int32)), (.int (101 : Int32)), (.int (114 : Int32))] (.int (0 : Int32))) (E_2 : Exa Z Z.heap o2 "com/example/composition/composition/definition/AbapLanguageVersion") (Fj_2 : Fld Z Z.heap o2 "com/example/composition/composition/definition/AbapLanguageVersion" "jsonName" "Ljava/lang/String;" (.ref j2)) (Ej_2 : Exa Z Z.heap j2 "java/lang/String") (Fc_2 : Fld Z Z.heap j2 "java/lang/String" "coder" "B" (.int (0 : Int32))) (Fv_2 : Fld Z Z.heap j2 "java/lang/String" "value" "[B" (.ref v2)) (Vv_2 : Arv Z Z.heap v2 kv2 .byte (16 : Int32) [(.int (99 : Int32)), (.int (108 : Int32)), (.int (111 : Int32)), (.int (117 : Int32)), (.int (100 : Int32)), (.int (68 : Int32)), (.int (101 : Int32)), (.int (118 : Int32)), (.int (101 : Int32)), (.int (108 : Int32)), (.int (111 : Int32)), (.int (112 : Int32)), (.int (109 : Int32)), (.int (101 : Int32)), (.int (110 : Int32)), (.int (116 : Int32))] (.int (0 : Int32))) (S_EMPTY : Sta Z Z.heap "java/util/Optional" "EMPTY" "Ljava/util/Optional;" (.ref oE)) (E_EMPTY : Exa Z Z.heap oE "java/util/Optional") (F_EMPTY : Fld Z Z.heap oE "java/util/Optional" "value" "Ljava/lang/Object;" .null) (S_cs : Sta Z Z.heap "java/lang/String" "COMPACT_STRINGS" "Z" (.int cS)) (hcS : ¬ (cS = (0 : Int32))) :
    MetFree l x (head1 (Jvm.Cond.code x code maxLocals ret :: ws) room_1) (fun aQ_ UQ => aQ_ = #[(.int sel), (.int pos), (.int ch), (.int len)] ∧ Z.Warmed39 UQ.vm ∧ UQ.heap = h0 ∧ CHv Z EL_1 UQ.vm h0) (fun _ _ _ _ _ => True) (fun _ UQ oQ UQ' => ∃ vQ_ LQ_, oQ = .returned vQ_ ∧ Q_law Z sel pos ch len o0 o1 o2 oV kV j0 v0 kv0 j1 v1 kv1 j2 v2 kv2 oE cS h0 n0 vQ_ UQ'.heap LQ_ ∧ CHr Z EL_1 UQ.vm UQ.heap UQ'.vm UQ'.heap ∧ ReturnedEndW UQ oQ UQ' LQ_ room_1.cells room_1.slots) := by
  refine MetFree.of_bodySF (plainFor_of_name pn_com_example_composition_composition_definition_AbapLanguageVersionOfJsonNamePinLaw) hisR ?_
  intro p e s m args below meth cO s₁ Bd hml0 hP hK
  obtain ⟨rfl, hZ, hh, hH⟩ := hP
  have hx := Bd.exec
  have hby := Bd.bytes
  have hml : cO.maxLocals = 14 := hml0
  have hown : s.vm.findClass "com/example/composition/composition/definition/AbapLanguageVersionOfJsonNamePinLaw" = some m.cls := findClass_of_methodNamed Bd.named
  have hnm := (name_of_methodNamed Bd.named Bd.method).1
  have X0 : Stand p l e room_1 (s.setVm s.vm) m #[(.int sel), (.int pos), (.int ch), (.int len)] below meth cO s₁ [] 0 0 := Stand.of_body Bd
  have e0 : s₁.heap = h0 := by rw [← hh, Bd.state]; rfl
  have N0 := Fr.nil n0
  have hZ0 : Z.Warmed39 (s.setVm s.vm).vm := hZ
  have hown0 : (s.setVm s.vm).vm.findClass "com/example/composition/composition/definition/AbapLanguageVersionOfJsonNamePinLaw" = some m.cls := hown
  have hS0 : s.Since s.vm 0 := (State.WarmedH.refl s).since 0
  have hk0 : 0 ≤ h0.size := Nat.zero_le _
  have hEL : EW Z a0 EL_1 := own_EW hw
  have R0 : CHr Z EL_1 s.vm h0 s.vm h0 := CHr.refl hH
  have W0 : ∀ zQ, SS p e below s₁ m 0 #[.val (.int sel), .val (.int pos), .val (.int ch), .val (.int len), .unset, .unset, .unset, .unset, .unset, .unset, .unset, .unset, .unset, .unset] [] zQ → Steps p.tables e below (s₁.setTop (entryFrame m #[(.int sel), (.int pos), (.int ch), (.int len)] maxLocals)) zQ := fun tt kt => castTop (ef_law m sel pos ch len) kt
  obtain ⟨kq, h_kq⟩ : ∃ z : Int32, z = ((sel &&& (2147483647 : Int32)) % (3 : Int32)) := ⟨_, rfl⟩
  obtain ⟨md, h_md⟩ : ∃ z : Int32, z = ((((sel.toUInt32 >>> ((8 : Int32) &&& 31).toUInt32).toInt32) &&& (16777215 : Int32)) % (5 : Int32)) := ⟨_, rfl⟩
  have W101 : ∀ zQ, SS p e below s₁ m 17 #[.val (.int sel), .val (.int pos), .val (.int ch), .val (.int len), .val (.int kq), .unset, .unset, .unset, .unset, .unset, .unset, .unset, .unset, .unset] [(.int md)] zQ → Steps p.tables e below (s₁.setTop (entryFrame m #[(.int sel), (.int pos), (.int ch), (.int len)] maxLocals)) zQ := by
    intro tt kt
    refine W0 tt ?_
    refine XS.iloadN X0.here hx rfl (hb hby at_0) rfl ?_
    show SS p e below s₁ m 1 #[.val (.int sel), .val (.int pos), .val (.int ch), .val (.int len), .unset, .unset, .unset, .unset, .unset, .unset, .unset, .unset, .unset, .unset] [(.int sel)] _
    refine X0.ldcInt hx hown0 (mvT hZ0 (w0 hw)) (g := (mkF m 1 #[.val (.int sel), .val (.int pos), .val (.int ch), .val (.int len), .unset, .unset, .unset, .unset, .unset, .unset, .unset, .unset, .unset, .unset] [(.int sel)])) rfl (hb hby at_1) _ ?_
    refine XS.iand X0.here hx rfl (hb hby at_3) rfl ?_
    refine XS.iconst X0.here hx rfl (hb hby at_4) ?_
    show SS p e below s₁ m 5 #[.val (.int sel), .val (.int pos), .val (.int ch), .val (.int len), .unset, .unset, .unset, .unset, .unset, .unset, .unset, .unset, .unset, .unset] [(.int (3 : Int32)), (.int (sel &&& (2147483647 : Int32)))] _
    refine Jvm.RoadKit.iremM X0 hx rfl (hb hby at_5) rfl (by decide) ?_
    show SS p e below s₁ m 6 #[.val (.int sel), .val (.int pos), .val (.int ch), .val (.int len), .unset, .unset, .unset, .unset, .unset, .unset, .unset, .unset, .unset, .unset] [(.int ((sel &&& (2147483647 : Int32)) % (3 : Int32)))] _
    rw [← h_kq]
    refine XS.istore X0.here hx rfl (hb hby at_6) rfl (l' := #[.val (.int sel), .val (.int pos), .val (.int ch), .val (.int len), .val (.int kq), .unset, .unset, .unset, .unset, .unset, .unset, .unset, .unset, .unset]) rfl ?_
    refine XS.iloadN X0.here hx rfl (hb hby at_8) rfl ?_
    refine XS.bipush X0.here hx rfl (hb hby at_9) ?_
    refine XS.iushr X0.here hx rfl (hb hby at_11) rfl ?_
    show SS p e below s₁ m 12 #[.val (.int sel), .val (.int pos), .val (.int ch), .val (.int len), .val (.int kq), .unset, .unset, .unset, .unset, .unset, .unset, .unset, .unset, .unset] [(.int ((sel.toUInt32 >>> ((8 : Int32) &&& 31).toUInt32).toInt32))] _
    refine X0.ldcInt hx hown0 (mvT hZ0 (w1 hw)) (g := (mkF m 12 #[.val (.int sel), .val (.int pos), .val (.int ch), .val (.int len), .val (.int kq), .unset, .unset, .unset, .unset, .unset, .unset, .unset, .unset, .unset] [(.int ((sel.toUInt32 >>> ((8 : Int32) &&& 31).toUInt32).toInt32))])) rfl (hb hby at_12) _ ?_
    refine XS.iand X0.here hx rfl (hb hby at_14) rfl ?_
    refine XS.iconst X0.here hx rfl (hb hby at_15) ?_
    show SS p e below s₁ m 16 #[.val (.int sel), .val (.int pos), .val (.int ch), .val (.int len), .val (.int kq), .unset, .unset, .unset, .unset, .unset, .unset, .unset, .unset, .unset] [(.int (5 : Int32)), (.int (((sel.toUInt32 >>> ((8 : Int32) &&& 31).toUInt32).toInt32) &&& (16777215 : Int32)))] _
    refine Jvm.RoadKit.iremM X0 hx rfl (hb hby at_16) rfl (by decide) ?_
    show SS p e below s₁ m 17 #[.val (.int sel), .val (.int pos), .val (.int ch), .val (.int len), .val (.int kq), .unset, .unset, .unset, .unset, .unset, .unset, .unset, .unset, .unset] [(.int ((((sel.toUInt32 >>> ((8 : Int32) &&& 31).toUInt32).toInt32) &&& (16777215 : Int32)) % (5 : Int32)))] _
    rw [← h_md]
    exact kt
  rcases (h_md ▸ own_r5 _ : md = 0 ∨ md = 1 ∨ md = 2 ∨ md = 3 ∨ md = 4) with rfl | rfl | rfl | rfl | rfl
  ·
    obtain ⟨cz, h_cz⟩ : ∃ z : Int32, z = ((ch &&& (255 : Int32)).toUInt32.toUInt16.toUInt32.toInt32) := ⟨_, rfl⟩
    have hcz : B8 cz := by rw [h_cz]; exact own_c8 _
    obtain ⟨cy, h_cy⟩ : ∃ z : Int32, z = ((((ch.toUInt32 >>> ((8 : Int32) &&& 31).toUInt32).toInt32) &&& (255 : Int32)).toUInt32.toUInt16.toUInt32.toInt32) := ⟨_, rfl⟩
    have hcy : B8 cy := by rw [h_cy]; exact own_c8 _
    obtain ⟨cx, h_cx⟩ : ∃ z : Int32, z = ((((ch.toUInt32 >>> ((16 : Int32) &&& 31).toUInt32).toInt32) &&& (255 : Int32)).toUInt32.toUInt16.toUInt32.toInt32) := ⟨_, rfl⟩
    have hcx : B8 cx := by rw [h_cx]; exact own_c8 _
    obtain ⟨T102, h102, X102, e102, E102, A102, D102, U102, st102⟩ := newO X0 hx hZ0 hown0 (w2 hw) (w3 hw) (w4 hw) e0 (g := (mkF m 54 #[.val (.int sel), .val (.int pos), .val (.int ch), .val (.int len), .val (.int kq), .val (.int (0 : Int32)), .val (.int cz), .val (.int cy), .val (.int cx), .unset, .unset, .unset, .unset, .unset] [])) rfl (hb hby at_54) (by decide) (by decide)
    obtain ⟨b102, g102⟩ : ∃ z, z = h0.size := ⟨_, rfl⟩
    rw [← g102] at A102 D102 U102 st102
    have K102 := (Keep.refl h0 []).ext E102
    have R103 : CHr Z EL_1 s.vm h0 s.vm h102 := R0.trans (CHr.keep K102 sf0 R0.1)
    have G102_coder : Fld Z h102 b102 "java/lang/String" "coder" "B" (.int (0 : Int32)) := D102 (Or.inr (w33 hw)) (ty := .byte) (by decide)
    have G102_value : Fld Z h102 b102 "java/lang/String" "value" "[B" .null := D102 (Or.inr (w35 hw)) (ty := (.array .byte)) (by decide)
    have W104 : ∀ zQ, SS p e below T102 m 58 #[.val (.int sel), .val (.int pos), .val (.int ch), .val (.int len), .val (.int kq), .val (.int (0 : Int32)), .val (.int cz), .val (.int cy), .val (.int cx), .unset, .unset, .unset, .unset, .unset] [(.ref b102), (.ref b102)] zQ → Steps p.tables e below (s₁.setTop (entryFrame m #[(.int sel), (.int pos), (.int ch), (.int len)] maxLocals)) zQ := by
      intro tt kt
      refine W101 tt ?_
      refine XS.istore X0.here hx rfl (hb hby at_17) rfl (l' := #[.val (.int sel), .val (.int pos), .val (.int ch), .val (.int len), .val (.int kq), .val (.int (0 : Int32)), .unset, .unset, .unset, .unset, .unset, .unset, .unset, .unset]) rfl ?_
      refine XS.iloadN X0.here hx rfl (hb hby at_19) rfl ?_
      refine XS.sipush X0.here hx rfl (hb hby at_20) ?_
      refine XS.iand X0.here hx rfl (hb hby at_23) rfl ?_
      refine XS.i2c X0.here hx rfl (hb hby at_24) rfl ?_
      show SS p e below s₁ m 25 #[.val (.int sel), .val (.int pos), .val (.int ch), .val (.int len), .val (.int kq), .val (.int (0 : Int32)), .unset, .unset, .unset, .unset, .unset, .unset, .unset, .unset] [(.int ((ch &&& (255 : Int32)).toUInt32.toUInt16.toUInt32.toInt32))] _
      rw [← h_cz]
      refine XS.istore X0.here hx rfl (hb hby at_25) rfl (l' := #[.val (.int sel), .val (.int pos), .val (.int ch), .val (.int len), .val (.int kq), .val (.int (0 : Int32)), .val (.int cz), .unset, .unset, .unset, .unset, .unset, .unset, .unset]) rfl ?_
      refine XS.iloadN X0.here hx rfl (hb hby at_27) rfl ?_
      refine XS.bipush X0.here hx rfl (hb hby at_28) ?_
      refine XS.iushr X0.here hx rfl (hb hby at_30) rfl ?_
      refine XS.sipush X0.here hx rfl (hb hby at_31) ?_
      show SS p e below s₁ m 34 #[.val (.int sel), .val (.int pos), .val (.int ch), .val (.int len), .val (.int kq), .val (.int (0 : Int32)), .val (.int cz), .unset, .unset, .unset, .unset, .unset, .unset, .unset] [(.int (255 : Int32)), (.int ((ch.toUInt32 >>> ((8 : Int32) &&& 31).toUInt32).toInt32))] _
      refine XS.iand X0.here hx rfl (hb hby at_34) rfl ?_
      refine XS.i2c X0.here hx rfl (hb hby at_35) rfl ?_
      show SS p e below s₁ m 36 #[.val (.int sel), .val (.int pos), .val (.int ch), .val (.int len), .val (.int kq), .val (.int (0 : Int32)), .val (.int cz), .unset, .unset, .unset, .unset, .unset, .unset, .unset] [(.int ((((ch.toUInt32 >>> ((8 : Int32) &&& 31).toUInt32).toInt32) &&& (255 : Int32)).toUInt32.toUInt16.toUInt32.toInt32))] _
      rw [← h_cy]
      refine XS.istore X0.here hx rfl (hb hby at_36) rfl (l' := #[.val (.int sel), .val (.int pos), .val (.int ch), .val (.int len), .val (.int kq), .val (.int (0 : Int32)), .val (.int cz), .val (.int cy), .unset, .unset, .unset, .unset, .unset, .unset]) rfl ?_
      refine XS.iloadN X0.here hx rfl (hb hby at_38) rfl ?_
      refine XS.bipush X0.here hx rfl (hb hby at_39) ?_
      refine XS.iushr X0.here hx rfl (hb hby at_41) rfl ?_
      refine XS.sipush X0.here hx rfl (hb hby at_42) ?_
      show SS p e below s₁ m 45 #[.val (.int sel), .val (.int pos), .val (.int ch), .val (.int len), .val (.int kq), .val (.int (0 : Int32)), .val (.int cz), .val (.int cy), .unset, .unset, .unset, .unset, .unset, .unset] [(.int (255 : Int32)), (.int ((ch.toUInt32 >>> ((16 : Int32) &&& 31).toUInt32).toInt32))] _
      refine XS.iand X0.here hx rfl (hb hby at_45) rfl ?_
      refine XS.i2c X0.here hx rfl (hb hby at_46) rfl ?_
      show SS p e below s₁ m 47 #[.val (.int sel), .val (.int pos), .val (.int ch), .val (.int len), .val (.int kq), .val (.int (0 : Int32)), .val (.int cz), .val (.int cy), .unset, .unset, .unset, .unset, .unset, .unset] [(.int ((((ch.toUInt32 >>> ((16 : Int32) &&& 31).toUInt32).toInt32) &&& (255 : Int32)).toUInt32.toUInt16.toUInt32.toInt32))] _
      rw [← h_cx]
      refine XS.istore X0.here hx rfl (hb hby at_47) rfl (l' := #[.val (.int sel), .val (.int pos), .val (.int ch), .val (.int len), .val (.int kq), .val (.int (0 : Int32)), .val (.int cz), .val (.int cy), .val (.int cx), .unset, .unset, .unset, .unset, .unset]) rfl ?_
      refine XS.iload X0.here hx rfl (hb hby at_49) rfl ?_
      refine XS.ifNo X0.here hx rfl (hb hby at_51) rfl ((if0 _ _).trans (teq (by decide)).2) ?_
      show SS p e below s₁ m 54 #[.val (.int sel), .val (.int pos), .val (.int ch), .val (.int len), .val (.int kq), .val (.int (0 : Int32)), .val (.int cz), .val (.int cy), .val (.int cx), .unset, .unset, .unset, .unset, .unset] [] _
      refine st102 _ ?_
      refine XS.dup X102.here hx rfl (hb hby at_57) rfl rfl ?_
      exact kt
    rcases (h_kq ▸ own_r3 _ : kq = 0 ∨ kq = 1 ∨ kq = 2) with rfl | rfl | rfl
    ·
      obtain ⟨_, _, ⟨T105, L105, k105, n105⟩, -, X105, ⟨Lc105, hQ105, l105, y105, z105⟩, st105⟩ := Jvm.LawKit.callS X102 hx (y := yn11) hown0 (mvT hZ0 (w5 hw)) (mvT hZ0 (w6 hw)) (mvT hZ0 (w7 hw)) (mvT hZ0 (w8 hw)) (by decide) (backOf (W := 2) (rm_full0 l Z a0 hw []  h102 n0 (Nat.le_trans Z0 K102.1) ) hZ0 (w8 hw) (w7 hw) (by decide) (by decide)) (g := (mkF m 60 #[.val (.int sel), .val (.int pos), .val (.int ch), .val (.int len), .val (.int (0 : Int32)), .val (.int (0 : Int32)), .val (.int cz), .val (.int cy), .val (.int cx), .unset, .unset, .unset, .unset, .unset] [(.int (0 : Int32)), (.ref b102), (.ref b102)])) rfl (by rw [hml]; rfl) (argsL := [(.int (0 : Int32))]) (rest := [(.ref b102), (.ref b102)]) (lenOf pd__28_I_29__5b_C rfl) rfl (by show 2 * 0 + _ ≤ _; exact Nat.le_of_eq rfl) (hb hby at_60) (fun _ _ => ⟨rfl, e102, (Nat.le_of_ble_eq_true rfl), (Nat.le_of_ble_eq_true rfl)⟩)
      dsimp only [Pt.U, Pt.locs, Pt.cells, Pt.slots] at X105 l105 y105 z105 st105 hQ105
      subst l105 y105 z105
      obtain ⟨r_106, kr_107, rfl, Nq105, K105, P105_0, P105_1⟩ := hQ105
      have N105 := Fr.app N0 Nq105
      have R108 : CHr Z EL_1 s.vm h0 s.vm T105.heap := R103.trans (CHr.keep K105 sf0 R103.1)
      have hk109 := own_okl (l := jn0) (by decide) (Nat.le_of_ble_eq_true rfl)
      have F110 : Exa Z T105.heap b102 "java/lang/String" := (A102.keep K105)
      have F111 : Fld Z T105.heap b102 "java/lang/String" "value" "[B" .null := (G102_value.keep K105 nin0)
      have F112 : Fld Z T105.heap b102 "java/lang/String" "coder" "B" (.int (0 : Int32)) := (G102_coder.keep K105 nin0)
      have O113 : Old Z n0 T105.heap := ((O0.keep K102 all0).keep K105 all0)
      obtain ⟨_, _, ⟨T114, L114, k114, n114⟩, -, X114, ⟨Lc114, hQ114, l114, y114, z114⟩, st114⟩ := X105.specialBack hx (y := yn4) rfl hown0 (mvT hZ0 (w10 hw)) (mvT hZ0 (w11 hw)) (mvT hZ0 (w12 hw)) (by decide) (backOf (W := 1) (rm_sinit l Z a0 hw [] b102 r_106 kr_107 jn0 cS T105.heap n0 (Nat.le_trans Z0 (Nat.le_trans K102.1 K105.1)) O113 S_cs hcS F110 F111 F112 (Nat.le_trans Z0 (Nat.le_of_eq g102.symm)) P105_1 hk109.1 (Nat.le_of_ble_eq_true rfl) (Nat.le_of_ble_eq_true rfl) (Nat.ne_of_lt (Nat.lt_of_lt_of_le A102.lt P105_0)) hk109.2) hZ0 (w12 hw) (w4 hw) (by decide) (by decide)) (g := (mkF m 63 #[.val (.int sel), .val (.int pos), .val (.int ch), .val (.int len), .val (.int (0 : Int32)), .val (.int (0 : Int32)), .val (.int cz), .val (.int cy), .val (.int cx), .unset, .unset, .unset, .unset, .unset] [(.ref r_106), (.ref b102), (.ref b102)])) rfl (by rw [hml]; rfl) (Steps.refl _) (a := b102) (argsL := [(.ref r_106)]) (rest := [(.ref b102)]) (lenOf pd__28__5b_C_29_V rfl) rfl (by show 2 * 0 + _ ≤ _; exact Nat.le_of_eq rfl) (hb hby at_63) (fun _ _ => ⟨rfl, rfl, (Nat.le_of_ble_eq_true rfl), (Nat.le_of_ble_eq_true rfl)⟩)
      dsimp only [Pt.U, Pt.locs, Pt.cells, Pt.slots] at X114 l114 y114 z114 st114 hQ114
      subst l114 y114 z114
      obtain ⟨t_115, kb_116, rfl, Nq114, K114, P114_0, P114_1⟩ := hQ114
      have N114 := Fr.app N105 Nq114
      have Sf117 : Safe Z EL_1 s.vm T105.heap b102 := (Safe.keep K105 sf0 R103.1 (Safe.keep K102 sf0 R0.1 (Safe.new (Nat.le_of_eq g102.symm))))
      have R118 : CHr Z EL_1 s.vm h0 s.vm T114.heap := R108.trans (CHr.keep K114 (sfS Sf117 sf0) R108.1)
      have O119 : Old Z n0 T114.heap := (O113.keep K114 (allS (Nat.le_trans Z0 (Nat.le_of_eq g102.symm)) all0))
      obtain ⟨_, _, ⟨T120, L120, k120, n120⟩, -, X120, ⟨Lc120, hQ120, l120, y120, z120⟩, st120⟩ := Jvm.LawKit.callS X114 hx (y := yn22) hown0 (mvT hZ0 (w36 hw)) (mvT hZ0 (w37 hw)) (mvT hZ0 (w38 hw)) (mvT hZ0 (w39 hw)) (by decide) (backOf (W := 0) (rm_of0 l Z a0 hw [] b102 t_115 kb_116 jn0 o0 o1 o2 oV kV j0 v0 kv0 j1 v1 kv1 j2 v2 kv2 oE cS T114.heap n0 (Nat.le_trans Z0 (Nat.le_trans (Nat.le_trans K102.1 K105.1) K114.1)) O119 S_V S_0 S_1 S_2 E_V V_V E_0 Fj_0 Ej_0 Fc_0 Fv_0 Vv_0 E_1 Fj_1 Ej_1 Fc_1 Fv_1 Vv_1 E_2 Fj_2 Ej_2 Fc_2 Fv_2 Vv_2 S_EMPTY E_EMPTY F_EMPTY S_cs hcS P114_1 hk109.2 (Nat.le_trans Z0 (Nat.le_of_eq g102.symm)) rfl) hZ0 (w39 hw) (w38 hw) (by decide) (by decide)) (g := (mkF m 299 #[.val (.int sel), .val (.int pos), .val (.int ch), .val (.int len), .val (.int (0 : Int32)), .val (.int (0 : Int32)), .val (.int cz), .val (.int cy), .val (.int cx), .val (.ref b102), .val (.int (0 : Int32)), .unset, .unset, .unset] [(.ref b102)])) rfl (by rw [hml]; rfl) (argsL := [(.ref b102)]) (rest := []) (lenOf pd__28_Ljava_2f_lang_2f_String_3b__29_Ljava_2f_util_2f_Optional_3b_ rfl) rfl (by show 2 * 0 + _ ≤ _; exact Nat.le_of_eq rfl) (hb hby at_299) (fun _ _ => ⟨rfl, rfl, (Nat.le_of_ble_eq_true rfl), (Nat.le_of_ble_eq_true rfl)⟩)
      dsimp only [Pt.U, Pt.locs, Pt.cells, Pt.slots] at X120 l120 y120 z120 st120 hQ120
      subst l120 y120 z120
      obtain ⟨r_121, rfl, Nq120, K120, P120_0, P120_1, P120_2⟩ := hQ120
      have N120 := Fr.app N114 Nq120
      have R122 : CHr Z EL_1 s.vm h0 s.vm T120.heap := R118.trans (CHr.keep K120 sf0 R118.1)
      obtain ⟨cq123, kq123, q123a, q123b, q123c⟩ := isOf hZ0 rfl P120_1
      obtain ⟨_, _, ⟨T123, L123, k123, n123⟩, -, X123, ⟨Lc123, hQ123, l123, y123, z123⟩, st123⟩ := X120.virtualBack hx (y := yn18) (z := yn18) hown0 (mvT hZ0 (w87 hw)) (mvT hZ0 (w88 hw)) (notFace_of_selects (args := #[]) (mvT hZ0 (w90 hw))) (mvT hZ0 (w90 hw)) (mvT hZ0 (w89 hw)) (by decide) (backOf (W := 0) (rm_isP1 l Z a0 hw [] r_121 o0 T120.heap n0 (Nat.le_trans Z0 (Nat.le_trans (Nat.le_trans (Nat.le_trans K102.1 K105.1) K114.1) K120.1)) P120_2) hZ0 (w91 hw) (w72 hw) (by decide) (by decide)) q123a q123c (g := (mkF m 325 #[.val (.int sel), .val (.int pos), .val (.int ch), .val (.int len), .val (.int (0 : Int32)), .val (.int (0 : Int32)), .val (.int cz), .val (.int cy), .val (.int cx), .val (.ref b102), .val (.int (0 : Int32)), .val (.ref r_121), .unset, .unset] [(.ref r_121)])) rfl (by rw [hml]; rfl) (Steps.refl _) (argsL := []) (rest := []) (lenOf pd__28__29_Z rfl) rfl (by show 2 * 0 + _ ≤ _; exact Nat.le_of_eq rfl) (hb hby at_325) (fun _ _ => ⟨rfl, rfl, (Nat.le_of_ble_eq_true rfl), (Nat.le_of_ble_eq_true rfl)⟩)
      dsimp only [Pt.U, Pt.locs, Pt.cells, Pt.slots] at X123 l123 y123 z123 st123 hQ123
      subst l123 y123 z123
      obtain ⟨rfl, Nq123, eq123⟩ := hQ123
      have N123 := Fr.app N120 Nq123
      obtain ⟨cq124, kq124, q124a, q124b, q124c⟩ := isOf hZ0 eq123 P120_1
      obtain ⟨_, _, ⟨T124, L124, k124, n124⟩, -, X124, ⟨Lc124, hQ124, l124, y124, z124⟩, st124⟩ := X123.virtualBack hx (y := yn19) (z := yn19) hown0 (mvT hZ0 (w92 hw)) (mvT hZ0 (w93 hw)) (notFace_of_selects (args := #[]) (mvT hZ0 (w95 hw))) (mvT hZ0 (w95 hw)) (mvT hZ0 (w94 hw)) (by decide) (backOf (W := 0) (rm_opGet l Z a0 hw [] r_121 o0 T120.heap n0 (Nat.le_trans Z0 (Nat.le_trans (Nat.le_trans (Nat.le_trans K102.1 K105.1) K114.1) K120.1)) P120_2) hZ0 (w96 hw) (w72 hw) (by decide) (by decide)) q124a q124c (g := (mkF m 333 #[.val (.int sel), .val (.int pos), .val (.int ch), .val (.int len), .val (.int (0 : Int32)), .val (.int (0 : Int32)), .val (.int cz), .val (.int cy), .val (.int cx), .val (.ref b102), .val (.int (0 : Int32)), .val (.ref r_121), .unset, .unset] [(.ref r_121)])) rfl (by rw [hml]; rfl) (Steps.refl _) (argsL := []) (rest := []) (lenOf pd__28__29_Ljava_2f_lang_2f_Object_3b_ rfl) rfl (by show 2 * 0 + _ ≤ _; exact Nat.le_of_eq rfl) (hb hby at_333) (fun _ _ => ⟨rfl, eq123, (Nat.le_of_ble_eq_true rfl), (Nat.le_of_ble_eq_true rfl)⟩)
      dsimp only [Pt.U, Pt.locs, Pt.cells, Pt.slots] at X124 l124 y124 z124 st124 hQ124
      subst l124 y124 z124
      obtain ⟨rfl, Nq124, eq124⟩ := hQ124
      have N124 := Fr.app N123 Nq124
      have O125 : Old Z n0 T120.heap := (O119.keep K120 all0)
      obtain ⟨_, _, ⟨T126, L126, k126, n126⟩, -, X126, ⟨Lc126, hQ126, l126, y126, z126⟩, st126⟩ := Jvm.LawKit.callS X124 hx (y := yn20) hown0 (mvT hZ0 (w97 hw)) (mvT hZ0 (w98 hw)) (mvT hZ0 (w7 hw)) (mvT hZ0 (w99 hw)) (by decide) (backOf (W := 1) (rm_const0 l Z a0 hw [] o0 T120.heap n0 (Nat.le_trans Z0 (Nat.le_trans (Nat.le_trans (Nat.le_trans K102.1 K105.1) K114.1) K120.1)) O125 S_0) hZ0 (w99 hw) (w7 hw) (by decide) (by decide)) (g := (mkF m 338 #[.val (.int sel), .val (.int pos), .val (.int ch), .val (.int len), .val (.int (0 : Int32)), .val (.int (0 : Int32)), .val (.int cz), .val (.int cy), .val (.int cx), .val (.ref b102), .val (.int (0 : Int32)), .val (.ref r_121), .unset, .unset] [(.int (0 : Int32)), (.ref o0)])) rfl (by rw [hml]; rfl) (argsL := [(.int (0 : Int32))]) (rest := [(.ref o0)]) (lenOf pd__28_I_29_Lcom_2f_example_2f_composition_2f_composition_2f_definition_2f_AbapLanguageVersion_3b_ rfl) rfl (by show 2 * 0 + _ ≤ _; exact Nat.le_of_eq rfl) (hb hby at_338) (fun _ _ => ⟨rfl, eq124, (Nat.le_of_ble_eq_true rfl), (Nat.le_of_ble_eq_true rfl)⟩)
      dsimp only [Pt.U, Pt.locs, Pt.cells, Pt.slots] at X126 l126 y126 z126 st126 hQ126
      subst l126 y126 z126
      obtain ⟨rfl, Nq126, eq126⟩ := hQ126
      have N126 := Fr.app N124 Nq126
      have W127 : ∀ zQ, SS p e below T126 m 349 #[.val (.int sel), .val (.int pos), .val (.int ch), .val (.int len), .val (.int (0 : Int32)), .val (.int (0 : Int32)), .val (.int cz), .val (.int cy), .val (.int cx), .val (.ref b102), .val (.int (0 : Int32)), .val (.ref r_121), .unset, .unset] [(.int (1 : Int32))] zQ → Steps p.tables e below (s₁.setTop (entryFrame m #[(.int sel), (.int pos), (.int ch), (.int len)] maxLocals)) zQ := by
        intro tt kt
        refine W104 tt ?_
        refine XS.iload X102.here hx rfl (hb hby at_58) rfl ?_
        show SS p e below T102 m 60 #[.val (.int sel), .val (.int pos), .val (.int ch), .val (.int len), .val (.int (0 : Int32)), .val (.int (0 : Int32)), .val (.int cz), .val (.int cy), .val (.int cx), .unset, .unset, .unset, .unset, .unset] [(.int (0 : Int32)), (.ref b102), (.ref b102)] _
        refine st105 _ ?_
        show SS p e below T105 m 63 #[.val (.int sel), .val (.int pos), .val (.int ch), .val (.int len), .val (.int (0 : Int32)), .val (.int (0 : Int32)), .val (.int cz), .val (.int cy), .val (.int cx), .unset, .unset, .unset, .unset, .unset] [(.ref r_106), (.ref b102), (.ref b102)] _
        refine st114.trans ?_
        refine XS.astore X114.here hx rfl (hb hby at_66) rfl rfl (l' := #[.val (.int sel), .val (.int pos), .val (.int ch), .val (.int len), .val (.int (0 : Int32)), .val (.int (0 : Int32)), .val (.int cz), .val (.int cy), .val (.int cx), .val (.ref b102), .unset, .unset, .unset, .unset]) rfl ?_
        refine XS.iload X114.here hx rfl (hb hby at_68) rfl ?_
        refine XS.istore X114.here hx rfl (hb hby at_70) rfl (l' := #[.val (.int sel), .val (.int pos), .val (.int ch), .val (.int len), .val (.int (0 : Int32)), .val (.int (0 : Int32)), .val (.int cz), .val (.int cy), .val (.int cx), .val (.ref b102), .val (.int (0 : Int32)), .unset, .unset, .unset]) rfl ?_
        refine XS.goto X114.here hx rfl (pc0 := 72) (pc' := 297) rfl (hb hby at_72) (by decide) (by decide) ?_
        refine XS.aload X114.here hx rfl (hb hby at_297) rfl rfl ?_
        show SS p e below T114 m 299 #[.val (.int sel), .val (.int pos), .val (.int ch), .val (.int len), .val (.int (0 : Int32)), .val (.int (0 : Int32)), .val (.int cz), .val (.int cy), .val (.int cx), .val (.ref b102), .val (.int (0 : Int32)), .unset, .unset, .unset] [(.ref b102)] _
        refine st120 _ ?_
        refine XS.astore X120.here hx rfl (hb hby at_302) rfl rfl (l' := #[.val (.int sel), .val (.int pos), .val (.int ch), .val (.int len), .val (.int (0 : Int32)), .val (.int (0 : Int32)), .val (.int cz), .val (.int cy), .val (.int cx), .val (.ref b102), .val (.int (0 : Int32)), .val (.ref r_121), .unset, .unset]) rfl ?_
        refine XS.iload X120.here hx rfl (hb hby at_304) rfl ?_
        refine XS.ifYes X120.here hx rfl (pc0 := 306) (pc' := 323) rfl (hb hby at_306) rfl ((if0 _ _).trans (flt (by decide)).2.1) (by decide) (by decide) ?_
        refine XS.aload X120.here hx rfl (hb hby at_323) rfl rfl ?_
        show SS p e below T120 m 325 #[.val (.int sel), .val (.int pos), .val (.int ch), .val (.int len), .val (.int (0 : Int32)), .val (.int (0 : Int32)), .val (.int cz), .val (.int cy), .val (.int cx), .val (.ref b102), .val (.int (0 : Int32)), .val (.ref r_121), .unset, .unset] [(.ref r_121)] _
        refine st123.trans ?_
        refine XS.ifNo X123.here hx rfl (hb hby at_328) rfl ((if0 _ _).trans (feq (by decide)).1) ?_
        refine XS.aload X123.here hx rfl (hb hby at_331) rfl rfl ?_
        show SS p e below T123 m 333 #[.val (.int sel), .val (.int pos), .val (.int ch), .val (.int len), .val (.int (0 : Int32)), .val (.int (0 : Int32)), .val (.int cz), .val (.int cy), .val (.int cx), .val (.ref b102), .val (.int (0 : Int32)), .val (.ref r_121), .unset, .unset] [(.ref r_121)] _
        refine st124.trans ?_
        refine XS.iload X124.here hx rfl (hb hby at_336) rfl ?_
        show SS p e below T124 m 338 #[.val (.int sel), .val (.int pos), .val (.int ch), .val (.int len), .val (.int (0 : Int32)), .val (.int (0 : Int32)), .val (.int cz), .val (.int cy), .val (.int cx), .val (.ref b102), .val (.int (0 : Int32)), .val (.ref r_121), .unset, .unset] [(.int (0 : Int32)), (.ref o0)] _
        refine st126 _ ?_
        show SS p e below T126 m 341 #[.val (.int sel), .val (.int pos), .val (.int ch), .val (.int len), .val (.int (0 : Int32)), .val (.int (0 : Int32)), .val (.int cz), .val (.int cy), .val (.int cx), .val (.ref b102), .val (.int (0 : Int32)), .val (.ref r_121), .unset, .unset] [(.ref o0), (.ref o0)] _
        refine Jvm.RoadKit.acmp (g := (mkF m 341 #[.val (.int sel), .val (.int pos), .val (.int ch), .val (.int len), .val (.int (0 : Int32)), .val (.int (0 : Int32)), .val (.int cz), .val (.int cy), .val (.int cx), .val (.ref b102), .val (.int (0 : Int32)), .val (.ref r_121), .unset, .unset] [(.ref o0), (.ref o0)])) X126 hx rfl rfl rfl (pc0 := 341) (pc' := 344) (same := true) rfl (hb hby at_341) rfl (decide_eq_true rfl) (by decide) (by decide) ?_
        refine XS.iconst X126.here hx rfl (hb hby at_344) ?_
        refine XS.goto X126.here hx rfl (pc0 := 345) (pc' := 349) rfl (hb hby at_345) (by decide) (by decide) ?_
        exact kt
      obtain ⟨fs, hr, hrun, hended, hRW⟩ := Jvm.Stand.leaveW X126 hS0 (by rw [eq126]; exact (Nat.le_trans hk0 (Nat.le_trans (Nat.le_trans (Nat.le_trans K102.1 K105.1) K114.1) K120.1))) (v := some (.int (nar .boolean (1 : Int32)))) (fun h => by rw [Bd.returns] at h; cases h) (BodyLoose.notSynchronized Bd)
      refine ⟨_, _, W127 _ (retN X126 hx (t := .boolean) Bd.returns (by simp) (hb hby at_349) hr), hrun, hended, _, _, rfl, ?_, own_chr (T := T126) R122 (CHv.at X126 hZ0 hEL R122.1) hh.symm eq126, own_rw hRW (by decide) (by decide)⟩
      show Q_law Z sel pos ch len o0 o1 o2 oV kV j0 v0 kv0 j1 v1 kv1 j2 v2 kv2 oE cS h0 n0 _ T126.heap _
      rw [eq126]
      exact ⟨rfl, N126, (Keep.trans (Keep.trans (Keep.trans (Keep.trans (Keep.refl h0 []) K102 all0) K105 all0) K114 (allS (Or.inr (Nat.le_of_eq g102.symm)) all0)) K120 all0)⟩
    ·
      obtain ⟨_, _, ⟨T128, L128, k128, n128⟩, -, X128, ⟨Lc128, hQ128, l128, y128, z128⟩, st128⟩ := Jvm.LawKit.callS X102 hx (y := yn11) hown0 (mvT hZ0 (w5 hw)) (mvT hZ0 (w6 hw)) (mvT hZ0 (w7 hw)) (mvT hZ0 (w8 hw)) (by decide) (backOf (W := 2) (rm_full1 l Z a0 hw []  h102 n0 (Nat.le_trans Z0 K102.1) ) hZ0 (w8 hw) (w7 hw) (by decide) (by decide)) (g := (mkF m 60 #[.val (.int sel), .val (.int pos), .val (.int ch), .val (.int len), .val (.int (1 : Int32)), .val (.int (0 : Int32)), .val (.int cz), .val (.int cy), .val (.int cx), .unset, .unset, .unset, .unset, .unset] [(.int (1 : Int32)), (.ref b102), (.ref b102)])) rfl (by rw [hml]; rfl) (argsL := [(.int (1 : Int32))]) (rest := [(.ref b102), (.ref b102)]) (lenOf pd__28_I_29__5b_C rfl) rfl (by show 2 * 0 + _ ≤ _; exact Nat.le_of_eq rfl) (hb hby at_60) (fun _ _ => ⟨rfl, e102, (Nat.le_of_ble_eq_true rfl), (Nat.le_of_ble_eq_true rfl)⟩)
      dsimp only [Pt.U, Pt.locs, Pt.cells, Pt.slots] at X128 l128 y128 z128 st128 hQ128
      subst l128 y128 z128
      obtain ⟨r_129, kr_130, rfl, Nq128, K128, P128_0, P128_1⟩ := hQ128
      have N128 := Fr.app N0 Nq128
      have R131 : CHr Z EL_1 s.vm h0 s.vm T128.heap := R103.trans (CHr.keep K128 sf0 R103.1)
      have hk132 := own_okl (l := jn1) (by decide) (Nat.le_of_ble_eq_true rfl)
      have F133 : Exa Z T128.heap b102 "java/lang/String" := (A102.keep K128)
      have F134 : Fld Z T128.heap b102 "java/lang/String" "value" "[B" .null := (G102_value.keep K128 nin0)
      have F135 : Fld Z T128.heap b102 "java/lang/String" "coder" "B" (.int (0 : Int32)) := (G102_coder.keep K128 nin0)
      have O136 : Old Z n0 T128.heap := ((O0.keep K102 all0).keep K128 all0)
      obtain ⟨_, _, ⟨T137, L137, k137, n137⟩, -, X137, ⟨Lc137, hQ137, l137, y137, z137⟩, st137⟩ := X128.specialBack hx (y := yn4) rfl hown0 (mvT hZ0 (w10 hw)) (mvT hZ0 (w11 hw)) (mvT hZ0 (w12 hw)) (by decide) (backOf (W := 1) (rm_sinit l Z a0 hw [] b102 r_129 kr_130 jn1 cS T128.heap n0 (Nat.le_trans Z0 (Nat.le_trans K102.1 K128.1)) O136 S_cs hcS F133 F134 F135 (Nat.le_trans Z0 (Nat.le_of_eq g102.symm)) P128_1 hk132.1 (Nat.le_of_ble_eq_true rfl) (Nat.le_of_ble_eq_true rfl) (Nat.ne_of_lt (Nat.lt_of_lt_of_le A102.lt P128_0)) hk132.2) hZ0 (w12 hw) (w4 hw) (by decide) (by decide)) (g := (mkF m 63 #[.val (.int sel), .val (.int pos), .val (.int ch), .val (.int len), .val (.int (1 : Int32)), .val (.int (0 : Int32)), .val (.int cz), .val (.int cy), .val (.int cx), .unset, .unset, .unset, .unset, .unset] [(.ref r_129), (.ref b102), (.ref b102)])) rfl (by rw [hml]; rfl) (Steps.refl _) (a := b102) (argsL := [(.ref r_129)]) (rest := [(.ref b102)]) (lenOf pd__28__5b_C_29_V rfl) rfl (by show 2 * 0 + _ ≤ _; exact Nat.le_of_eq rfl) (hb hby at_63) (fun _ _ => ⟨rfl, rfl, (Nat.le_of_ble_eq_true rfl), (Nat.le_of_ble_eq_true rfl)⟩)
      dsimp only [Pt.U, Pt.locs, Pt.cells, Pt.slots] at X137 l137 y137 z137 st137 hQ137
      subst l137 y137 z137
      obtain ⟨t_138, kb_139, rfl, Nq137, K137, P137_0, P137_1⟩ := hQ137
      have N137 := Fr.app N128 Nq137
      have Sf140 : Safe Z EL_1 s.vm T128.heap b102 := (Safe.keep K128 sf0 R103.1 (Safe.keep K102 sf0 R0.1 (Safe.new (Nat.le_of_eq g102.symm))))
      have R141 : CHr Z EL_1 s.vm h0 s.vm T137.heap := R131.trans (CHr.keep K137 (sfS Sf140 sf0) R131.1)
      have O142 : Old Z n0 T137.heap := (O136.keep K137 (allS (Nat.le_trans Z0 (Nat.le_of_eq g102.symm)) all0))
      obtain ⟨_, _, ⟨T143, L143, k143, n143⟩, -, X143, ⟨Lc143, hQ143, l143, y143, z143⟩, st143⟩ := Jvm.LawKit.callS X137 hx (y := yn22) hown0 (mvT hZ0 (w36 hw)) (mvT hZ0 (w37 hw)) (mvT hZ0 (w38 hw)) (mvT hZ0 (w39 hw)) (by decide) (backOf (W := 0) (rm_of1 l Z a0 hw [] b102 t_138 kb_139 jn1 o0 o1 o2 oV kV j0 v0 kv0 j1 v1 kv1 j2 v2 kv2 oE cS T137.heap n0 (Nat.le_trans Z0 (Nat.le_trans (Nat.le_trans K102.1 K128.1) K137.1)) O142 S_V S_0 S_1 S_2 E_V V_V E_0 Fj_0 Ej_0 Fc_0 Fv_0 Vv_0 E_1 Fj_1 Ej_1 Fc_1 Fv_1 Vv_1 E_2 Fj_2 Ej_2 Fc_2 Fv_2 Vv_2 S_EMPTY E_EMPTY F_EMPTY S_cs hcS P137_1 hk132.2 (Nat.le_trans Z0 (Nat.le_of_eq g102.symm)) (by decide) rfl) hZ0 (w39 hw) (w38 hw) (by decide) (by decide)) (g := (mkF m 299 #[.val (.int sel), .val (.int pos), .val (.int ch), .val (.int len), .val (.int (1 : Int32)), .val (.int (0 : Int32)), .val (.int cz), .val (.int cy), .val (.int cx), .val (.ref b102), .val (.int (1 : Int32)), .unset, .unset, .unset] [(.ref b102)])) rfl (by rw [hml]; rfl) (argsL := [(.ref b102)]) (rest := []) (lenOf pd__28_Ljava_2f_lang_2f_String_3b__29_Ljava_2f_util_2f_Optional_3b_ rfl) rfl (by show 2 * 0 + _ ≤ _; exact Nat.le_of_eq rfl) (hb hby at_299) (fun _ _ => ⟨rfl, rfl, (Nat.le_of_ble_eq_true rfl), (Nat.le_of_ble_eq_true rfl)⟩)
      dsimp only [Pt.U, Pt.locs, Pt.cells, Pt.slots] at X143 l143 y143 z143 st143 hQ143
      subst l143 y143 z143
      obtain ⟨r_144, rfl, Nq143, K143, P143_0, P143_1, P143_2⟩ := hQ143
      have N143 := Fr.app N137 Nq143
      have R145 : CHr Z EL_1 s.vm h0 s.vm T143.heap := R141.trans (CHr.keep K143 sf0 R141.1)
      obtain ⟨cq146, kq146, q146a, q146b, q146c⟩ := isOf hZ0 rfl P143_1
      obtain ⟨_, _, ⟨T146, L146, k146, n146⟩, -, X146, ⟨Lc146, hQ146, l146, y146, z146⟩, st146⟩ := X143.virtualBack hx (y := yn18) (z := yn18) hown0 (mvT hZ0 (w87 hw)) (mvT hZ0 (w88 hw)) (notFace_of_selects (args := #[]) (mvT hZ0 (w90 hw))) (mvT hZ0 (w90 hw)) (mvT hZ0 (w89 hw)) (by decide) (backOf (W := 0) (rm_isP1 l Z a0 hw [] r_144 o1 T143.heap n0 (Nat.le_trans Z0 (Nat.le_trans (Nat.le_trans (Nat.le_trans K102.1 K128.1) K137.1) K143.1)) P143_2) hZ0 (w91 hw) (w72 hw) (by decide) (by decide)) q146a q146c (g := (mkF m 325 #[.val (.int sel), .val (.int pos), .val (.int ch), .val (.int len), .val (.int (1 : Int32)), .val (.int (0 : Int32)), .val (.int cz), .val (.int cy), .val (.int cx), .val (.ref b102), .val (.int (1 : Int32)), .val (.ref r_144), .unset, .unset] [(.ref r_144)])) rfl (by rw [hml]; rfl) (Steps.refl _) (argsL := []) (rest := []) (lenOf pd__28__29_Z rfl) rfl (by show 2 * 0 + _ ≤ _; exact Nat.le_of_eq rfl) (hb hby at_325) (fun _ _ => ⟨rfl, rfl, (Nat.le_of_ble_eq_true rfl), (Nat.le_of_ble_eq_true rfl)⟩)
      dsimp only [Pt.U, Pt.locs, Pt.cells, Pt.slots] at X146 l146 y146 z146 st146 hQ146
      subst l146 y146 z146
      obtain ⟨rfl, Nq146, eq146⟩ := hQ146
      have N146 := Fr.app N143 Nq146
      obtain ⟨cq147, kq147, q147a, q147b, q147c⟩ := isOf hZ0 eq146 P143_1
      obtain ⟨_, _, ⟨T147, L147, k147, n147⟩, -, X147, ⟨Lc147, hQ147, l147, y147, z147⟩, st147⟩ := X146.virtualBack hx (y := yn19) (z := yn19) hown0 (mvT hZ0 (w92 hw)) (mvT hZ0 (w93 hw)) (notFace_of_selects (args := #[]) (mvT hZ0 (w95 hw))) (mvT hZ0 (w95 hw)) (mvT hZ0 (w94 hw)) (by decide) (backOf (W := 0) (rm_opGet l Z a0 hw [] r_144 o1 T143.heap n0 (Nat.le_trans Z0 (Nat.le_trans (Nat.le_trans (Nat.le_trans K102.1 K128.1) K137.1) K143.1)) P143_2) hZ0 (w96 hw) (w72 hw) (by decide) (by decide)) q147a q147c (g := (mkF m 333 #[.val (.int sel), .val (.int pos), .val (.int ch), .val (.int len), .val (.int (1 : Int32)), .val (.int (0 : Int32)), .val (.int cz), .val (.int cy), .val (.int cx), .val (.ref b102), .val (.int (1 : Int32)), .val (.ref r_144), .unset, .unset] [(.ref r_144)])) rfl (by rw [hml]; rfl) (Steps.refl _) (argsL := []) (rest := []) (lenOf pd__28__29_Ljava_2f_lang_2f_Object_3b_ rfl) rfl (by show 2 * 0 + _ ≤ _; exact Nat.le_of_eq rfl) (hb hby at_333) (fun _ _ => ⟨rfl, eq146, (Nat.le_of_ble_eq_true rfl), (Nat.le_of_ble_eq_true rfl)⟩)
      dsimp only [Pt.U, Pt.locs, Pt.cells, Pt.slots] at X147 l147 y147 z147 st147 hQ147
      subst l147 y147 z147
      obtain ⟨rfl, Nq147, eq147⟩ := hQ147
      have N147 := Fr.app N146 Nq147
      have O148 : Old Z n0 T143.heap := (O142.keep K143 all0)
      obtain ⟨_, _, ⟨T149, L149, k149, n149⟩, -, X149, ⟨Lc149, hQ149, l149, y149, z149⟩, st149⟩ := Jvm.LawKit.callS X147 hx (y := yn20) hown0 (mvT hZ0 (w97 hw)) (mvT hZ0 (w98 hw)) (mvT hZ0 (w7 hw)) (mvT hZ0 (w99 hw)) (by decide) (backOf (W := 1) (rm_const1 l Z a0 hw [] o1 T143.heap n0 (Nat.le_trans Z0 (Nat.le_trans (Nat.le_trans (Nat.le_trans K102.1 K128.1) K137.1) K143.1)) O148 S_1) hZ0 (w99 hw) (w7 hw) (by decide) (by decide)) (g := (mkF m 338 #[.val (.int sel), .val (.int pos), .val (.int ch), .val (.int len), .val (.int (1 : Int32)), .val (.int (0 : Int32)), .val (.int cz), .val (.int cy), .val (.int cx), .val (.ref b102), .val (.int (1 : Int32)), .val (.ref r_144), .unset, .unset] [(.int (1 : Int32)), (.ref o1)])) rfl (by rw [hml]; rfl) (argsL := [(.int (1 : Int32))]) (rest := [(.ref o1)]) (lenOf pd__28_I_29_Lcom_2f_example_2f_composition_2f_composition_2f_definition_2f_AbapLanguageVersion_3b_ rfl) rfl (by show 2 * 0 + _ ≤ _; exact Nat.le_of_eq rfl) (hb hby at_338) (fun _ _ => ⟨rfl, eq147, (Nat.le_of_ble_eq_true rfl), (Nat.le_of_ble_eq_true rfl)⟩)
      dsimp only [Pt.U, Pt.locs, Pt.cells, Pt.slots] at X149 l149 y149 z149 st149 hQ149
      subst l149 y149 z149
      obtain ⟨rfl, Nq149, eq149⟩ := hQ149
      have N149 := Fr.app N147 Nq149
      have W150 : ∀ zQ, SS p e below T149 m 349 #[.val (.int sel), .val (.int pos), .val (.int ch), .val (.int len), .val (.int (1 : Int32)), .val (.int (0 : Int32)), .val (.int cz), .val (.int cy), .val (.int cx), .val (.ref b102), .val (.int (1 : Int32)), .val (.ref r_144), .unset, .unset] [(.int (1 : Int32))] zQ → Steps p.tables e below (s₁.setTop (entryFrame m #[(.int sel), (.int pos), (.int ch), (.int len)] maxLocals)) zQ := by
        intro tt kt
        refine W104 tt ?_
        refine XS.iload X102.here hx rfl (hb hby at_58) rfl ?_
        show SS p e below T102 m 60 #[.val (.int sel), .val (.int pos), .val (.int ch), .val (.int len), .val (.int (1 : Int32)), .val (.int (0 : Int32)), .val (.int cz), .val (.int cy), .val (.int cx), .unset, .unset, .unset, .unset, .unset] [(.int (1 : Int32)), (.ref b102), (.ref b102)] _
        refine st128 _ ?_
        show SS p e below T128 m 63 #[.val (.int sel), .val (.int pos), .val (.int ch), .val (.int len), .val (.int (1 : Int32)), .val (.int (0 : Int32)), .val (.int cz), .val (.int cy), .val (.int cx), .unset, .unset, .unset, .unset, .unset] [(.ref r_129), (.ref b102), (.ref b102)] _
        refine st137.trans ?_
        refine XS.astore X137.here hx rfl (hb hby at_66) rfl rfl (l' := #[.val (.int sel), .val (.int pos), .val (.int ch), .val (.int len), .val (.int (1 : Int32)), .val (.int (0 : Int32)), .val (.int cz), .val (.int cy), .val (.int cx), .val (.ref b102), .unset, .unset, .unset, .unset]) rfl ?_
        refine XS.iload X137.here hx rfl (hb hby at_68) rfl ?_
        refine XS.istore X137.here hx rfl (hb hby at_70) rfl (l' := #[.val (.int sel), .val (.int pos), .val (.int ch), .val (.int len), .val (.int (1 : Int32)), .val (.int (0 : Int32)), .val (.int cz), .val (.int cy), .val (.int cx), .val (.ref b102), .val (.int (1 : Int32)), .unset, .unset, .unset]) rfl ?_
        refine XS.goto X137.here hx rfl (pc0 := 72) (pc' := 297) rfl (hb hby at_72) (by decide) (by decide) ?_
        refine XS.aload X137.here hx rfl (hb hby at_297) rfl rfl ?_
        show SS p e below T137 m 299 #[.val (.int sel), .val (.int pos), .val (.int ch), .val (.int len), .val (.int (1 : Int32)), .val (.int (0 : Int32)), .val (.int cz), .val (.int cy), .val (.int cx), .val (.ref b102), .val (.int (1 : Int32)), .unset, .unset, .unset] [(.ref b102)] _
        refine st143 _ ?_
        refine XS.astore X143.here hx rfl (hb hby at_302) rfl rfl (l' := #[.val (.int sel), .val (.int pos), .val (.int ch), .val (.int len), .val (.int (1 : Int32)), .val (.int (0 : Int32)), .val (.int cz), .val (.int cy), .val (.int cx), .val (.ref b102), .val (.int (1 : Int32)), .val (.ref r_144), .unset, .unset]) rfl ?_
        refine XS.iload X143.here hx rfl (hb hby at_304) rfl ?_
        refine XS.ifYes X143.here hx rfl (pc0 := 306) (pc' := 323) rfl (hb hby at_306) rfl ((if0 _ _).trans (flt (by decide)).2.1) (by decide) (by decide) ?_
        refine XS.aload X143.here hx rfl (hb hby at_323) rfl rfl ?_
        show SS p e below T143 m 325 #[.val (.int sel), .val (.int pos), .val (.int ch), .val (.int len), .val (.int (1 : Int32)), .val (.int (0 : Int32)), .val (.int cz), .val (.int cy), .val (.int cx), .val (.ref b102), .val (.int (1 : Int32)), .val (.ref r_144), .unset, .unset] [(.ref r_144)] _
        refine st146.trans ?_
        refine XS.ifNo X146.here hx rfl (hb hby at_328) rfl ((if0 _ _).trans (feq (by decide)).1) ?_
        refine XS.aload X146.here hx rfl (hb hby at_331) rfl rfl ?_
        show SS p e below T146 m 333 #[.val (.int sel), .val (.int pos), .val (.int ch), .val (.int len), .val (.int (1 : Int32)), .val (.int (0 : Int32)), .val (.int cz), .val (.int cy), .val (.int cx), .val (.ref b102), .val (.int (1 : Int32)), .val (.ref r_144), .unset, .unset] [(.ref r_144)] _
        refine st147.trans ?_
        refine XS.iload X147.here hx rfl (hb hby at_336) rfl ?_
        show SS p e below T147 m 338 #[.val (.int sel), .val (.int pos), .val (.int ch), .val (.int len), .val (.int (1 : Int32)), .val (.int (0 : Int32)), .val (.int cz), .val (.int cy), .val (.int cx), .val (.ref b102), .val (.int (1 : Int32)), .val (.ref r_144), .unset, .unset] [(.int (1 : Int32)), (.ref o1)] _
        refine st149 _ ?_
        show SS p e below T149 m 341 #[.val (.int sel), .val (.int pos), .val (.int ch), .val (.int len), .val (.int (1 : Int32)), .val (.int (0 : Int32)), .val (.int cz), .val (.int cy), .val (.int cx), .val (.ref b102), .val (.int (1 : Int32)), .val (.ref r_144), .unset, .unset] [(.ref o1), (.ref o1)] _
        refine Jvm.RoadKit.acmp (g := (mkF m 341 #[.val (.int sel), .val (.int pos), .val (.int ch), .val (.int len), .val (.int (1 : Int32)), .val (.int (0 : Int32)), .val (.int cz), .val (.int cy), .val (.int cx), .val (.ref b102), .val (.int (1 : Int32)), .val (.ref r_144), .unset, .unset] [(.ref o1), (.ref o1)])) X149 hx rfl rfl rfl (pc0 := 341) (pc' := 344) (same := true) rfl (hb hby at_341) rfl (decide_eq_true rfl) (by decide) (by decide) ?_
        refine XS.iconst X149.here hx rfl (hb hby at_344) ?_
        refine XS.goto X149.here hx rfl (pc0 := 345) (pc' := 349) rfl (hb hby at_345) (by decide) (by decide) ?_
        exact kt
      obtain ⟨fs, hr, hrun, hended, hRW⟩ := Jvm.Stand.leaveW X149 hS0 (by rw [eq149]; exact (Nat.le_trans hk0 (Nat.le_trans (Nat.le_trans (Nat.le_trans K102.1 K128.1) K137.1) K143.1))) (v := some (.int (nar .boolean (1 : Int32)))) (fun h => by rw [Bd.returns] at h; cases h) (BodyLoose.notSynchronized Bd)
      refine ⟨_, _, W150 _ (retN X149 hx (t := .boolean) Bd.returns (by simp) (hb hby at_349) hr), hrun, hended, _, _, rfl, ?_, own_chr (T := T149) R145 (CHv.at X149 hZ0 hEL R145.1) hh.symm eq149, own_rw hRW (by decide) (by decide)⟩
      show Q_law Z sel pos ch len o0 o1 o2 oV kV j0 v0 kv0 j1 v1 kv1 j2 v2 kv2 oE cS h0 n0 _ T149.heap _
      rw [eq149]
      exact ⟨rfl, N149, (Keep.trans (Keep.trans (Keep.trans (Keep.trans (Keep.refl h0 []) K102 all0) K128 all0) K137 (allS (Or.inr (Nat.le_of_eq g102.symm)) all0)) K143 all0)⟩
    ·
      obtain ⟨_, _, ⟨T151, L151, k151, n151⟩, -, X151, ⟨Lc151, hQ151, l151, y151, z151⟩, st151⟩ := Jvm.LawKit.callS X102 hx (y := yn11) hown0 (mvT hZ0 (w5 hw)) (mvT hZ0 (w6 hw)) (mvT hZ0 (w7 hw)) (mvT hZ0 (w8 hw)) (by decide) (backOf (W := 2) (rm_full2 l Z a0 hw []  h102 n0 (Nat.le_trans Z0 K102.1) ) hZ0 (w8 hw) (w7 hw) (by decide) (by decide)) (g := (mkF m 60 #[.val (.int sel), .val (.int pos), .val (.int ch), .val (.int len), .val (.int (2 : Int32)), .val (.int (0 : Int32)), .val (.int cz), .val (.int cy), .val (.int cx), .unset, .unset, .unset, .unset, .unset] [(.int (2 : Int32)), (.ref b102), (.ref b102)])) rfl (by rw [hml]; rfl) (argsL := [(.int (2 : Int32))]) (rest := [(.ref b102), (.ref b102)]) (lenOf pd__28_I_29__5b_C rfl) rfl (by show 2 * 0 + _ ≤ _; exact Nat.le_of_eq rfl) (hb hby at_60) (fun _ _ => ⟨rfl, e102, (Nat.le_of_ble_eq_true rfl), (Nat.le_of_ble_eq_true rfl)⟩)
      dsimp only [Pt.U, Pt.locs, Pt.cells, Pt.slots] at X151 l151 y151 z151 st151 hQ151
      subst l151 y151 z151
      obtain ⟨r_152, kr_153, rfl, Nq151, K151, P151_0, P151_1⟩ := hQ151
      have N151 := Fr.app N0 Nq151
      have R154 : CHr Z EL_1 s.vm h0 s.vm T151.heap := R103.trans (CHr.keep K151 sf0 R103.1)
      have hk155 := own_okl (l := jn2) (by decide) (Nat.le_of_ble_eq_true rfl)
      have F156 : Exa Z T151.heap b102 "java/lang/String" := (A102.keep K151)
      have F157 : Fld Z T151.heap b102 "java/lang/String" "value" "[B" .null := (G102_value.keep K151 nin0)
      have F158 : Fld Z T151.heap b102 "java/lang/String" "coder" "B" (.int (0 : Int32)) := (G102_coder.keep K151 nin0)
      have O159 : Old Z n0 T151.heap := ((O0.keep K102 all0).keep K151 all0)
      obtain ⟨_, _, ⟨T160, L160, k160, n160⟩, -, X160, ⟨Lc160, hQ160, l160, y160, z160⟩, st160⟩ := X151.specialBack hx (y := yn4) rfl hown0 (mvT hZ0 (w10 hw)) (mvT hZ0 (w11 hw)) (mvT hZ0 (w12 hw)) (by decide) (backOf (W := 1) (rm_sinit l Z a0 hw [] b102 r_152 kr_153 jn2 cS T151.heap n0 (Nat.le_trans Z0 (Nat.le_trans K102.1 K151.1)) O159 S_cs hcS F156 F157 F158 (Nat.le_trans Z0 (Nat.le_of_eq g102.symm)) P151_1 hk155.1 (Nat.le_of_ble_eq_true rfl) (Nat.le_of_ble_eq_true rfl) (Nat.ne_of_lt (Nat.lt_of_lt_of_le A102.lt P151_0)) hk155.2) hZ0 (w12 hw) (w4 hw) (by decide) (by decide)) (g := (mkF m 63 #[.val (.int sel), .val (.int pos), .val (.int ch), .val (.int len), .val (.int (2 : Int32)), .val (.int (0 : Int32)), .val (.int cz), .val (.int cy), .val (.int cx), .unset, .unset, .unset, .unset, .unset] [(.ref r_152), (.ref b102), (.ref b102)])) rfl (by rw [hml]; rfl) (Steps.refl _) (a := b102) (argsL := [(.ref r_152)]) (rest := [(.ref b102)]) (lenOf pd__28__5b_C_29_V rfl) rfl (by show 2 * 0 + _ ≤ _; exact Nat.le_of_eq rfl) (hb hby at_63) (fun _ _ => ⟨rfl, rfl, (Nat.le_of_ble_eq_true rfl), (Nat.le_of_ble_eq_true rfl)⟩)
      dsimp only [Pt.U, Pt.locs, Pt.cells, Pt.slots] at X160 l160 y160 z160 st160 hQ160
      subst l160 y160 z160
      obtain ⟨t_161, kb_162, rfl, Nq160, K160, P160_0, P160_1⟩ := hQ160
      have N160 := Fr.app N151 Nq160
      have Sf163 : Safe Z EL_1 s.vm T151.heap b102 := (Safe.keep K151 sf0 R103.1 (Safe.keep K102 sf0 R0.1 (Safe.new (Nat.le_of_eq g102.symm))))
      have R164 : CHr Z EL_1 s.vm h0 s.vm T160.heap := R154.trans (CHr.keep K160 (sfS Sf163 sf0) R154.1)
      have O165 : Old Z n0 T160.heap := (O159.keep K160 (allS (Nat.le_trans Z0 (Nat.le_of_eq g102.symm)) all0))
      obtain ⟨_, _, ⟨T166, L166, k166, n166⟩, -, X166, ⟨Lc166, hQ166, l166, y166, z166⟩, st166⟩ := Jvm.LawKit.callS X160 hx (y := yn22) hown0 (mvT hZ0 (w36 hw)) (mvT hZ0 (w37 hw)) (mvT hZ0 (w38 hw)) (mvT hZ0 (w39 hw)) (by decide) (backOf (W := 0) (rm_of2 l Z a0 hw [] b102 t_161 kb_162 jn2 o0 o1 o2 oV kV j0 v0 kv0 j1 v1 kv1 j2 v2 kv2 oE cS T160.heap n0 (Nat.le_trans Z0 (Nat.le_trans (Nat.le_trans K102.1 K151.1) K160.1)) O165 S_V S_0 S_1 S_2 E_V V_V E_0 Fj_0 Ej_0 Fc_0 Fv_0 Vv_0 E_1 Fj_1 Ej_1 Fc_1 Fv_1 Vv_1 E_2 Fj_2 Ej_2 Fc_2 Fv_2 Vv_2 S_EMPTY E_EMPTY F_EMPTY S_cs hcS P160_1 hk155.2 (Nat.le_trans Z0 (Nat.le_of_eq g102.symm)) (by decide) (by decide) rfl) hZ0 (w39 hw) (w38 hw) (by decide) (by decide)) (g := (mkF m 299 #[.val (.int sel), .val (.int pos), .val (.int ch), .val (.int len), .val (.int (2 : Int32)), .val (.int (0 : Int32)), .val (.int cz), .val (.int cy), .val (.int cx), .val (.ref b102), .val (.int (2 : Int32)), .unset, .unset, .unset] [(.ref b102)])) rfl (by rw [hml]; rfl) (argsL := [(.ref b102)]) (rest := []) (lenOf pd__28_Ljava_2f_lang_2f_String_3b__29_Ljava_2f_util_2f_Optional_3b_ rfl) rfl (by show 2 * 0 + _ ≤ _; exact Nat.le_of_eq rfl) (hb hby at_299) (fun _ _ => ⟨rfl, rfl, (Nat.le_of_ble_eq_true rfl), (Nat.le_of_ble_eq_true rfl)⟩)
      dsimp only [Pt.U, Pt.locs, Pt.cells, Pt.slots] at X166 l166 y166 z166 st166 hQ166
      subst l166 y166 z166
      obtain ⟨r_167, rfl, Nq166, K166, P166_0, P166_1, P166_2⟩ := hQ166
      have N166 := Fr.app N160 Nq166
      have R168 : CHr Z EL_1 s.vm h0 s.vm T166.heap := R164.trans (CHr.keep K166 sf0 R164.1)
      obtain ⟨cq169, kq169, q169a, q169b, q169c⟩ := isOf hZ0 rfl P166_1
      obtain ⟨_, _, ⟨T169, L169, k169, n169⟩, -, X169, ⟨Lc169, hQ169, l169, y169, z169⟩, st169⟩ := X166.virtualBack hx (y := yn18) (z := yn18) hown0 (mvT hZ0 (w87 hw)) (mvT hZ0 (w88 hw)) (notFace_of_selects (args := #[]) (mvT hZ0 (w90 hw))) (mvT hZ0 (w90 hw)) (mvT hZ0 (w89 hw)) (by decide) (backOf (W := 0) (rm_isP1 l Z a0 hw [] r_167 o2 T166.heap n0 (Nat.le_trans Z0 (Nat.le_trans (Nat.le_trans (Nat.le_trans K102.1 K151.1) K160.1) K166.1)) P166_2) hZ0 (w91 hw) (w72 hw) (by decide) (by decide)) q169a q169c (g := (mkF m 325 #[.val (.int sel), .val (.int pos), .val (.int ch), .val (.int len), .val (.int (2 : Int32)), .val (.int (0 : Int32)), .val (.int cz), .val (.int cy), .val (.int cx), .val (.ref b102), .val (.int (2 : Int32)), .val (.ref r_167), .unset, .unset] [(.ref r_167)])) rfl (by rw [hml]; rfl) (Steps.refl _) (argsL := []) (rest := []) (lenOf pd__28__29_Z rfl) rfl (by show 2 * 0 + _ ≤ _; exact Nat.le_of_eq rfl) (hb hby at_325) (fun _ _ => ⟨rfl, rfl, (Nat.le_of_ble_eq_true rfl), (Nat.le_of_ble_eq_true rfl)⟩)
      dsimp only [Pt.U, Pt.locs, Pt.cells, Pt.slots] at X169 l169 y169 z169 st169 hQ169
      subst l169 y169 z169
      obtain ⟨rfl, Nq169, eq169⟩ := hQ169
      have N169 := Fr.app N166 Nq169
      obtain ⟨cq170, kq170, q170a, q170b, q170c⟩ := isOf hZ0 eq169 P166_1
      obtain ⟨_, _, ⟨T170, L170, k170, n170⟩, -, X170, ⟨Lc170, hQ170, l170, y170, z170⟩, st170⟩ := X169.virtualBack hx (y := yn19) (z := yn19) hown0 (mvT hZ0 (w92 hw)) (mvT hZ0 (w93 hw)) (notFace_of_selects (args := #[]) (mvT hZ0 (w95 hw))) (mvT hZ0 (w95 hw)) (mvT hZ0 (w94 hw)) (by decide) (backOf (W := 0) (rm_opGet l Z a0 hw [] r_167 o2 T166.heap n0 (Nat.le_trans Z0 (Nat.le_trans (Nat.le_trans (Nat.le_trans K102.1 K151.1) K160.1) K166.1)) P166_2) hZ0 (w96 hw) (w72 hw) (by decide) (by decide)) q170a q170c (g := (mkF m 333 #[.val (.int sel), .val (.int pos), .val (.int ch), .val (.int len), .val (.int (2 : Int32)), .val (.int (0 : Int32)), .val (.int cz), .val (.int cy), .val (.int cx), .val (.ref b102), .val (.int (2 : Int32)), .val (.ref r_167), .unset, .unset] [(.ref r_167)])) rfl (by rw [hml]; rfl) (Steps.refl _) (argsL := []) (rest := []) (lenOf pd__28__29_Ljava_2f_lang_2f_Object_3b_ rfl) rfl (by show 2 * 0 + _ ≤ _; exact Nat.le_of_eq rfl) (hb hby at_333) (fun _ _ => ⟨rfl, eq169, (Nat.le_of_ble_eq_true rfl), (Nat.le_of_ble_eq_true rfl)⟩)
      dsimp only [Pt.U, Pt.locs, Pt.cells, Pt.slots] at X170 l170 y170 z170 st170 hQ170
      subst l170 y170 z170
      obtain ⟨rfl, Nq170, eq170⟩ := hQ170
      have N170 := Fr.app N169 Nq170
      have O171 : Old Z n0 T166.heap := (O165.keep K166 all0)
      obtain ⟨_, _, ⟨T172, L172, k172, n172⟩, -, X172, ⟨Lc172, hQ172, l172, y172, z172⟩, st172⟩ := Jvm.LawKit.callS X170 hx (y := yn20) hown0 (mvT hZ0 (w97 hw)) (mvT hZ0 (w98 hw)) (mvT hZ0 (w7 hw)) (mvT hZ0 (w99 hw)) (by decide) (backOf (W := 1) (rm_const2 l Z a0 hw [] o2 T166.heap n0 (Nat.le_trans Z0 (Nat.le_trans (Nat.le_trans (Nat.le_trans K102.1 K151.1) K160.1) K166.1)) O171 S_2) hZ0 (w99 hw) (w7 hw) (by decide) (by decide)) (g := (mkF m 338 #[.val (.int sel), .val (.int pos), .val (.int ch), .val (.int len), .val (.int (2 : Int32)), .val (.int (0 : Int32)), .val (.int cz), .val (.int cy), .val (.int cx), .val (.ref b102), .val (.int (2 : Int32)), .val (.ref r_167), .unset, .unset] [(.int (2 : Int32)), (.ref o2)])) rfl (by rw [hml]; rfl) (argsL := [(.int (2 : Int32))]) (rest := [(.ref o2)]) (lenOf pd__28_I_29_Lcom_2f_example_2f_composition_2f_composition_2f_definition_2f_AbapLanguageVersion_3b_ rfl) rfl (by show 2 * 0 + _ ≤ _; exact Nat.le_of_eq rfl) (hb hby at_338) (fun _ _ => ⟨rfl, eq170, (Nat.le_of_ble_eq_true rfl), (Nat.le_of_ble_eq_true rfl)⟩)
      dsimp only [Pt.U, Pt.locs, Pt.cells, Pt.slots] at X172 l172 y172 z172 st172 hQ172
      subst l172 y172 z172
      obtain ⟨rfl, Nq172, eq172⟩ := hQ172
      have N172 := Fr.app N170 Nq172
      have W173 : ∀ zQ, SS p e below T172 m 349 #[.val (.int sel), .val (.int pos), .val (.int ch), .val (.int len), .val (.int (2 : Int32)), .val (.int (0 : Int32)), .val (.int cz), .val (.int cy), .val (.int cx), .val (.ref b102), .val (.int (2 : Int32)), .val (.ref r_167), .unset, .unset] [(.int (1 : Int32))] zQ → Steps p.tables e below (s₁.setTop (entryFrame m #[(.int sel), (.int pos), (.int ch), (.int len)] maxLocals)) zQ := by
        intro tt kt
        refine W104 tt ?_
        refine XS.iload X102.here hx rfl (hb hby at_58) rfl ?_
        show SS p e below T102 m 60 #[.val (.int sel), .val (.int pos), .val (.int ch), .val (.int len), .val (.int (2 : Int32)), .val (.int (0 : Int32)), .val (.int cz), .val (.int cy), .val (.int cx), .unset, .unset, .unset, .unset, .unset] [(.int (2 : Int32)), (.ref b102), (.ref b102)] _
        refine st151 _ ?_
        show SS p e below T151 m 63 #[.val (.int sel), .val (.int pos), .val (.int ch), .val (.int len), .val (.int (2 : Int32)), .val (.int (0 : Int32)), .val (.int cz), .val (.int cy), .val (.int cx), .unset, .unset, .unset, .unset, .unset] [(.ref r_152), (.ref b102), (.ref b102)] _
        refine st160.trans ?_
        refine XS.astore X160.here hx rfl (hb hby at_66) rfl rfl (l' := #[.val (.int sel), .val (.int pos), .val (.int ch), .val (.int len), .val (.int (2 : Int32)), .val (.int (0 : Int32)), .val (.int cz), .val (.int cy), .val (.int cx), .val (.ref b102), .unset, .unset, .unset, .unset]) rfl ?_
        refine XS.iload X160.here hx rfl (hb hby at_68) rfl ?_
        refine XS.istore X160.here hx rfl (hb hby at_70) rfl (l' := #[.val (.int sel), .val (.int pos), .val (.int ch), .val (.int len), .val (.int (2 : Int32)), .val (.int (0 : Int32)), .val (.int cz), .val (.int cy), .val (.int cx), .val (.ref b102), .val (.int (2 : Int32)), .unset, .unset, .unset]) rfl ?_
        refine XS.goto X160.here hx rfl (pc0 := 72) (pc' := 297) rfl (hb hby at_72) (by decide) (by decide) ?_
        refine XS.aload X160.here hx rfl (hb hby at_297) rfl rfl ?_
        show SS p e below T160 m 299 #[.val (.int sel), .val (.int pos), .val (.int ch), .val (.int len), .val (.int (2 : Int32)), .val (.int (0 : Int32)), .val (.int cz), .val (.int cy), .val (.int cx), .val (.ref b102), .val (.int (2 : Int32)), .unset, .unset, .unset] [(.ref b102)] _
        refine st166 _ ?_
        refine XS.astore X166.here hx rfl (hb hby at_302) rfl rfl (l' := #[.val (.int sel), .val (.int pos), .val (.int ch), .val (.int len), .val (.int (2 : Int32)), .val (.int (0 : Int32)), .val (.int cz), .val (.int cy), .val (.int cx), .val (.ref b102), .val (.int (2 : Int32)), .val (.ref r_167), .unset, .unset]) rfl ?_
        refine XS.iload X166.here hx rfl (hb hby at_304) rfl ?_
        refine XS.ifYes X166.here hx rfl (pc0 := 306) (pc' := 323) rfl (hb hby at_306) rfl ((if0 _ _).trans (flt (by decide)).2.1) (by decide) (by decide) ?_
        refine XS.aload X166.here hx rfl (hb hby at_323) rfl rfl ?_
        show SS p e below T166 m 325 #[.val (.int sel), .val (.int pos), .val (.int ch), .val (.int len), .val (.int (2 : Int32)), .val (.int (0 : Int32)), .val (.int cz), .val (.int cy), .val (.int cx), .val (.ref b102), .val (.int (2 : Int32)), .val (.ref r_167), .unset, .unset] [(.ref r_167)] _
        refine st169.trans ?_
        refine XS.ifNo X169.here hx rfl (hb hby at_328) rfl ((if0 _ _).trans (feq (by decide)).1) ?_
        refine XS.aload X169.here hx rfl (hb hby at_331) rfl rfl ?_
        show SS p e below T169 m 333 #[.val (.int sel), .val (.int pos), .val (.int ch), .val (.int len), .val (.int (2 : Int32)), .val (.int (0 : Int32)), .val (.int cz), .val (.int cy), .val (.int cx), .val (.ref b102), .val (.int (2 : Int32)), .val (.ref r_167), .unset, .unset] [(.ref r_167)] _
        refine st170.trans ?_
        refine XS.iload X170.here hx rfl (hb hby at_336) rfl ?_
        show SS p e below T170 m 338 #[.val (.int sel), .val (.int pos), .val (.int ch), .val (.int len), .val (.int (2 : Int32)), .val (.int (0 : Int32)), .val (.int cz), .val (.int cy), .val (.int cx), .val (.ref b102), .val (.int (2 : Int32)), .val (.ref r_167), .unset, .unset] [(.int (2 : Int32)), (.ref o2)] _
        refine st172 _ ?_
        show SS p e below T172 m 341 #[.val (.int sel), .val (.int pos), .val (.int ch), .val (.int len), .val (.int (2 : Int32)), .val (.int (0 : Int32)), .val (.int cz), .val (.int cy), .val (.int cx), .val (.ref b102), .val (.int (2 : Int32)), .val (.ref r_167), .unset, .unset] [(.ref o2), (.ref o2)] _
        refine Jvm.RoadKit.acmp (g := (mkF m 341 #[.val (.int sel), .val (.int pos), .val (.int ch), .val (.int len), .val (.int (2 : Int32)), .val (.int (0 : Int32)), .val (.int cz), .val (.int cy), .val (.int cx), .val (.ref b102), .val (.int (2 : Int32)), .val (.ref r_167), .unset, .unset] [(.ref o2), (.ref o2)])) X172 hx rfl rfl rfl (pc0 := 341) (pc' := 344) (same := true) rfl (hb hby at_341) rfl (decide_eq_true rfl) (by decide) (by decide) ?_
        refine XS.iconst X172.here hx rfl (hb hby at_344) ?_
        refine XS.goto X172.here hx rfl (pc0 := 345) (pc' := 349) rfl (hb hby at_345) (by decide) (by decide) ?_
        exact kt
      obtain ⟨fs, hr, hrun, hended, hRW⟩ := Jvm.Stand.leaveW X172 hS0 (by rw [eq172]; exact (Nat.le_trans hk0 (Nat.le_trans (Nat.le_trans (Nat.le_trans K102.1 K151.1) K160.1) K166.1))) (v := some (.int (nar .boolean (1 : Int32)))) (fun h => by rw [Bd.returns] at h; cases h) (BodyLoose.notSynchronized Bd)
      refine ⟨_, _, W173 _ (retN X172 hx (t := .boolean) Bd.returns (by simp) (hb hby at_349) hr), hrun, hended, _, _, rfl, ?_, own_chr (T := T172) R168 (CHv.at X172 hZ0 hEL R168.1) hh.symm eq172, own_rw hRW (by decide) (by decide)⟩
      show Q_law Z sel pos ch len o0 o1 o2 oV kV j0 v0 kv0 j1 v1 kv1 j2 v2 kv2 oE cS h0 n0 _ T172.heap _
      rw [eq172]
      exact ⟨rfl, N172, (Keep.trans (Keep.trans (Keep.trans (Keep.trans (Keep.refl h0 []) K102 all0) K151 all0) K160 (allS (Or.inr (Nat.le_of_eq g102.symm)) all0)) K166 all0)⟩
  ·
    obtain ⟨cz, h_cz⟩ : ∃ z : Int32, z = ((ch &&& (255 : Int32)).toUInt32.toUInt16.toUInt32.toInt32) := ⟨_, rfl⟩
    have hcz : B8 cz := by rw [h_cz]; exact own_c8 _
    obtain ⟨cy, h_cy⟩ : ∃ z : Int32, z = ((((ch.toUInt32 >>> ((8 : Int32) &&& 31).toUInt32).toInt32) &&& (255 : Int32)).toUInt32.toUInt16.toUInt32.toInt32) := ⟨_, rfl⟩
    have hcy : B8 cy := by rw [h_cy]; exact own_c8 _
    obtain ⟨cx, h_cx⟩ : ∃ z : Int32, z = ((((ch.toUInt32 >>> ((16 : Int32) &&& 31).toUInt32).toInt32) &&& (255 : Int32)).toUInt32.toUInt16.toUInt32.toInt32) := ⟨_, rfl⟩
    have hcx : B8 cx := by rw [h_cx]; exact own_c8 _
    have W174 : ∀ zQ, SS p e below s₁ m 81 #[.val (.int sel), .val (.int pos), .val (.int ch), .val (.int len), .val (.int kq), .val (.int (1 : Int32)), .val (.int cz), .val (.int cy), .val (.int cx), .unset, .unset, .unset, .unset, .unset] [] zQ → Steps p.tables e below (s₁.setTop (entryFrame m #[(.int sel), (.int pos), (.int ch), (.int len)] maxLocals)) zQ := by
      intro tt kt
      refine W101 tt ?_
      refine XS.istore X0.here hx rfl (hb hby at_17) rfl (l' := #[.val (.int sel), .val (.int pos), .val (.int ch), .val (.int len), .val (.int kq), .val (.int (1 : Int32)), .unset, .unset, .unset, .unset, .unset, .unset, .unset, .unset]) rfl ?_
      refine XS.iloadN X0.here hx rfl (hb hby at_19) rfl ?_
      refine XS.sipush X0.here hx rfl (hb hby at_20) ?_
      refine XS.iand X0.here hx rfl (hb hby at_23) rfl ?_
      refine XS.i2c X0.here hx rfl (hb hby at_24) rfl ?_
      show SS p e below s₁ m 25 #[.val (.int sel), .val (.int pos), .val (.int ch), .val (.int len), .val (.int kq), .val (.int (1 : Int32)), .unset, .unset, .unset, .unset, .unset, .unset, .unset, .unset] [(.int ((ch &&& (255 : Int32)).toUInt32.toUInt16.toUInt32.toInt32))] _
      rw [← h_cz]
      refine XS.istore X0.here hx rfl (hb hby at_25) rfl (l' := #[.val (.int sel), .val (.int pos), .val (.int ch), .val (.int len), .val (.int kq), .val (.int (1 : Int32)), .val (.int cz), .unset, .unset, .unset, .unset, .unset, .unset, .unset]) rfl ?_
      refine XS.iloadN X0.here hx rfl (hb hby at_27) rfl ?_
      refine XS.bipush X0.here hx rfl (hb hby at_28) ?_
      refine XS.iushr X0.here hx rfl (hb hby at_30) rfl ?_
      refine XS.sipush X0.here hx rfl (hb hby at_31) ?_
      show SS p e below s₁ m 34 #[.val (.int sel), .val (.int pos), .val (.int ch), .val (.int len), .val (.int kq), .val (.int (1 : Int32)), .val (.int cz), .unset, .unset, .unset, .unset, .unset, .unset, .unset] [(.int (255 : Int32)), (.int ((ch.toUInt32 >>> ((8 : Int32) &&& 31).toUInt32).toInt32))] _
      refine XS.iand X0.here hx rfl (hb hby at_34) rfl ?_
      refine XS.i2c X0.here hx rfl (hb hby at_35) rfl ?_
      show SS p e below s₁ m 36 #[.val (.int sel), .val (.int pos), .val (.int ch), .val (.int len), .val (.int kq), .val (.int (1 : Int32)), .val (.int cz), .unset, .unset, .unset, .unset, .unset, .unset, .unset] [(.int ((((ch.toUInt32 >>> ((8 : Int32) &&& 31).toUInt32).toInt32) &&& (255 : Int32)).toUInt32.toUInt16.toUInt32.toInt32))] _
      rw [← h_cy]
      refine XS.istore X0.here hx rfl (hb hby at_36) rfl (l' := #[.val (.int sel), .val (.int pos), .val (.int ch), .val (.int len), .val (.int kq), .val (.int (1 : Int32)), .val (.int cz), .val (.int cy), .unset, .unset, .unset, .unset, .unset, .unset]) rfl ?_
      refine XS.iloadN X0.here hx rfl (hb hby at_38) rfl ?_
      refine XS.bipush X0.here hx rfl (hb hby at_39) ?_
      refine XS.iushr X0.here hx rfl (hb hby at_41) rfl ?_
      refine XS.sipush X0.here hx rfl (hb hby at_42) ?_
      show SS p e below s₁ m 45 #[.val (.int sel), .val (.int pos), .val (.int ch), .val (.int len), .val (.int kq), .val (.int (1 : Int32)), .val (.int cz), .val (.int cy), .unset, .unset, .unset, .unset, .unset, .unset] [(.int (255 : Int32)), (.int ((ch.toUInt32 >>> ((16 : Int32) &&& 31).toUInt32).toInt32))] _
      refine XS.iand X0.here hx rfl (hb hby at_45) rfl ?_
      refine XS.i2c X0.here hx rfl (hb hby at_46) rfl ?_
      show SS p e below s₁ m 47 #[.val (.int sel), .val (.int pos), .val (.int ch), .val (.int len), .val (.int kq), .val (.int (1 : Int32)), .val (.int cz), .val (.int cy), .unset, .unset, .unset, .unset, .unset, .unset] [(.int ((((ch.toUInt32 >>> ((16 : Int32) &&& 31).toUInt32).toInt32) &&& (255 : Int32)).toUInt32.toUInt16.toUInt32.toInt32))] _
      rw [← h_cx]
      refine XS.istore X0.here hx rfl (hb hby at_47) rfl (l' := #[.val (.int sel), .val (.int pos), .val (.int ch), .val (.int len), .val (.int kq), .val (.int (1 : Int32)), .val (.int cz), .val (.int cy), .val (.int cx), .unset, .unset, .unset, .unset, .unset]) rfl ?_
      refine XS.iload X0.here hx rfl (hb hby at_49) rfl ?_
      refine XS.ifYes X0.here hx rfl (pc0 := 51) (pc' := 75) rfl (hb hby at_51) rfl ((if0 _ _).trans (feq (by decide)).2) (by decide) (by decide) ?_
      refine XS.iload X0.here hx rfl (hb hby at_75) rfl ?_
      refine XS.iconst X0.here hx rfl (hb hby at_77) ?_
      show SS p e below s₁ m 78 #[.val (.int sel), .val (.int pos), .val (.int ch), .val (.int len), .val (.int kq), .val (.int (1 : Int32)), .val (.int cz), .val (.int cy), .val (.int cx), .unset, .unset, .unset, .unset, .unset] [(.int (1 : Int32)), (.int (1 : Int32))] _
      refine XS.icmpNo X0.here hx rfl (hb hby at_78) rfl (teq (by decide)).2 ?_
      exact kt
    rcases (h_kq ▸ own_r3 _ : kq = 0 ∨ kq = 1 ∨ kq = 2) with rfl | rfl | rfl
    ·
      obtain ⟨_, _, ⟨T175, L175, k175, n175⟩, -, X175, ⟨Lc175, hQ175, l175, y175, z175⟩, st175⟩ := Jvm.LawKit.callS X0 hx (y := yn11) hown0 (mvT hZ0 (w5 hw)) (mvT hZ0 (w6 hw)) (mvT hZ0 (w7 hw)) (mvT hZ0 (w8 hw)) (by decide) (backOf (W := 0) (rm_full0 l Z a0 hw []  h0 n0 Z0 ) hZ0 (w8 hw) (w7 hw) (by decide) (by decide)) (g := (mkF m 83 #[.val (.int sel), .val (.int pos), .val (.int ch), .val (.int len), .val (.int (0 : Int32)), .val (.int (1 : Int32)), .val (.int cz), .val (.int cy), .val (.int cx), .unset, .unset, .unset, .unset, .unset] [(.int (0 : Int32))])) rfl (by rw [hml]; rfl) (argsL := [(.int (0 : Int32))]) (rest := []) (lenOf pd__28_I_29__5b_C rfl) rfl (by show 2 * 0 + _ ≤ _; exact Nat.le_of_eq rfl) (hb hby at_83) (fun _ _ => ⟨rfl, e0, (Nat.le_of_ble_eq_true rfl), (Nat.le_of_ble_eq_true rfl)⟩)
      dsimp only [Pt.U, Pt.locs, Pt.cells, Pt.slots] at X175 l175 y175 z175 st175 hQ175
      subst l175 y175 z175
      obtain ⟨r_176, kr_177, rfl, Nq175, K175, P175_0, P175_1⟩ := hQ175
      have N175 := Fr.app N0 Nq175
      have R178 : CHr Z EL_1 s.vm h0 s.vm T175.heap := R0.trans (CHr.keep K175 sf0 R0.1)
      obtain ⟨cl179, Ar179, -, S179, M179, -, -⟩ := id P175_1
      obtain ⟨pq, h_pq⟩ : ∃ z : Int32, z = ((pos &&& (2147483647 : Int32)) % (8 : Int32)) := ⟨_, rfl⟩
      obtain ⟨cl180, Ar180, q180, S180, M180, H180, F180g⟩ := id P175_1
      have hpq := (own_pin (p := pq) (n := 8) (by rw [h_pq]; exact own_rm pos _ 8 rfl (by decide)))
      have hin180 : ¬ (pq < 0 ∨ cl180.slots.size ≤ (pq).toNatClampNeg) := inb_of S180 ⟨hpq.1, by rw [Int32.lt_iff_toInt_lt, h_pq]; exact (own_rm pos _ 8 rfl (by decide)).2⟩
      have hat180 : cl180.slots[(pq).toNatClampNeg]? = some (.int (jn0.getD pq.toNatClampNeg 0)) := Has.at H180 hin180 (ch_at jn0 _ _ hpq.2)
      obtain ⟨cl181, Ar181, q181, S181, M181, H181, F181g⟩ := id P175_1
      have hin181 : ¬ (pq < 0 ∨ cl181.slots.size ≤ (pq).toNatClampNeg) := inb_of S181 ⟨hpq.1, by rw [Int32.lt_iff_toInt_lt, h_pq]; exact (own_rm pos _ _ rfl (by decide)).2⟩
      obtain ⟨T181, h181, X181, e181, Wr181, st181⟩ := stC X175 hx hZ0 rfl Ar181 (j := pq) hin181 (g := (mkF m 111 #[.val (.int sel), .val (.int pos), .val (.int ch), .val (.int len), .val (.int (0 : Int32)), .val (.int (1 : Int32)), .val (.int cz), .val (.int cy), .val (.int cx), .unset, .unset, .val (.ref r_176), .val (.int pq), .val (.int (jn0.getD pq.toNatClampNeg 0))] [(.int cz), (.int pq), (.ref r_176)])) rfl rfl (hb hby at_111)
      have G181 : Arv Z h181 r_176 kr_177 .char (8 : Int32) ([(.int (115 : Int32)), (.int (116 : Int32)), (.int (97 : Int32)), (.int (110 : Int32)), (.int (100 : Int32)), (.int (97 : Int32)), (.int (114 : Int32)), (.int (100 : Int32))].set pq.toNatClampNeg (.int (nar .char cz))) (.int (0 : Int32)) := Arv.set Ar181 q181 S181 M181 H181 F181g (fits_nar_char _) Wr181 pq.toNatClampNeg rfl hpq.2
      have K181 := Keep.of_wr Wr181
      have N181 := Fr.snoc X181 N175 (Nat.le_trans Z0 P175_0)
      have R182 : CHr Z EL_1 s.vm h0 s.vm h181 := R178.trans (CHr.keep K181 (sfS (Safe.arv hZ0.alike P175_1 (by intro q; cases q)) sf0) R178.1)
      have J181 : Arv Z h181 r_176 kr_177 .char (8 : Int32) ((jn0.set pq.toNatClampNeg cz).map Value.int) (.int (0 : Int32)) := by rw [own_nar8 hcz] at G181; rw [List.map_set]; exact G181
      obtain ⟨T183, h183, X183, e183, E183, A183, D183, U183, st183⟩ := newO X181 hx hZ0 hown0 (w2 hw) (w3 hw) (w4 hw) e181 (g := (mkF m 112 #[.val (.int sel), .val (.int pos), .val (.int ch), .val (.int len), .val (.int (0 : Int32)), .val (.int (1 : Int32)), .val (.int cz), .val (.int cy), .val (.int cx), .unset, .unset, .val (.ref r_176), .val (.int pq), .val (.int (jn0.getD pq.toNatClampNeg 0))] [])) rfl (hb hby at_112) (by decide) (by decide)
      obtain ⟨b183, g183⟩ : ∃ z, z = h181.size := ⟨_, rfl⟩
      rw [← g183] at A183 D183 U183 st183
      have K183 := (Keep.refl h181 []).ext E183
      have R184 : CHr Z EL_1 s.vm h0 s.vm h183 := R182.trans (CHr.keep K183 sf0 R182.1)
      have G183_coder : Fld Z h183 b183 "java/lang/String" "coder" "B" (.int (0 : Int32)) := D183 (Or.inr (w33 hw)) (ty := .byte) (by decide)
      have G183_value : Fld Z h183 b183 "java/lang/String" "value" "[B" .null := D183 (Or.inr (w35 hw)) (ty := (.array .byte)) (by decide)
      have hk185 := own_okl (l := (jn0.set pq.toNatClampNeg cz)) (own_b8s (by decide) hcz) (by rw [List.length_set]; decide)
      have F186 : Arv Z h183 r_176 kr_177 .char (8 : Int32) ((jn0.set pq.toNatClampNeg cz).map Value.int) (.int (0 : Int32)) := (J181.keep K183 nin0)
      have O187 : Old Z n0 h183 := (((O0.keep K175 all0).keep K181 (allS (Nat.le_trans Z0 P175_0) all0)).keep K183 all0)
      obtain ⟨_, _, ⟨T188, L188, k188, n188⟩, -, X188, ⟨Lc188, hQ188, l188, y188, z188⟩, st188⟩ := X183.specialBack hx (y := yn4) rfl hown0 (mvT hZ0 (w10 hw)) (mvT hZ0 (w11 hw)) (mvT hZ0 (w12 hw)) (by decide) (backOf (W := 1) (rm_sinit l Z a0 hw [] b183 r_176 kr_177 (jn0.set pq.toNatClampNeg cz) cS h183 n0 (Nat.le_trans Z0 (Nat.le_trans (Nat.le_trans K175.1 K181.1) K183.1)) O187 S_cs hcS A183 G183_value G183_coder (Nat.le_trans Z0 (Nat.le_trans (Nat.le_trans K175.1 K181.1) (Nat.le_of_eq g183.symm))) (by have q := F186; rw [show (8 : Int32) = Int32.ofNat (jn0.set pq.toNatClampNeg cz).length from by rw [List.length_set]; rfl] at q; exact q) hk185.1 (by rw [List.length_set]; decide) (by rw [List.length_set]; decide) (Ne.symm (Nat.ne_of_lt (Nat.lt_of_lt_of_le (Nat.lt_of_lt_of_le P175_1.lt K181.1) (Nat.le_of_eq g183.symm)))) hk185.2) hZ0 (w12 hw) (w4 hw) (by decide) (by decide)) (g := (mkF m 118 #[.val (.int sel), .val (.int pos), .val (.int ch), .val (.int len), .val (.int (0 : Int32)), .val (.int (1 : Int32)), .val (.int cz), .val (.int cy), .val (.int cx), .unset, .unset, .val (.ref r_176), .val (.int pq), .val (.int (jn0.getD pq.toNatClampNeg 0))] [(.ref r_176), (.ref b183), (.ref b183)])) rfl (by rw [hml]; rfl) (Steps.refl _) (a := b183) (argsL := [(.ref r_176)]) (rest := [(.ref b183)]) (lenOf pd__28__5b_C_29_V rfl) rfl (by show 2 * 0 + _ ≤ _; exact Nat.le_of_eq rfl) (hb hby at_118) (fun _ _ => ⟨rfl, e183, (Nat.le_of_ble_eq_true rfl), (Nat.le_of_ble_eq_true rfl)⟩)
      dsimp only [Pt.U, Pt.locs, Pt.cells, Pt.slots] at X188 l188 y188 z188 st188 hQ188
      subst l188 y188 z188
      obtain ⟨t_189, kb_190, rfl, Nq188, K188, P188_0, P188_1⟩ := hQ188
      have N188 := Fr.app N181 Nq188
      have Sf191 : Safe Z EL_1 s.vm h183 b183 := (Safe.keep K183 sf0 R182.1 (Safe.new (Nat.le_of_eq g183.symm)))
      have R192 : CHr Z EL_1 s.vm h0 s.vm T188.heap := R184.trans (CHr.keep K188 (sfS Sf191 sf0) R184.1)
      have W193 : ∀ zQ, SS p e below T188 m 127 #[.val (.int sel), .val (.int pos), .val (.int ch), .val (.int len), .val (.int (0 : Int32)), .val (.int (1 : Int32)), .val (.int cz), .val (.int cy), .val (.int cx), .val (.ref b183), .unset, .val (.ref r_176), .val (.int pq), .val (.int (jn0.getD pq.toNatClampNeg 0))] [(.int (jn0.getD pq.toNatClampNeg 0)), (.int cz)] zQ → Steps p.tables e below (s₁.setTop (entryFrame m #[(.int sel), (.int pos), (.int ch), (.int len)] maxLocals)) zQ := by
        intro tt kt
        refine W174 tt ?_
        refine XS.iload X0.here hx rfl (hb hby at_81) rfl ?_
        show SS p e below s₁ m 83 #[.val (.int sel), .val (.int pos), .val (.int ch), .val (.int len), .val (.int (0 : Int32)), .val (.int (1 : Int32)), .val (.int cz), .val (.int cy), .val (.int cx), .unset, .unset, .unset, .unset, .unset] [(.int (0 : Int32))] _
        refine st175 _ ?_
        refine XS.astore X175.here hx rfl (hb hby at_86) rfl rfl (l' := #[.val (.int sel), .val (.int pos), .val (.int ch), .val (.int len), .val (.int (0 : Int32)), .val (.int (1 : Int32)), .val (.int cz), .val (.int cy), .val (.int cx), .unset, .unset, .val (.ref r_176), .unset, .unset]) rfl ?_
        refine XS.iloadN X175.here hx rfl (hb hby at_88) rfl ?_
        show SS p e below T175 m 89 #[.val (.int sel), .val (.int pos), .val (.int ch), .val (.int len), .val (.int (0 : Int32)), .val (.int (1 : Int32)), .val (.int cz), .val (.int cy), .val (.int cx), .unset, .unset, .val (.ref r_176), .unset, .unset] [(.int pos)] _
        refine X175.ldcInt hx hown0 (mvT hZ0 (w0 hw)) (g := (mkF m 89 #[.val (.int sel), .val (.int pos), .val (.int ch), .val (.int len), .val (.int (0 : Int32)), .val (.int (1 : Int32)), .val (.int cz), .val (.int cy), .val (.int cx), .unset, .unset, .val (.ref r_176), .unset, .unset] [(.int pos)])) rfl (hb hby at_89) _ ?_
        refine XS.iand X175.here hx rfl (hb hby at_91) rfl ?_
        refine XS.aload X175.here hx rfl (hb hby at_92) rfl rfl ?_
        show SS p e below T175 m 94 #[.val (.int sel), .val (.int pos), .val (.int ch), .val (.int len), .val (.int (0 : Int32)), .val (.int (1 : Int32)), .val (.int cz), .val (.int cy), .val (.int cx), .unset, .unset, .val (.ref r_176), .unset, .unset] [(.ref r_176), (.int (pos &&& (2147483647 : Int32)))] _
        refine X175.arraylength hx (by first | exact Ar179.1 | (rw [rfl]; exact Ar179.1)) (State.isArrayOf_alike hZ0.alike Ar179.2.1) (g := (mkF m 94 #[.val (.int sel), .val (.int pos), .val (.int ch), .val (.int len), .val (.int (0 : Int32)), .val (.int (1 : Int32)), .val (.int cz), .val (.int cy), .val (.int cx), .unset, .unset, .val (.ref r_176), .unset, .unset] [(.ref r_176), (.int (pos &&& (2147483647 : Int32)))])) rfl rfl (hb hby at_94) _ ?_
        rw [len_of S179 M179]
        show SS p e below T175 m 95 #[.val (.int sel), .val (.int pos), .val (.int ch), .val (.int len), .val (.int (0 : Int32)), .val (.int (1 : Int32)), .val (.int cz), .val (.int cy), .val (.int cx), .unset, .unset, .val (.ref r_176), .unset, .unset] [(.int (8 : Int32)), (.int (pos &&& (2147483647 : Int32)))] _
        refine Jvm.RoadKit.iremM X175 hx rfl (hb hby at_95) rfl (by decide) ?_
        show SS p e below T175 m 96 #[.val (.int sel), .val (.int pos), .val (.int ch), .val (.int len), .val (.int (0 : Int32)), .val (.int (1 : Int32)), .val (.int cz), .val (.int cy), .val (.int cx), .unset, .unset, .val (.ref r_176), .unset, .unset] [(.int ((pos &&& (2147483647 : Int32)) % (8 : Int32)))] _
        rw [← h_pq]
        refine XS.istore X175.here hx rfl (hb hby at_96) rfl (l' := #[.val (.int sel), .val (.int pos), .val (.int ch), .val (.int len), .val (.int (0 : Int32)), .val (.int (1 : Int32)), .val (.int cz), .val (.int cy), .val (.int cx), .unset, .unset, .val (.ref r_176), .val (.int pq), .unset]) rfl ?_
        refine XS.aload X175.here hx rfl (hb hby at_98) rfl rfl ?_
        refine XS.iload X175.here hx rfl (hb hby at_100) rfl ?_
        show SS p e below T175 m 102 #[.val (.int sel), .val (.int pos), .val (.int ch), .val (.int len), .val (.int (0 : Int32)), .val (.int (1 : Int32)), .val (.int cz), .val (.int cy), .val (.int cx), .unset, .unset, .val (.ref r_176), .val (.int pq), .unset] [(.int pq), (.ref r_176)] _
        refine X175.caload hx (j := pq) (v := (.int (jn0.getD pq.toNatClampNeg 0))) (by first | exact Ar180.1 | (rw [rfl]; exact Ar180.1)) (State.isArrayOf_alike hZ0.alike Ar180.2.1) Ar180.2.2 hin180 hat180 (g := (mkF m 102 #[.val (.int sel), .val (.int pos), .val (.int ch), .val (.int len), .val (.int (0 : Int32)), .val (.int (1 : Int32)), .val (.int cz), .val (.int cy), .val (.int cx), .unset, .unset, .val (.ref r_176), .val (.int pq), .unset] [(.int pq), (.ref r_176)])) rfl rfl (hb hby at_102) _ ?_
        refine XS.istore X175.here hx rfl (hb hby at_103) rfl (l' := #[.val (.int sel), .val (.int pos), .val (.int ch), .val (.int len), .val (.int (0 : Int32)), .val (.int (1 : Int32)), .val (.int cz), .val (.int cy), .val (.int cx), .unset, .unset, .val (.ref r_176), .val (.int pq), .val (.int (jn0.getD pq.toNatClampNeg 0))]) rfl ?_
        refine XS.aload X175.here hx rfl (hb hby at_105) rfl rfl ?_
        refine XS.iload X175.here hx rfl (hb hby at_107) rfl ?_
        refine XS.iload X175.here hx rfl (hb hby at_109) rfl ?_
        show SS p e below T175 m 111 #[.val (.int sel), .val (.int pos), .val (.int ch), .val (.int len), .val (.int (0 : Int32)), .val (.int (1 : Int32)), .val (.int cz), .val (.int cy), .val (.int cx), .unset, .unset, .val (.ref r_176), .val (.int pq), .val (.int (jn0.getD pq.toNatClampNeg 0))] [(.int cz), (.int pq), (.ref r_176)] _
        refine st181 _ ?_
        show SS p e below T181 m 112 #[.val (.int sel), .val (.int pos), .val (.int ch), .val (.int len), .val (.int (0 : Int32)), .val (.int (1 : Int32)), .val (.int cz), .val (.int cy), .val (.int cx), .unset, .unset, .val (.ref r_176), .val (.int pq), .val (.int (jn0.getD pq.toNatClampNeg 0))] [] _
        refine st183 _ ?_
        refine XS.dup X183.here hx rfl (hb hby at_115) rfl rfl ?_
        refine XS.aload X183.here hx rfl (hb hby at_116) rfl rfl ?_
        show SS p e below T183 m 118 #[.val (.int sel), .val (.int pos), .val (.int ch), .val (.int len), .val (.int (0 : Int32)), .val (.int (1 : Int32)), .val (.int cz), .val (.int cy), .val (.int cx), .unset, .unset, .val (.ref r_176), .val (.int pq), .val (.int (jn0.getD pq.toNatClampNeg 0))] [(.ref r_176), (.ref b183), (.ref b183)] _
        refine st188.trans ?_
        refine XS.astore X188.here hx rfl (hb hby at_121) rfl rfl (l' := #[.val (.int sel), .val (.int pos), .val (.int ch), .val (.int len), .val (.int (0 : Int32)), .val (.int (1 : Int32)), .val (.int cz), .val (.int cy), .val (.int cx), .val (.ref b183), .unset, .val (.ref r_176), .val (.int pq), .val (.int (jn0.getD pq.toNatClampNeg 0))]) rfl ?_
        refine XS.iload X188.here hx rfl (hb hby at_123) rfl ?_
        refine XS.iload X188.here hx rfl (hb hby at_125) rfl ?_
        exact kt
      by_cases hc194 : cz = (jn0.getD pq.toNatClampNeg 0)
      ·
        have O195 : Old Z n0 T188.heap := (O187.keep K188 (allS (Nat.le_trans Z0 (Nat.le_trans (Nat.le_trans K175.1 K181.1) (Nat.le_of_eq g183.symm))) all0))
        obtain ⟨_, _, ⟨T196, L196, k196, n196⟩, -, X196, ⟨Lc196, hQ196, l196, y196, z196⟩, st196⟩ := Jvm.LawKit.callS X188 hx (y := yn22) hown0 (mvT hZ0 (w36 hw)) (mvT hZ0 (w37 hw)) (mvT hZ0 (w38 hw)) (mvT hZ0 (w39 hw)) (by decide) (backOf (W := 0) (rm_of0 l Z a0 hw [] b183 t_189 kb_190 (jn0.set pq.toNatClampNeg cz) o0 o1 o2 oV kV j0 v0 kv0 j1 v1 kv1 j2 v2 kv2 oE cS T188.heap n0 (Nat.le_trans Z0 (Nat.le_trans (Nat.le_trans (Nat.le_trans K175.1 K181.1) K183.1) K188.1)) O195 S_V S_0 S_1 S_2 E_V V_V E_0 Fj_0 Ej_0 Fc_0 Fv_0 Vv_0 E_1 Fj_1 Ej_1 Fc_1 Fv_1 Vv_1 E_2 Fj_2 Ej_2 Fc_2 Fv_2 Vv_2 S_EMPTY E_EMPTY F_EMPTY S_cs hcS P188_1 hk185.2 (Nat.le_trans Z0 (Nat.le_trans (Nat.le_trans K175.1 K181.1) (Nat.le_of_eq g183.symm))) (own_setself hpq.2 hc194)) hZ0 (w39 hw) (w38 hw) (by decide) (by decide)) (g := (mkF m 299 #[.val (.int sel), .val (.int pos), .val (.int ch), .val (.int len), .val (.int (0 : Int32)), .val (.int (1 : Int32)), .val (.int cz), .val (.int cy), .val (.int cx), .val (.ref b183), .val (.int (0 : Int32)), .val (.ref r_176), .val (.int pq), .val (.int (jn0.getD pq.toNatClampNeg 0))] [(.ref b183)])) rfl (by rw [hml]; rfl) (argsL := [(.ref b183)]) (rest := []) (lenOf pd__28_Ljava_2f_lang_2f_String_3b__29_Ljava_2f_util_2f_Optional_3b_ rfl) rfl (by show 2 * 0 + _ ≤ _; exact Nat.le_of_eq rfl) (hb hby at_299) (fun _ _ => ⟨rfl, rfl, (Nat.le_of_ble_eq_true rfl), (Nat.le_of_ble_eq_true rfl)⟩)
        dsimp only [Pt.U, Pt.locs, Pt.cells, Pt.slots] at X196 l196 y196 z196 st196 hQ196
        subst l196 y196 z196
        obtain ⟨r_197, rfl, Nq196, K196, P196_0, P196_1, P196_2⟩ := hQ196
        have N196 := Fr.app N188 Nq196
        have R198 : CHr Z EL_1 s.vm h0 s.vm T196.heap := R192.trans (CHr.keep K196 sf0 R192.1)
        obtain ⟨cq199, kq199, q199a, q199b, q199c⟩ := isOf hZ0 rfl P196_1
        obtain ⟨_, _, ⟨T199, L199, k199, n199⟩, -, X199, ⟨Lc199, hQ199, l199, y199, z199⟩, st199⟩ := X196.virtualBack hx (y := yn18) (z := yn18) hown0 (mvT hZ0 (w87 hw)) (mvT hZ0 (w88 hw)) (notFace_of_selects (args := #[]) (mvT hZ0 (w90 hw))) (mvT hZ0 (w90 hw)) (mvT hZ0 (w89 hw)) (by decide) (backOf (W := 0) (rm_isP1 l Z a0 hw [] r_197 o0 T196.heap n0 (Nat.le_trans Z0 (Nat.le_trans (Nat.le_trans (Nat.le_trans (Nat.le_trans K175.1 K181.1) K183.1) K188.1) K196.1)) P196_2) hZ0 (w91 hw) (w72 hw) (by decide) (by decide)) q199a q199c (g := (mkF m 325 #[.val (.int sel), .val (.int pos), .val (.int ch), .val (.int len), .val (.int (0 : Int32)), .val (.int (1 : Int32)), .val (.int cz), .val (.int cy), .val (.int cx), .val (.ref b183), .val (.int (0 : Int32)), .val (.ref r_197), .val (.int pq), .val (.int (jn0.getD pq.toNatClampNeg 0))] [(.ref r_197)])) rfl (by rw [hml]; rfl) (Steps.refl _) (argsL := []) (rest := []) (lenOf pd__28__29_Z rfl) rfl (by show 2 * 0 + _ ≤ _; exact Nat.le_of_eq rfl) (hb hby at_325) (fun _ _ => ⟨rfl, rfl, (Nat.le_of_ble_eq_true rfl), (Nat.le_of_ble_eq_true rfl)⟩)
        dsimp only [Pt.U, Pt.locs, Pt.cells, Pt.slots] at X199 l199 y199 z199 st199 hQ199
        subst l199 y199 z199
        obtain ⟨rfl, Nq199, eq199⟩ := hQ199
        have N199 := Fr.app N196 Nq199
        obtain ⟨cq200, kq200, q200a, q200b, q200c⟩ := isOf hZ0 eq199 P196_1
        obtain ⟨_, _, ⟨T200, L200, k200, n200⟩, -, X200, ⟨Lc200, hQ200, l200, y200, z200⟩, st200⟩ := X199.virtualBack hx (y := yn19) (z := yn19) hown0 (mvT hZ0 (w92 hw)) (mvT hZ0 (w93 hw)) (notFace_of_selects (args := #[]) (mvT hZ0 (w95 hw))) (mvT hZ0 (w95 hw)) (mvT hZ0 (w94 hw)) (by decide) (backOf (W := 0) (rm_opGet l Z a0 hw [] r_197 o0 T196.heap n0 (Nat.le_trans Z0 (Nat.le_trans (Nat.le_trans (Nat.le_trans (Nat.le_trans K175.1 K181.1) K183.1) K188.1) K196.1)) P196_2) hZ0 (w96 hw) (w72 hw) (by decide) (by decide)) q200a q200c (g := (mkF m 333 #[.val (.int sel), .val (.int pos), .val (.int ch), .val (.int len), .val (.int (0 : Int32)), .val (.int (1 : Int32)), .val (.int cz), .val (.int cy), .val (.int cx), .val (.ref b183), .val (.int (0 : Int32)), .val (.ref r_197), .val (.int pq), .val (.int (jn0.getD pq.toNatClampNeg 0))] [(.ref r_197)])) rfl (by rw [hml]; rfl) (Steps.refl _) (argsL := []) (rest := []) (lenOf pd__28__29_Ljava_2f_lang_2f_Object_3b_ rfl) rfl (by show 2 * 0 + _ ≤ _; exact Nat.le_of_eq rfl) (hb hby at_333) (fun _ _ => ⟨rfl, eq199, (Nat.le_of_ble_eq_true rfl), (Nat.le_of_ble_eq_true rfl)⟩)
        dsimp only [Pt.U, Pt.locs, Pt.cells, Pt.slots] at X200 l200 y200 z200 st200 hQ200
        subst l200 y200 z200
        obtain ⟨rfl, Nq200, eq200⟩ := hQ200
        have N200 := Fr.app N199 Nq200
        have O201 : Old Z n0 T196.heap := (O195.keep K196 all0)
        obtain ⟨_, _, ⟨T202, L202, k202, n202⟩, -, X202, ⟨Lc202, hQ202, l202, y202, z202⟩, st202⟩ := Jvm.LawKit.callS X200 hx (y := yn20) hown0 (mvT hZ0 (w97 hw)) (mvT hZ0 (w98 hw)) (mvT hZ0 (w7 hw)) (mvT hZ0 (w99 hw)) (by decide) (backOf (W := 1) (rm_const0 l Z a0 hw [] o0 T196.heap n0 (Nat.le_trans Z0 (Nat.le_trans (Nat.le_trans (Nat.le_trans (Nat.le_trans K175.1 K181.1) K183.1) K188.1) K196.1)) O201 S_0) hZ0 (w99 hw) (w7 hw) (by decide) (by decide)) (g := (mkF m 338 #[.val (.int sel), .val (.int pos), .val (.int ch), .val (.int len), .val (.int (0 : Int32)), .val (.int (1 : Int32)), .val (.int cz), .val (.int cy), .val (.int cx), .val (.ref b183), .val (.int (0 : Int32)), .val (.ref r_197), .val (.int pq), .val (.int (jn0.getD pq.toNatClampNeg 0))] [(.int (0 : Int32)), (.ref o0)])) rfl (by rw [hml]; rfl) (argsL := [(.int (0 : Int32))]) (rest := [(.ref o0)]) (lenOf pd__28_I_29_Lcom_2f_example_2f_composition_2f_composition_2f_definition_2f_AbapLanguageVersion_3b_ rfl) rfl (by show 2 * 0 + _ ≤ _; exact Nat.le_of_eq rfl) (hb hby at_338) (fun _ _ => ⟨rfl, eq200, (Nat.le_of_ble_eq_true rfl), (Nat.le_of_ble_eq_true rfl)⟩)
        dsimp only [Pt.U, Pt.locs, Pt.cells, Pt.slots] at X202 l202 y202 z202 st202 hQ202
        subst l202 y202 z202
        obtain ⟨rfl, Nq202, eq202⟩ := hQ202
        have N202 := Fr.app N200 Nq202
        have W203 : ∀ zQ, SS p e below T202 m 349 #[.val (.int sel), .val (.int pos), .val (.int ch), .val (.int len), .val (.int (0 : Int32)), .val (.int (1 : Int32)), .val (.int cz), .val (.int cy), .val (.int cx), .val (.ref b183), .val (.int (0 : Int32)), .val (.ref r_197), .val (.int pq), .val (.int (jn0.getD pq.toNatClampNeg 0))] [(.int (1 : Int32))] zQ → Steps p.tables e below (s₁.setTop (entryFrame m #[(.int sel), (.int pos), (.int ch), (.int len)] maxLocals)) zQ := by
          intro tt kt
          refine W193 tt ?_
          refine XS.icmpNo X188.here hx rfl (hb hby at_127) rfl (teq hc194).2 ?_
          refine XS.iload X188.here hx rfl (hb hby at_130) rfl ?_
          refine XS.goto X188.here hx rfl (pc0 := 132) (pc' := 136) rfl (hb hby at_132) (by decide) (by decide) ?_
          refine XS.istore X188.here hx rfl (hb hby at_136) rfl (l' := #[.val (.int sel), .val (.int pos), .val (.int ch), .val (.int len), .val (.int (0 : Int32)), .val (.int (1 : Int32)), .val (.int cz), .val (.int cy), .val (.int cx), .val (.ref b183), .val (.int (0 : Int32)), .val (.ref r_176), .val (.int pq), .val (.int (jn0.getD pq.toNatClampNeg 0))]) rfl ?_
          refine XS.goto X188.here hx rfl (pc0 := 138) (pc' := 297) rfl (hb hby at_138) (by decide) (by decide) ?_
          refine XS.aload X188.here hx rfl (hb hby at_297) rfl rfl ?_
          show SS p e below T188 m 299 #[.val (.int sel), .val (.int pos), .val (.int ch), .val (.int len), .val (.int (0 : Int32)), .val (.int (1 : Int32)), .val (.int cz), .val (.int cy), .val (.int cx), .val (.ref b183), .val (.int (0 : Int32)), .val (.ref r_176), .val (.int pq), .val (.int (jn0.getD pq.toNatClampNeg 0))] [(.ref b183)] _
          refine st196 _ ?_
          refine XS.astore X196.here hx rfl (hb hby at_302) rfl rfl (l' := #[.val (.int sel), .val (.int pos), .val (.int ch), .val (.int len), .val (.int (0 : Int32)), .val (.int (1 : Int32)), .val (.int cz), .val (.int cy), .val (.int cx), .val (.ref b183), .val (.int (0 : Int32)), .val (.ref r_197), .val (.int pq), .val (.int (jn0.getD pq.toNatClampNeg 0))]) rfl ?_
          refine XS.iload X196.here hx rfl (hb hby at_304) rfl ?_
          refine XS.ifYes X196.here hx rfl (pc0 := 306) (pc' := 323) rfl (hb hby at_306) rfl ((if0 _ _).trans (flt (by decide)).2.1) (by decide) (by decide) ?_
          refine XS.aload X196.here hx rfl (hb hby at_323) rfl rfl ?_
          show SS p e below T196 m 325 #[.val (.int sel), .val (.int pos), .val (.int ch), .val (.int len), .val (.int (0 : Int32)), .val (.int (1 : Int32)), .val (.int cz), .val (.int cy), .val (.int cx), .val (.ref b183), .val (.int (0 : Int32)), .val (.ref r_197), .val (.int pq), .val (.int (jn0.getD pq.toNatClampNeg 0))] [(.ref r_197)] _
          refine st199.trans ?_
          refine XS.ifNo X199.here hx rfl (hb hby at_328) rfl ((if0 _ _).trans (feq (by decide)).1) ?_
          refine XS.aload X199.here hx rfl (hb hby at_331) rfl rfl ?_
          show SS p e below T199 m 333 #[.val (.int sel), .val (.int pos), .val (.int ch), .val (.int len), .val (.int (0 : Int32)), .val (.int (1 : Int32)), .val (.int cz), .val (.int cy), .val (.int cx), .val (.ref b183), .val (.int (0 : Int32)), .val (.ref r_197), .val (.int pq), .val (.int (jn0.getD pq.toNatClampNeg 0))] [(.ref r_197)] _
          refine st200.trans ?_
          refine XS.iload X200.here hx rfl (hb hby at_336) rfl ?_
          show SS p e below T200 m 338 #[.val (.int sel), .val (.int pos), .val (.int ch), .val (.int len), .val (.int (0 : Int32)), .val (.int (1 : Int32)), .val (.int cz), .val (.int cy), .val (.int cx), .val (.ref b183), .val (.int (0 : Int32)), .val (.ref r_197), .val (.int pq), .val (.int (jn0.getD pq.toNatClampNeg 0))] [(.int (0 : Int32)), (.ref o0)] _
          refine st202 _ ?_
          show SS p e below T202 m 341 #[.val (.int sel), .val (.int pos), .val (.int ch), .val (.int len), .val (.int (0 : Int32)), .val (.int (1 : Int32)), .val (.int cz), .val (.int cy), .val (.int cx), .val (.ref b183), .val (.int (0 : Int32)), .val (.ref r_197), .val (.int pq), .val (.int (jn0.getD pq.toNatClampNeg 0))] [(.ref o0), (.ref o0)] _
          refine Jvm.RoadKit.acmp (g := (mkF m 341 #[.val (.int sel), .val (.int pos), .val (.int ch), .val (.int len), .val (.int (0 : Int32)), .val (.int (1 : Int32)), .val (.int cz), .val (.int cy), .val (.int cx), .val (.ref b183), .val (.int (0 : Int32)), .val (.ref r_197), .val (.int pq), .val (.int (jn0.getD pq.toNatClampNeg 0))] [(.ref o0), (.ref o0)])) X202 hx rfl rfl rfl (pc0 := 341) (pc' := 344) (same := true) rfl (hb hby at_341) rfl (decide_eq_true rfl) (by decide) (by decide) ?_
          refine XS.iconst X202.here hx rfl (hb hby at_344) ?_
          refine XS.goto X202.here hx rfl (pc0 := 345) (pc' := 349) rfl (hb hby at_345) (by decide) (by decide) ?_
          exact kt
        obtain ⟨fs, hr, hrun, hended, hRW⟩ := Jvm.Stand.leaveW X202 hS0 (by rw [eq202]; exact (Nat.le_trans hk0 (Nat.le_trans (Nat.le_trans (Nat.le_trans (Nat.le_trans K175.1 K181.1) K183.1) K188.1) K196.1))) (v := some (.int (nar .boolean (1 : Int32)))) (fun h => by rw [Bd.returns] at h; cases h) (BodyLoose.notSynchronized Bd)
        refine ⟨_, _, W203 _ (retN X202 hx (t := .boolean) Bd.returns (by simp) (hb hby at_349) hr), hrun, hended, _, _, rfl, ?_, own_chr (T := T202) R198 (CHv.at X202 hZ0 hEL R198.1) hh.symm eq202, own_rw hRW (by decide) (by decide)⟩
        show Q_law Z sel pos ch len o0 o1 o2 oV kV j0 v0 kv0 j1 v1 kv1 j2 v2 kv2 oE cS h0 n0 _ T202.heap _
        rw [eq202]
        exact ⟨rfl, N202, (Keep.trans (Keep.trans (Keep.trans (Keep.trans (Keep.trans (Keep.refl h0 []) K175 all0) K181 (allS (Or.inr P175_0) all0)) K183 all0) K188 (allS (Or.inr (Nat.le_trans (Nat.le_trans K175.1 K181.1) (Nat.le_of_eq g183.symm))) all0)) K196 all0)⟩
      ·
        have O204 : Old Z n0 T188.heap := (O187.keep K188 (allS (Nat.le_trans Z0 (Nat.le_trans (Nat.le_trans K175.1 K181.1) (Nat.le_of_eq g183.symm))) all0))
        obtain ⟨_, _, ⟨T205, L205, k205, n205⟩, -, X205, ⟨Lc205, hQ205, l205, y205, z205⟩, st205⟩ := Jvm.LawKit.callS X188 hx (y := yn22) hown0 (mvT hZ0 (w36 hw)) (mvT hZ0 (w37 hw)) (mvT hZ0 (w38 hw)) (mvT hZ0 (w39 hw)) (by decide) (backOf (W := 0) (rm_of3 l Z a0 hw [] b183 t_189 kb_190 (jn0.set pq.toNatClampNeg cz) o0 o1 o2 oV kV j0 v0 kv0 j1 v1 kv1 j2 v2 kv2 oE cS T188.heap n0 (Nat.le_trans Z0 (Nat.le_trans (Nat.le_trans (Nat.le_trans K175.1 K181.1) K183.1) K188.1)) O204 S_V S_0 S_1 S_2 E_V V_V E_0 Fj_0 Ej_0 Fc_0 Fv_0 Vv_0 E_1 Fj_1 Ej_1 Fc_1 Fv_1 Vv_1 E_2 Fj_2 Ej_2 Fc_2 Fv_2 Vv_2 S_EMPTY E_EMPTY F_EMPTY S_cs hcS P188_1 hk185.2 (Nat.le_trans Z0 (Nat.le_trans (Nat.le_trans K175.1 K181.1) (Nat.le_of_eq g183.symm))) (own_setne hpq.2 hc194) (fun e => absurd ((congrArg List.length e).trans List.length_set) (by decide)) (fun e => absurd ((congrArg List.length e).trans List.length_set) (by decide))) hZ0 (w39 hw) (w38 hw) (by decide) (by decide)) (g := (mkF m 299 #[.val (.int sel), .val (.int pos), .val (.int ch), .val (.int len), .val (.int (0 : Int32)), .val (.int (1 : Int32)), .val (.int cz), .val (.int cy), .val (.int cx), .val (.ref b183), .val (.int (-1 : Int32)), .val (.ref r_176), .val (.int pq), .val (.int (jn0.getD pq.toNatClampNeg 0))] [(.ref b183)])) rfl (by rw [hml]; rfl) (argsL := [(.ref b183)]) (rest := []) (lenOf pd__28_Ljava_2f_lang_2f_String_3b__29_Ljava_2f_util_2f_Optional_3b_ rfl) rfl (by show 2 * 0 + _ ≤ _; exact Nat.le_of_eq rfl) (hb hby at_299) (fun _ _ => ⟨rfl, rfl, (Nat.le_of_ble_eq_true rfl), (Nat.le_of_ble_eq_true rfl)⟩)
        dsimp only [Pt.U, Pt.locs, Pt.cells, Pt.slots] at X205 l205 y205 z205 st205 hQ205
        subst l205 y205 z205
        obtain ⟨rfl, Nq205, K205⟩ := hQ205
        have N205 := Fr.app N188 Nq205
        have R206 : CHr Z EL_1 s.vm h0 s.vm T205.heap := R192.trans (CHr.keep K205 sf0 R192.1)
        have O207 : Old Z n0 T205.heap := (O204.keep K205 all0)
        have F208 : Fld Z T205.heap oE "java/util/Optional" "value" "Ljava/lang/Object;" .null := F_EMPTY.ext O207.2
        have F210 : Exa Z T205.heap oE "java/util/Optional" := E_EMPTY.ext O207.2
        obtain ⟨cq209, kq209, q209a, q209b, q209c⟩ := isOf hZ0 rfl F210
        obtain ⟨_, _, ⟨T209, L209, k209, n209⟩, -, X209, ⟨Lc209, hQ209, l209, y209, z209⟩, st209⟩ := X205.virtualBack hx (y := yn18) (z := yn18) hown0 (mvT hZ0 (w87 hw)) (mvT hZ0 (w88 hw)) (notFace_of_selects (args := #[]) (mvT hZ0 (w90 hw))) (mvT hZ0 (w90 hw)) (mvT hZ0 (w89 hw)) (by decide) (backOf (W := 0) (rm_isP0 l Z a0 hw [] oE T205.heap n0 (Nat.le_trans Z0 (Nat.le_trans (Nat.le_trans (Nat.le_trans (Nat.le_trans K175.1 K181.1) K183.1) K188.1) K205.1)) F208) hZ0 (w91 hw) (w72 hw) (by decide) (by decide)) q209a q209c (g := (mkF m 311 #[.val (.int sel), .val (.int pos), .val (.int ch), .val (.int len), .val (.int (0 : Int32)), .val (.int (1 : Int32)), .val (.int cz), .val (.int cy), .val (.int cx), .val (.ref b183), .val (.int (-1 : Int32)), .val (.ref oE), .val (.int pq), .val (.int (jn0.getD pq.toNatClampNeg 0))] [(.ref oE)])) rfl (by rw [hml]; rfl) (Steps.refl _) (argsL := []) (rest := []) (lenOf pd__28__29_Z rfl) rfl (by show 2 * 0 + _ ≤ _; exact Nat.le_of_eq rfl) (hb hby at_311) (fun _ _ => ⟨rfl, rfl, (Nat.le_of_ble_eq_true rfl), (Nat.le_of_ble_eq_true rfl)⟩)
        dsimp only [Pt.U, Pt.locs, Pt.cells, Pt.slots] at X209 l209 y209 z209 st209 hQ209
        subst l209 y209 z209
        obtain ⟨rfl, Nq209, eq209⟩ := hQ209
        have N209 := Fr.app N205 Nq209
        have W211 : ∀ zQ, SS p e below T209 m 322 #[.val (.int sel), .val (.int pos), .val (.int ch), .val (.int len), .val (.int (0 : Int32)), .val (.int (1 : Int32)), .val (.int cz), .val (.int cy), .val (.int cx), .val (.ref b183), .val (.int (-1 : Int32)), .val (.ref oE), .val (.int pq), .val (.int (jn0.getD pq.toNatClampNeg 0))] [(.int (1 : Int32))] zQ → Steps p.tables e below (s₁.setTop (entryFrame m #[(.int sel), (.int pos), (.int ch), (.int len)] maxLocals)) zQ := by
          intro tt kt
          refine W193 tt ?_
          refine XS.icmpYes X188.here hx rfl (pc0 := 127) (pc' := 135) rfl (hb hby at_127) rfl (feq hc194).2 (by decide) (by decide) ?_
          refine XS.iconst X188.here hx rfl (hb hby at_135) ?_
          refine XS.istore X188.here hx rfl (hb hby at_136) rfl (l' := #[.val (.int sel), .val (.int pos), .val (.int ch), .val (.int len), .val (.int (0 : Int32)), .val (.int (1 : Int32)), .val (.int cz), .val (.int cy), .val (.int cx), .val (.ref b183), .val (.int (-1 : Int32)), .val (.ref r_176), .val (.int pq), .val (.int (jn0.getD pq.toNatClampNeg 0))]) rfl ?_
          refine XS.goto X188.here hx rfl (pc0 := 138) (pc' := 297) rfl (hb hby at_138) (by decide) (by decide) ?_
          refine XS.aload X188.here hx rfl (hb hby at_297) rfl rfl ?_
          show SS p e below T188 m 299 #[.val (.int sel), .val (.int pos), .val (.int ch), .val (.int len), .val (.int (0 : Int32)), .val (.int (1 : Int32)), .val (.int cz), .val (.int cy), .val (.int cx), .val (.ref b183), .val (.int (-1 : Int32)), .val (.ref r_176), .val (.int pq), .val (.int (jn0.getD pq.toNatClampNeg 0))] [(.ref b183)] _
          refine st205 _ ?_
          refine XS.astore X205.here hx rfl (hb hby at_302) rfl rfl (l' := #[.val (.int sel), .val (.int pos), .val (.int ch), .val (.int len), .val (.int (0 : Int32)), .val (.int (1 : Int32)), .val (.int cz), .val (.int cy), .val (.int cx), .val (.ref b183), .val (.int (-1 : Int32)), .val (.ref oE), .val (.int pq), .val (.int (jn0.getD pq.toNatClampNeg 0))]) rfl ?_
          refine XS.iload X205.here hx rfl (hb hby at_304) rfl ?_
          refine XS.ifNo X205.here hx rfl (hb hby at_306) rfl ((if0 _ _).trans (tlt (by decide)).2.1) ?_
          refine XS.aload X205.here hx rfl (hb hby at_309) rfl rfl ?_
          show SS p e below T205 m 311 #[.val (.int sel), .val (.int pos), .val (.int ch), .val (.int len), .val (.int (0 : Int32)), .val (.int (1 : Int32)), .val (.int cz), .val (.int cy), .val (.int cx), .val (.ref b183), .val (.int (-1 : Int32)), .val (.ref oE), .val (.int pq), .val (.int (jn0.getD pq.toNatClampNeg 0))] [(.ref oE)] _
          refine st209.trans ?_
          refine XS.ifNo X209.here hx rfl (hb hby at_314) rfl ((if0 _ _).trans (teq (by decide)).2) ?_
          refine XS.iconst X209.here hx rfl (hb hby at_317) ?_
          refine XS.goto X209.here hx rfl (pc0 := 318) (pc' := 322) rfl (hb hby at_318) (by decide) (by decide) ?_
          exact kt
        obtain ⟨fs, hr, hrun, hended, hRW⟩ := Jvm.Stand.leaveW X209 hS0 (by rw [eq209]; exact (Nat.le_trans hk0 (Nat.le_trans (Nat.le_trans (Nat.le_trans (Nat.le_trans K175.1 K181.1) K183.1) K188.1) K205.1))) (v := some (.int (nar .boolean (1 : Int32)))) (fun h => by rw [Bd.returns] at h; cases h) (BodyLoose.notSynchronized Bd)
        refine ⟨_, _, W211 _ (retN X209 hx (t := .boolean) Bd.returns (by simp) (hb hby at_322) hr), hrun, hended, _, _, rfl, ?_, own_chr (T := T209) R206 (CHv.at X209 hZ0 hEL R206.1) hh.symm eq209, own_rw hRW (by decide) (by decide)⟩
        show Q_law Z sel pos ch len o0 o1 o2 oV kV j0 v0 kv0 j1 v1 kv1 j2 v2 kv2 oE cS h0 n0 _ T209.heap _
        rw [eq209]
        exact ⟨rfl, N209, (Keep.trans (Keep.trans (Keep.trans (Keep.trans (Keep.trans (Keep.refl h0 []) K175 all0) K181 (allS (Or.inr P175_0) all0)) K183 all0) K188 (allS (Or.inr (Nat.le_trans (Nat.le_trans K175.1 K181.1) (Nat.le_of_eq g183.symm))) all0)) K205 all0)⟩
    ·
      obtain ⟨_, _, ⟨T212, L212, k212, n212⟩, -, X212, ⟨Lc212, hQ212, l212, y212, z212⟩, st212⟩ := Jvm.LawKit.callS X0 hx (y := yn11) hown0 (mvT hZ0 (w5 hw)) (mvT hZ0 (w6 hw)) (mvT hZ0 (w7 hw)) (mvT hZ0 (w8 hw)) (by decide) (backOf (W := 0) (rm_full1 l Z a0 hw []  h0 n0 Z0 ) hZ0 (w8 hw) (w7 hw) (by decide) (by decide)) (g := (mkF m 83 #[.val (.int sel), .val (.int pos), .val (.int ch), .val (.int len), .val (.int (1 : Int32)), .val (.int (1 : Int32)), .val (.int cz), .val (.int cy), .val (.int cx), .unset, .unset, .unset, .unset, .unset] [(.int (1 : Int32))])) rfl (by rw [hml]; rfl) (argsL := [(.int (1 : Int32))]) (rest := []) (lenOf pd__28_I_29__5b_C rfl) rfl (by show 2 * 0 + _ ≤ _; exact Nat.le_of_eq rfl) (hb hby at_83) (fun _ _ => ⟨rfl, e0, (Nat.le_of_ble_eq_true rfl), (Nat.le_of_ble_eq_true rfl)⟩)
      dsimp only [Pt.U, Pt.locs, Pt.cells, Pt.slots] at X212 l212 y212 z212 st212 hQ212
      subst l212 y212 z212
      obtain ⟨r_213, kr_214, rfl, Nq212, K212, P212_0, P212_1⟩ := hQ212
      have N212 := Fr.app N0 Nq212
      have R215 : CHr Z EL_1 s.vm h0 s.vm T212.heap := R0.trans (CHr.keep K212 sf0 R0.1)
      obtain ⟨cl216, Ar216, -, S216, M216, -, -⟩ := id P212_1
      obtain ⟨pq, h_pq⟩ : ∃ z : Int32, z = ((pos &&& (2147483647 : Int32)) % (7 : Int32)) := ⟨_, rfl⟩
      obtain ⟨cl217, Ar217, q217, S217, M217, H217, F217g⟩ := id P212_1
      have hpq := (own_pin (p := pq) (n := 7) (by rw [h_pq]; exact own_rm pos _ 7 rfl (by decide)))
      have hin217 : ¬ (pq < 0 ∨ cl217.slots.size ≤ (pq).toNatClampNeg) := inb_of S217 ⟨hpq.1, by rw [Int32.lt_iff_toInt_lt, h_pq]; exact (own_rm pos _ 7 rfl (by decide)).2⟩
      have hat217 : cl217.slots[(pq).toNatClampNeg]? = some (.int (jn1.getD pq.toNatClampNeg 0)) := Has.at H217 hin217 (ch_at jn1 _ _ hpq.2)
      obtain ⟨cl218, Ar218, q218, S218, M218, H218, F218g⟩ := id P212_1
      have hin218 : ¬ (pq < 0 ∨ cl218.slots.size ≤ (pq).toNatClampNeg) := inb_of S218 ⟨hpq.1, by rw [Int32.lt_iff_toInt_lt, h_pq]; exact (own_rm pos _ _ rfl (by decide)).2⟩
      obtain ⟨T218, h218, X218, e218, Wr218, st218⟩ := stC X212 hx hZ0 rfl Ar218 (j := pq) hin218 (g := (mkF m 111 #[.val (.int sel), .val (.int pos), .val (.int ch), .val (.int len), .val (.int (1 : Int32)), .val (.int (1 : Int32)), .val (.int cz), .val (.int cy), .val (.int cx), .unset, .unset, .val (.ref r_213), .val (.int pq), .val (.int (jn1.getD pq.toNatClampNeg 0))] [(.int cz), (.int pq), (.ref r_213)])) rfl rfl (hb hby at_111)
      have G218 : Arv Z h218 r_213 kr_214 .char (7 : Int32) ([(.int (107 : Int32)), (.int (101 : Int32)), (.int (121 : Int32)), (.int (85 : Int32)), (.int (115 : Int32)), (.int (101 : Int32)), (.int (114 : Int32))].set pq.toNatClampNeg (.int (nar .char cz))) (.int (0 : Int32)) := Arv.set Ar218 q218 S218 M218 H218 F218g (fits_nar_char _) Wr218 pq.toNatClampNeg rfl hpq.2
      have K218 := Keep.of_wr Wr218
      have N218 := Fr.snoc X218 N212 (Nat.le_trans Z0 P212_0)
      have R219 : CHr Z EL_1 s.vm h0 s.vm h218 := R215.trans (CHr.keep K218 (sfS (Safe.arv hZ0.alike P212_1 (by intro q; cases q)) sf0) R215.1)
      have J218 : Arv Z h218 r_213 kr_214 .char (7 : Int32) ((jn1.set pq.toNatClampNeg cz).map Value.int) (.int (0 : Int32)) := by rw [own_nar8 hcz] at G218; rw [List.map_set]; exact G218
      obtain ⟨T220, h220, X220, e220, E220, A220, D220, U220, st220⟩ := newO X218 hx hZ0 hown0 (w2 hw) (w3 hw) (w4 hw) e218 (g := (mkF m 112 #[.val (.int sel), .val (.int pos), .val (.int ch), .val (.int len), .val (.int (1 : Int32)), .val (.int (1 : Int32)), .val (.int cz), .val (.int cy), .val (.int cx), .unset, .unset, .val (.ref r_213), .val (.int pq), .val (.int (jn1.getD pq.toNatClampNeg 0))] [])) rfl (hb hby at_112) (by decide) (by decide)
      obtain ⟨b220, g220⟩ : ∃ z, z = h218.size := ⟨_, rfl⟩
      rw [← g220] at A220 D220 U220 st220
      have K220 := (Keep.refl h218 []).ext E220
      have R221 : CHr Z EL_1 s.vm h0 s.vm h220 := R219.trans (CHr.keep K220 sf0 R219.1)
      have G220_coder : Fld Z h220 b220 "java/lang/String" "coder" "B" (.int (0 : Int32)) := D220 (Or.inr (w33 hw)) (ty := .byte) (by decide)
      have G220_value : Fld Z h220 b220 "java/lang/String" "value" "[B" .null := D220 (Or.inr (w35 hw)) (ty := (.array .byte)) (by decide)
      have hk222 := own_okl (l := (jn1.set pq.toNatClampNeg cz)) (own_b8s (by decide) hcz) (by rw [List.length_set]; decide)
      have F223 : Arv Z h220 r_213 kr_214 .char (7 : Int32) ((jn1.set pq.toNatClampNeg cz).map Value.int) (.int (0 : Int32)) := (J218.keep K220 nin0)
      have O224 : Old Z n0 h220 := (((O0.keep K212 all0).keep K218 (allS (Nat.le_trans Z0 P212_0) all0)).keep K220 all0)
      obtain ⟨_, _, ⟨T225, L225, k225, n225⟩, -, X225, ⟨Lc225, hQ225, l225, y225, z225⟩, st225⟩ := X220.specialBack hx (y := yn4) rfl hown0 (mvT hZ0 (w10 hw)) (mvT hZ0 (w11 hw)) (mvT hZ0 (w12 hw)) (by decide) (backOf (W := 1) (rm_sinit l Z a0 hw [] b220 r_213 kr_214 (jn1.set pq.toNatClampNeg cz) cS h220 n0 (Nat.le_trans Z0 (Nat.le_trans (Nat.le_trans K212.1 K218.1) K220.1)) O224 S_cs hcS A220 G220_value G220_coder (Nat.le_trans Z0 (Nat.le_trans (Nat.le_trans K212.1 K218.1) (Nat.le_of_eq g220.symm))) (by have q := F223; rw [show (7 : Int32) = Int32.ofNat (jn1.set pq.toNatClampNeg cz).length from by rw [List.length_set]; rfl] at q; exact q) hk222.1 (by rw [List.length_set]; decide) (by rw [List.length_set]; decide) (Ne.symm (Nat.ne_of_lt (Nat.lt_of_lt_of_le (Nat.lt_of_lt_of_le P212_1.lt K218.1) (Nat.le_of_eq g220.symm)))) hk222.2) hZ0 (w12 hw) (w4 hw) (by decide) (by decide)) (g := (mkF m 118 #[.val (.int sel), .val (.int pos), .val (.int ch), .val (.int len), .val (.int (1 : Int32)), .val (.int (1 : Int32)), .val (.int cz), .val (.int cy), .val (.int cx), .unset, .unset, .val (.ref r_213), .val (.int pq), .val (.int (jn1.getD pq.toNatClampNeg 0))] [(.ref r_213), (.ref b220), (.ref b220)])) rfl (by rw [hml]; rfl) (Steps.refl _) (a := b220) (argsL := [(.ref r_213)]) (rest := [(.ref b220)]) (lenOf pd__28__5b_C_29_V rfl) rfl (by show 2 * 0 + _ ≤ _; exact Nat.le_of_eq rfl) (hb hby at_118) (fun _ _ => ⟨rfl, e220, (Nat.le_of_ble_eq_true rfl), (Nat.le_of_ble_eq_true rfl)⟩)
      dsimp only [Pt.U, Pt.locs, Pt.cells, Pt.slots] at X225 l225 y225 z225 st225 hQ225
      subst l225 y225 z225
      obtain ⟨t_226, kb_227, rfl, Nq225, K225, P225_0, P225_1⟩ := hQ225
      have N225 := Fr.app N218 Nq225
      have Sf228 : Safe Z EL_1 s.vm h220 b220 := (Safe.keep K220 sf0 R219.1 (Safe.new (Nat.le_of_eq g220.symm)))
      have R229 : CHr Z EL_1 s.vm h0 s.vm T225.heap := R221.trans (CHr.keep K225 (sfS Sf228 sf0) R221.1)
      have W230 : ∀ zQ, SS p e below T225 m 127 #[.val (.int sel), .val (.int pos), .val (.int ch), .val (.int len), .val (.int (1 : Int32)), .val (.int (1 : Int32)), .val (.int cz), .val (.int cy), .val (.int cx), .val (.ref b220), .unset, .val (.ref r_213), .val (.int pq), .val (.int (jn1.getD pq.toNatClampNeg 0))] [(.int (jn1.getD pq.toNatClampNeg 0)), (.int cz)] zQ → Steps p.tables e below (s₁.setTop (entryFrame m #[(.int sel), (.int pos), (.int ch), (.int len)] maxLocals)) zQ := by
        intro tt kt
        refine W174 tt ?_
        refine XS.iload X0.here hx rfl (hb hby at_81) rfl ?_
        show SS p e below s₁ m 83 #[.val (.int sel), .val (.int pos), .val (.int ch), .val (.int len), .val (.int (1 : Int32)), .val (.int (1 : Int32)), .val (.int cz), .val (.int cy), .val (.int cx), .unset, .unset, .unset, .unset, .unset] [(.int (1 : Int32))] _
        refine st212 _ ?_
        refine XS.astore X212.here hx rfl (hb hby at_86) rfl rfl (l' := #[.val (.int sel), .val (.int pos), .val (.int ch), .val (.int len), .val (.int (1 : Int32)), .val (.int (1 : Int32)), .val (.int cz), .val (.int cy), .val (.int cx), .unset, .unset, .val (.ref r_213), .unset, .unset]) rfl ?_
        refine XS.iloadN X212.here hx rfl (hb hby at_88) rfl ?_
        show SS p e below T212 m 89 #[.val (.int sel), .val (.int pos), .val (.int ch), .val (.int len), .val (.int (1 : Int32)), .val (.int (1 : Int32)), .val (.int cz), .val (.int cy), .val (.int cx), .unset, .unset, .val (.ref r_213), .unset, .unset] [(.int pos)] _
        refine X212.ldcInt hx hown0 (mvT hZ0 (w0 hw)) (g := (mkF m 89 #[.val (.int sel), .val (.int pos), .val (.int ch), .val (.int len), .val (.int (1 : Int32)), .val (.int (1 : Int32)), .val (.int cz), .val (.int cy), .val (.int cx), .unset, .unset, .val (.ref r_213), .unset, .unset] [(.int pos)])) rfl (hb hby at_89) _ ?_
        refine XS.iand X212.here hx rfl (hb hby at_91) rfl ?_
        refine XS.aload X212.here hx rfl (hb hby at_92) rfl rfl ?_
        show SS p e below T212 m 94 #[.val (.int sel), .val (.int pos), .val (.int ch), .val (.int len), .val (.int (1 : Int32)), .val (.int (1 : Int32)), .val (.int cz), .val (.int cy), .val (.int cx), .unset, .unset, .val (.ref r_213), .unset, .unset] [(.ref r_213), (.int (pos &&& (2147483647 : Int32)))] _
        refine X212.arraylength hx (by first | exact Ar216.1 | (rw [rfl]; exact Ar216.1)) (State.isArrayOf_alike hZ0.alike Ar216.2.1) (g := (mkF m 94 #[.val (.int sel), .val (.int pos), .val (.int ch), .val (.int len), .val (.int (1 : Int32)), .val (.int (1 : Int32)), .val (.int cz), .val (.int cy), .val (.int cx), .unset, .unset, .val (.ref r_213), .unset, .unset] [(.ref r_213), (.int (pos &&& (2147483647 : Int32)))])) rfl rfl (hb hby at_94) _ ?_
        rw [len_of S216 M216]
        show SS p e below T212 m 95 #[.val (.int sel), .val (.int pos), .val (.int ch), .val (.int len), .val (.int (1 : Int32)), .val (.int (1 : Int32)), .val (.int cz), .val (.int cy), .val (.int cx), .unset, .unset, .val (.ref r_213), .unset, .unset] [(.int (7 : Int32)), (.int (pos &&& (2147483647 : Int32)))] _
        refine Jvm.RoadKit.iremM X212 hx rfl (hb hby at_95) rfl (by decide) ?_
        show SS p e below T212 m 96 #[.val (.int sel), .val (.int pos), .val (.int ch), .val (.int len), .val (.int (1 : Int32)), .val (.int (1 : Int32)), .val (.int cz), .val (.int cy), .val (.int cx), .unset, .unset, .val (.ref r_213), .unset, .unset] [(.int ((pos &&& (2147483647 : Int32)) % (7 : Int32)))] _
        rw [← h_pq]
        refine XS.istore X212.here hx rfl (hb hby at_96) rfl (l' := #[.val (.int sel), .val (.int pos), .val (.int ch), .val (.int len), .val (.int (1 : Int32)), .val (.int (1 : Int32)), .val (.int cz), .val (.int cy), .val (.int cx), .unset, .unset, .val (.ref r_213), .val (.int pq), .unset]) rfl ?_
        refine XS.aload X212.here hx rfl (hb hby at_98) rfl rfl ?_
        refine XS.iload X212.here hx rfl (hb hby at_100) rfl ?_
        show SS p e below T212 m 102 #[.val (.int sel), .val (.int pos), .val (.int ch), .val (.int len), .val (.int (1 : Int32)), .val (.int (1 : Int32)), .val (.int cz), .val (.int cy), .val (.int cx), .unset, .unset, .val (.ref r_213), .val (.int pq), .unset] [(.int pq), (.ref r_213)] _
        refine X212.caload hx (j := pq) (v := (.int (jn1.getD pq.toNatClampNeg 0))) (by first | exact Ar217.1 | (rw [rfl]; exact Ar217.1)) (State.isArrayOf_alike hZ0.alike Ar217.2.1) Ar217.2.2 hin217 hat217 (g := (mkF m 102 #[.val (.int sel), .val (.int pos), .val (.int ch), .val (.int len), .val (.int (1 : Int32)), .val (.int (1 : Int32)), .val (.int cz), .val (.int cy), .val (.int cx), .unset, .unset, .val (.ref r_213), .val (.int pq), .unset] [(.int pq), (.ref r_213)])) rfl rfl (hb hby at_102) _ ?_
        refine XS.istore X212.here hx rfl (hb hby at_103) rfl (l' := #[.val (.int sel), .val (.int pos), .val (.int ch), .val (.int len), .val (.int (1 : Int32)), .val (.int (1 : Int32)), .val (.int cz), .val (.int cy), .val (.int cx), .unset, .unset, .val (.ref r_213), .val (.int pq), .val (.int (jn1.getD pq.toNatClampNeg 0))]) rfl ?_
        refine XS.aload X212.here hx rfl (hb hby at_105) rfl rfl ?_
        refine XS.iload X212.here hx rfl (hb hby at_107) rfl ?_
        refine XS.iload X212.here hx rfl (hb hby at_109) rfl ?_
        show SS p e below T212 m 111 #[.val (.int sel), .val (.int pos), .val (.int ch), .val (.int len), .val (.int (1 : Int32)), .val (.int (1 : Int32)), .val (.int cz), .val (.int cy), .val (.int cx), .unset, .unset, .val (.ref r_213), .val (.int pq), .val (.int (jn1.getD pq.toNatClampNeg 0))] [(.int cz), (.int pq), (.ref r_213)] _
        refine st218 _ ?_
        show SS p e below T218 m 112 #[.val (.int sel), .val (.int pos), .val (.int ch), .val (.int len), .val (.int (1 : Int32)), .val (.int (1 : Int32)), .val (.int cz), .val (.int cy), .val (.int cx), .unset, .unset, .val (.ref r_213), .val (.int pq), .val (.int (jn1.getD pq.toNatClampNeg 0))] [] _
        refine st220 _ ?_
        refine XS.dup X220.here hx rfl (hb hby at_115) rfl rfl ?_
        refine XS.aload X220.here hx rfl (hb hby at_116) rfl rfl ?_
        show SS p e below T220 m 118 #[.val (.int sel), .val (.int pos), .val (.int ch), .val (.int len), .val (.int (1 : Int32)), .val (.int (1 : Int32)), .val (.int cz), .val (.int cy), .val (.int cx), .unset, .unset, .val (.ref r_213), .val (.int pq), .val (.int (jn1.getD pq.toNatClampNeg 0))] [(.ref r_213), (.ref b220), (.ref b220)] _
        refine st225.trans ?_
        refine XS.astore X225.here hx rfl (hb hby at_121) rfl rfl (l' := #[.val (.int sel), .val (.int pos), .val (.int ch), .val (.int len), .val (.int (1 : Int32)), .val (.int (1 : Int32)), .val (.int cz), .val (.int cy), .val (.int cx), .val (.ref b220), .unset, .val (.ref r_213), .val (.int pq), .val (.int (jn1.getD pq.toNatClampNeg 0))]) rfl ?_
        refine XS.iload X225.here hx rfl (hb hby at_123) rfl ?_
        refine XS.iload X225.here hx rfl (hb hby at_125) rfl ?_
        exact kt
      by_cases hc231 : cz = (jn1.getD pq.toNatClampNeg 0)
      ·
        have O232 : Old Z n0 T225.heap := (O224.keep K225 (allS (Nat.le_trans Z0 (Nat.le_trans (Nat.le_trans K212.1 K218.1) (Nat.le_of_eq g220.symm))) all0))
        obtain ⟨_, _, ⟨T233, L233, k233, n233⟩, -, X233, ⟨Lc233, hQ233, l233, y233, z233⟩, st233⟩ := Jvm.LawKit.callS X225 hx (y := yn22) hown0 (mvT hZ0 (w36 hw)) (mvT hZ0 (w37 hw)) (mvT hZ0 (w38 hw)) (mvT hZ0 (w39 hw)) (by decide) (backOf (W := 0) (rm_of1 l Z a0 hw [] b220 t_226 kb_227 (jn1.set pq.toNatClampNeg cz) o0 o1 o2 oV kV j0 v0 kv0 j1 v1 kv1 j2 v2 kv2 oE cS T225.heap n0 (Nat.le_trans Z0 (Nat.le_trans (Nat.le_trans (Nat.le_trans K212.1 K218.1) K220.1) K225.1)) O232 S_V S_0 S_1 S_2 E_V V_V E_0 Fj_0 Ej_0 Fc_0 Fv_0 Vv_0 E_1 Fj_1 Ej_1 Fc_1 Fv_1 Vv_1 E_2 Fj_2 Ej_2 Fc_2 Fv_2 Vv_2 S_EMPTY E_EMPTY F_EMPTY S_cs hcS P225_1 hk222.2 (Nat.le_trans Z0 (Nat.le_trans (Nat.le_trans K212.1 K218.1) (Nat.le_of_eq g220.symm))) (fun e => absurd ((congrArg List.length e).trans List.length_set) (by decide)) (own_setself hpq.2 hc231)) hZ0 (w39 hw) (w38 hw) (by decide) (by decide)) (g := (mkF m 299 #[.val (.int sel), .val (.int pos), .val (.int ch), .val (.int len), .val (.int (1 : Int32)), .val (.int (1 : Int32)), .val (.int cz), .val (.int cy), .val (.int cx), .val (.ref b220), .val (.int (1 : Int32)), .val (.ref r_213), .val (.int pq), .val (.int (jn1.getD pq.toNatClampNeg 0))] [(.ref b220)])) rfl (by rw [hml]; rfl) (argsL := [(.ref b220)]) (rest := []) (lenOf pd__28_Ljava_2f_lang_2f_String_3b__29_Ljava_2f_util_2f_Optional_3b_ rfl) rfl (by show 2 * 0 + _ ≤ _; exact Nat.le_of_eq rfl) (hb hby at_299) (fun _ _ => ⟨rfl, rfl, (Nat.le_of_ble_eq_true rfl), (Nat.le_of_ble_eq_true rfl)⟩)
        dsimp only [Pt.U, Pt.locs, Pt.cells, Pt.slots] at X233 l233 y233 z233 st233 hQ233
        subst l233 y233 z233
        obtain ⟨r_234, rfl, Nq233, K233, P233_0, P233_1, P233_2⟩ := hQ233
        have N233 := Fr.app N225 Nq233
        have R235 : CHr Z EL_1 s.vm h0 s.vm T233.heap := R229.trans (CHr.keep K233 sf0 R229.1)
        obtain ⟨cq236, kq236, q236a, q236b, q236c⟩ := isOf hZ0 rfl P233_1
        obtain ⟨_, _, ⟨T236, L236, k236, n236⟩, -, X236, ⟨Lc236, hQ236, l236, y236, z236⟩, st236⟩ := X233.virtualBack hx (y := yn18) (z := yn18) hown0 (mvT hZ0 (w87 hw)) (mvT hZ0 (w88 hw)) (notFace_of_selects (args := #[]) (mvT hZ0 (w90 hw))) (mvT hZ0 (w90 hw)) (mvT hZ0 (w89 hw)) (by decide) (backOf (W := 0) (rm_isP1 l Z a0 hw [] r_234 o1 T233.heap n0 (Nat.le_trans Z0 (Nat.le_trans (Nat.le_trans (Nat.le_trans (Nat.le_trans K212.1 K218.1) K220.1) K225.1) K233.1)) P233_2) hZ0 (w91 hw) (w72 hw) (by decide) (by decide)) q236a q236c (g := (mkF m 325 #[.val (.int sel), .val (.int pos), .val (.int ch), .val (.int len), .val (.int (1 : Int32)), .val (.int (1 : Int32)), .val (.int cz), .val (.int cy), .val (.int cx), .val (.ref b220), .val (.int (1 : Int32)), .val (.ref r_234), .val (.int pq), .val (.int (jn1.getD pq.toNatClampNeg 0))] [(.ref r_234)])) rfl (by rw [hml]; rfl) (Steps.refl _) (argsL := []) (rest := []) (lenOf pd__28__29_Z rfl) rfl (by show 2 * 0 + _ ≤ _; exact Nat.le_of_eq rfl) (hb hby at_325) (fun _ _ => ⟨rfl, rfl, (Nat.le_of_ble_eq_true rfl), (Nat.le_of_ble_eq_true rfl)⟩)
        dsimp only [Pt.U, Pt.locs, Pt.cells, Pt.slots] at X236 l236 y236 z236 st236 hQ236
        subst l236 y236 z236
        obtain ⟨rfl, Nq236, eq236⟩ := hQ236
        have N236 := Fr.app N233 Nq236
        obtain ⟨cq237, kq237, q237a, q237b, q237c⟩ := isOf hZ0 eq236 P233_1
        obtain ⟨_, _, ⟨T237, L237, k237, n237⟩, -, X237, ⟨Lc237, hQ237, l237, y237, z237⟩, st237⟩ := X236.virtualBack hx (y := yn19) (z := yn19) hown0 (mvT hZ0 (w92 hw)) (mvT hZ0 (w93 hw)) (notFace_of_selects (args := #[]) (mvT hZ0 (w95 hw))) (mvT hZ0 (w95 hw)) (mvT hZ0 (w94 hw)) (by decide) (backOf (W := 0) (rm_opGet l Z a0 hw [] r_234 o1 T233.heap n0 (Nat.le_trans Z0 (Nat.le_trans (Nat.le_trans (Nat.le_trans (Nat.le_trans K212.1 K218.1) K220.1) K225.1) K233.1)) P233_2) hZ0 (w96 hw) (w72 hw) (by decide) (by decide)) q237a q237c (g := (mkF m 333 #[.val (.int sel), .val (.int pos), .val (.int ch), .val (.int len), .val (.int (1 : Int32)), .val (.int (1 : Int32)), .val (.int cz), .val (.int cy), .val (.int cx), .val (.ref b220), .val (.int (1 : Int32)), .val (.ref r_234), .val (.int pq), .val (.int (jn1.getD pq.toNatClampNeg 0))] [(.ref r_234)])) rfl (by rw [hml]; rfl) (Steps.refl _) (argsL := []) (rest := []) (lenOf pd__28__29_Ljava_2f_lang_2f_Object_3b_ rfl) rfl (by show 2 * 0 + _ ≤ _; exact Nat.le_of_eq rfl) (hb hby at_333) (fun _ _ => ⟨rfl, eq236, (Nat.le_of_ble_eq_true rfl), (Nat.le_of_ble_eq_true rfl)⟩)
        dsimp only [Pt.U, Pt.locs, Pt.cells, Pt.slots] at X237 l237 y237 z237 st237 hQ237
        subst l237 y237 z237
        obtain ⟨rfl, Nq237, eq237⟩ := hQ237
        have N237 := Fr.app N236 Nq237
        have O238 : Old Z n0 T233.heap := (O232.keep K233 all0)
        obtain ⟨_, _, ⟨T239, L239, k239, n239⟩, -, X239, ⟨Lc239, hQ239, l239, y239, z239⟩, st239⟩ := Jvm.LawKit.callS X237 hx (y := yn20) hown0 (mvT hZ0 (w97 hw)) (mvT hZ0 (w98 hw)) (mvT hZ0 (w7 hw)) (mvT hZ0 (w99 hw)) (by decide) (backOf (W := 1) (rm_const1 l Z a0 hw [] o1 T233.heap n0 (Nat.le_trans Z0 (Nat.le_trans (Nat.le_trans (Nat.le_trans (Nat.le_trans K212.1 K218.1) K220.1) K225.1) K233.1)) O238 S_1) hZ0 (w99 hw) (w7 hw) (by decide) (by decide)) (g := (mkF m 338 #[.val (.int sel), .val (.int pos), .val (.int ch), .val (.int len), .val (.int (1 : Int32)), .val (.int (1 : Int32)), .val (.int cz), .val (.int cy), .val (.int cx), .val (.ref b220), .val (.int (1 : Int32)), .val (.ref r_234), .val (.int pq), .val (.int (jn1.getD pq.toNatClampNeg 0))] [(.int (1 : Int32)), (.ref o1)])) rfl (by rw [hml]; rfl) (argsL := [(.int (1 : Int32))]) (rest := [(.ref o1)]) (lenOf pd__28_I_29_Lcom_2f_example_2f_composition_2f_composition_2f_definition_2f_AbapLanguageVersion_3b_ rfl) rfl (by show 2 * 0 + _ ≤ _; exact Nat.le_of_eq rfl) (hb hby at_338) (fun _ _ => ⟨rfl, eq237, (Nat.le_of_ble_eq_true rfl), (Nat.le_of_ble_eq_true rfl)⟩)
        dsimp only [Pt.U, Pt.locs, Pt.cells, Pt.slots] at X239 l239 y239 z239 st239 hQ239
        subst l239 y239 z239
        obtain ⟨rfl, Nq239, eq239⟩ := hQ239
        have N239 := Fr.app N237 Nq239
        have W240 : ∀ zQ, SS p e below T239 m 349 #[.val (.int sel), .val (.int pos), .val (.int ch), .val (.int len), .val (.int (1 : Int32)), .val (.int (1 : Int32)), .val (.int cz), .val (.int cy), .val (.int cx), .val (.ref b220), .val (.int (1 : Int32)), .val (.ref r_234), .val (.int pq), .val (.int (jn1.getD pq.toNatClampNeg 0))] [(.int (1 : Int32))] zQ → Steps p.tables e below (s₁.setTop (entryFrame m #[(.int sel), (.int pos), (.int ch), (.int len)] maxLocals)) zQ := by
          intro tt kt
          refine W230 tt ?_
          refine XS.icmpNo X225.here hx rfl (hb hby at_127) rfl (teq hc231).2 ?_
          refine XS.iload X225.here hx rfl (hb hby at_130) rfl ?_
          refine XS.goto X225.here hx rfl (pc0 := 132) (pc' := 136) rfl (hb hby at_132) (by decide) (by decide) ?_
          refine XS.istore X225.here hx rfl (hb hby at_136) rfl (l' := #[.val (.int sel), .val (.int pos), .val (.int ch), .val (.int len), .val (.int (1 : Int32)), .val (.int (1 : Int32)), .val (.int cz), .val (.int cy), .val (.int cx), .val (.ref b220), .val (.int (1 : Int32)), .val (.ref r_213), .val (.int pq), .val (.int (jn1.getD pq.toNatClampNeg 0))]) rfl ?_
          refine XS.goto X225.here hx rfl (pc0 := 138) (pc' := 297) rfl (hb hby at_138) (by decide) (by decide) ?_
          refine XS.aload X225.here hx rfl (hb hby at_297) rfl rfl ?_
          show SS p e below T225 m 299 #[.val (.int sel), .val (.int pos), .val (.int ch), .val (.int len), .val (.int (1 : Int32)), .val (.int (1 : Int32)), .val (.int cz), .val (.int cy), .val (.int cx), .val (.ref b220), .val (.int (1 : Int32)), .val (.ref r_213), .val (.int pq), .val (.int (jn1.getD pq.toNatClampNeg 0))] [(.ref b220)] _
          refine st233 _ ?_
          refine XS.astore X233.here hx rfl (hb hby at_302) rfl rfl (l' := #[.val (.int sel), .val (.int pos), .val (.int ch), .val (.int len), .val (.int (1 : Int32)), .val (.int (1 : Int32)), .val (.int cz), .val (.int cy), .val (.int cx), .val (.ref b220), .val (.int (1 : Int32)), .val (.ref r_234), .val (.int pq), .val (.int (jn1.getD pq.toNatClampNeg 0))]) rfl ?_
          refine XS.iload X233.here hx rfl (hb hby at_304) rfl ?_
          refine XS.ifYes X233.here hx rfl (pc0 := 306) (pc' := 323) rfl (hb hby at_306) rfl ((if0 _ _).trans (flt (by decide)).2.1) (by decide) (by decide) ?_
          refine XS.aload X233.here hx rfl (hb hby at_323) rfl rfl ?_
          show SS p e below T233 m 325 #[.val (.int sel), .val (.int pos), .val (.int ch), .val (.int len), .val (.int (1 : Int32)), .val (.int (1 : Int32)), .val (.int cz), .val (.int cy), .val (.int cx), .val (.ref b220), .val (.int (1 : Int32)), .val (.ref r_234), .val (.int pq), .val (.int (jn1.getD pq.toNatClampNeg 0))] [(.ref r_234)] _
          refine st236.trans ?_
          refine XS.ifNo X236.here hx rfl (hb hby at_328) rfl ((if0 _ _).trans (feq (by decide)).1) ?_
          refine XS.aload X236.here hx rfl (hb hby at_331) rfl rfl ?_
          show SS p e below T236 m 333 #[.val (.int sel), .val (.int pos), .val (.int ch), .val (.int len), .val (.int (1 : Int32)), .val (.int (1 : Int32)), .val (.int cz), .val (.int cy), .val (.int cx), .val (.ref b220), .val (.int (1 : Int32)), .val (.ref r_234), .val (.int pq), .val (.int (jn1.getD pq.toNatClampNeg 0))] [(.ref r_234)] _
          refine st237.trans ?_
          refine XS.iload X237.here hx rfl (hb hby at_336) rfl ?_
          show SS p e below T237 m 338 #[.val (.int sel), .val (.int pos), .val (.int ch), .val (.int len), .val (.int (1 : Int32)), .val (.int (1 : Int32)), .val (.int cz), .val (.int cy), .val (.int cx), .val (.ref b220), .val (.int (1 : Int32)), .val (.ref r_234), .val (.int pq), .val (.int (jn1.getD pq.toNatClampNeg 0))] [(.int (1 : Int32)), (.ref o1)] _
          refine st239 _ ?_
          show SS p e below T239 m 341 #[.val (.int sel), .val (.int pos), .val (.int ch), .val (.int len), .val (.int (1 : Int32)), .val (.int (1 : Int32)), .val (.int cz), .val (.int cy), .val (.int cx), .val (.ref b220), .val (.int (1 : Int32)), .val (.ref r_234), .val (.int pq), .val (.int (jn1.getD pq.toNatClampNeg 0))] [(.ref o1), (.ref o1)] _
          refine Jvm.RoadKit.acmp (g := (mkF m 341 #[.val (.int sel), .val (.int pos), .val (.int ch), .val (.int len), .val (.int (1 : Int32)), .val (.int (1 : Int32)), .val (.int cz), .val (.int cy), .val (.int cx), .val (.ref b220), .val (.int (1 : Int32)), .val (.ref r_234), .val (.int pq), .val (.int (jn1.getD pq.toNatClampNeg 0))] [(.ref o1), (.ref o1)])) X239 hx rfl rfl rfl (pc0 := 341) (pc' := 344) (same := true) rfl (hb hby at_341) rfl (decide_eq_true rfl) (by decide) (by decide) ?_
          refine XS.iconst X239.here hx rfl (hb hby at_344) ?_
          refine XS.goto X239.here hx rfl (pc0 := 345) (pc' := 349) rfl (hb hby at_345) (by decide) (by decide) ?_
          exact kt
        obtain ⟨fs, hr, hrun, hended, hRW⟩ := Jvm.Stand.leaveW X239 hS0 (by rw [eq239]; exact (Nat.le_trans hk0 (Nat.le_trans (Nat.le_trans (Nat.le_trans (Nat.le_trans K212.1 K218.1) K220.1) K225.1) K233.1))) (v := some (.int (nar .boolean (1 : Int32)))) (fun h => by rw [Bd.returns] at h; cases h) (BodyLoose.notSynchronized Bd)
        refine ⟨_, _, W240 _ (retN X239 hx (t := .boolean) Bd.returns (by simp) (hb hby at_349) hr), hrun, hended, _, _, rfl, ?_, own_chr (T := T239) R235 (CHv.at X239 hZ0 hEL R235.1) hh.symm eq239, own_rw hRW (by decide) (by decide)⟩
        show Q_law Z sel pos ch len o0 o1 o2 oV kV j0 v0 kv0 j1 v1 kv1 j2 v2 kv2 oE cS h0 n0 _ T239.heap _
        rw [eq239]
        exact ⟨rfl, N239, (Keep.trans (Keep.trans (Keep.trans (Keep.trans (Keep.trans (Keep.refl h0 []) K212 all0) K218 (allS (Or.inr P212_0) all0)) K220 all0) K225 (allS (Or.inr (Nat.le_trans (Nat.le_trans K212.1 K218.1) (Nat.le_of_eq g220.symm))) all0)) K233 all0)⟩
      ·
        have O241 : Old Z n0 T225.heap := (O224.keep K225 (allS (Nat.le_trans Z0 (Nat.le_trans (Nat.le_trans K212.1 K218.1) (Nat.le_of_eq g220.symm))) all0))
        obtain ⟨_, _, ⟨T242, L242, k242, n242⟩, -, X242, ⟨Lc242, hQ242, l242, y242, z242⟩, st242⟩ := Jvm.LawKit.callS X225 hx (y := yn22) hown0 (mvT hZ0 (w36 hw)) (mvT hZ0 (w37 hw)) (mvT hZ0 (w38 hw)) (mvT hZ0 (w39 hw)) (by decide) (backOf (W := 0) (rm_of3 l Z a0 hw [] b220 t_226 kb_227 (jn1.set pq.toNatClampNeg cz) o0 o1 o2 oV kV j0 v0 kv0 j1 v1 kv1 j2 v2 kv2 oE cS T225.heap n0 (Nat.le_trans Z0 (Nat.le_trans (Nat.le_trans (Nat.le_trans K212.1 K218.1) K220.1) K225.1)) O241 S_V S_0 S_1 S_2 E_V V_V E_0 Fj_0 Ej_0 Fc_0 Fv_0 Vv_0 E_1 Fj_1 Ej_1 Fc_1 Fv_1 Vv_1 E_2 Fj_2 Ej_2 Fc_2 Fv_2 Vv_2 S_EMPTY E_EMPTY F_EMPTY S_cs hcS P225_1 hk222.2 (Nat.le_trans Z0 (Nat.le_trans (Nat.le_trans K212.1 K218.1) (Nat.le_of_eq g220.symm))) (fun e => absurd ((congrArg List.length e).trans List.length_set) (by decide)) (own_setne hpq.2 hc231) (fun e => absurd ((congrArg List.length e).trans List.length_set) (by decide))) hZ0 (w39 hw) (w38 hw) (by decide) (by decide)) (g := (mkF m 299 #[.val (.int sel), .val (.int pos), .val (.int ch), .val (.int len), .val (.int (1 : Int32)), .val (.int (1 : Int32)), .val (.int cz), .val (.int cy), .val (.int cx), .val (.ref b220), .val (.int (-1 : Int32)), .val (.ref r_213), .val (.int pq), .val (.int (jn1.getD pq.toNatClampNeg 0))] [(.ref b220)])) rfl (by rw [hml]; rfl) (argsL := [(.ref b220)]) (rest := []) (lenOf pd__28_Ljava_2f_lang_2f_String_3b__29_Ljava_2f_util_2f_Optional_3b_ rfl) rfl (by show 2 * 0 + _ ≤ _; exact Nat.le_of_eq rfl) (hb hby at_299) (fun _ _ => ⟨rfl, rfl, (Nat.le_of_ble_eq_true rfl), (Nat.le_of_ble_eq_true rfl)⟩)
        dsimp only [Pt.U, Pt.locs, Pt.cells, Pt.slots] at X242 l242 y242 z242 st242 hQ242
        subst l242 y242 z242
        obtain ⟨rfl, Nq242, K242⟩ := hQ242
        have N242 := Fr.app N225 Nq242
        have R243 : CHr Z EL_1 s.vm h0 s.vm T242.heap := R229.trans (CHr.keep K242 sf0 R229.1)
        have O244 : Old Z n0 T242.heap := (O241.keep K242 all0)
        have F245 : Fld Z T242.heap oE "java/util/Optional" "value" "Ljava/lang/Object;" .null := F_EMPTY.ext O244.2
        have F247 : Exa Z T242.heap oE "java/util/Optional" := E_EMPTY.ext O244.2
        obtain ⟨cq246, kq246, q246a, q246b, q246c⟩ := isOf hZ0 rfl F247
        obtain ⟨_, _, ⟨T246, L246, k246, n246⟩, -, X246, ⟨Lc246, hQ246, l246, y246, z246⟩, st246⟩ := X242.virtualBack hx (y := yn18) (z := yn18) hown0 (mvT hZ0 (w87 hw)) (mvT hZ0 (w88 hw)) (notFace_of_selects (args := #[]) (mvT hZ0 (w90 hw))) (mvT hZ0 (w90 hw)) (mvT hZ0 (w89 hw)) (by decide) (backOf (W := 0) (rm_isP0 l Z a0 hw [] oE T242.heap n0 (Nat.le_trans Z0 (Nat.le_trans (Nat.le_trans (Nat.le_trans (Nat.le_trans K212.1 K218.1) K220.1) K225.1) K242.1)) F245) hZ0 (w91 hw) (w72 hw) (by decide) (by decide)) q246a q246c (g := (mkF m 311 #[.val (.int sel), .val (.int pos), .val (.int ch), .val (.int len), .val (.int (1 : Int32)), .val (.int (1 : Int32)), .val (.int cz), .val (.int cy), .val (.int cx), .val (.ref b220), .val (.int (-1 : Int32)), .val (.ref oE), .val (.int pq), .val (.int (jn1.getD pq.toNatClampNeg 0))] [(.ref oE)])) rfl (by rw [hml]; rfl) (Steps.refl _) (argsL := []) (rest := []) (lenOf pd__28__29_Z rfl) rfl (by show 2 * 0 + _ ≤ _; exact Nat.le_of_eq rfl) (hb hby at_311) (fun _ _ => ⟨rfl, rfl, (Nat.le_of_ble_eq_true rfl), (Nat.le_of_ble_eq_true rfl)⟩)
        dsimp only [Pt.U, Pt.locs, Pt.cells, Pt.slots] at X246 l246 y246 z246 st246 hQ246
        subst l246 y246 z246
        obtain ⟨rfl, Nq246, eq246⟩ := hQ246
        have N246 := Fr.app N242 Nq246
        have W248 : ∀ zQ, SS p e below T246 m 322 #[.val (.int sel), .val (.int pos), .val (.int ch), .val (.int len), .val (.int (1 : Int32)), .val (.int (1 : Int32)), .val (.int cz), .val (.int cy), .val (.int cx), .val (.ref b220), .val (.int (-1 : Int32)), .val (.ref oE), .val (.int pq), .val (.int (jn1.getD pq.toNatClampNeg 0))] [(.int (1 : Int32))] zQ → Steps p.tables e below (s₁.setTop (entryFrame m #[(.int sel), (.int pos), (.int ch), (.int len)] maxLocals)) zQ := by
          intro tt kt
          refine W230 tt ?_
          refine XS.icmpYes X225.here hx rfl (pc0 := 127) (pc' := 135) rfl (hb hby at_127) rfl (feq hc231).2 (by decide) (by decide) ?_
          refine XS.iconst X225.here hx rfl (hb hby at_135) ?_
          refine XS.istore X225.here hx rfl (hb hby at_136) rfl (l' := #[.val (.int sel), .val (.int pos), .val (.int ch), .val (.int len), .val (.int (1 : Int32)), .val (.int (1 : Int32)), .val (.int cz), .val (.int cy), .val (.int cx), .val (.ref b220), .val (.int (-1 : Int32)), .val (.ref r_213), .val (.int pq), .val (.int (jn1.getD pq.toNatClampNeg 0))]) rfl ?_
          refine XS.goto X225.here hx rfl (pc0 := 138) (pc' := 297) rfl (hb hby at_138) (by decide) (by decide) ?_
          refine XS.aload X225.here hx rfl (hb hby at_297) rfl rfl ?_
          show SS p e below T225 m 299 #[.val (.int sel), .val (.int pos), .val (.int ch), .val (.int len), .val (.int (1 : Int32)), .val (.int (1 : Int32)), .val (.int cz), .val (.int cy), .val (.int cx), .val (.ref b220), .val (.int (-1 : Int32)), .val (.ref r_213), .val (.int pq), .val (.int (jn1.getD pq.toNatClampNeg 0))] [(.ref b220)] _
          refine st242 _ ?_
          refine XS.astore X242.here hx rfl (hb hby at_302) rfl rfl (l' := #[.val (.int sel), .val (.int pos), .val (.int ch), .val (.int len), .val (.int (1 : Int32)), .val (.int (1 : Int32)), .val (.int cz), .val (.int cy), .val (.int cx), .val (.ref b220), .val (.int (-1 : Int32)), .val (.ref oE), .val (.int pq), .val (.int (jn1.getD pq.toNatClampNeg 0))]) rfl ?_
          refine XS.iload X242.here hx rfl (hb hby at_304) rfl ?_
          refine XS.ifNo X242.here hx rfl (hb hby at_306) rfl ((if0 _ _).trans (tlt (by decide)).2.1) ?_
          refine XS.aload X242.here hx rfl (hb hby at_309) rfl rfl ?_
          show SS p e below T242 m 311 #[.val (.int sel), .val (.int pos), .val (.int ch), .val (.int len), .val (.int (1 : Int32)), .val (.int (1 : Int32)), .val (.int cz), .val (.int cy), .val (.int cx), .val (.ref b220), .val (.int (-1 : Int32)), .val (.ref oE), .val (.int pq), .val (.int (jn1.getD pq.toNatClampNeg 0))] [(.ref oE)] _
          refine st246.trans ?_
          refine XS.ifNo X246.here hx rfl (hb hby at_314) rfl ((if0 _ _).trans (teq (by decide)).2) ?_
          refine XS.iconst X246.here hx rfl (hb hby at_317) ?_
          refine XS.goto X246.here hx rfl (pc0 := 318) (pc' := 322) rfl (hb hby at_318) (by decide) (by decide) ?_
          exact kt
        obtain ⟨fs, hr, hrun, hended, hRW⟩ := Jvm.Stand.leaveW X246 hS0 (by rw [eq246]; exact (Nat.le_trans hk0 (Nat.le_trans (Nat.le_trans (Nat.le_trans (Nat.le_trans K212.1 K218.1) K220.1) K225.1) K242.1))) (v := some (.int (nar .boolean (1 : Int32)))) (fun h => by rw [Bd.returns] at h; cases h) (BodyLoose.notSynchronized Bd)
        refine ⟨_, _, W248 _ (retN X246 hx (t := .boolean) Bd.returns (by simp) (hb hby at_322) hr), hrun, hended, _, _, rfl, ?_, own_chr (T := T246) R243 (CHv.at X246 hZ0 hEL R243.1) hh.symm eq246, own_rw hRW (by decide) (by decide)⟩
        show Q_law Z sel pos ch len o0 o1 o2 oV kV j0 v0 kv0 j1 v1 kv1 j2 v2 kv2 oE cS h0 n0 _ T246.heap _
        rw [eq246]
        exact ⟨rfl, N246, (Keep.trans (Keep.trans (Keep.trans (Keep.trans (Keep.trans (Keep.refl h0 []) K212 all0) K218 (allS (Or.inr P212_0) all0)) K220 all0) K225 (allS (Or.inr (Nat.le_trans (Nat.le_trans K212.1 K218.1) (Nat.le_of_eq g220.symm))) all0)) K242 all0)⟩
    ·
      obtain ⟨_, _, ⟨T249, L249, k249, n249⟩, -, X249, ⟨Lc249, hQ249, l249, y249, z249⟩, st249⟩ := Jvm.LawKit.callS X0 hx (y := yn11) hown0 (mvT hZ0 (w5 hw)) (mvT hZ0 (w6 hw)) (mvT hZ0 (w7 hw)) (mvT hZ0 (w8 hw)) (by decide) (backOf (W := 0) (rm_full2 l Z a0 hw []  h0 n0 Z0 ) hZ0 (w8 hw) (w7 hw) (by decide) (by decide)) (g := (mkF m 83 #[.val (.int sel), .val (.int pos), .val (.int ch), .val (.int len), .val (.int (2 : Int32)), .val (.int (1 : Int32)), .val (.int cz), .val (.int cy), .val (.int cx), .unset, .unset, .unset, .unset, .unset] [(.int (2 : Int32))])) rfl (by rw [hml]; rfl) (argsL := [(.int (2 : Int32))]) (rest := []) (lenOf pd__28_I_29__5b_C rfl) rfl (by show 2 * 0 + _ ≤ _; exact Nat.le_of_eq rfl) (hb hby at_83) (fun _ _ => ⟨rfl, e0, (Nat.le_of_ble_eq_true rfl), (Nat.le_of_ble_eq_true rfl)⟩)
      dsimp only [Pt.U, Pt.locs, Pt.cells, Pt.slots] at X249 l249 y249 z249 st249 hQ249
      subst l249 y249 z249
      obtain ⟨r_250, kr_251, rfl, Nq249, K249, P249_0, P249_1⟩ := hQ249
      have N249 := Fr.app N0 Nq249
      have R252 : CHr Z EL_1 s.vm h0 s.vm T249.heap := R0.trans (CHr.keep K249 sf0 R0.1)
      obtain ⟨cl253, Ar253, -, S253, M253, -, -⟩ := id P249_1
      obtain ⟨pq, h_pq⟩ : ∃ z : Int32, z = ((pos &&& (2147483647 : Int32)) % (16 : Int32)) := ⟨_, rfl⟩
      obtain ⟨cl254, Ar254, q254, S254, M254, H254, F254g⟩ := id P249_1
      have hpq := (own_pin (p := pq) (n := 16) (by rw [h_pq]; exact own_rm pos _ 16 rfl (by decide)))
      have hin254 : ¬ (pq < 0 ∨ cl254.slots.size ≤ (pq).toNatClampNeg) := inb_of S254 ⟨hpq.1, by rw [Int32.lt_iff_toInt_lt, h_pq]; exact (own_rm pos _ 16 rfl (by decide)).2⟩
      have hat254 : cl254.slots[(pq).toNatClampNeg]? = some (.int (jn2.getD pq.toNatClampNeg 0)) := Has.at H254 hin254 (ch_at jn2 _ _ hpq.2)
      obtain ⟨cl255, Ar255, q255, S255, M255, H255, F255g⟩ := id P249_1
      have hin255 : ¬ (pq < 0 ∨ cl255.slots.size ≤ (pq).toNatClampNeg) := inb_of S255 ⟨hpq.1, by rw [Int32.lt_iff_toInt_lt, h_pq]; exact (own_rm pos _ _ rfl (by decide)).2⟩
      obtain ⟨T255, h255, X255, e255, Wr255, st255⟩ := stC X249 hx hZ0 rfl Ar255 (j := pq) hin255 (g := (mkF m 111 #[.val (.int sel), .val (.int pos), .val (.int ch), .val (.int len), .val (.int (2 : Int32)), .val (.int (1 : Int32)), .val (.int cz), .val (.int cy), .val (.int cx), .unset, .unset, .val (.ref r_250), .val (.int pq), .val (.int (jn2.getD pq.toNatClampNeg 0))] [(.int cz), (.int pq), (.ref r_250)])) rfl rfl (hb hby at_111)
      have G255 : Arv Z h255 r_250 kr_251 .char (16 : Int32) ([(.int (99 : Int32)), (.int (108 : Int32)), (.int (111 : Int32)), (.int (117 : Int32)), (.int (100 : Int32)), (.int (68 : Int32)), (.int (101 : Int32)), (.int (118 : Int32)), (.int (101 : Int32)), (.int (108 : Int32)), (.int (111 : Int32)), (.int (112 : Int32)), (.int (109 : Int32)), (.int (101 : Int32)), (.int (110 : Int32)), (.int (116 : Int32))].set pq.toNatClampNeg (.int (nar .char cz))) (.int (0 : Int32)) := Arv.set Ar255 q255 S255 M255 H255 F255g (fits_nar_char _) Wr255 pq.toNatClampNeg rfl hpq.2
      have K255 := Keep.of_wr Wr255
      have N255 := Fr.snoc X255 N249 (Nat.le_trans Z0 P249_0)
      have R256 : CHr Z EL_1 s.vm h0 s.vm h255 := R252.trans (CHr.keep K255 (sfS (Safe.arv hZ0.alike P249_1 (by intro q; cases q)) sf0) R252.1)
      have J255 : Arv Z h255 r_250 kr_251 .char (16 : Int32) ((jn2.set pq.toNatClampNeg cz).map Value.int) (.int (0 : Int32)) := by rw [own_nar8 hcz] at G255; rw [List.map_set]; exact G255
      obtain ⟨T257, h257, X257, e257, E257, A257, D257, U257, st257⟩ := newO X255 hx hZ0 hown0 (w2 hw) (w3 hw) (w4 hw) e255 (g := (mkF m 112 #[.val (.int sel), .val (.int pos), .val (.int ch), .val (.int len), .val (.int (2 : Int32)), .val (.int (1 : Int32)), .val (.int cz), .val (.int cy), .val (.int cx), .unset, .unset, .val (.ref r_250), .val (.int pq), .val (.int (jn2.getD pq.toNatClampNeg 0))] [])) rfl (hb hby at_112) (by decide) (by decide)
      obtain ⟨b257, g257⟩ : ∃ z, z = h255.size := ⟨_, rfl⟩
      rw [← g257] at A257 D257 U257 st257
      have K257 := (Keep.refl h255 []).ext E257
      have R258 : CHr Z EL_1 s.vm h0 s.vm h257 := R256.trans (CHr.keep K257 sf0 R256.1)
      have G257_coder : Fld Z h257 b257 "java/lang/String" "coder" "B" (.int (0 : Int32)) := D257 (Or.inr (w33 hw)) (ty := .byte) (by decide)
      have G257_value : Fld Z h257 b257 "java/lang/String" "value" "[B" .null := D257 (Or.inr (w35 hw)) (ty := (.array .byte)) (by decide)
      have hk259 := own_okl (l := (jn2.set pq.toNatClampNeg cz)) (own_b8s (by decide) hcz) (by rw [List.length_set]; decide)
      have F260 : Arv Z h257 r_250 kr_251 .char (16 : Int32) ((jn2.set pq.toNatClampNeg cz).map Value.int) (.int (0 : Int32)) := (J255.keep K257 nin0)
      have O261 : Old Z n0 h257 := (((O0.keep K249 all0).keep K255 (allS (Nat.le_trans Z0 P249_0) all0)).keep K257 all0)
      obtain ⟨_, _, ⟨T262, L262, k262, n262⟩, -, X262, ⟨Lc262, hQ262, l262, y262, z262⟩, st262⟩ := X257.specialBack hx (y := yn4) rfl hown0 (mvT hZ0 (w10 hw)) (mvT hZ0 (w11 hw)) (mvT hZ0 (w12 hw)) (by decide) (backOf (W := 1) (rm_sinit l Z a0 hw [] b257 r_250 kr_251 (jn2.set pq.toNatClampNeg cz) cS h257 n0 (Nat.le_trans Z0 (Nat.le_trans (Nat.le_trans K249.1 K255.1) K257.1)) O261 S_cs hcS A257 G257_value G257_coder (Nat.le_trans Z0 (Nat.le_trans (Nat.le_trans K249.1 K255.1) (Nat.le_of_eq g257.symm))) (by have q := F260; rw [show (16 : Int32) = Int32.ofNat (jn2.set pq.toNatClampNeg cz).length from by rw [List.length_set]; rfl] at q; exact q) hk259.1 (by rw [List.length_set]; decide) (by rw [List.length_set]; decide) (Ne.symm (Nat.ne_of_lt (Nat.lt_of_lt_of_le (Nat.lt_of_lt_of_le P249_1.lt K255.1) (Nat.le_of_eq g257.symm)))) hk259.2) hZ0 (w12 hw) (w4 hw) (by decide) (by decide)) (g := (mkF m 118 #[.val (.int sel), .val (.int pos), .val (.int ch), .val (.int len), .val (.int (2 : Int32)), .val (.int (1 : Int32)), .val (.int cz), .val (.int cy), .val (.int cx), .unset, .unset, .val (.ref r_250), .val (.int pq), .val (.int (jn2.getD pq.toNatClampNeg 0))] [(.ref r_250), (.ref b257), (.ref b257)])) rfl (by rw [hml]; rfl) (Steps.refl _) (a := b257) (argsL := [(.ref r_250)]) (rest := [(.ref b257)]) (lenOf pd__28__5b_C_29_V rfl) rfl (by show 2 * 0 + _ ≤ _; exact Nat.le_of_eq rfl) (hb hby at_118) (fun _ _ => ⟨rfl, e257, (Nat.le_of_ble_eq_true rfl), (Nat.le_of_ble_eq_true rfl)⟩)
      dsimp only [Pt.U, Pt.locs, Pt.cells, Pt.slots] at X262 l262 y262 z262 st262 hQ262
      subst l262 y262 z262
      obtain ⟨t_263, kb_264, rfl, Nq262, K262, P262_0, P262_1⟩ := hQ262
      have N262 := Fr.app N255 Nq262
      have Sf265 : Safe Z EL_1 s.vm h257 b257 := (Safe.keep K257 sf0 R256.1 (Safe.new (Nat.le_of_eq g257.symm)))
      have R266 : CHr Z EL_1 s.vm h0 s.vm T262.heap := R258.trans (CHr.keep K262 (sfS Sf265 sf0) R258.1)
      have W267 : ∀ zQ, SS p e below T262 m 127 #[.val (.int sel), .val (.int pos), .val (.int ch), .val (.int len), .val (.int (2 : Int32)), .val (.int (1 : Int32)), .val (.int cz), .val (.int cy), .val (.int cx), .val (.ref b257), .unset, .val (.ref r_250), .val (.int pq), .val (.int (jn2.getD pq.toNatClampNeg 0))] [(.int (jn2.getD pq.toNatClampNeg 0)), (.int cz)] zQ → Steps p.tables e below (s₁.setTop (entryFrame m #[(.int sel), (.int pos), (.int ch), (.int len)] maxLocals)) zQ := by
        intro tt kt
        refine W174 tt ?_
        refine XS.iload X0.here hx rfl (hb hby at_81) rfl ?_
        show SS p e below s₁ m 83 #[.val (.int sel), .val (.int pos), .val (.int ch), .val (.int len), .val (.int (2 : Int32)), .val (.int (1 : Int32)), .val (.int cz), .val (.int cy), .val (.int cx), .unset, .unset, .unset, .unset, .unset] [(.int (2 : Int32))] _
        refine st249 _ ?_
        refine XS.astore X249.here hx rfl (hb hby at_86) rfl rfl (l' := #[.val (.int sel), .val (.int pos), .val (.int ch), .val (.int len), .val (.int (2 : Int32)), .val (.int (1 : Int32)), .val (.int cz), .val (.int cy), .val (.int cx), .unset, .unset, .val (.ref r_250), .unset, .unset]) rfl ?_
        refine XS.iloadN X249.here hx rfl (hb hby at_88) rfl ?_
        show SS p e below T249 m 89 #[.val (.int sel), .val (.int pos), .val (.int ch), .val (.int len), .val (.int (2 : Int32)), .val (.int (1 : Int32)), .val (.int cz), .val (.int cy), .val (.int cx), .unset, .unset, .val (.ref r_250), .unset, .unset] [(.int pos)] _
        refine X249.ldcInt hx hown0 (mvT hZ0 (w0 hw)) (g := (mkF m 89 #[.val (.int sel), .val (.int pos), .val (.int ch), .val (.int len), .val (.int (2 : Int32)), .val (.int (1 : Int32)), .val (.int cz), .val (.int cy), .val (.int cx), .unset, .unset, .val (.ref r_250), .unset, .unset] [(.int pos)])) rfl (hb hby at_89) _ ?_
        refine XS.iand X249.here hx rfl (hb hby at_91) rfl ?_
        refine XS.aload X249.here hx rfl (hb hby at_92) rfl rfl ?_
        show SS p e below T249 m 94 #[.val (.int sel), .val (.int pos), .val (.int ch), .val (.int len), .val (.int (2 : Int32)), .val (.int (1 : Int32)), .val (.int cz), .val (.int cy), .val (.int cx), .unset, .unset, .val (.ref r_250), .unset, .unset] [(.ref r_250), (.int (pos &&& (2147483647 : Int32)))] _
        refine X249.arraylength hx (by first | exact Ar253.1 | (rw [rfl]; exact Ar253.1)) (State.isArrayOf_alike hZ0.alike Ar253.2.1) (g := (mkF m 94 #[.val (.int sel), .val (.int pos), .val (.int ch), .val (.int len), .val (.int (2 : Int32)), .val (.int (1 : Int32)), .val (.int cz), .val (.int cy), .val (.int cx), .unset, .unset, .val (.ref r_250), .unset, .unset] [(.ref r_250), (.int (pos &&& (2147483647 : Int32)))])) rfl rfl (hb hby at_94) _ ?_
        rw [len_of S253 M253]
        show SS p e below T249 m 95 #[.val (.int sel), .val (.int pos), .val (.int ch), .val (.int len), .val (.int (2 : Int32)), .val (.int (1 : Int32)), .val (.int cz), .val (.int cy), .val (.int cx), .unset, .unset, .val (.ref r_250), .unset, .unset] [(.int (16 : Int32)), (.int (pos &&& (2147483647 : Int32)))] _
        refine Jvm.RoadKit.iremM X249 hx rfl (hb hby at_95) rfl (by decide) ?_
        show SS p e below T249 m 96 #[.val (.int sel), .val (.int pos), .val (.int ch), .val (.int len), .val (.int (2 : Int32)), .val (.int (1 : Int32)), .val (.int cz), .val (.int cy), .val (.int cx), .unset, .unset, .val (.ref r_250), .unset, .unset] [(.int ((pos &&& (2147483647 : Int32)) % (16 : Int32)))] _
        rw [← h_pq]
        refine XS.istore X249.here hx rfl (hb hby at_96) rfl (l' := #[.val (.int sel), .val (.int pos), .val (.int ch), .val (.int len), .val (.int (2 : Int32)), .val (.int (1 : Int32)), .val (.int cz), .val (.int cy), .val (.int cx), .unset, .unset, .val (.ref r_250), .val (.int pq), .unset]) rfl ?_
        refine XS.aload X249.here hx rfl (hb hby at_98) rfl rfl ?_
        refine XS.iload X249.here hx rfl (hb hby at_100) rfl ?_
        show SS p e below T249 m 102 #[.val (.int sel), .val (.int pos), .val (.int ch), .val (.int len), .val (.int (2 : Int32)), .val (.int (1 : Int32)), .val (.int cz), .val (.int cy), .val (.int cx), .unset, .unset, .val (.ref r_250), .val (.int pq), .unset] [(.int pq), (.ref r_250)] _
        refine X249.caload hx (j := pq) (v := (.int (jn2.getD pq.toNatClampNeg 0))) (by first | exact Ar254.1 | (rw [rfl]; exact Ar254.1)) (State.isArrayOf_alike hZ0.alike Ar254.2.1) Ar254.2.2 hin254 hat254 (g := (mkF m 102 #[.val (.int sel), .val (.int pos), .val (.int ch), .val (.int len), .val (.int (2 : Int32)), .val (.int (1 : Int32)), .val (.int cz), .val (.int cy), .val (.int cx), .unset, .unset, .val (.ref r_250), .val (.int pq), .unset] [(.int pq), (.ref r_250)])) rfl rfl (hb hby at_102) _ ?_
        refine XS.istore X249.here hx rfl (hb hby at_103) rfl (l' := #[.val (.int sel), .val (.int pos), .val (.int ch), .val (.int len), .val (.int (2 : Int32)), .val (.int (1 : Int32)), .val (.int cz), .val (.int cy), .val (.int cx), .unset, .unset, .val (.ref r_250), .val (.int pq), .val (.int (jn2.getD pq.toNatClampNeg 0))]) rfl ?_
        refine XS.aload X249.here hx rfl (hb hby at_105) rfl rfl ?_
        refine XS.iload X249.here hx rfl (hb hby at_107) rfl ?_
        refine XS.iload X249.here hx rfl (hb hby at_109) rfl ?_
        show SS p e below T249 m 111 #[.val (.int sel), .val (.int pos), .val (.int ch), .val (.int len), .val (.int (2 : Int32)), .val (.int (1 : Int32)), .val (.int cz), .val (.int cy), .val (.int cx), .unset, .unset, .val (.ref r_250), .val (.int pq), .val (.int (jn2.getD pq.toNatClampNeg 0))] [(.int cz), (.int pq), (.ref r_250)] _
        refine st255 _ ?_
        show SS p e below T255 m 112 #[.val (.int sel), .val (.int pos), .val (.int ch), .val (.int len), .val (.int (2 : Int32)), .val (.int (1 : Int32)), .val (.int cz), .val (.int cy), .val (.int cx), .unset, .unset, .val (.ref r_250), .val (.int pq), .val (.int (jn2.getD pq.toNatClampNeg 0))] [] _
        refine st257 _ ?_
        refine XS.dup X257.here hx rfl (hb hby at_115) rfl rfl ?_
        refine XS.aload X257.here hx rfl (hb hby at_116) rfl rfl ?_
        show SS p e below T257 m 118 #[.val (.int sel), .val (.int pos), .val (.int ch), .val (.int len), .val (.int (2 : Int32)), .val (.int (1 : Int32)), .val (.int cz), .val (.int cy), .val (.int cx), .unset, .unset, .val (.ref r_250), .val (.int pq), .val (.int (jn2.getD pq.toNatClampNeg 0))] [(.ref r_250), (.ref b257), (.ref b257)] _
        refine st262.trans ?_
        refine XS.astore X262.here hx rfl (hb hby at_121) rfl rfl (l' := #[.val (.int sel), .val (.int pos), .val (.int ch), .val (.int len), .val (.int (2 : Int32)), .val (.int (1 : Int32)), .val (.int cz), .val (.int cy), .val (.int cx), .val (.ref b257), .unset, .val (.ref r_250), .val (.int pq), .val (.int (jn2.getD pq.toNatClampNeg 0))]) rfl ?_
        refine XS.iload X262.here hx rfl (hb hby at_123) rfl ?_
        refine XS.iload X262.here hx rfl (hb hby at_125) rfl ?_
        exact kt
      by_cases hc268 : cz = (jn2.getD pq.toNatClampNeg 0)
      ·
        have O269 : Old Z n0 T262.heap := (O261.keep K262 (allS (Nat.le_trans Z0 (Nat.le_trans (Nat.le_trans K249.1 K255.1) (Nat.le_of_eq g257.symm))) all0))
        obtain ⟨_, _, ⟨T270, L270, k270, n270⟩, -, X270, ⟨Lc270, hQ270, l270, y270, z270⟩, st270⟩ := Jvm.LawKit.callS X262 hx (y := yn22) hown0 (mvT hZ0 (w36 hw)) (mvT hZ0 (w37 hw)) (mvT hZ0 (w38 hw)) (mvT hZ0 (w39 hw)) (by decide) (backOf (W := 0) (rm_of2 l Z a0 hw [] b257 t_263 kb_264 (jn2.set pq.toNatClampNeg cz) o0 o1 o2 oV kV j0 v0 kv0 j1 v1 kv1 j2 v2 kv2 oE cS T262.heap n0 (Nat.le_trans Z0 (Nat.le_trans (Nat.le_trans (Nat.le_trans K249.1 K255.1) K257.1) K262.1)) O269 S_V S_0 S_1 S_2 E_V V_V E_0 Fj_0 Ej_0 Fc_0 Fv_0 Vv_0 E_1 Fj_1 Ej_1 Fc_1 Fv_1 Vv_1 E_2 Fj_2 Ej_2 Fc_2 Fv_2 Vv_2 S_EMPTY E_EMPTY F_EMPTY S_cs hcS P262_1 hk259.2 (Nat.le_trans Z0 (Nat.le_trans (Nat.le_trans K249.1 K255.1) (Nat.le_of_eq g257.symm))) (fun e => absurd ((congrArg List.length e).trans List.length_set) (by decide)) (fun e => absurd ((congrArg List.length e).trans List.length_set) (by decide)) (own_setself hpq.2 hc268)) hZ0 (w39 hw) (w38 hw) (by decide) (by decide)) (g := (mkF m 299 #[.val (.int sel), .val (.int pos), .val (.int ch), .val (.int len), .val (.int (2 : Int32)), .val (.int (1 : Int32)), .val (.int cz), .val (.int cy), .val (.int cx), .val (.ref b257), .val (.int (2 : Int32)), .val (.ref r_250), .val (.int pq), .val (.int (jn2.getD pq.toNatClampNeg 0))] [(.ref b257)])) rfl (by rw [hml]; rfl) (argsL := [(.ref b257)]) (rest := []) (lenOf pd__28_Ljava_2f_lang_2f_String_3b__29_Ljava_2f_util_2f_Optional_3b_ rfl) rfl (by show 2 * 0 + _ ≤ _; exact Nat.le_of_eq rfl) (hb hby at_299) (fun _ _ => ⟨rfl, rfl, (Nat.le_of_ble_eq_true rfl), (Nat.le_of_ble_eq_true rfl)⟩)
        dsimp only [Pt.U, Pt.locs, Pt.cells, Pt.slots] at X270 l270 y270 z270 st270 hQ270
        subst l270 y270 z270
        obtain ⟨r_271, rfl, Nq270, K270, P270_0, P270_1, P270_2⟩ := hQ270
        have N270 := Fr.app N262 Nq270
        have R272 : CHr Z EL_1 s.vm h0 s.vm T270.heap := R266.trans (CHr.keep K270 sf0 R266.1)
        obtain ⟨cq273, kq273, q273a, q273b, q273c⟩ := isOf hZ0 rfl P270_1
        obtain ⟨_, _, ⟨T273, L273, k273, n273⟩, -, X273, ⟨Lc273, hQ273, l273, y273, z273⟩, st273⟩ := X270.virtualBack hx (y := yn18) (z := yn18) hown0 (mvT hZ0 (w87 hw)) (mvT hZ0 (w88 hw)) (notFace_of_selects (args := #[]) (mvT hZ0 (w90 hw))) (mvT hZ0 (w90 hw)) (mvT hZ0 (w89 hw)) (by decide) (backOf (W := 0) (rm_isP1 l Z a0 hw [] r_271 o2 T270.heap n0 (Nat.le_trans Z0 (Nat.le_trans (Nat.le_trans (Nat.le_trans (Nat.le_trans K249.1 K255.1) K257.1) K262.1) K270.1)) P270_2) hZ0 (w91 hw) (w72 hw) (by decide) (by decide)) q273a q273c (g := (mkF m 325 #[.val (.int sel), .val (.int pos), .val (.int ch), .val (.int len), .val (.int (2 : Int32)), .val (.int (1 : Int32)), .val (.int cz), .val (.int cy), .val (.int cx), .val (.ref b257), .val (.int (2 : Int32)), .val (.ref r_271), .val (.int pq), .val (.int (jn2.getD pq.toNatClampNeg 0))] [(.ref r_271)])) rfl (by rw [hml]; rfl) (Steps.refl _) (argsL := []) (rest := []) (lenOf pd__28__29_Z rfl) rfl (by show 2 * 0 + _ ≤ _; exact Nat.le_of_eq rfl) (hb hby at_325) (fun _ _ => ⟨rfl, rfl, (Nat.le_of_ble_eq_true rfl), (Nat.le_of_ble_eq_true rfl)⟩)
        dsimp only [Pt.U, Pt.locs, Pt.cells, Pt.slots] at X273 l273 y273 z273 st273 hQ273
        subst l273 y273 z273
        obtain ⟨rfl, Nq273, eq273⟩ := hQ273
        have N273 := Fr.app N270 Nq273
        obtain ⟨cq274, kq274, q274a, q274b, q274c⟩ := isOf hZ0 eq273 P270_1
        obtain ⟨_, _, ⟨T274, L274, k274, n274⟩, -, X274, ⟨Lc274, hQ274, l274, y274, z274⟩, st274⟩ := X273.virtualBack hx (y := yn19) (z := yn19) hown0 (mvT hZ0 (w92 hw)) (mvT hZ0 (w93 hw)) (notFace_of_selects (args := #[]) (mvT hZ0 (w95 hw))) (mvT hZ0 (w95 hw)) (mvT hZ0 (w94 hw)) (by decide) (backOf (W := 0) (rm_opGet l Z a0 hw [] r_271 o2 T270.heap n0 (Nat.le_trans Z0 (Nat.le_trans (Nat.le_trans (Nat.le_trans (Nat.le_trans K249.1 K255.1) K257.1) K262.1) K270.1)) P270_2) hZ0 (w96 hw) (w72 hw) (by decide) (by decide)) q274a q274c (g := (mkF m 333 #[.val (.int sel), .val (.int pos), .val (.int ch), .val (.int len), .val (.int (2 : Int32)), .val (.int (1 : Int32)), .val (.int cz), .val (.int cy), .val (.int cx), .val (.ref b257), .val (.int (2 : Int32)), .val (.ref r_271), .val (.int pq), .val (.int (jn2.getD pq.toNatClampNeg 0))] [(.ref r_271)])) rfl (by rw [hml]; rfl) (Steps.refl _) (argsL := []) (rest := []) (lenOf pd__28__29_Ljava_2f_lang_2f_Object_3b_ rfl) rfl (by show 2 * 0 + _ ≤ _; exact Nat.le_of_eq rfl) (hb hby at_333) (fun _ _ => ⟨rfl, eq273, (Nat.le_of_ble_eq_true rfl), (Nat.le_of_ble_eq_true rfl)⟩)
        dsimp only [Pt.U, Pt.locs, Pt.cells, Pt.slots] at X274 l274 y274 z274 st274 hQ274
        subst l274 y274 z274
        obtain ⟨rfl, Nq274, eq274⟩ := hQ274
        have N274 := Fr.app N273 Nq274
        have O275 : Old Z n0 T270.heap := (O269.keep K270 all0)
        obtain ⟨_, _, ⟨T276, L276, k276, n276⟩, -, X276, ⟨Lc276, hQ276, l276, y276, z276⟩, st276⟩ := Jvm.LawKit.callS X274 hx (y := yn20) hown0 (mvT hZ0 (w97 hw)) (mvT hZ0 (w98 hw)) (mvT hZ0 (w7 hw)) (mvT hZ0 (w99 hw)) (by decide) (backOf (W := 1) (rm_const2 l Z a0 hw [] o2 T270.heap n0 (Nat.le_trans Z0 (Nat.le_trans (Nat.le_trans (Nat.le_trans (Nat.le_trans K249.1 K255.1) K257.1) K262.1) K270.1)) O275 S_2) hZ0 (w99 hw) (w7 hw) (by decide) (by decide)) (g := (mkF m 338 #[.val (.int sel), .val (.int pos), .val (.int ch), .val (.int len), .val (.int (2 : Int32)), .val (.int (1 : Int32)), .val (.int cz), .val (.int cy), .val (.int cx), .val (.ref b257), .val (.int (2 : Int32)), .val (.ref r_271), .val (.int pq), .val (.int (jn2.getD pq.toNatClampNeg 0))] [(.int (2 : Int32)), (.ref o2)])) rfl (by rw [hml]; rfl) (argsL := [(.int (2 : Int32))]) (rest := [(.ref o2)]) (lenOf pd__28_I_29_Lcom_2f_example_2f_composition_2f_composition_2f_definition_2f_AbapLanguageVersion_3b_ rfl) rfl (by show 2 * 0 + _ ≤ _; exact Nat.le_of_eq rfl) (hb hby at_338) (fun _ _ => ⟨rfl, eq274, (Nat.le_of_ble_eq_true rfl), (Nat.le_of_ble_eq_true rfl)⟩)
        dsimp only [Pt.U, Pt.locs, Pt.cells, Pt.slots] at X276 l276 y276 z276 st276 hQ276
        subst l276 y276 z276
        obtain ⟨rfl, Nq276, eq276⟩ := hQ276
        have N276 := Fr.app N274 Nq276
        have W277 : ∀ zQ, SS p e below T276 m 349 #[.val (.int sel), .val (.int pos), .val (.int ch), .val (.int len), .val (.int (2 : Int32)), .val (.int (1 : Int32)), .val (.int cz), .val (.int cy), .val (.int cx), .val (.ref b257), .val (.int (2 : Int32)), .val (.ref r_271), .val (.int pq), .val (.int (jn2.getD pq.toNatClampNeg 0))] [(.int (1 : Int32))] zQ → Steps p.tables e below (s₁.setTop (entryFrame m #[(.int sel), (.int pos), (.int ch), (.int len)] maxLocals)) zQ := by
          intro tt kt
          refine W267 tt ?_
          refine XS.icmpNo X262.here hx rfl (hb hby at_127) rfl (teq hc268).2 ?_
          refine XS.iload X262.here hx rfl (hb hby at_130) rfl ?_
          refine XS.goto X262.here hx rfl (pc0 := 132) (pc' := 136) rfl (hb hby at_132) (by decide) (by decide) ?_
          refine XS.istore X262.here hx rfl (hb hby at_136) rfl (l' := #[.val (.int sel), .val (.int pos), .val (.int ch), .val (.int len), .val (.int (2 : Int32)), .val (.int (1 : Int32)), .val (.int cz), .val (.int cy), .val (.int cx), .val (.ref b257), .val (.int (2 : Int32)), .val (.ref r_250), .val (.int pq), .val (.int (jn2.getD pq.toNatClampNeg 0))]) rfl ?_
          refine XS.goto X262.here hx rfl (pc0 := 138) (pc' := 297) rfl (hb hby at_138) (by decide) (by decide) ?_
          refine XS.aload X262.here hx rfl (hb hby at_297) rfl rfl ?_
          show SS p e below T262 m 299 #[.val (.int sel), .val (.int pos), .val (.int ch), .val (.int len), .val (.int (2 : Int32)), .val (.int (1 : Int32)), .val (.int cz), .val (.int cy), .val (.int cx), .val (.ref b257), .val (.int (2 : Int32)), .val (.ref r_250), .val (.int pq), .val (.int (jn2.getD pq.toNatClampNeg 0))] [(.ref b257)] _
          refine st270 _ ?_
          refine XS.astore X270.here hx rfl (hb hby at_302) rfl rfl (l' := #[.val (.int sel), .val (.int pos), .val (.int ch), .val (.int len), .val (.int (2 : Int32)), .val (.int (1 : Int32)), .val (.int cz), .val (.int cy), .val (.int cx), .val (.ref b257), .val (.int (2 : Int32)), .val (.ref r_271), .val (.int pq), .val (.int (jn2.getD pq.toNatClampNeg 0))]) rfl ?_
          refine XS.iload X270.here hx rfl (hb hby at_304) rfl ?_
          refine XS.ifYes X270.here hx rfl (pc0 := 306) (pc' := 323) rfl (hb hby at_306) rfl ((if0 _ _).trans (flt (by decide)).2.1) (by decide) (by decide) ?_
          refine XS.aload X270.here hx rfl (hb hby at_323) rfl rfl ?_
          show SS p e below T270 m 325 #[.val (.int sel), .val (.int pos), .val (.int ch), .val (.int len), .val (.int (2 : Int32)), .val (.int (1 : Int32)), .val (.int cz), .val (.int cy), .val (.int cx), .val (.ref b257), .val (.int (2 : Int32)), .val (.ref r_271), .val (.int pq), .val (.int (jn2.getD pq.toNatClampNeg 0))] [(.ref r_271)] _
          refine st273.trans ?_
          refine XS.ifNo X273.here hx rfl (hb hby at_328) rfl ((if0 _ _).trans (feq (by decide)).1) ?_
          refine XS.aload X273.here hx rfl (hb hby at_331) rfl rfl ?_
          show SS p e below T273 m 333 #[.val (.int sel), .val (.int pos), .val (.int ch), .val (.int len), .val (.int (2 : Int32)), .val (.int (1 : Int32)), .val (.int cz), .val (.int cy), .val (.int cx), .val (.ref b257), .val (.int (2 : Int32)), .val (.ref r_271), .val (.int pq), .val (.int (jn2.getD pq.toNatClampNeg 0))] [(.ref r_271)] _
          refine st274.trans ?_
          refine XS.iload X274.here hx rfl (hb hby at_336) rfl ?_
          show SS p e below T274 m 338 #[.val (.int sel), .val (.int pos), .val (.int ch), .val (.int len), .val (.int (2 : Int32)), .val (.int (1 : Int32)), .val (.int cz), .val (.int cy), .val (.int cx), .val (.ref b257), .val (.int (2 : Int32)), .val (.ref r_271), .val (.int pq), .val (.int (jn2.getD pq.toNatClampNeg 0))] [(.int (2 : Int32)), (.ref o2)] _
          refine st276 _ ?_
          show SS p e below T276 m 341 #[.val (.int sel), .val (.int pos), .val (.int ch), .val (.int len), .val (.int (2 : Int32)), .val (.int (1 : Int32)), .val (.int cz), .val (.int cy), .val (.int cx), .val (.ref b257), .val (.int (2 : Int32)), .val (.ref r_271), .val (.int pq), .val (.int (jn2.getD pq.toNatClampNeg 0))] [(.ref o2), (.ref o2)] _
          refine Jvm.RoadKit.acmp (g := (mkF m 341 #[.val (.int sel), .val (.int pos), .val (.int ch), .val (.int len), .val (.int (2 : Int32)), .val (.int (1 : Int32)), .val (.int cz), .val (.int cy), .val (.int cx), .val (.ref b257), .val (.int (2 : Int32)), .val (.ref r_271), .val (.int pq), .val (.int (jn2.getD pq.toNatClampNeg 0))] [(.ref o2), (.ref o2)])) X276 hx rfl rfl rfl (pc0 := 341) (pc' := 344) (same := true) rfl (hb hby at_341) rfl (decide_eq_true rfl) (by decide) (by decide) ?_
          refine XS.iconst X276.here hx rfl (hb hby at_344) ?_
          refine XS.goto X276.here hx rfl (pc0 := 345) (pc' := 349) rfl (hb hby at_345) (by decide) (by decide) ?_
          exact kt
        obtain ⟨fs, hr, hrun, hended, hRW⟩ := Jvm.Stand.leaveW X276 hS0 (by rw [eq276]; exact (Nat.le_trans hk0 (Nat.le_trans (Nat.le_trans (Nat.le_trans (Nat.le_trans K249.1 K255.1) K257.1) K262.1) K270.1))) (v := some (.int (nar .boolean (1 : Int32)))) (fun h => by rw [Bd.returns] at h; cases h) (BodyLoose.notSynchronized Bd)
        refine ⟨_, _, W277 _ (retN X276 hx (t := .boolean) Bd.returns (by simp) (hb hby at_349) hr), hrun, hended, _, _, rfl, ?_, own_chr (T := T276) R272 (CHv.at X276 hZ0 hEL R272.1) hh.symm eq276, own_rw hRW (by decide) (by decide)⟩
        show Q_law Z sel pos ch len o0 o1 o2 oV kV j0 v0 kv0 j1 v1 kv1 j2 v2 kv2 oE cS h0 n0 _ T276.heap _
        rw [eq276]
        exact ⟨rfl, N276, (Keep.trans (Keep.trans (Keep.trans (Keep.trans (Keep.trans (Keep.refl h0 []) K249 all0) K255 (allS (Or.inr P249_0) all0)) K257 all0) K262 (allS (Or.inr (Nat.le_trans (Nat.le_trans K249.1 K255.1) (Nat.le_of_eq g257.symm))) all0)) K270 all0)⟩
      ·
        have O278 : Old Z n0 T262.heap := (O261.keep K262 (allS (Nat.le_trans Z0 (Nat.le_trans (Nat.le_trans K249.1 K255.1) (Nat.le_of_eq g257.symm))) all0))
        obtain ⟨_, _, ⟨T279, L279, k279, n279⟩, -, X279, ⟨Lc279, hQ279, l279, y279, z279⟩, st279⟩ := Jvm.LawKit.callS X262 hx (y := yn22) hown0 (mvT hZ0 (w36 hw)) (mvT hZ0 (w37 hw)) (mvT hZ0 (w38 hw)) (mvT hZ0 (w39 hw)) (by decide) (backOf (W := 0) (rm_of3 l Z a0 hw [] b257 t_263 kb_264 (jn2.set pq.toNatClampNeg cz) o0 o1 o2 oV kV j0 v0 kv0 j1 v1 kv1 j2 v2 kv2 oE cS T262.heap n0 (Nat.le_trans Z0 (Nat.le_trans (Nat.le_trans (Nat.le_trans K249.1 K255.1) K257.1) K262.1)) O278 S_V S_0 S_1 S_2 E_V V_V E_0 Fj_0 Ej_0 Fc_0 Fv_0 Vv_0 E_1 Fj_1 Ej_1 Fc_1 Fv_1 Vv_1 E_2 Fj_2 Ej_2 Fc_2 Fv_2 Vv_2 S_EMPTY E_EMPTY F_EMPTY S_cs hcS P262_1 hk259.2 (Nat.le_trans Z0 (Nat.le_trans (Nat.le_trans K249.1 K255.1) (Nat.le_of_eq g257.symm))) (fun e => absurd ((congrArg List.length e).trans List.length_set) (by decide)) (fun e => absurd ((congrArg List.length e).trans List.length_set) (by decide)) (own_setne hpq.2 hc268)) hZ0 (w39 hw) (w38 hw) (by decide) (by decide)) (g := (mkF m 299 #[.val (.int sel), .val (.int pos), .val (.int ch), .val (.int len), .val (.int (2 : Int32)), .val (.int (1 : Int32)), .val (.int cz), .val (.int cy), .val (.int cx), .val (.ref b257), .val (.int (-1 : Int32)), .val (.ref r_250), .val (.int pq), .val (.int (jn2.getD pq.toNatClampNeg 0))] [(.ref b257)])) rfl (by rw [hml]; rfl) (argsL := [(.ref b257)]) (rest := []) (lenOf pd__28_Ljava_2f_lang_2f_String_3b__29_Ljava_2f_util_2f_Optional_3b_ rfl) rfl (by show 2 * 0 + _ ≤ _; exact Nat.le_of_eq rfl) (hb hby at_299) (fun _ _ => ⟨rfl, rfl, (Nat.le_of_ble_eq_true rfl), (Nat.le_of_ble_eq_true rfl)⟩)
        dsimp only [Pt.U, Pt.locs, Pt.cells, Pt.slots] at X279 l279 y279 z279 st279 hQ279
        subst l279 y279 z279
        obtain ⟨rfl, Nq279, K279⟩ := hQ279
        have N279 := Fr.app N262 Nq279
        have R280 : CHr Z EL_1 s.vm h0 s.vm T279.heap := R266.trans (CHr.keep K279 sf0 R266.1)
        have O281 : Old Z n0 T279.heap := (O278.keep K279 all0)
        have F282 : Fld Z T279.heap oE "java/util/Optional" "value" "Ljava/lang/Object;" .null := F_EMPTY.ext O281.2
        have F284 : Exa Z T279.heap oE "java/util/Optional" := E_EMPTY.ext O281.2
        obtain ⟨cq283, kq283, q283a, q283b, q283c⟩ := isOf hZ0 rfl F284
        obtain ⟨_, _, ⟨T283, L283, k283, n283⟩, -, X283, ⟨Lc283, hQ283, l283, y283, z283⟩, st283⟩ := X279.virtualBack hx (y := yn18) (z := yn18) hown0 (mvT hZ0 (w87 hw)) (mvT hZ0 (w88 hw)) (notFace_of_selects (args := #[]) (mvT hZ0 (w90 hw))) (mvT hZ0 (w90 hw)) (mvT hZ0 (w89 hw)) (by decide) (backOf (W := 0) (rm_isP0 l Z a0 hw [] oE T279.heap n0 (Nat.le_trans Z0 (Nat.le_trans (Nat.le_trans (Nat.le_trans (Nat.le_trans K249.1 K255.1) K257.1) K262.1) K279.1)) F282) hZ0 (w91 hw) (w72 hw) (by decide) (by decide)) q283a q283c (g := (mkF m 311 #[.val (.int sel), .val (.int pos), .val (.int ch), .val (.int len), .val (.int (2 : Int32)), .val (.int (1 : Int32)), .val (.int cz), .val (.int cy), .val (.int cx), .val (.ref b257), .val (.int (-1 : Int32)), .val (.ref oE), .val (.int pq), .val (.int (jn2.getD pq.toNatClampNeg 0))] [(.ref oE)])) rfl (by rw [hml]; rfl) (Steps.refl _) (argsL := []) (rest := []) (lenOf pd__28__29_Z rfl) rfl (by show 2 * 0 + _ ≤ _; exact Nat.le_of_eq rfl) (hb hby at_311) (fun _ _ => ⟨rfl, rfl, (Nat.le_of_ble_eq_true rfl), (Nat.le_of_ble_eq_true rfl)⟩)
        dsimp only [Pt.U, Pt.locs, Pt.cells, Pt.slots] at X283 l283 y283 z283 st283 hQ283
        subst l283 y283 z283
        obtain ⟨rfl, Nq283, eq283⟩ := hQ283
        have N283 := Fr.app N279 Nq283
        have W285 : ∀ zQ, SS p e below T283 m 322 #[.val (.int sel), .val (.int pos), .val (.int ch), .val (.int len), .val (.int (2 : Int32)), .val (.int (1 : Int32)), .val (.int cz), .val (.int cy), .val (.int cx), .val (.ref b257), .val (.int (-1 : Int32)), .val (.ref oE), .val (.int pq), .val (.int (jn2.getD pq.toNatClampNeg 0))] [(.int (1 : Int32))] zQ → Steps p.tables e below (s₁.setTop (entryFrame m #[(.int sel), (.int pos), (.int ch), (.int len)] maxLocals)) zQ := by
          intro tt kt
          refine W267 tt ?_
          refine XS.icmpYes X262.here hx rfl (pc0 := 127) (pc' := 135) rfl (hb hby at_127) rfl (feq hc268).2 (by decide) (by decide) ?_
          refine XS.iconst X262.here hx rfl (hb hby at_135) ?_
          refine XS.istore X262.here hx rfl (hb hby at_136) rfl (l' := #[.val (.int sel), .val (.int pos), .val (.int ch), .val (.int len), .val (.int (2 : Int32)), .val (.int (1 : Int32)), .val (.int cz), .val (.int cy), .val (.int cx), .val (.ref b257), .val (.int (-1 : Int32)), .val (.ref r_250), .val (.int pq), .val (.int (jn2.getD pq.toNatClampNeg 0))]) rfl ?_
          refine XS.goto X262.here hx rfl (pc0 := 138) (pc' := 297) rfl (hb hby at_138) (by decide) (by decide) ?_
          refine XS.aload X262.here hx rfl (hb hby at_297) rfl rfl ?_
          show SS p e below T262 m 299 #[.val (.int sel), .val (.int pos), .val (.int ch), .val (.int len), .val (.int (2 : Int32)), .val (.int (1 : Int32)), .val (.int cz), .val (.int cy), .val (.int cx), .val (.ref b257), .val (.int (-1 : Int32)), .val (.ref r_250), .val (.int pq), .val (.int (jn2.getD pq.toNatClampNeg 0))] [(.ref b257)] _
          refine st279 _ ?_
          refine XS.astore X279.here hx rfl (hb hby at_302) rfl rfl (l' := #[.val (.int sel), .val (.int pos), .val (.int ch), .val (.int len), .val (.int (2 : Int32)), .val (.int (1 : Int32)), .val (.int cz), .val (.int cy), .val (.int cx), .val (.ref b257), .val (.int (-1 : Int32)), .val (.ref oE), .val (.int pq), .val (.int (jn2.getD pq.toNatClampNeg 0))]) rfl ?_
          refine XS.iload X279.here hx rfl (hb hby at_304) rfl ?_
          refine XS.ifNo X279.here hx rfl (hb hby at_306) rfl ((if0 _ _).trans (tlt (by decide)).2.1) ?_
          refine XS.aload X279.here hx rfl (hb hby at_309) rfl rfl ?_
          show SS p e below T279 m 311 #[.val (.int sel), .val (.int pos), .val (.int ch), .val (.int len), .val (.int (2 : Int32)), .val (.int (1 : Int32)), .val (.int cz), .val (.int cy), .val (.int cx), .val (.ref b257), .val (.int (-1 : Int32)), .val (.ref oE), .val (.int pq), .val (.int (jn2.getD pq.toNatClampNeg 0))] [(.ref oE)] _
          refine st283.trans ?_
          refine XS.ifNo X283.here hx rfl (hb hby at_314) rfl ((if0 _ _).trans (teq (by decide)).2) ?_
          refine XS.iconst X283.here hx rfl (hb hby at_317) ?_
          refine XS.goto X283.here hx rfl (pc0 := 318) (pc' := 322) rfl (hb hby at_318) (by decide) (by decide) ?_
          exact kt
        obtain ⟨fs, hr, hrun, hended, hRW⟩ := Jvm.Stand.leaveW X283 hS0 (by rw [eq283]; exact (Nat.le_trans hk0 (Nat.le_trans (Nat.le_trans (Nat.le_trans (Nat.le_trans K249.1 K255.1) K257.1) K262.1) K279.1))) (v := some (.int (nar .boolean (1 : Int32)))) (fun h => by rw [Bd.returns] at h; cases h) (BodyLoose.notSynchronized Bd)
        refine ⟨_, _, W285 _ (retN X283 hx (t := .boolean) Bd.returns (by simp) (hb hby at_322) hr), hrun, hended, _, _, rfl, ?_, own_chr (T := T283) R280 (CHv.at X283 hZ0 hEL R280.1) hh.symm eq283, own_rw hRW (by decide) (by decide)⟩
        show Q_law Z sel pos ch len o0 o1 o2 oV kV j0 v0 kv0 j1 v1 kv1 j2 v2 kv2 oE cS h0 n0 _ T283.heap _
        rw [eq283]
        exact ⟨rfl, N283, (Keep.trans (Keep.trans (Keep.trans (Keep.trans (Keep.trans (Keep.refl h0 []) K249 all0) K255 (allS (Or.inr P249_0) all0)) K257 all0) K262 (allS (Or.inr (Nat.le_trans (Nat.le_trans K249.1 K255.1) (Nat.le_of_eq g257.symm))) all0)) K279 all0)⟩
  ·
    obtain ⟨cz, h_cz⟩ : ∃ z : Int32, z = ((ch &&& (255 : Int32)).toUInt32.toUInt16.toUInt32.toInt32) := ⟨_, rfl⟩
    have hcz : B8 cz := by rw [h_cz]; exact own_c8 _
    obtain ⟨cy, h_cy⟩ : ∃ z : Int32, z = ((((ch.toUInt32 >>> ((8 : Int32) &&& 31).toUInt32).toInt32) &&& (255 : Int32)).toUInt32.toUInt16.toUInt32.toInt32) := ⟨_, rfl⟩
    have hcy : B8 cy := by rw [h_cy]; exact own_c8 _
    obtain ⟨cx, h_cx⟩ : ∃ z : Int32, z = ((((ch.toUInt32 >>> ((16 : Int32) &&& 31).toUInt32).toInt32) &&& (255 : Int32)).toUInt32.toUInt16.toUInt32.toInt32) := ⟨_, rfl⟩
    have hcx : B8 cx := by rw [h_cx]; exact own_c8 _
    obtain ⟨T286, h286, X286, e286, E286, A286, D286, U286, st286⟩ := newO X0 hx hZ0 hown0 (w2 hw) (w3 hw) (w4 hw) e0 (g := (mkF m 147 #[.val (.int sel), .val (.int pos), .val (.int ch), .val (.int len), .val (.int kq), .val (.int (2 : Int32)), .val (.int cz), .val (.int cy), .val (.int cx), .unset, .unset, .unset, .unset, .unset] [])) rfl (hb hby at_147) (by decide) (by decide)
    obtain ⟨b286, g286⟩ : ∃ z, z = h0.size := ⟨_, rfl⟩
    rw [← g286] at A286 D286 U286 st286
    have K286 := (Keep.refl h0 []).ext E286
    have R287 : CHr Z EL_1 s.vm h0 s.vm h286 := R0.trans (CHr.keep K286 sf0 R0.1)
    have G286_coder : Fld Z h286 b286 "java/lang/String" "coder" "B" (.int (0 : Int32)) := D286 (Or.inr (w33 hw)) (ty := .byte) (by decide)
    have G286_value : Fld Z h286 b286 "java/lang/String" "value" "[B" .null := D286 (Or.inr (w35 hw)) (ty := (.array .byte)) (by decide)
    have W288 : ∀ zQ, SS p e below T286 m 151 #[.val (.int sel), .val (.int pos), .val (.int ch), .val (.int len), .val (.int kq), .val (.int (2 : Int32)), .val (.int cz), .val (.int cy), .val (.int cx), .unset, .unset, .unset, .unset, .unset] [(.ref b286), (.ref b286)] zQ → Steps p.tables e below (s₁.setTop (entryFrame m #[(.int sel), (.int pos), (.int ch), (.int len)] maxLocals)) zQ := by
      intro tt kt
      refine W101 tt ?_
      refine XS.istore X0.here hx rfl (hb hby at_17) rfl (l' := #[.val (.int sel), .val (.int pos), .val (.int ch), .val (.int len), .val (.int kq), .val (.int (2 : Int32)), .unset, .unset, .unset, .unset, .unset, .unset, .unset, .unset]) rfl ?_
      refine XS.iloadN X0.here hx rfl (hb hby at_19) rfl ?_
      refine XS.sipush X0.here hx rfl (hb hby at_20) ?_
      refine XS.iand X0.here hx rfl (hb hby at_23) rfl ?_
      refine XS.i2c X0.here hx rfl (hb hby at_24) rfl ?_
      show SS p e below s₁ m 25 #[.val (.int sel), .val (.int pos), .val (.int ch), .val (.int len), .val (.int kq), .val (.int (2 : Int32)), .unset, .unset, .unset, .unset, .unset, .unset, .unset, .unset] [(.int ((ch &&& (255 : Int32)).toUInt32.toUInt16.toUInt32.toInt32))] _
      rw [← h_cz]
      refine XS.istore X0.here hx rfl (hb hby at_25) rfl (l' := #[.val (.int sel), .val (.int pos), .val (.int ch), .val (.int len), .val (.int kq), .val (.int (2 : Int32)), .val (.int cz), .unset, .unset, .unset, .unset, .unset, .unset, .unset]) rfl ?_
      refine XS.iloadN X0.here hx rfl (hb hby at_27) rfl ?_
      refine XS.bipush X0.here hx rfl (hb hby at_28) ?_
      refine XS.iushr X0.here hx rfl (hb hby at_30) rfl ?_
      refine XS.sipush X0.here hx rfl (hb hby at_31) ?_
      show SS p e below s₁ m 34 #[.val (.int sel), .val (.int pos), .val (.int ch), .val (.int len), .val (.int kq), .val (.int (2 : Int32)), .val (.int cz), .unset, .unset, .unset, .unset, .unset, .unset, .unset] [(.int (255 : Int32)), (.int ((ch.toUInt32 >>> ((8 : Int32) &&& 31).toUInt32).toInt32))] _
      refine XS.iand X0.here hx rfl (hb hby at_34) rfl ?_
      refine XS.i2c X0.here hx rfl (hb hby at_35) rfl ?_
      show SS p e below s₁ m 36 #[.val (.int sel), .val (.int pos), .val (.int ch), .val (.int len), .val (.int kq), .val (.int (2 : Int32)), .val (.int cz), .unset, .unset, .unset, .unset, .unset, .unset, .unset] [(.int ((((ch.toUInt32 >>> ((8 : Int32) &&& 31).toUInt32).toInt32) &&& (255 : Int32)).toUInt32.toUInt16.toUInt32.toInt32))] _
      rw [← h_cy]
      refine XS.istore X0.here hx rfl (hb hby at_36) rfl (l' := #[.val (.int sel), .val (.int pos), .val (.int ch), .val (.int len), .val (.int kq), .val (.int (2 : Int32)), .val (.int cz), .val (.int cy), .unset, .unset, .unset, .unset, .unset, .unset]) rfl ?_
      refine XS.iloadN X0.here hx rfl (hb hby at_38) rfl ?_
      refine XS.bipush X0.here hx rfl (hb hby at_39) ?_
      refine XS.iushr X0.here hx rfl (hb hby at_41) rfl ?_
      refine XS.sipush X0.here hx rfl (hb hby at_42) ?_
      show SS p e below s₁ m 45 #[.val (.int sel), .val (.int pos), .val (.int ch), .val (.int len), .val (.int kq), .val (.int (2 : Int32)), .val (.int cz), .val (.int cy), .unset, .unset, .unset, .unset, .unset, .unset] [(.int (255 : Int32)), (.int ((ch.toUInt32 >>> ((16 : Int32) &&& 31).toUInt32).toInt32))] _
      refine XS.iand X0.here hx rfl (hb hby at_45) rfl ?_
      refine XS.i2c X0.here hx rfl (hb hby at_46) rfl ?_
      show SS p e below s₁ m 47 #[.val (.int sel), .val (.int pos), .val (.int ch), .val (.int len), .val (.int kq), .val (.int (2 : Int32)), .val (.int cz), .val (.int cy), .unset, .unset, .unset, .unset, .unset, .unset] [(.int ((((ch.toUInt32 >>> ((16 : Int32) &&& 31).toUInt32).toInt32) &&& (255 : Int32)).toUInt32.toUInt16.toUInt32.toInt32))] _
      rw [← h_cx]
      refine XS.istore X0.here hx rfl (hb hby at_47) rfl (l' := #[.val (.int sel), .val (.int pos), .val (.int ch), .val (.int len), .val (.int kq), .val (.int (2 : Int32)), .val (.int cz), .val (.int cy), .val (.int cx), .unset, .unset, .unset, .unset, .unset]) rfl ?_
      refine XS.iload X0.here hx rfl (hb hby at_49) rfl ?_
      refine XS.ifYes X0.here hx rfl (pc0 := 51) (pc' := 75) rfl (hb hby at_51) rfl ((if0 _ _).trans (feq (by decide)).2) (by decide) (by decide) ?_
      refine XS.iload X0.here hx rfl (hb hby at_75) rfl ?_
      refine XS.iconst X0.here hx rfl (hb hby at_77) ?_
      show SS p e below s₁ m 78 #[.val (.int sel), .val (.int pos), .val (.int ch), .val (.int len), .val (.int kq), .val (.int (2 : Int32)), .val (.int cz), .val (.int cy), .val (.int cx), .unset, .unset, .unset, .unset, .unset] [(.int (1 : Int32)), (.int (2 : Int32))] _
      refine XS.icmpYes X0.here hx rfl (pc0 := 78) (pc' := 141) rfl (hb hby at_78) rfl (feq (by decide)).2 (by decide) (by decide) ?_
      refine XS.iload X0.here hx rfl (hb hby at_141) rfl ?_
      refine XS.iconst X0.here hx rfl (hb hby at_143) ?_
      refine XS.icmpNo X0.here hx rfl (hb hby at_144) rfl (teq (by decide)).2 ?_
      show SS p e below s₁ m 147 #[.val (.int sel), .val (.int pos), .val (.int ch), .val (.int len), .val (.int kq), .val (.int (2 : Int32)), .val (.int cz), .val (.int cy), .val (.int cx), .unset, .unset, .unset, .unset, .unset] [] _
      refine st286 _ ?_
      refine XS.dup X286.here hx rfl (hb hby at_150) rfl rfl ?_
      exact kt
    rcases (h_kq ▸ own_r3 _ : kq = 0 ∨ kq = 1 ∨ kq = 2) with rfl | rfl | rfl
    ·
      obtain ⟨_, _, ⟨T289, L289, k289, n289⟩, -, X289, ⟨Lc289, hQ289, l289, y289, z289⟩, st289⟩ := Jvm.LawKit.callS X286 hx (y := yn12) hown0 (mvT hZ0 (w110 hw)) (mvT hZ0 (w111 hw)) (mvT hZ0 (w7 hw)) (mvT hZ0 (w112 hw)) (by decide) (backOf (W := 2) (rm_prefix0 l Z a0 hw []  h286 n0 (Nat.le_trans Z0 K286.1) ) hZ0 (w112 hw) (w7 hw) (by decide) (by decide)) (g := (mkF m 153 #[.val (.int sel), .val (.int pos), .val (.int ch), .val (.int len), .val (.int (0 : Int32)), .val (.int (2 : Int32)), .val (.int cz), .val (.int cy), .val (.int cx), .unset, .unset, .unset, .unset, .unset] [(.int (0 : Int32)), (.ref b286), (.ref b286)])) rfl (by rw [hml]; rfl) (argsL := [(.int (0 : Int32))]) (rest := [(.ref b286), (.ref b286)]) (lenOf pd__28_I_29__5b_C rfl) rfl (by show 2 * 0 + _ ≤ _; exact Nat.le_of_eq rfl) (hb hby at_153) (fun _ _ => ⟨rfl, e286, (Nat.le_of_ble_eq_true rfl), (Nat.le_of_ble_eq_true rfl)⟩)
      dsimp only [Pt.U, Pt.locs, Pt.cells, Pt.slots] at X289 l289 y289 z289 st289 hQ289
      subst l289 y289 z289
      obtain ⟨r_290, kr_291, rfl, Nq289, K289, P289_0, P289_1⟩ := hQ289
      have N289 := Fr.app N0 Nq289
      have R292 : CHr Z EL_1 s.vm h0 s.vm T289.heap := R287.trans (CHr.keep K289 sf0 R287.1)
      have hk293 := own_okl (l := pj0) (by decide) (Nat.le_of_ble_eq_true rfl)
      have F294 : Exa Z T289.heap b286 "java/lang/String" := (A286.keep K289)
      have F295 : Fld Z T289.heap b286 "java/lang/String" "value" "[B" .null := (G286_value.keep K289 nin0)
      have F296 : Fld Z T289.heap b286 "java/lang/String" "coder" "B" (.int (0 : Int32)) := (G286_coder.keep K289 nin0)
      have O297 : Old Z n0 T289.heap := ((O0.keep K286 all0).keep K289 all0)
      obtain ⟨_, _, ⟨T298, L298, k298, n298⟩, -, X298, ⟨Lc298, hQ298, l298, y298, z298⟩, st298⟩ := X289.specialBack hx (y := yn4) rfl hown0 (mvT hZ0 (w10 hw)) (mvT hZ0 (w11 hw)) (mvT hZ0 (w12 hw)) (by decide) (backOf (W := 1) (rm_sinit l Z a0 hw [] b286 r_290 kr_291 pj0 cS T289.heap n0 (Nat.le_trans Z0 (Nat.le_trans K286.1 K289.1)) O297 S_cs hcS F294 F295 F296 (Nat.le_trans Z0 (Nat.le_of_eq g286.symm)) P289_1 hk293.1 (Nat.le_of_ble_eq_true rfl) (Nat.le_of_ble_eq_true rfl) (Nat.ne_of_lt (Nat.lt_of_lt_of_le A286.lt P289_0)) hk293.2) hZ0 (w12 hw) (w4 hw) (by decide) (by decide)) (g := (mkF m 156 #[.val (.int sel), .val (.int pos), .val (.int ch), .val (.int len), .val (.int (0 : Int32)), .val (.int (2 : Int32)), .val (.int cz), .val (.int cy), .val (.int cx), .unset, .unset, .unset, .unset, .unset] [(.ref r_290), (.ref b286), (.ref b286)])) rfl (by rw [hml]; rfl) (Steps.refl _) (a := b286) (argsL := [(.ref r_290)]) (rest := [(.ref b286)]) (lenOf pd__28__5b_C_29_V rfl) rfl (by show 2 * 0 + _ ≤ _; exact Nat.le_of_eq rfl) (hb hby at_156) (fun _ _ => ⟨rfl, rfl, (Nat.le_of_ble_eq_true rfl), (Nat.le_of_ble_eq_true rfl)⟩)
      dsimp only [Pt.U, Pt.locs, Pt.cells, Pt.slots] at X298 l298 y298 z298 st298 hQ298
      subst l298 y298 z298
      obtain ⟨t_299, kb_300, rfl, Nq298, K298, P298_0, P298_1⟩ := hQ298
      have N298 := Fr.app N289 Nq298
      have Sf301 : Safe Z EL_1 s.vm T289.heap b286 := (Safe.keep K289 sf0 R287.1 (Safe.keep K286 sf0 R0.1 (Safe.new (Nat.le_of_eq g286.symm))))
      have R302 : CHr Z EL_1 s.vm h0 s.vm T298.heap := R292.trans (CHr.keep K298 (sfS Sf301 sf0) R292.1)
      have O303 : Old Z n0 T298.heap := (O297.keep K298 (allS (Nat.le_trans Z0 (Nat.le_of_eq g286.symm)) all0))
      obtain ⟨_, _, ⟨T304, L304, k304, n304⟩, -, X304, ⟨Lc304, hQ304, l304, y304, z304⟩, st304⟩ := Jvm.LawKit.callS X298 hx (y := yn22) hown0 (mvT hZ0 (w36 hw)) (mvT hZ0 (w37 hw)) (mvT hZ0 (w38 hw)) (mvT hZ0 (w39 hw)) (by decide) (backOf (W := 0) (rm_of3 l Z a0 hw [] b286 t_299 kb_300 pj0 o0 o1 o2 oV kV j0 v0 kv0 j1 v1 kv1 j2 v2 kv2 oE cS T298.heap n0 (Nat.le_trans Z0 (Nat.le_trans (Nat.le_trans K286.1 K289.1) K298.1)) O303 S_V S_0 S_1 S_2 E_V V_V E_0 Fj_0 Ej_0 Fc_0 Fv_0 Vv_0 E_1 Fj_1 Ej_1 Fc_1 Fv_1 Vv_1 E_2 Fj_2 Ej_2 Fc_2 Fv_2 Vv_2 S_EMPTY E_EMPTY F_EMPTY S_cs hcS P298_1 hk293.2 (Nat.le_trans Z0 (Nat.le_of_eq g286.symm)) (by decide) (by decide) (by decide)) hZ0 (w39 hw) (w38 hw) (by decide) (by decide)) (g := (mkF m 299 #[.val (.int sel), .val (.int pos), .val (.int ch), .val (.int len), .val (.int (0 : Int32)), .val (.int (2 : Int32)), .val (.int cz), .val (.int cy), .val (.int cx), .val (.ref b286), .val (.int (-1 : Int32)), .unset, .unset, .unset] [(.ref b286)])) rfl (by rw [hml]; rfl) (argsL := [(.ref b286)]) (rest := []) (lenOf pd__28_Ljava_2f_lang_2f_String_3b__29_Ljava_2f_util_2f_Optional_3b_ rfl) rfl (by show 2 * 0 + _ ≤ _; exact Nat.le_of_eq rfl) (hb hby at_299) (fun _ _ => ⟨rfl, rfl, (Nat.le_of_ble_eq_true rfl), (Nat.le_of_ble_eq_true rfl)⟩)
      dsimp only [Pt.U, Pt.locs, Pt.cells, Pt.slots] at X304 l304 y304 z304 st304 hQ304
      subst l304 y304 z304
      obtain ⟨rfl, Nq304, K304⟩ := hQ304
      have N304 := Fr.app N298 Nq304
      have R305 : CHr Z EL_1 s.vm h0 s.vm T304.heap := R302.trans (CHr.keep K304 sf0 R302.1)
      have O306 : Old Z n0 T304.heap := (O303.keep K304 all0)
      have F307 : Fld Z T304.heap oE "java/util/Optional" "value" "Ljava/lang/Object;" .null := F_EMPTY.ext O306.2
      have F309 : Exa Z T304.heap oE "java/util/Optional" := E_EMPTY.ext O306.2
      obtain ⟨cq308, kq308, q308a, q308b, q308c⟩ := isOf hZ0 rfl F309
      obtain ⟨_, _, ⟨T308, L308, k308, n308⟩, -, X308, ⟨Lc308, hQ308, l308, y308, z308⟩, st308⟩ := X304.virtualBack hx (y := yn18) (z := yn18) hown0 (mvT hZ0 (w87 hw)) (mvT hZ0 (w88 hw)) (notFace_of_selects (args := #[]) (mvT hZ0 (w90 hw))) (mvT hZ0 (w90 hw)) (mvT hZ0 (w89 hw)) (by decide) (backOf (W := 0) (rm_isP0 l Z a0 hw [] oE T304.heap n0 (Nat.le_trans Z0 (Nat.le_trans (Nat.le_trans (Nat.le_trans K286.1 K289.1) K298.1) K304.1)) F307) hZ0 (w91 hw) (w72 hw) (by decide) (by decide)) q308a q308c (g := (mkF m 311 #[.val (.int sel), .val (.int pos), .val (.int ch), .val (.int len), .val (.int (0 : Int32)), .val (.int (2 : Int32)), .val (.int cz), .val (.int cy), .val (.int cx), .val (.ref b286), .val (.int (-1 : Int32)), .val (.ref oE), .unset, .unset] [(.ref oE)])) rfl (by rw [hml]; rfl) (Steps.refl _) (argsL := []) (rest := []) (lenOf pd__28__29_Z rfl) rfl (by show 2 * 0 + _ ≤ _; exact Nat.le_of_eq rfl) (hb hby at_311) (fun _ _ => ⟨rfl, rfl, (Nat.le_of_ble_eq_true rfl), (Nat.le_of_ble_eq_true rfl)⟩)
      dsimp only [Pt.U, Pt.locs, Pt.cells, Pt.slots] at X308 l308 y308 z308 st308 hQ308
      subst l308 y308 z308
      obtain ⟨rfl, Nq308, eq308⟩ := hQ308
      have N308 := Fr.app N304 Nq308
      have W310 : ∀ zQ, SS p e below T308 m 322 #[.val (.int sel), .val (.int pos), .val (.int ch), .val (.int len), .val (.int (0 : Int32)), .val (.int (2 : Int32)), .val (.int cz), .val (.int cy), .val (.int cx), .val (.ref b286), .val (.int (-1 : Int32)), .val (.ref oE), .unset, .unset] [(.int (1 : Int32))] zQ → Steps p.tables e below (s₁.setTop (entryFrame m #[(.int sel), (.int pos), (.int ch), (.int len)] maxLocals)) zQ := by
        intro tt kt
        refine W288 tt ?_
        refine XS.iload X286.here hx rfl (hb hby at_151) rfl ?_
        show SS p e below T286 m 153 #[.val (.int sel), .val (.int pos), .val (.int ch), .val (.int len), .val (.int (0 : Int32)), .val (.int (2 : Int32)), .val (.int cz), .val (.int cy), .val (.int cx), .unset, .unset, .unset, .unset, .unset] [(.int (0 : Int32)), (.ref b286), (.ref b286)] _
        refine st289 _ ?_
        show SS p e below T289 m 156 #[.val (.int sel), .val (.int pos), .val (.int ch), .val (.int len), .val (.int (0 : Int32)), .val (.int (2 : Int32)), .val (.int cz), .val (.int cy), .val (.int cx), .unset, .unset, .unset, .unset, .unset] [(.ref r_290), (.ref b286), (.ref b286)] _
        refine st298.trans ?_
        refine XS.astore X298.here hx rfl (hb hby at_159) rfl rfl (l' := #[.val (.int sel), .val (.int pos), .val (.int ch), .val (.int len), .val (.int (0 : Int32)), .val (.int (2 : Int32)), .val (.int cz), .val (.int cy), .val (.int cx), .val (.ref b286), .unset, .unset, .unset, .unset]) rfl ?_
        refine XS.iconst X298.here hx rfl (hb hby at_161) ?_
        refine XS.istore X298.here hx rfl (hb hby at_162) rfl (l' := #[.val (.int sel), .val (.int pos), .val (.int ch), .val (.int len), .val (.int (0 : Int32)), .val (.int (2 : Int32)), .val (.int cz), .val (.int cy), .val (.int cx), .val (.ref b286), .val (.int (-1 : Int32)), .unset, .unset, .unset]) rfl ?_
        refine XS.goto X298.here hx rfl (pc0 := 164) (pc' := 297) rfl (hb hby at_164) (by decide) (by decide) ?_
        refine XS.aload X298.here hx rfl (hb hby at_297) rfl rfl ?_
        show SS p e below T298 m 299 #[.val (.int sel), .val (.int pos), .val (.int ch), .val (.int len), .val (.int (0 : Int32)), .val (.int (2 : Int32)), .val (.int cz), .val (.int cy), .val (.int cx), .val (.ref b286), .val (.int (-1 : Int32)), .unset, .unset, .unset] [(.ref b286)] _
        refine st304 _ ?_
        refine XS.astore X304.here hx rfl (hb hby at_302) rfl rfl (l' := #[.val (.int sel), .val (.int pos), .val (.int ch), .val (.int len), .val (.int (0 : Int32)), .val (.int (2 : Int32)), .val (.int cz), .val (.int cy), .val (.int cx), .val (.ref b286), .val (.int (-1 : Int32)), .val (.ref oE), .unset, .unset]) rfl ?_
        refine XS.iload X304.here hx rfl (hb hby at_304) rfl ?_
        refine XS.ifNo X304.here hx rfl (hb hby at_306) rfl ((if0 _ _).trans (tlt (by decide)).2.1) ?_
        refine XS.aload X304.here hx rfl (hb hby at_309) rfl rfl ?_
        show SS p e below T304 m 311 #[.val (.int sel), .val (.int pos), .val (.int ch), .val (.int len), .val (.int (0 : Int32)), .val (.int (2 : Int32)), .val (.int cz), .val (.int cy), .val (.int cx), .val (.ref b286), .val (.int (-1 : Int32)), .val (.ref oE), .unset, .unset] [(.ref oE)] _
        refine st308.trans ?_
        refine XS.ifNo X308.here hx rfl (hb hby at_314) rfl ((if0 _ _).trans (teq (by decide)).2) ?_
        refine XS.iconst X308.here hx rfl (hb hby at_317) ?_
        refine XS.goto X308.here hx rfl (pc0 := 318) (pc' := 322) rfl (hb hby at_318) (by decide) (by decide) ?_
        exact kt
      obtain ⟨fs, hr, hrun, hended, hRW⟩ := Jvm.Stand.leaveW X308 hS0 (by rw [eq308]; exact (Nat.le_trans hk0 (Nat.le_trans (Nat.le_trans (Nat.le_trans K286.1 K289.1) K298.1) K304.1))) (v := some (.int (nar .boolean (1 : Int32)))) (fun h => by rw [Bd.returns] at h; cases h) (BodyLoose.notSynchronized Bd)
      refine ⟨_, _, W310 _ (retN X308 hx (t := .boolean) Bd.returns (by simp) (hb hby at_322) hr), hrun, hended, _, _, rfl, ?_, own_chr (T := T308) R305 (CHv.at X308 hZ0 hEL R305.1) hh.symm eq308, own_rw hRW (by decide) (by decide)⟩
      show Q_law Z sel pos ch len o0 o1 o2 oV kV j0 v0 kv0 j1 v1 kv1 j2 v2 kv2 oE cS h0 n0 _ T308.heap _
      rw [eq308]
      exact ⟨rfl, N308, (Keep.trans (Keep.trans (Keep.trans (Keep.trans (Keep.refl h0 []) K286 all0) K289 all0) K298 (allS (Or.inr (Nat.le_of_eq g286.symm)) all0)) K304 all0)⟩
    ·
      obtain ⟨_, _, ⟨T311, L311, k311, n311⟩, -, X311, ⟨Lc311, hQ311, l311, y311, z311⟩, st311⟩ := Jvm.LawKit.callS X286 hx (y := yn12) hown0 (mvT hZ0 (w110 hw)) (mvT hZ0 (w111 hw)) (mvT hZ0 (w7 hw)) (mvT hZ0 (w112 hw)) (by decide) (backOf (W := 2) (rm_prefix1 l Z a0 hw []  h286 n0 (Nat.le_trans Z0 K286.1) ) hZ0 (w112 hw) (w7 hw) (by decide) (by decide)) (g := (mkF m 153 #[.val (.int sel), .val (.int pos), .val (.int ch), .val (.int len), .val (.int (1 : Int32)), .val (.int (2 : Int32)), .val (.int cz), .val (.int cy), .val (.int cx), .unset, .unset, .unset, .unset, .unset] [(.int (1 : Int32)), (.ref b286), (.ref b286)])) rfl (by rw [hml]; rfl) (argsL := [(.int (1 : Int32))]) (rest := [(.ref b286), (.ref b286)]) (lenOf pd__28_I_29__5b_C rfl) rfl (by show 2 * 0 + _ ≤ _; exact Nat.le_of_eq rfl) (hb hby at_153) (fun _ _ => ⟨rfl, e286, (Nat.le_of_ble_eq_true rfl), (Nat.le_of_ble_eq_true rfl)⟩)
      dsimp only [Pt.U, Pt.locs, Pt.cells, Pt.slots] at X311 l311 y311 z311 st311 hQ311
      subst l311 y311 z311
      obtain ⟨r_312, kr_313, rfl, Nq311, K311, P311_0, P311_1⟩ := hQ311
      have N311 := Fr.app N0 Nq311
      have R314 : CHr Z EL_1 s.vm h0 s.vm T311.heap := R287.trans (CHr.keep K311 sf0 R287.1)
      have hk315 := own_okl (l := pj1) (by decide) (Nat.le_of_ble_eq_true rfl)
      have F316 : Exa Z T311.heap b286 "java/lang/String" := (A286.keep K311)
      have F317 : Fld Z T311.heap b286 "java/lang/String" "value" "[B" .null := (G286_value.keep K311 nin0)
      have F318 : Fld Z T311.heap b286 "java/lang/String" "coder" "B" (.int (0 : Int32)) := (G286_coder.keep K311 nin0)
      have O319 : Old Z n0 T311.heap := ((O0.keep K286 all0).keep K311 all0)
      obtain ⟨_, _, ⟨T320, L320, k320, n320⟩, -, X320, ⟨Lc320, hQ320, l320, y320, z320⟩, st320⟩ := X311.specialBack hx (y := yn4) rfl hown0 (mvT hZ0 (w10 hw)) (mvT hZ0 (w11 hw)) (mvT hZ0 (w12 hw)) (by decide) (backOf (W := 1) (rm_sinit l Z a0 hw [] b286 r_312 kr_313 pj1 cS T311.heap n0 (Nat.le_trans Z0 (Nat.le_trans K286.1 K311.1)) O319 S_cs hcS F316 F317 F318 (Nat.le_trans Z0 (Nat.le_of_eq g286.symm)) P311_1 hk315.1 (Nat.le_of_ble_eq_true rfl) (Nat.le_of_ble_eq_true rfl) (Nat.ne_of_lt (Nat.lt_of_lt_of_le A286.lt P311_0)) hk315.2) hZ0 (w12 hw) (w4 hw) (by decide) (by decide)) (g := (mkF m 156 #[.val (.int sel), .val (.int pos), .val (.int ch), .val (.int len), .val (.int (1 : Int32)), .val (.int (2 : Int32)), .val (.int cz), .val (.int cy), .val (.int cx), .unset, .unset, .unset, .unset, .unset] [(.ref r_312), (.ref b286), (.ref b286)])) rfl (by rw [hml]; rfl) (Steps.refl _) (a := b286) (argsL := [(.ref r_312)]) (rest := [(.ref b286)]) (lenOf pd__28__5b_C_29_V rfl) rfl (by show 2 * 0 + _ ≤ _; exact Nat.le_of_eq rfl) (hb hby at_156) (fun _ _ => ⟨rfl, rfl, (Nat.le_of_ble_eq_true rfl), (Nat.le_of_ble_eq_true rfl)⟩)
      dsimp only [Pt.U, Pt.locs, Pt.cells, Pt.slots] at X320 l320 y320 z320 st320 hQ320
      subst l320 y320 z320
      obtain ⟨t_321, kb_322, rfl, Nq320, K320, P320_0, P320_1⟩ := hQ320
      have N320 := Fr.app N311 Nq320
      have Sf323 : Safe Z EL_1 s.vm T311.heap b286 := (Safe.keep K311 sf0 R287.1 (Safe.keep K286 sf0 R0.1 (Safe.new (Nat.le_of_eq g286.symm))))
      have R324 : CHr Z EL_1 s.vm h0 s.vm T320.heap := R314.trans (CHr.keep K320 (sfS Sf323 sf0) R314.1)
      have O325 : Old Z n0 T320.heap := (O319.keep K320 (allS (Nat.le_trans Z0 (Nat.le_of_eq g286.symm)) all0))
      obtain ⟨_, _, ⟨T326, L326, k326, n326⟩, -, X326, ⟨Lc326, hQ326, l326, y326, z326⟩, st326⟩ := Jvm.LawKit.callS X320 hx (y := yn22) hown0 (mvT hZ0 (w36 hw)) (mvT hZ0 (w37 hw)) (mvT hZ0 (w38 hw)) (mvT hZ0 (w39 hw)) (by decide) (backOf (W := 0) (rm_of3 l Z a0 hw [] b286 t_321 kb_322 pj1 o0 o1 o2 oV kV j0 v0 kv0 j1 v1 kv1 j2 v2 kv2 oE cS T320.heap n0 (Nat.le_trans Z0 (Nat.le_trans (Nat.le_trans K286.1 K311.1) K320.1)) O325 S_V S_0 S_1 S_2 E_V V_V E_0 Fj_0 Ej_0 Fc_0 Fv_0 Vv_0 E_1 Fj_1 Ej_1 Fc_1 Fv_1 Vv_1 E_2 Fj_2 Ej_2 Fc_2 Fv_2 Vv_2 S_EMPTY E_EMPTY F_EMPTY S_cs hcS P320_1 hk315.2 (Nat.le_trans Z0 (Nat.le_of_eq g286.symm)) (by decide) (by decide) (by decide)) hZ0 (w39 hw) (w38 hw) (by decide) (by decide)) (g := (mkF m 299 #[.val (.int sel), .val (.int pos), .val (.int ch), .val (.int len), .val (.int (1 : Int32)), .val (.int (2 : Int32)), .val (.int cz), .val (.int cy), .val (.int cx), .val (.ref b286), .val (.int (-1 : Int32)), .unset, .unset, .unset] [(.ref b286)])) rfl (by rw [hml]; rfl) (argsL := [(.ref b286)]) (rest := []) (lenOf pd__28_Ljava_2f_lang_2f_String_3b__29_Ljava_2f_util_2f_Optional_3b_ rfl) rfl (by show 2 * 0 + _ ≤ _; exact Nat.le_of_eq rfl) (hb hby at_299) (fun _ _ => ⟨rfl, rfl, (Nat.le_of_ble_eq_true rfl), (Nat.le_of_ble_eq_true rfl)⟩)
      dsimp only [Pt.U, Pt.locs, Pt.cells, Pt.slots] at X326 l326 y326 z326 st326 hQ326
      subst l326 y326 z326
      obtain ⟨rfl, Nq326, K326⟩ := hQ326
      have N326 := Fr.app N320 Nq326
      have R327 : CHr Z EL_1 s.vm h0 s.vm T326.heap := R324.trans (CHr.keep K326 sf0 R324.1)
      have O328 : Old Z n0 T326.heap := (O325.keep K326 all0)
      have F329 : Fld Z T326.heap oE "java/util/Optional" "value" "Ljava/lang/Object;" .null := F_EMPTY.ext O328.2
      have F331 : Exa Z T326.heap oE "java/util/Optional" := E_EMPTY.ext O328.2
      obtain ⟨cq330, kq330, q330a, q330b, q330c⟩ := isOf hZ0 rfl F331
      obtain ⟨_, _, ⟨T330, L330, k330, n330⟩, -, X330, ⟨Lc330, hQ330, l330, y330, z330⟩, st330⟩ := X326.virtualBack hx (y := yn18) (z := yn18) hown0 (mvT hZ0 (w87 hw)) (mvT hZ0 (w88 hw)) (notFace_of_selects (args := #[]) (mvT hZ0 (w90 hw))) (mvT hZ0 (w90 hw)) (mvT hZ0 (w89 hw)) (by decide) (backOf (W := 0) (rm_isP0 l Z a0 hw [] oE T326.heap n0 (Nat.le_trans Z0 (Nat.le_trans (Nat.le_trans (Nat.le_trans K286.1 K311.1) K320.1) K326.1)) F329) hZ0 (w91 hw) (w72 hw) (by decide) (by decide)) q330a q330c (g := (mkF m 311 #[.val (.int sel), .val (.int pos), .val (.int ch), .val (.int len), .val (.int (1 : Int32)), .val (.int (2 : Int32)), .val (.int cz), .val (.int cy), .val (.int cx), .val (.ref b286), .val (.int (-1 : Int32)), .val (.ref oE), .unset, .unset] [(.ref oE)])) rfl (by rw [hml]; rfl) (Steps.refl _) (argsL := []) (rest := []) (lenOf pd__28__29_Z rfl) rfl (by show 2 * 0 + _ ≤ _; exact Nat.le_of_eq rfl) (hb hby at_311) (fun _ _ => ⟨rfl, rfl, (Nat.le_of_ble_eq_true rfl), (Nat.le_of_ble_eq_true rfl)⟩)
      dsimp only [Pt.U, Pt.locs, Pt.cells, Pt.slots] at X330 l330 y330 z330 st330 hQ330
      subst l330 y330 z330
      obtain ⟨rfl, Nq330, eq330⟩ := hQ330
      have N330 := Fr.app N326 Nq330
      have W332 : ∀ zQ, SS p e below T330 m 322 #[.val (.int sel), .val (.int pos), .val (.int ch), .val (.int len), .val (.int (1 : Int32)), .val (.int (2 : Int32)), .val (.int cz), .val (.int cy), .val (.int cx), .val (.ref b286), .val (.int (-1 : Int32)), .val (.ref oE), .unset, .unset] [(.int (1 : Int32))] zQ → Steps p.tables e below (s₁.setTop (entryFrame m #[(.int sel), (.int pos), (.int ch), (.int len)] maxLocals)) zQ := by
        intro tt kt
        refine W288 tt ?_
        refine XS.iload X286.here hx rfl (hb hby at_151) rfl ?_
        show SS p e below T286 m 153 #[.val (.int sel), .val (.int pos), .val (.int ch), .val (.int len), .val (.int (1 : Int32)), .val (.int (2 : Int32)), .val (.int cz), .val (.int cy), .val (.int cx), .unset, .unset, .unset, .unset, .unset] [(.int (1 : Int32)), (.ref b286), (.ref b286)] _
        refine st311 _ ?_
        show SS p e below T311 m 156 #[.val (.int sel), .val (.int pos), .val (.int ch), .val (.int len), .val (.int (1 : Int32)), .val (.int (2 : Int32)), .val (.int cz), .val (.int cy), .val (.int cx), .unset, .unset, .unset, .unset, .unset] [(.ref r_312), (.ref b286), (.ref b286)] _
        refine st320.trans ?_
        refine XS.astore X320.here hx rfl (hb hby at_159) rfl rfl (l' := #[.val (.int sel), .val (.int pos), .val (.int ch), .val (.int len), .val (.int (1 : Int32)), .val (.int (2 : Int32)), .val (.int cz), .val (.int cy), .val (.int cx), .val (.ref b286), .unset, .unset, .unset, .unset]) rfl ?_
        refine XS.iconst X320.here hx rfl (hb hby at_161) ?_
        refine XS.istore X320.here hx rfl (hb hby at_162) rfl (l' := #[.val (.int sel), .val (.int pos), .val (.int ch), .val (.int len), .val (.int (1 : Int32)), .val (.int (2 : Int32)), .val (.int cz), .val (.int cy), .val (.int cx), .val (.ref b286), .val (.int (-1 : Int32)), .unset, .unset, .unset]) rfl ?_
        refine XS.goto X320.here hx rfl (pc0 := 164) (pc' := 297) rfl (hb hby at_164) (by decide) (by decide) ?_
        refine XS.aload X320.here hx rfl (hb hby at_297) rfl rfl ?_
        show SS p e below T320 m 299 #[.val (.int sel), .val (.int pos), .val (.int ch), .val (.int len), .val (.int (1 : Int32)), .val (.int (2 : Int32)), .val (.int cz), .val (.int cy), .val (.int cx), .val (.ref b286), .val (.int (-1 : Int32)), .unset, .unset, .unset] [(.ref b286)] _
        refine st326 _ ?_
        refine XS.astore X326.here hx rfl (hb hby at_302) rfl rfl (l' := #[.val (.int sel), .val (.int pos), .val (.int ch), .val (.int len), .val (.int (1 : Int32)), .val (.int (2 : Int32)), .val (.int cz), .val (.int cy), .val (.int cx), .val (.ref b286), .val (.int (-1 : Int32)), .val (.ref oE), .unset, .unset]) rfl ?_
        refine XS.iload X326.here hx rfl (hb hby at_304) rfl ?_
        refine XS.ifNo X326.here hx rfl (hb hby at_306) rfl ((if0 _ _).trans (tlt (by decide)).2.1) ?_
        refine XS.aload X326.here hx rfl (hb hby at_309) rfl rfl ?_
        show SS p e below T326 m 311 #[.val (.int sel), .val (.int pos), .val (.int ch), .val (.int len), .val (.int (1 : Int32)), .val (.int (2 : Int32)), .val (.int cz), .val (.int cy), .val (.int cx), .val (.ref b286), .val (.int (-1 : Int32)), .val (.ref oE), .unset, .unset] [(.ref oE)] _
        refine st330.trans ?_
        refine XS.ifNo X330.here hx rfl (hb hby at_314) rfl ((if0 _ _).trans (teq (by decide)).2) ?_
        refine XS.iconst X330.here hx rfl (hb hby at_317) ?_
        refine XS.goto X330.here hx rfl (pc0 := 318) (pc' := 322) rfl (hb hby at_318) (by decide) (by decide) ?_
        exact kt
      obtain ⟨fs, hr, hrun, hended, hRW⟩ := Jvm.Stand.leaveW X330 hS0 (by rw [eq330]; exact (Nat.le_trans hk0 (Nat.le_trans (Nat.le_trans (Nat.le_trans K286.1 K311.1) K320.1) K326.1))) (v := some (.int (nar .boolean (1 : Int32)))) (fun h => by rw [Bd.returns] at h; cases h) (BodyLoose.notSynchronized Bd)
      refine ⟨_, _, W332 _ (retN X330 hx (t := .boolean) Bd.returns (by simp) (hb hby at_322) hr), hrun, hended, _, _, rfl, ?_, own_chr (T := T330) R327 (CHv.at X330 hZ0 hEL R327.1) hh.symm eq330, own_rw hRW (by decide) (by decide)⟩
      show Q_law Z sel pos ch len o0 o1 o2 oV kV j0 v0 kv0 j1 v1 kv1 j2 v2 kv2 oE cS h0 n0 _ T330.heap _
      rw [eq330]
      exact ⟨rfl, N330, (Keep.trans (Keep.trans (Keep.trans (Keep.trans (Keep.refl h0 []) K286 all0) K311 all0) K320 (allS (Or.inr (Nat.le_of_eq g286.symm)) all0)) K326 all0)⟩
    ·
      obtain ⟨_, _, ⟨T333, L333, k333, n333⟩, -, X333, ⟨Lc333, hQ333, l333, y333, z333⟩, st333⟩ := Jvm.LawKit.callS X286 hx (y := yn12) hown0 (mvT hZ0 (w110 hw)) (mvT hZ0 (w111 hw)) (mvT hZ0 (w7 hw)) (mvT hZ0 (w112 hw)) (by decide) (backOf (W := 2) (rm_prefix2 l Z a0 hw []  h286 n0 (Nat.le_trans Z0 K286.1) ) hZ0 (w112 hw) (w7 hw) (by decide) (by decide)) (g := (mkF m 153 #[.val (.int sel), .val (.int pos), .val (.int ch), .val (.int len), .val (.int (2 : Int32)), .val (.int (2 : Int32)), .val (.int cz), .val (.int cy), .val (.int cx), .unset, .unset, .unset, .unset, .unset] [(.int (2 : Int32)), (.ref b286), (.ref b286)])) rfl (by rw [hml]; rfl) (argsL := [(.int (2 : Int32))]) (rest := [(.ref b286), (.ref b286)]) (lenOf pd__28_I_29__5b_C rfl) rfl (by show 2 * 0 + _ ≤ _; exact Nat.le_of_eq rfl) (hb hby at_153) (fun _ _ => ⟨rfl, e286, (Nat.le_of_ble_eq_true rfl), (Nat.le_of_ble_eq_true rfl)⟩)
      dsimp only [Pt.U, Pt.locs, Pt.cells, Pt.slots] at X333 l333 y333 z333 st333 hQ333
      subst l333 y333 z333
      obtain ⟨r_334, kr_335, rfl, Nq333, K333, P333_0, P333_1⟩ := hQ333
      have N333 := Fr.app N0 Nq333
      have R336 : CHr Z EL_1 s.vm h0 s.vm T333.heap := R287.trans (CHr.keep K333 sf0 R287.1)
      have hk337 := own_okl (l := pj2) (by decide) (Nat.le_of_ble_eq_true rfl)
      have F338 : Exa Z T333.heap b286 "java/lang/String" := (A286.keep K333)
      have F339 : Fld Z T333.heap b286 "java/lang/String" "value" "[B" .null := (G286_value.keep K333 nin0)
      have F340 : Fld Z T333.heap b286 "java/lang/String" "coder" "B" (.int (0 : Int32)) := (G286_coder.keep K333 nin0)
      have O341 : Old Z n0 T333.heap := ((O0.keep K286 all0).keep K333 all0)
      obtain ⟨_, _, ⟨T342, L342, k342, n342⟩, -, X342, ⟨Lc342, hQ342, l342, y342, z342⟩, st342⟩ := X333.specialBack hx (y := yn4) rfl hown0 (mvT hZ0 (w10 hw)) (mvT hZ0 (w11 hw)) (mvT hZ0 (w12 hw)) (by decide) (backOf (W := 1) (rm_sinit l Z a0 hw [] b286 r_334 kr_335 pj2 cS T333.heap n0 (Nat.le_trans Z0 (Nat.le_trans K286.1 K333.1)) O341 S_cs hcS F338 F339 F340 (Nat.le_trans Z0 (Nat.le_of_eq g286.symm)) P333_1 hk337.1 (Nat.le_of_ble_eq_true rfl) (Nat.le_of_ble_eq_true rfl) (Nat.ne_of_lt (Nat.lt_of_lt_of_le A286.lt P333_0)) hk337.2) hZ0 (w12 hw) (w4 hw) (by decide) (by decide)) (g := (mkF m 156 #[.val (.int sel), .val (.int pos), .val (.int ch), .val (.int len), .val (.int (2 : Int32)), .val (.int (2 : Int32)), .val (.int cz), .val (.int cy), .val (.int cx), .unset, .unset, .unset, .unset, .unset] [(.ref r_334), (.ref b286), (.ref b286)])) rfl (by rw [hml]; rfl) (Steps.refl _) (a := b286) (argsL := [(.ref r_334)]) (rest := [(.ref b286)]) (lenOf pd__28__5b_C_29_V rfl) rfl (by show 2 * 0 + _ ≤ _; exact Nat.le_of_eq rfl) (hb hby at_156) (fun _ _ => ⟨rfl, rfl, (Nat.le_of_ble_eq_true rfl), (Nat.le_of_ble_eq_true rfl)⟩)
      dsimp only [Pt.U, Pt.locs, Pt.cells, Pt.slots] at X342 l342 y342 z342 st342 hQ342
      subst l342 y342 z342
      obtain ⟨t_343, kb_344, rfl, Nq342, K342, P342_0, P342_1⟩ := hQ342
      have N342 := Fr.app N333 Nq342
      have Sf345 : Safe Z EL_1 s.vm T333.heap b286 := (Safe.keep K333 sf0 R287.1 (Safe.keep K286 sf0 R0.1 (Safe.new (Nat.le_of_eq g286.symm))))
      have R346 : CHr Z EL_1 s.vm h0 s.vm T342.heap := R336.trans (CHr.keep K342 (sfS Sf345 sf0) R336.1)
      have O347 : Old Z n0 T342.heap := (O341.keep K342 (allS (Nat.le_trans Z0 (Nat.le_of_eq g286.symm)) all0))
      obtain ⟨_, _, ⟨T348, L348, k348, n348⟩, -, X348, ⟨Lc348, hQ348, l348, y348, z348⟩, st348⟩ := Jvm.LawKit.callS X342 hx (y := yn22) hown0 (mvT hZ0 (w36 hw)) (mvT hZ0 (w37 hw)) (mvT hZ0 (w38 hw)) (mvT hZ0 (w39 hw)) (by decide) (backOf (W := 0) (rm_of3 l Z a0 hw [] b286 t_343 kb_344 pj2 o0 o1 o2 oV kV j0 v0 kv0 j1 v1 kv1 j2 v2 kv2 oE cS T342.heap n0 (Nat.le_trans Z0 (Nat.le_trans (Nat.le_trans K286.1 K333.1) K342.1)) O347 S_V S_0 S_1 S_2 E_V V_V E_0 Fj_0 Ej_0 Fc_0 Fv_0 Vv_0 E_1 Fj_1 Ej_1 Fc_1 Fv_1 Vv_1 E_2 Fj_2 Ej_2 Fc_2 Fv_2 Vv_2 S_EMPTY E_EMPTY F_EMPTY S_cs hcS P342_1 hk337.2 (Nat.le_trans Z0 (Nat.le_of_eq g286.symm)) (by decide) (by decide) (by decide)) hZ0 (w39 hw) (w38 hw) (by decide) (by decide)) (g := (mkF m 299 #[.val (.int sel), .val (.int pos), .val (.int ch), .val (.int len), .val (.int (2 : Int32)), .val (.int (2 : Int32)), .val (.int cz), .val (.int cy), .val (.int cx), .val (.ref b286), .val (.int (-1 : Int32)), .unset, .unset, .unset] [(.ref b286)])) rfl (by rw [hml]; rfl) (argsL := [(.ref b286)]) (rest := []) (lenOf pd__28_Ljava_2f_lang_2f_String_3b__29_Ljava_2f_util_2f_Optional_3b_ rfl) rfl (by show 2 * 0 + _ ≤ _; exact Nat.le_of_eq rfl) (hb hby at_299) (fun _ _ => ⟨rfl, rfl, (Nat.le_of_ble_eq_true rfl), (Nat.le_of_ble_eq_true rfl)⟩)
      dsimp only [Pt.U, Pt.locs, Pt.cells, Pt.slots] at X348 l348 y348 z348 st348 hQ348
      subst l348 y348 z348
      obtain ⟨rfl, Nq348, K348⟩ := hQ348
      have N348 := Fr.app N342 Nq348
      have R349 : CHr Z EL_1 s.vm h0 s.vm T348.heap := R346.trans (CHr.keep K348 sf0 R346.1)
      have O350 : Old Z n0 T348.heap := (O347.keep K348 all0)
      have F351 : Fld Z T348.heap oE "java/util/Optional" "value" "Ljava/lang/Object;" .null := F_EMPTY.ext O350.2
      have F353 : Exa Z T348.heap oE "java/util/Optional" := E_EMPTY.ext O350.2
      obtain ⟨cq352, kq352, q352a, q352b, q352c⟩ := isOf hZ0 rfl F353
      obtain ⟨_, _, ⟨T352, L352, k352, n352⟩, -, X352, ⟨Lc352, hQ352, l352, y352, z352⟩, st352⟩ := X348.virtualBack hx (y := yn18) (z := yn18) hown0 (mvT hZ0 (w87 hw)) (mvT hZ0 (w88 hw)) (notFace_of_selects (args := #[]) (mvT hZ0 (w90 hw))) (mvT hZ0 (w90 hw)) (mvT hZ0 (w89 hw)) (by decide) (backOf (W := 0) (rm_isP0 l Z a0 hw [] oE T348.heap n0 (Nat.le_trans Z0 (Nat.le_trans (Nat.le_trans (Nat.le_trans K286.1 K333.1) K342.1) K348.1)) F351) hZ0 (w91 hw) (w72 hw) (by decide) (by decide)) q352a q352c (g := (mkF m 311 #[.val (.int sel), .val (.int pos), .val (.int ch), .val (.int len), .val (.int (2 : Int32)), .val (.int (2 : Int32)), .val (.int cz), .val (.int cy), .val (.int cx), .val (.ref b286), .val (.int (-1 : Int32)), .val (.ref oE), .unset, .unset] [(.ref oE)])) rfl (by rw [hml]; rfl) (Steps.refl _) (argsL := []) (rest := []) (lenOf pd__28__29_Z rfl) rfl (by show 2 * 0 + _ ≤ _; exact Nat.le_of_eq rfl) (hb hby at_311) (fun _ _ => ⟨rfl, rfl, (Nat.le_of_ble_eq_true rfl), (Nat.le_of_ble_eq_true rfl)⟩)
      dsimp only [Pt.U, Pt.locs, Pt.cells, Pt.slots] at X352 l352 y352 z352 st352 hQ352
      subst l352 y352 z352
      obtain ⟨rfl, Nq352, eq352⟩ := hQ352
      have N352 := Fr.app N348 Nq352
      have W354 : ∀ zQ, SS p e below T352 m 322 #[.val (.int sel), .val (.int pos), .val (.int ch), .val (.int len), .val (.int (2 : Int32)), .val (.int (2 : Int32)), .val (.int cz), .val (.int cy), .val (.int cx), .val (.ref b286), .val (.int (-1 : Int32)), .val (.ref oE), .unset, .unset] [(.int (1 : Int32))] zQ → Steps p.tables e below (s₁.setTop (entryFrame m #[(.int sel), (.int pos), (.int ch), (.int len)] maxLocals)) zQ := by
        intro tt kt
        refine W288 tt ?_
        refine XS.iload X286.here hx rfl (hb hby at_151) rfl ?_
        show SS p e below T286 m 153 #[.val (.int sel), .val (.int pos), .val (.int ch), .val (.int len), .val (.int (2 : Int32)), .val (.int (2 : Int32)), .val (.int cz), .val (.int cy), .val (.int cx), .unset, .unset, .unset, .unset, .unset] [(.int (2 : Int32)), (.ref b286), (.ref b286)] _
        refine st333 _ ?_
        show SS p e below T333 m 156 #[.val (.int sel), .val (.int pos), .val (.int ch), .val (.int len), .val (.int (2 : Int32)), .val (.int (2 : Int32)), .val (.int cz), .val (.int cy), .val (.int cx), .unset, .unset, .unset, .unset, .unset] [(.ref r_334), (.ref b286), (.ref b286)] _
        refine st342.trans ?_
        refine XS.astore X342.here hx rfl (hb hby at_159) rfl rfl (l' := #[.val (.int sel), .val (.int pos), .val (.int ch), .val (.int len), .val (.int (2 : Int32)), .val (.int (2 : Int32)), .val (.int cz), .val (.int cy), .val (.int cx), .val (.ref b286), .unset, .unset, .unset, .unset]) rfl ?_
        refine XS.iconst X342.here hx rfl (hb hby at_161) ?_
        refine XS.istore X342.here hx rfl (hb hby at_162) rfl (l' := #[.val (.int sel), .val (.int pos), .val (.int ch), .val (.int len), .val (.int (2 : Int32)), .val (.int (2 : Int32)), .val (.int cz), .val (.int cy), .val (.int cx), .val (.ref b286), .val (.int (-1 : Int32)), .unset, .unset, .unset]) rfl ?_
        refine XS.goto X342.here hx rfl (pc0 := 164) (pc' := 297) rfl (hb hby at_164) (by decide) (by decide) ?_
        refine XS.aload X342.here hx rfl (hb hby at_297) rfl rfl ?_
        show SS p e below T342 m 299 #[.val (.int sel), .val (.int pos), .val (.int ch), .val (.int len), .val (.int (2 : Int32)), .val (.int (2 : Int32)), .val (.int cz), .val (.int cy), .val (.int cx), .val (.ref b286), .val (.int (-1 : Int32)), .unset, .unset, .unset] [(.ref b286)] _
        refine st348 _ ?_
        refine XS.astore X348.here hx rfl (hb hby at_302) rfl rfl (l' := #[.val (.int sel), .val (.int pos), .val (.int ch), .val (.int len), .val (.int (2 : Int32)), .val (.int (2 : Int32)), .val (.int cz), .val (.int cy), .val (.int cx), .val (.ref b286), .val (.int (-1 : Int32)), .val (.ref oE), .unset, .unset]) rfl ?_
        refine XS.iload X348.here hx rfl (hb hby at_304) rfl ?_
        refine XS.ifNo X348.here hx rfl (hb hby at_306) rfl ((if0 _ _).trans (tlt (by decide)).2.1) ?_
        refine XS.aload X348.here hx rfl (hb hby at_309) rfl rfl ?_
        show SS p e below T348 m 311 #[.val (.int sel), .val (.int pos), .val (.int ch), .val (.int len), .val (.int (2 : Int32)), .val (.int (2 : Int32)), .val (.int cz), .val (.int cy), .val (.int cx), .val (.ref b286), .val (.int (-1 : Int32)), .val (.ref oE), .unset, .unset] [(.ref oE)] _
        refine st352.trans ?_
        refine XS.ifNo X352.here hx rfl (hb hby at_314) rfl ((if0 _ _).trans (teq (by decide)).2) ?_
        refine XS.iconst X352.here hx rfl (hb hby at_317) ?_
        refine XS.goto X352.here hx rfl (pc0 := 318) (pc' := 322) rfl (hb hby at_318) (by decide) (by decide) ?_
        exact kt
      obtain ⟨fs, hr, hrun, hended, hRW⟩ := Jvm.Stand.leaveW X352 hS0 (by rw [eq352]; exact (Nat.le_trans hk0 (Nat.le_trans (Nat.le_trans (Nat.le_trans K286.1 K333.1) K342.1) K348.1))) (v := some (.int (nar .boolean (1 : Int32)))) (fun h => by rw [Bd.returns] at h; cases h) (BodyLoose.notSynchronized Bd)
      refine ⟨_, _, W354 _ (retN X352 hx (t := .boolean) Bd.returns (by simp) (hb hby at_322) hr), hrun, hended, _, _, rfl, ?_, own_chr (T := T352) R349 (CHv.at X352 hZ0 hEL R349.1) hh.symm eq352, own_rw hRW (by decide) (by decide)⟩
      show Q_law Z sel pos ch len o0 o1 o2 oV kV j0 v0 kv0 j1 v1 kv1 j2 v2 kv2 oE cS h0 n0 _ T352.heap _
      rw [eq352]
      exact ⟨rfl, N352, (Keep.trans (Keep.trans (Keep.trans (Keep.trans (Keep.refl h0 []) K286 all0) K333 all0) K342 (allS (Or.inr (Nat.le_of_eq g286.symm)) all0)) K348 all0)⟩
  ·
    obtain ⟨cz, h_cz⟩ : ∃ z : Int32, z = ((ch &&& (255 : Int32)).toUInt32.toUInt16.toUInt32.toInt32) := ⟨_, rfl⟩
    have hcz : B8 cz := by rw [h_cz]; exact own_c8 _
    obtain ⟨cy, h_cy⟩ : ∃ z : Int32, z = ((((ch.toUInt32 >>> ((8 : Int32) &&& 31).toUInt32).toInt32) &&& (255 : Int32)).toUInt32.toUInt16.toUInt32.toInt32) := ⟨_, rfl⟩
    have hcy : B8 cy := by rw [h_cy]; exact own_c8 _
    obtain ⟨cx, h_cx⟩ : ∃ z : Int32, z = ((((ch.toUInt32 >>> ((16 : Int32) &&& 31).toUInt32).toInt32) &&& (255 : Int32)).toUInt32.toUInt16.toUInt32.toInt32) := ⟨_, rfl⟩
    have hcx : B8 cx := by rw [h_cx]; exact own_c8 _
    obtain ⟨T355, h355, X355, e355, E355, A355, D355, U355, st355⟩ := newO X0 hx hZ0 hown0 (w2 hw) (w3 hw) (w4 hw) e0 (g := (mkF m 173 #[.val (.int sel), .val (.int pos), .val (.int ch), .val (.int len), .val (.int kq), .val (.int (3 : Int32)), .val (.int cz), .val (.int cy), .val (.int cx), .unset, .unset, .unset, .unset, .unset] [])) rfl (hb hby at_173) (by decide) (by decide)
    obtain ⟨b355, g355⟩ : ∃ z, z = h0.size := ⟨_, rfl⟩
    rw [← g355] at A355 D355 U355 st355
    have K355 := (Keep.refl h0 []).ext E355
    have R356 : CHr Z EL_1 s.vm h0 s.vm h355 := R0.trans (CHr.keep K355 sf0 R0.1)
    have G355_coder : Fld Z h355 b355 "java/lang/String" "coder" "B" (.int (0 : Int32)) := D355 (Or.inr (w33 hw)) (ty := .byte) (by decide)
    have G355_value : Fld Z h355 b355 "java/lang/String" "value" "[B" .null := D355 (Or.inr (w35 hw)) (ty := (.array .byte)) (by decide)
    have W357 : ∀ zQ, SS p e below T355 m 177 #[.val (.int sel), .val (.int pos), .val (.int ch), .val (.int len), .val (.int kq), .val (.int (3 : Int32)), .val (.int cz), .val (.int cy), .val (.int cx), .unset, .unset, .unset, .unset, .unset] [(.ref b355), (.ref b355)] zQ → Steps p.tables e below (s₁.setTop (entryFrame m #[(.int sel), (.int pos), (.int ch), (.int len)] maxLocals)) zQ := by
      intro tt kt
      refine W101 tt ?_
      refine XS.istore X0.here hx rfl (hb hby at_17) rfl (l' := #[.val (.int sel), .val (.int pos), .val (.int ch), .val (.int len), .val (.int kq), .val (.int (3 : Int32)), .unset, .unset, .unset, .unset, .unset, .unset, .unset, .unset]) rfl ?_
      refine XS.iloadN X0.here hx rfl (hb hby at_19) rfl ?_
      refine XS.sipush X0.here hx rfl (hb hby at_20) ?_
      refine XS.iand X0.here hx rfl (hb hby at_23) rfl ?_
      refine XS.i2c X0.here hx rfl (hb hby at_24) rfl ?_
      show SS p e below s₁ m 25 #[.val (.int sel), .val (.int pos), .val (.int ch), .val (.int len), .val (.int kq), .val (.int (3 : Int32)), .unset, .unset, .unset, .unset, .unset, .unset, .unset, .unset] [(.int ((ch &&& (255 : Int32)).toUInt32.toUInt16.toUInt32.toInt32))] _
      rw [← h_cz]
      refine XS.istore X0.here hx rfl (hb hby at_25) rfl (l' := #[.val (.int sel), .val (.int pos), .val (.int ch), .val (.int len), .val (.int kq), .val (.int (3 : Int32)), .val (.int cz), .unset, .unset, .unset, .unset, .unset, .unset, .unset]) rfl ?_
      refine XS.iloadN X0.here hx rfl (hb hby at_27) rfl ?_
      refine XS.bipush X0.here hx rfl (hb hby at_28) ?_
      refine XS.iushr X0.here hx rfl (hb hby at_30) rfl ?_
      refine XS.sipush X0.here hx rfl (hb hby at_31) ?_
      show SS p e below s₁ m 34 #[.val (.int sel), .val (.int pos), .val (.int ch), .val (.int len), .val (.int kq), .val (.int (3 : Int32)), .val (.int cz), .unset, .unset, .unset, .unset, .unset, .unset, .unset] [(.int (255 : Int32)), (.int ((ch.toUInt32 >>> ((8 : Int32) &&& 31).toUInt32).toInt32))] _
      refine XS.iand X0.here hx rfl (hb hby at_34) rfl ?_
      refine XS.i2c X0.here hx rfl (hb hby at_35) rfl ?_
      show SS p e below s₁ m 36 #[.val (.int sel), .val (.int pos), .val (.int ch), .val (.int len), .val (.int kq), .val (.int (3 : Int32)), .val (.int cz), .unset, .unset, .unset, .unset, .unset, .unset, .unset] [(.int ((((ch.toUInt32 >>> ((8 : Int32) &&& 31).toUInt32).toInt32) &&& (255 : Int32)).toUInt32.toUInt16.toUInt32.toInt32))] _
      rw [← h_cy]
      refine XS.istore X0.here hx rfl (hb hby at_36) rfl (l' := #[.val (.int sel), .val (.int pos), .val (.int ch), .val (.int len), .val (.int kq), .val (.int (3 : Int32)), .val (.int cz), .val (.int cy), .unset, .unset, .unset, .unset, .unset, .unset]) rfl ?_
      refine XS.iloadN X0.here hx rfl (hb hby at_38) rfl ?_
      refine XS.bipush X0.here hx rfl (hb hby at_39) ?_
      refine XS.iushr X0.here hx rfl (hb hby at_41) rfl ?_
      refine XS.sipush X0.here hx rfl (hb hby at_42) ?_
      show SS p e below s₁ m 45 #[.val (.int sel), .val (.int pos), .val (.int ch), .val (.int len), .val (.int kq), .val (.int (3 : Int32)), .val (.int cz), .val (.int cy), .unset, .unset, .unset, .unset, .unset, .unset] [(.int (255 : Int32)), (.int ((ch.toUInt32 >>> ((16 : Int32) &&& 31).toUInt32).toInt32))] _
      refine XS.iand X0.here hx rfl (hb hby at_45) rfl ?_
      refine XS.i2c X0.here hx rfl (hb hby at_46) rfl ?_
      show SS p e below s₁ m 47 #[.val (.int sel), .val (.int pos), .val (.int ch), .val (.int len), .val (.int kq), .val (.int (3 : Int32)), .val (.int cz), .val (.int cy), .unset, .unset, .unset, .unset, .unset, .unset] [(.int ((((ch.toUInt32 >>> ((16 : Int32) &&& 31).toUInt32).toInt32) &&& (255 : Int32)).toUInt32.toUInt16.toUInt32.toInt32))] _
      rw [← h_cx]
      refine XS.istore X0.here hx rfl (hb hby at_47) rfl (l' := #[.val (.int sel), .val (.int pos), .val (.int ch), .val (.int len), .val (.int kq), .val (.int (3 : Int32)), .val (.int cz), .val (.int cy), .val (.int cx), .unset, .unset, .unset, .unset, .unset]) rfl ?_
      refine XS.iload X0.here hx rfl (hb hby at_49) rfl ?_
      refine XS.ifYes X0.here hx rfl (pc0 := 51) (pc' := 75) rfl (hb hby at_51) rfl ((if0 _ _).trans (feq (by decide)).2) (by decide) (by decide) ?_
      refine XS.iload X0.here hx rfl (hb hby at_75) rfl ?_
      refine XS.iconst X0.here hx rfl (hb hby at_77) ?_
      show SS p e below s₁ m 78 #[.val (.int sel), .val (.int pos), .val (.int ch), .val (.int len), .val (.int kq), .val (.int (3 : Int32)), .val (.int cz), .val (.int cy), .val (.int cx), .unset, .unset, .unset, .unset, .unset] [(.int (1 : Int32)), (.int (3 : Int32))] _
      refine XS.icmpYes X0.here hx rfl (pc0 := 78) (pc' := 141) rfl (hb hby at_78) rfl (feq (by decide)).2 (by decide) (by decide) ?_
      refine XS.iload X0.here hx rfl (hb hby at_141) rfl ?_
      refine XS.iconst X0.here hx rfl (hb hby at_143) ?_
      refine XS.icmpYes X0.here hx rfl (pc0 := 144) (pc' := 167) rfl (hb hby at_144) rfl (feq (by decide)).2 (by decide) (by decide) ?_
      refine XS.iload X0.here hx rfl (hb hby at_167) rfl ?_
      refine XS.iconst X0.here hx rfl (hb hby at_169) ?_
      show SS p e below s₁ m 170 #[.val (.int sel), .val (.int pos), .val (.int ch), .val (.int len), .val (.int kq), .val (.int (3 : Int32)), .val (.int cz), .val (.int cy), .val (.int cx), .unset, .unset, .unset, .unset, .unset] [(.int (3 : Int32)), (.int (3 : Int32))] _
      refine XS.icmpNo X0.here hx rfl (hb hby at_170) rfl (teq (by decide)).2 ?_
      show SS p e below s₁ m 173 #[.val (.int sel), .val (.int pos), .val (.int ch), .val (.int len), .val (.int kq), .val (.int (3 : Int32)), .val (.int cz), .val (.int cy), .val (.int cx), .unset, .unset, .unset, .unset, .unset] [] _
      refine st355 _ ?_
      refine XS.dup X355.here hx rfl (hb hby at_176) rfl rfl ?_
      exact kt
    rcases (h_kq ▸ own_r3 _ : kq = 0 ∨ kq = 1 ∨ kq = 2) with rfl | rfl | rfl
    ·
      obtain ⟨_, _, ⟨T358, L358, k358, n358⟩, -, X358, ⟨Lc358, hQ358, l358, y358, z358⟩, st358⟩ := Jvm.LawKit.callS X355 hx (y := yn13) hown0 (mvT hZ0 (w102 hw)) (mvT hZ0 (w103 hw)) (mvT hZ0 (w7 hw)) (mvT hZ0 (w104 hw)) (by decide) (backOf (W := 2) (rm_extended0 l Z a0 hw [] cz h355 n0 (Nat.le_trans Z0 K355.1) hcz) hZ0 (w104 hw) (w7 hw) (by decide) (by decide)) (g := (mkF m 181 #[.val (.int sel), .val (.int pos), .val (.int ch), .val (.int len), .val (.int (0 : Int32)), .val (.int (3 : Int32)), .val (.int cz), .val (.int cy), .val (.int cx), .unset, .unset, .unset, .unset, .unset] [(.int cz), (.int (0 : Int32)), (.ref b355), (.ref b355)])) rfl (by rw [hml]; rfl) (argsL := [(.int (0 : Int32)), (.int cz)]) (rest := [(.ref b355), (.ref b355)]) (lenOf pd__28_IC_29__5b_C rfl) rfl (by show 2 * 0 + _ ≤ _; exact Nat.le_of_eq rfl) (hb hby at_181) (fun _ _ => ⟨rfl, e355, (Nat.le_of_ble_eq_true rfl), (Nat.le_of_ble_eq_true rfl)⟩)
      dsimp only [Pt.U, Pt.locs, Pt.cells, Pt.slots] at X358 l358 y358 z358 st358 hQ358
      subst l358 y358 z358
      obtain ⟨r_359, kr_360, rfl, Nq358, K358, P358_0, P358_1⟩ := hQ358
      have N358 := Fr.app N0 Nq358
      have R361 : CHr Z EL_1 s.vm h0 s.vm T358.heap := R356.trans (CHr.keep K358 sf0 R356.1)
      have hk362 := own_okl (l := (jn0 ++ [cz])) (own_b8a (by decide) hcz) (Nat.le_of_ble_eq_true rfl)
      have F363 : Exa Z T358.heap b355 "java/lang/String" := (A355.keep K358)
      have F364 : Fld Z T358.heap b355 "java/lang/String" "value" "[B" .null := (G355_value.keep K358 nin0)
      have F365 : Fld Z T358.heap b355 "java/lang/String" "coder" "B" (.int (0 : Int32)) := (G355_coder.keep K358 nin0)
      have O366 : Old Z n0 T358.heap := ((O0.keep K355 all0).keep K358 all0)
      obtain ⟨_, _, ⟨T367, L367, k367, n367⟩, -, X367, ⟨Lc367, hQ367, l367, y367, z367⟩, st367⟩ := X358.specialBack hx (y := yn4) rfl hown0 (mvT hZ0 (w10 hw)) (mvT hZ0 (w11 hw)) (mvT hZ0 (w12 hw)) (by decide) (backOf (W := 1) (rm_sinit l Z a0 hw [] b355 r_359 kr_360 (jn0 ++ [cz]) cS T358.heap n0 (Nat.le_trans Z0 (Nat.le_trans K355.1 K358.1)) O366 S_cs hcS F363 F364 F365 (Nat.le_trans Z0 (Nat.le_of_eq g355.symm)) P358_1 hk362.1 (Nat.le_of_ble_eq_true rfl) (Nat.le_of_ble_eq_true rfl) (Nat.ne_of_lt (Nat.lt_of_lt_of_le A355.lt P358_0)) hk362.2) hZ0 (w12 hw) (w4 hw) (by decide) (by decide)) (g := (mkF m 184 #[.val (.int sel), .val (.int pos), .val (.int ch), .val (.int len), .val (.int (0 : Int32)), .val (.int (3 : Int32)), .val (.int cz), .val (.int cy), .val (.int cx), .unset, .unset, .unset, .unset, .unset] [(.ref r_359), (.ref b355), (.ref b355)])) rfl (by rw [hml]; rfl) (Steps.refl _) (a := b355) (argsL := [(.ref r_359)]) (rest := [(.ref b355)]) (lenOf pd__28__5b_C_29_V rfl) rfl (by show 2 * 0 + _ ≤ _; exact Nat.le_of_eq rfl) (hb hby at_184) (fun _ _ => ⟨rfl, rfl, (Nat.le_of_ble_eq_true rfl), (Nat.le_of_ble_eq_true rfl)⟩)
      dsimp only [Pt.U, Pt.locs, Pt.cells, Pt.slots] at X367 l367 y367 z367 st367 hQ367
      subst l367 y367 z367
      obtain ⟨t_368, kb_369, rfl, Nq367, K367, P367_0, P367_1⟩ := hQ367
      have N367 := Fr.app N358 Nq367
      have Sf370 : Safe Z EL_1 s.vm T358.heap b355 := (Safe.keep K358 sf0 R356.1 (Safe.keep K355 sf0 R0.1 (Safe.new (Nat.le_of_eq g355.symm))))
      have R371 : CHr Z EL_1 s.vm h0 s.vm T367.heap := R361.trans (CHr.keep K367 (sfS Sf370 sf0) R361.1)
      have O372 : Old Z n0 T367.heap := (O366.keep K367 (allS (Nat.le_trans Z0 (Nat.le_of_eq g355.symm)) all0))
      obtain ⟨_, _, ⟨T373, L373, k373, n373⟩, -, X373, ⟨Lc373, hQ373, l373, y373, z373⟩, st373⟩ := Jvm.LawKit.callS X367 hx (y := yn22) hown0 (mvT hZ0 (w36 hw)) (mvT hZ0 (w37 hw)) (mvT hZ0 (w38 hw)) (mvT hZ0 (w39 hw)) (by decide) (backOf (W := 0) (rm_of3 l Z a0 hw [] b355 t_368 kb_369 (jn0 ++ [cz]) o0 o1 o2 oV kV j0 v0 kv0 j1 v1 kv1 j2 v2 kv2 oE cS T367.heap n0 (Nat.le_trans Z0 (Nat.le_trans (Nat.le_trans K355.1 K358.1) K367.1)) O372 S_V S_0 S_1 S_2 E_V V_V E_0 Fj_0 Ej_0 Fc_0 Fv_0 Vv_0 E_1 Fj_1 Ej_1 Fc_1 Fv_1 Vv_1 E_2 Fj_2 Ej_2 Fc_2 Fv_2 Vv_2 S_EMPTY E_EMPTY F_EMPTY S_cs hcS P367_1 hk362.2 (Nat.le_trans Z0 (Nat.le_of_eq g355.symm)) (by simp [jn0, jn0]) (by simp [jn1, jn0]) (by simp [jn2, jn0])) hZ0 (w39 hw) (w38 hw) (by decide) (by decide)) (g := (mkF m 299 #[.val (.int sel), .val (.int pos), .val (.int ch), .val (.int len), .val (.int (0 : Int32)), .val (.int (3 : Int32)), .val (.int cz), .val (.int cy), .val (.int cx), .val (.ref b355), .val (.int (-1 : Int32)), .unset, .unset, .unset] [(.ref b355)])) rfl (by rw [hml]; rfl) (argsL := [(.ref b355)]) (rest := []) (lenOf pd__28_Ljava_2f_lang_2f_String_3b__29_Ljava_2f_util_2f_Optional_3b_ rfl) rfl (by show 2 * 0 + _ ≤ _; exact Nat.le_of_eq rfl) (hb hby at_299) (fun _ _ => ⟨rfl, rfl, (Nat.le_of_ble_eq_true rfl), (Nat.le_of_ble_eq_true rfl)⟩)
      dsimp only [Pt.U, Pt.locs, Pt.cells, Pt.slots] at X373 l373 y373 z373 st373 hQ373
      subst l373 y373 z373
      obtain ⟨rfl, Nq373, K373⟩ := hQ373
      have N373 := Fr.app N367 Nq373
      have R374 : CHr Z EL_1 s.vm h0 s.vm T373.heap := R371.trans (CHr.keep K373 sf0 R371.1)
      have O375 : Old Z n0 T373.heap := (O372.keep K373 all0)
      have F376 : Fld Z T373.heap oE "java/util/Optional" "value" "Ljava/lang/Object;" .null := F_EMPTY.ext O375.2
      have F378 : Exa Z T373.heap oE "java/util/Optional" := E_EMPTY.ext O375.2
      obtain ⟨cq377, kq377, q377a, q377b, q377c⟩ := isOf hZ0 rfl F378
      obtain ⟨_, _, ⟨T377, L377, k377, n377⟩, -, X377, ⟨Lc377, hQ377, l377, y377, z377⟩, st377⟩ := X373.virtualBack hx (y := yn18) (z := yn18) hown0 (mvT hZ0 (w87 hw)) (mvT hZ0 (w88 hw)) (notFace_of_selects (args := #[]) (mvT hZ0 (w90 hw))) (mvT hZ0 (w90 hw)) (mvT hZ0 (w89 hw)) (by decide) (backOf (W := 0) (rm_isP0 l Z a0 hw [] oE T373.heap n0 (Nat.le_trans Z0 (Nat.le_trans (Nat.le_trans (Nat.le_trans K355.1 K358.1) K367.1) K373.1)) F376) hZ0 (w91 hw) (w72 hw) (by decide) (by decide)) q377a q377c (g := (mkF m 311 #[.val (.int sel), .val (.int pos), .val (.int ch), .val (.int len), .val (.int (0 : Int32)), .val (.int (3 : Int32)), .val (.int cz), .val (.int cy), .val (.int cx), .val (.ref b355), .val (.int (-1 : Int32)), .val (.ref oE), .unset, .unset] [(.ref oE)])) rfl (by rw [hml]; rfl) (Steps.refl _) (argsL := []) (rest := []) (lenOf pd__28__29_Z rfl) rfl (by show 2 * 0 + _ ≤ _; exact Nat.le_of_eq rfl) (hb hby at_311) (fun _ _ => ⟨rfl, rfl, (Nat.le_of_ble_eq_true rfl), (Nat.le_of_ble_eq_true rfl)⟩)
      dsimp only [Pt.U, Pt.locs, Pt.cells, Pt.slots] at X377 l377 y377 z377 st377 hQ377
      subst l377 y377 z377
      obtain ⟨rfl, Nq377, eq377⟩ := hQ377
      have N377 := Fr.app N373 Nq377
      have W379 : ∀ zQ, SS p e below T377 m 322 #[.val (.int sel), .val (.int pos), .val (.int ch), .val (.int len), .val (.int (0 : Int32)), .val (.int (3 : Int32)), .val (.int cz), .val (.int cy), .val (.int cx), .val (.ref b355), .val (.int (-1 : Int32)), .val (.ref oE), .unset, .unset] [(.int (1 : Int32))] zQ → Steps p.tables e below (s₁.setTop (entryFrame m #[(.int sel), (.int pos), (.int ch), (.int len)] maxLocals)) zQ := by
        intro tt kt
        refine W357 tt ?_
        refine XS.iload X355.here hx rfl (hb hby at_177) rfl ?_
        refine XS.iload X355.here hx rfl (hb hby at_179) rfl ?_
        show SS p e below T355 m 181 #[.val (.int sel), .val (.int pos), .val (.int ch), .val (.int len), .val (.int (0 : Int32)), .val (.int (3 : Int32)), .val (.int cz), .val (.int cy), .val (.int cx), .unset, .unset, .unset, .unset, .unset] [(.int cz), (.int (0 : Int32)), (.ref b355), (.ref b355)] _
        refine st358 _ ?_
        show SS p e below T358 m 184 #[.val (.int sel), .val (.int pos), .val (.int ch), .val (.int len), .val (.int (0 : Int32)), .val (.int (3 : Int32)), .val (.int cz), .val (.int cy), .val (.int cx), .unset, .unset, .unset, .unset, .unset] [(.ref r_359), (.ref b355), (.ref b355)] _
        refine st367.trans ?_
        refine XS.astore X367.here hx rfl (hb hby at_187) rfl rfl (l' := #[.val (.int sel), .val (.int pos), .val (.int ch), .val (.int len), .val (.int (0 : Int32)), .val (.int (3 : Int32)), .val (.int cz), .val (.int cy), .val (.int cx), .val (.ref b355), .unset, .unset, .unset, .unset]) rfl ?_
        refine XS.iconst X367.here hx rfl (hb hby at_189) ?_
        refine XS.istore X367.here hx rfl (hb hby at_190) rfl (l' := #[.val (.int sel), .val (.int pos), .val (.int ch), .val (.int len), .val (.int (0 : Int32)), .val (.int (3 : Int32)), .val (.int cz), .val (.int cy), .val (.int cx), .val (.ref b355), .val (.int (-1 : Int32)), .unset, .unset, .unset]) rfl ?_
        refine XS.goto X367.here hx rfl (pc0 := 192) (pc' := 297) rfl (hb hby at_192) (by decide) (by decide) ?_
        refine XS.aload X367.here hx rfl (hb hby at_297) rfl rfl ?_
        show SS p e below T367 m 299 #[.val (.int sel), .val (.int pos), .val (.int ch), .val (.int len), .val (.int (0 : Int32)), .val (.int (3 : Int32)), .val (.int cz), .val (.int cy), .val (.int cx), .val (.ref b355), .val (.int (-1 : Int32)), .unset, .unset, .unset] [(.ref b355)] _
        refine st373 _ ?_
        refine XS.astore X373.here hx rfl (hb hby at_302) rfl rfl (l' := #[.val (.int sel), .val (.int pos), .val (.int ch), .val (.int len), .val (.int (0 : Int32)), .val (.int (3 : Int32)), .val (.int cz), .val (.int cy), .val (.int cx), .val (.ref b355), .val (.int (-1 : Int32)), .val (.ref oE), .unset, .unset]) rfl ?_
        refine XS.iload X373.here hx rfl (hb hby at_304) rfl ?_
        refine XS.ifNo X373.here hx rfl (hb hby at_306) rfl ((if0 _ _).trans (tlt (by decide)).2.1) ?_
        refine XS.aload X373.here hx rfl (hb hby at_309) rfl rfl ?_
        show SS p e below T373 m 311 #[.val (.int sel), .val (.int pos), .val (.int ch), .val (.int len), .val (.int (0 : Int32)), .val (.int (3 : Int32)), .val (.int cz), .val (.int cy), .val (.int cx), .val (.ref b355), .val (.int (-1 : Int32)), .val (.ref oE), .unset, .unset] [(.ref oE)] _
        refine st377.trans ?_
        refine XS.ifNo X377.here hx rfl (hb hby at_314) rfl ((if0 _ _).trans (teq (by decide)).2) ?_
        refine XS.iconst X377.here hx rfl (hb hby at_317) ?_
        refine XS.goto X377.here hx rfl (pc0 := 318) (pc' := 322) rfl (hb hby at_318) (by decide) (by decide) ?_
        exact kt
      obtain ⟨fs, hr, hrun, hended, hRW⟩ := Jvm.Stand.leaveW X377 hS0 (by rw [eq377]; exact (Nat.le_trans hk0 (Nat.le_trans (Nat.le_trans (Nat.le_trans K355.1 K358.1) K367.1) K373.1))) (v := some (.int (nar .boolean (1 : Int32)))) (fun h => by rw [Bd.returns] at h; cases h) (BodyLoose.notSynchronized Bd)
      refine ⟨_, _, W379 _ (retN X377 hx (t := .boolean) Bd.returns (by simp) (hb hby at_322) hr), hrun, hended, _, _, rfl, ?_, own_chr (T := T377) R374 (CHv.at X377 hZ0 hEL R374.1) hh.symm eq377, own_rw hRW (by decide) (by decide)⟩
      show Q_law Z sel pos ch len o0 o1 o2 oV kV j0 v0 kv0 j1 v1 kv1 j2 v2 kv2 oE cS h0 n0 _ T377.heap _
      rw [eq377]
      exact ⟨rfl, N377, (Keep.trans (Keep.trans (Keep.trans (Keep.trans (Keep.refl h0 []) K355 all0) K358 all0) K367 (allS (Or.inr (Nat.le_of_eq g355.symm)) all0)) K373 all0)⟩
    ·
      obtain ⟨_, _, ⟨T380, L380, k380, n380⟩, -, X380, ⟨Lc380, hQ380, l380, y380, z380⟩, st380⟩ := Jvm.LawKit.callS X355 hx (y := yn13) hown0 (mvT hZ0 (w102 hw)) (mvT hZ0 (w103 hw)) (mvT hZ0 (w7 hw)) (mvT hZ0 (w104 hw)) (by decide) (backOf (W := 2) (rm_extended1 l Z a0 hw [] cz h355 n0 (Nat.le_trans Z0 K355.1) hcz) hZ0 (w104 hw) (w7 hw) (by decide) (by decide)) (g := (mkF m 181 #[.val (.int sel), .val (.int pos), .val (.int ch), .val (.int len), .val (.int (1 : Int32)), .val (.int (3 : Int32)), .val (.int cz), .val (.int cy), .val (.int cx), .unset, .unset, .unset, .unset, .unset] [(.int cz), (.int (1 : Int32)), (.ref b355), (.ref b355)])) rfl (by rw [hml]; rfl) (argsL := [(.int (1 : Int32)), (.int cz)]) (rest := [(.ref b355), (.ref b355)]) (lenOf pd__28_IC_29__5b_C rfl) rfl (by show 2 * 0 + _ ≤ _; exact Nat.le_of_eq rfl) (hb hby at_181) (fun _ _ => ⟨rfl, e355, (Nat.le_of_ble_eq_true rfl), (Nat.le_of_ble_eq_true rfl)⟩)
      dsimp only [Pt.U, Pt.locs, Pt.cells, Pt.slots] at X380 l380 y380 z380 st380 hQ380
      subst l380 y380 z380
      obtain ⟨r_381, kr_382, rfl, Nq380, K380, P380_0, P380_1⟩ := hQ380
      have N380 := Fr.app N0 Nq380
      have R383 : CHr Z EL_1 s.vm h0 s.vm T380.heap := R356.trans (CHr.keep K380 sf0 R356.1)
      have hk384 := own_okl (l := (jn1 ++ [cz])) (own_b8a (by decide) hcz) (Nat.le_of_ble_eq_true rfl)
      have F385 : Exa Z T380.heap b355 "java/lang/String" := (A355.keep K380)
      have F386 : Fld Z T380.heap b355 "java/lang/String" "value" "[B" .null := (G355_value.keep K380 nin0)
      have F387 : Fld Z T380.heap b355 "java/lang/String" "coder" "B" (.int (0 : Int32)) := (G355_coder.keep K380 nin0)
      have O388 : Old Z n0 T380.heap := ((O0.keep K355 all0).keep K380 all0)
      obtain ⟨_, _, ⟨T389, L389, k389, n389⟩, -, X389, ⟨Lc389, hQ389, l389, y389, z389⟩, st389⟩ := X380.specialBack hx (y := yn4) rfl hown0 (mvT hZ0 (w10 hw)) (mvT hZ0 (w11 hw)) (mvT hZ0 (w12 hw)) (by decide) (backOf (W := 1) (rm_sinit l Z a0 hw [] b355 r_381 kr_382 (jn1 ++ [cz]) cS T380.heap n0 (Nat.le_trans Z0 (Nat.le_trans K355.1 K380.1)) O388 S_cs hcS F385 F386 F387 (Nat.le_trans Z0 (Nat.le_of_eq g355.symm)) P380_1 hk384.1 (Nat.le_of_ble_eq_true rfl) (Nat.le_of_ble_eq_true rfl) (Nat.ne_of_lt (Nat.lt_of_lt_of_le A355.lt P380_0)) hk384.2) hZ0 (w12 hw) (w4 hw) (by decide) (by decide)) (g := (mkF m 184 #[.val (.int sel), .val (.int pos), .val (.int ch), .val (.int len), .val (.int (1 : Int32)), .val (.int (3 : Int32)), .val (.int cz), .val (.int cy), .val (.int cx), .unset, .unset, .unset, .unset, .unset] [(.ref r_381), (.ref b355), (.ref b355)])) rfl (by rw [hml]; rfl) (Steps.refl _) (a := b355) (argsL := [(.ref r_381)]) (rest := [(.ref b355)]) (lenOf pd__28__5b_C_29_V rfl) rfl (by show 2 * 0 + _ ≤ _; exact Nat.le_of_eq rfl) (hb hby at_184) (fun _ _ => ⟨rfl, rfl, (Nat.le_of_ble_eq_true rfl), (Nat.le_of_ble_eq_true rfl)⟩)
      dsimp only [Pt.U, Pt.locs, Pt.cells, Pt.slots] at X389 l389 y389 z389 st389 hQ389
      subst l389 y389 z389
      obtain ⟨t_390, kb_391, rfl, Nq389, K389, P389_0, P389_1⟩ := hQ389
      have N389 := Fr.app N380 Nq389
      have Sf392 : Safe Z EL_1 s.vm T380.heap b355 := (Safe.keep K380 sf0 R356.1 (Safe.keep K355 sf0 R0.1 (Safe.new (Nat.le_of_eq g355.symm))))
      have R393 : CHr Z EL_1 s.vm h0 s.vm T389.heap := R383.trans (CHr.keep K389 (sfS Sf392 sf0) R383.1)
      have O394 : Old Z n0 T389.heap := (O388.keep K389 (allS (Nat.le_trans Z0 (Nat.le_of_eq g355.symm)) all0))
      obtain ⟨_, _, ⟨T395, L395, k395, n395⟩, -, X395, ⟨Lc395, hQ395, l395, y395, z395⟩, st395⟩ := Jvm.LawKit.callS X389 hx (y := yn22) hown0 (mvT hZ0 (w36 hw)) (mvT hZ0 (w37 hw)) (mvT hZ0 (w38 hw)) (mvT hZ0 (w39 hw)) (by decide) (backOf (W := 0) (rm_of3 l Z a0 hw [] b355 t_390 kb_391 (jn1 ++ [cz]) o0 o1 o2 oV kV j0 v0 kv0 j1 v1 kv1 j2 v2 kv2 oE cS T389.heap n0 (Nat.le_trans Z0 (Nat.le_trans (Nat.le_trans K355.1 K380.1) K389.1)) O394 S_V S_0 S_1 S_2 E_V V_V E_0 Fj_0 Ej_0 Fc_0 Fv_0 Vv_0 E_1 Fj_1 Ej_1 Fc_1 Fv_1 Vv_1 E_2 Fj_2 Ej_2 Fc_2 Fv_2 Vv_2 S_EMPTY E_EMPTY F_EMPTY S_cs hcS P389_1 hk384.2 (Nat.le_trans Z0 (Nat.le_of_eq g355.symm)) (by simp [jn0, jn1]) (by simp [jn1, jn1]) (by simp [jn2, jn1])) hZ0 (w39 hw) (w38 hw) (by decide) (by decide)) (g := (mkF m 299 #[.val (.int sel), .val (.int pos), .val (.int ch), .val (.int len), .val (.int (1 : Int32)), .val (.int (3 : Int32)), .val (.int cz), .val (.int cy), .val (.int cx), .val (.ref b355), .val (.int (-1 : Int32)), .unset, .unset, .unset] [(.ref b355)])) rfl (by rw [hml]; rfl) (argsL := [(.ref b355)]) (rest := []) (lenOf pd__28_Ljava_2f_lang_2f_String_3b__29_Ljava_2f_util_2f_Optional_3b_ rfl) rfl (by show 2 * 0 + _ ≤ _; exact Nat.le_of_eq rfl) (hb hby at_299) (fun _ _ => ⟨rfl, rfl, (Nat.le_of_ble_eq_true rfl), (Nat.le_of_ble_eq_true rfl)⟩)
      dsimp only [Pt.U, Pt.locs, Pt.cells, Pt.slots] at X395 l395 y395 z395 st395 hQ395
      subst l395 y395 z395
      obtain ⟨rfl, Nq395, K395⟩ := hQ395
      have N395 := Fr.app N389 Nq395
      have R396 : CHr Z EL_1 s.vm h0 s.vm T395.heap := R393.trans (CHr.keep K395 sf0 R393.1)
      have O397 : Old Z n0 T395.heap := (O394.keep K395 all0)
      have F398 : Fld Z T395.heap oE "java/util/Optional" "value" "Ljava/lang/Object;" .null := F_EMPTY.ext O397.2
      have F400 : Exa Z T395.heap oE "java/util/Optional" := E_EMPTY.ext O397.2
      obtain ⟨cq399, kq399, q399a, q399b, q399c⟩ := isOf hZ0 rfl F400
      obtain ⟨_, _, ⟨T399, L399, k399, n399⟩, -, X399, ⟨Lc399, hQ399, l399, y399, z399⟩, st399⟩ := X395.virtualBack hx (y := yn18) (z := yn18) hown0 (mvT hZ0 (w87 hw)) (mvT hZ0 (w88 hw)) (notFace_of_selects (args := #[]) (mvT hZ0 (w90 hw))) (mvT hZ0 (w90 hw)) (mvT hZ0 (w89 hw)) (by decide) (backOf (W := 0) (rm_isP0 l Z a0 hw [] oE T395.heap n0 (Nat.le_trans Z0 (Nat.le_trans (Nat.le_trans (Nat.le_trans K355.1 K380.1) K389.1) K395.1)) F398) hZ0 (w91 hw) (w72 hw) (by decide) (by decide)) q399a q399c (g := (mkF m 311 #[.val (.int sel), .val (.int pos), .val (.int ch), .val (.int len), .val (.int (1 : Int32)), .val (.int (3 : Int32)), .val (.int cz), .val (.int cy), .val (.int cx), .val (.ref b355), .val (.int (-1 : Int32)), .val (.ref oE), .unset, .unset] [(.ref oE)])) rfl (by rw [hml]; rfl) (Steps.refl _) (argsL := []) (rest := []) (lenOf pd__28__29_Z rfl) rfl (by show 2 * 0 + _ ≤ _; exact Nat.le_of_eq rfl) (hb hby at_311) (fun _ _ => ⟨rfl, rfl, (Nat.le_of_ble_eq_true rfl), (Nat.le_of_ble_eq_true rfl)⟩)
      dsimp only [Pt.U, Pt.locs, Pt.cells, Pt.slots] at X399 l399 y399 z399 st399 hQ399
      subst l399 y399 z399
      obtain ⟨rfl, Nq399, eq399⟩ := hQ399
      have N399 := Fr.app N395 Nq399
      have W401 : ∀ zQ, SS p e below T399 m 322 #[.val (.int sel), .val (.int pos), .val (.int ch), .val (.int len), .val (.int (1 : Int32)), .val (.int (3 : Int32)), .val (.int cz), .val (.int cy), .val (.int cx), .val (.ref b355), .val (.int (-1 : Int32)), .val (.ref oE), .unset, .unset] [(.int (1 : Int32))] zQ → Steps p.tables e below (s₁.setTop (entryFrame m #[(.int sel), (.int pos), (.int ch), (.int len)] maxLocals)) zQ := by
        intro tt kt
        refine W357 tt ?_
        refine XS.iload X355.here hx rfl (hb hby at_177) rfl ?_
        refine XS.iload X355.here hx rfl (hb hby at_179) rfl ?_
        show SS p e below T355 m 181 #[.val (.int sel), .val (.int pos), .val (.int ch), .val (.int len), .val (.int (1 : Int32)), .val (.int (3 : Int32)), .val (.int cz), .val (.int cy), .val (.int cx), .unset, .unset, .unset, .unset, .unset] [(.int cz), (.int (1 : Int32)), (.ref b355), (.ref b355)] _
        refine st380 _ ?_
        show SS p e below T380 m 184 #[.val (.int sel), .val (.int pos), .val (.int ch), .val (.int len), .val (.int (1 : Int32)), .val (.int (3 : Int32)), .val (.int cz), .val (.int cy), .val (.int cx), .unset, .unset, .unset, .unset, .unset] [(.ref r_381), (.ref b355), (.ref b355)] _
        refine st389.trans ?_
        refine XS.astore X389.here hx rfl (hb hby at_187) rfl rfl (l' := #[.val (.int sel), .val (.int pos), .val (.int ch), .val (.int len), .val (.int (1 : Int32)), .val (.int (3 : Int32)), .val (.int cz), .val (.int cy), .val (.int cx), .val (.ref b355), .unset, .unset, .unset, .unset]) rfl ?_
        refine XS.iconst X389.here hx rfl (hb hby at_189) ?_
        refine XS.istore X389.here hx rfl (hb hby at_190) rfl (l' := #[.val (.int sel), .val (.int pos), .val (.int ch), .val (.int len), .val (.int (1 : Int32)), .val (.int (3 : Int32)), .val (.int cz), .val (.int cy), .val (.int cx), .val (.ref b355), .val (.int (-1 : Int32)), .unset, .unset, .unset]) rfl ?_
        refine XS.goto X389.here hx rfl (pc0 := 192) (pc' := 297) rfl (hb hby at_192) (by decide) (by decide) ?_
        refine XS.aload X389.here hx rfl (hb hby at_297) rfl rfl ?_
        show SS p e below T389 m 299 #[.val (.int sel), .val (.int pos), .val (.int ch), .val (.int len), .val (.int (1 : Int32)), .val (.int (3 : Int32)), .val (.int cz), .val (.int cy), .val (.int cx), .val (.ref b355), .val (.int (-1 : Int32)), .unset, .unset, .unset] [(.ref b355)] _
        refine st395 _ ?_
        refine XS.astore X395.here hx rfl (hb hby at_302) rfl rfl (l' := #[.val (.int sel), .val (.int pos), .val (.int ch), .val (.int len), .val (.int (1 : Int32)), .val (.int (3 : Int32)), .val (.int cz), .val (.int cy), .val (.int cx), .val (.ref b355), .val (.int (-1 : Int32)), .val (.ref oE), .unset, .unset]) rfl ?_
        refine XS.iload X395.here hx rfl (hb hby at_304) rfl ?_
        refine XS.ifNo X395.here hx rfl (hb hby at_306) rfl ((if0 _ _).trans (tlt (by decide)).2.1) ?_
        refine XS.aload X395.here hx rfl (hb hby at_309) rfl rfl ?_
        show SS p e below T395 m 311 #[.val (.int sel), .val (.int pos), .val (.int ch), .val (.int len), .val (.int (1 : Int32)), .val (.int (3 : Int32)), .val (.int cz), .val (.int cy), .val (.int cx), .val (.ref b355), .val (.int (-1 : Int32)), .val (.ref oE), .unset, .unset] [(.ref oE)] _
        refine st399.trans ?_
        refine XS.ifNo X399.here hx rfl (hb hby at_314) rfl ((if0 _ _).trans (teq (by decide)).2) ?_
        refine XS.iconst X399.here hx rfl (hb hby at_317) ?_
        refine XS.goto X399.here hx rfl (pc0 := 318) (pc' := 322) rfl (hb hby at_318) (by decide) (by decide) ?_
        exact kt
      obtain ⟨fs, hr, hrun, hended, hRW⟩ := Jvm.Stand.leaveW X399 hS0 (by rw [eq399]; exact (Nat.le_trans hk0 (Nat.le_trans (Nat.le_trans (Nat.le_trans K355.1 K380.1) K389.1) K395.1))) (v := some (.int (nar .boolean (1 : Int32)))) (fun h => by rw [Bd.returns] at h; cases h) (BodyLoose.notSynchronized Bd)
      refine ⟨_, _, W401 _ (retN X399 hx (t := .boolean) Bd.returns (by simp) (hb hby at_322) hr), hrun, hended, _, _, rfl, ?_, own_chr (T := T399) R396 (CHv.at X399 hZ0 hEL R396.1) hh.symm eq399, own_rw hRW (by decide) (by decide)⟩
      show Q_law Z sel pos ch len o0 o1 o2 oV kV j0 v0 kv0 j1 v1 kv1 j2 v2 kv2 oE cS h0 n0 _ T399.heap _
      rw [eq399]
      exact ⟨rfl, N399, (Keep.trans (Keep.trans (Keep.trans (Keep.trans (Keep.refl h0 []) K355 all0) K380 all0) K389 (allS (Or.inr (Nat.le_of_eq g355.symm)) all0)) K395 all0)⟩
    ·
      obtain ⟨_, _, ⟨T402, L402, k402, n402⟩, -, X402, ⟨Lc402, hQ402, l402, y402, z402⟩, st402⟩ := Jvm.LawKit.callS X355 hx (y := yn13) hown0 (mvT hZ0 (w102 hw)) (mvT hZ0 (w103 hw)) (mvT hZ0 (w7 hw)) (mvT hZ0 (w104 hw)) (by decide) (backOf (W := 2) (rm_extended2 l Z a0 hw [] cz h355 n0 (Nat.le_trans Z0 K355.1) hcz) hZ0 (w104 hw) (w7 hw) (by decide) (by decide)) (g := (mkF m 181 #[.val (.int sel), .val (.int pos), .val (.int ch), .val (.int len), .val (.int (2 : Int32)), .val (.int (3 : Int32)), .val (.int cz), .val (.int cy), .val (.int cx), .unset, .unset, .unset, .unset, .unset] [(.int cz), (.int (2 : Int32)), (.ref b355), (.ref b355)])) rfl (by rw [hml]; rfl) (argsL := [(.int (2 : Int32)), (.int cz)]) (rest := [(.ref b355), (.ref b355)]) (lenOf pd__28_IC_29__5b_C rfl) rfl (by show 2 * 0 + _ ≤ _; exact Nat.le_of_eq rfl) (hb hby at_181) (fun _ _ => ⟨rfl, e355, (Nat.le_of_ble_eq_true rfl), (Nat.le_of_ble_eq_true rfl)⟩)
      dsimp only [Pt.U, Pt.locs, Pt.cells, Pt.slots] at X402 l402 y402 z402 st402 hQ402
      subst l402 y402 z402
      obtain ⟨r_403, kr_404, rfl, Nq402, K402, P402_0, P402_1⟩ := hQ402
      have N402 := Fr.app N0 Nq402
      have R405 : CHr Z EL_1 s.vm h0 s.vm T402.heap := R356.trans (CHr.keep K402 sf0 R356.1)
      have hk406 := own_okl (l := (jn2 ++ [cz])) (own_b8a (by decide) hcz) (Nat.le_of_ble_eq_true rfl)
      have F407 : Exa Z T402.heap b355 "java/lang/String" := (A355.keep K402)
      have F408 : Fld Z T402.heap b355 "java/lang/String" "value" "[B" .null := (G355_value.keep K402 nin0)
      have F409 : Fld Z T402.heap b355 "java/lang/String" "coder" "B" (.int (0 : Int32)) := (G355_coder.keep K402 nin0)
      have O410 : Old Z n0 T402.heap := ((O0.keep K355 all0).keep K402 all0)
      obtain ⟨_, _, ⟨T411, L411, k411, n411⟩, -, X411, ⟨Lc411, hQ411, l411, y411, z411⟩, st411⟩ := X402.specialBack hx (y := yn4) rfl hown0 (mvT hZ0 (w10 hw)) (mvT hZ0 (w11 hw)) (mvT hZ0 (w12 hw)) (by decide) (backOf (W := 1) (rm_sinit l Z a0 hw [] b355 r_403 kr_404 (jn2 ++ [cz]) cS T402.heap n0 (Nat.le_trans Z0 (Nat.le_trans K355.1 K402.1)) O410 S_cs hcS F407 F408 F409 (Nat.le_trans Z0 (Nat.le_of_eq g355.symm)) P402_1 hk406.1 (Nat.le_of_ble_eq_true rfl) (Nat.le_of_ble_eq_true rfl) (Nat.ne_of_lt (Nat.lt_of_lt_of_le A355.lt P402_0)) hk406.2) hZ0 (w12 hw) (w4 hw) (by decide) (by decide)) (g := (mkF m 184 #[.val (.int sel), .val (.int pos), .val (.int ch), .val (.int len), .val (.int (2 : Int32)), .val (.int (3 : Int32)), .val (.int cz), .val (.int cy), .val (.int cx), .unset, .unset, .unset, .unset, .unset] [(.ref r_403), (.ref b355), (.ref b355)])) rfl (by rw [hml]; rfl) (Steps.refl _) (a := b355) (argsL := [(.ref r_403)]) (rest := [(.ref b355)]) (lenOf pd__28__5b_C_29_V rfl) rfl (by show 2 * 0 + _ ≤ _; exact Nat.le_of_eq rfl) (hb hby at_184) (fun _ _ => ⟨rfl, rfl, (Nat.le_of_ble_eq_true rfl), (Nat.le_of_ble_eq_true rfl)⟩)
      dsimp only [Pt.U, Pt.locs, Pt.cells, Pt.slots] at X411 l411 y411 z411 st411 hQ411
      subst l411 y411 z411
      obtain ⟨t_412, kb_413, rfl, Nq411, K411, P411_0, P411_1⟩ := hQ411
      have N411 := Fr.app N402 Nq411
      have Sf414 : Safe Z EL_1 s.vm T402.heap b355 := (Safe.keep K402 sf0 R356.1 (Safe.keep K355 sf0 R0.1 (Safe.new (Nat.le_of_eq g355.symm))))
      have R415 : CHr Z EL_1 s.vm h0 s.vm T411.heap := R405.trans (CHr.keep K411 (sfS Sf414 sf0) R405.1)
      have O416 : Old Z n0 T411.heap := (O410.keep K411 (allS (Nat.le_trans Z0 (Nat.le_of_eq g355.symm)) all0))
      obtain ⟨_, _, ⟨T417, L417, k417, n417⟩, -, X417, ⟨Lc417, hQ417, l417, y417, z417⟩, st417⟩ := Jvm.LawKit.callS X411 hx (y := yn22) hown0 (mvT hZ0 (w36 hw)) (mvT hZ0 (w37 hw)) (mvT hZ0 (w38 hw)) (mvT hZ0 (w39 hw)) (by decide) (backOf (W := 0) (rm_of3 l Z a0 hw [] b355 t_412 kb_413 (jn2 ++ [cz]) o0 o1 o2 oV kV j0 v0 kv0 j1 v1 kv1 j2 v2 kv2 oE cS T411.heap n0 (Nat.le_trans Z0 (Nat.le_trans (Nat.le_trans K355.1 K402.1) K411.1)) O416 S_V S_0 S_1 S_2 E_V V_V E_0 Fj_0 Ej_0 Fc_0 Fv_0 Vv_0 E_1 Fj_1 Ej_1 Fc_1 Fv_1 Vv_1 E_2 Fj_2 Ej_2 Fc_2 Fv_2 Vv_2 S_EMPTY E_EMPTY F_EMPTY S_cs hcS P411_1 hk406.2 (Nat.le_trans Z0 (Nat.le_of_eq g355.symm)) (by simp [jn0, jn2]) (by simp [jn1, jn2]) (by simp [jn2, jn2])) hZ0 (w39 hw) (w38 hw) (by decide) (by decide)) (g := (mkF m 299 #[.val (.int sel), .val (.int pos), .val (.int ch), .val (.int len), .val (.int (2 : Int32)), .val (.int (3 : Int32)), .val (.int cz), .val (.int cy), .val (.int cx), .val (.ref b355), .val (.int (-1 : Int32)), .unset, .unset, .unset] [(.ref b355)])) rfl (by rw [hml]; rfl) (argsL := [(.ref b355)]) (rest := []) (lenOf pd__28_Ljava_2f_lang_2f_String_3b__29_Ljava_2f_util_2f_Optional_3b_ rfl) rfl (by show 2 * 0 + _ ≤ _; exact Nat.le_of_eq rfl) (hb hby at_299) (fun _ _ => ⟨rfl, rfl, (Nat.le_of_ble_eq_true rfl), (Nat.le_of_ble_eq_true rfl)⟩)
      dsimp only [Pt.U, Pt.locs, Pt.cells, Pt.slots] at X417 l417 y417 z417 st417 hQ417
      subst l417 y417 z417
      obtain ⟨rfl, Nq417, K417⟩ := hQ417
      have N417 := Fr.app N411 Nq417
      have R418 : CHr Z EL_1 s.vm h0 s.vm T417.heap := R415.trans (CHr.keep K417 sf0 R415.1)
      have O419 : Old Z n0 T417.heap := (O416.keep K417 all0)
      have F420 : Fld Z T417.heap oE "java/util/Optional" "value" "Ljava/lang/Object;" .null := F_EMPTY.ext O419.2
      have F422 : Exa Z T417.heap oE "java/util/Optional" := E_EMPTY.ext O419.2
      obtain ⟨cq421, kq421, q421a, q421b, q421c⟩ := isOf hZ0 rfl F422
      obtain ⟨_, _, ⟨T421, L421, k421, n421⟩, -, X421, ⟨Lc421, hQ421, l421, y421, z421⟩, st421⟩ := X417.virtualBack hx (y := yn18) (z := yn18) hown0 (mvT hZ0 (w87 hw)) (mvT hZ0 (w88 hw)) (notFace_of_selects (args := #[]) (mvT hZ0 (w90 hw))) (mvT hZ0 (w90 hw)) (mvT hZ0 (w89 hw)) (by decide) (backOf (W := 0) (rm_isP0 l Z a0 hw [] oE T417.heap n0 (Nat.le_trans Z0 (Nat.le_trans (Nat.le_trans (Nat.le_trans K355.1 K402.1) K411.1) K417.1)) F420) hZ0 (w91 hw) (w72 hw) (by decide) (by decide)) q421a q421c (g := (mkF m 311 #[.val (.int sel), .val (.int pos), .val (.int ch), .val (.int len), .val (.int (2 : Int32)), .val (.int (3 : Int32)), .val (.int cz), .val (.int cy), .val (.int cx), .val (.ref b355), .val (.int (-1 : Int32)), .val (.ref oE), .unset, .unset] [(.ref oE)])) rfl (by rw [hml]; rfl) (Steps.refl _) (argsL := []) (rest := []) (lenOf pd__28__29_Z rfl) rfl (by show 2 * 0 + _ ≤ _; exact Nat.le_of_eq rfl) (hb hby at_311) (fun _ _ => ⟨rfl, rfl, (Nat.le_of_ble_eq_true rfl), (Nat.le_of_ble_eq_true rfl)⟩)
      dsimp only [Pt.U, Pt.locs, Pt.cells, Pt.slots] at X421 l421 y421 z421 st421 hQ421
      subst l421 y421 z421
      obtain ⟨rfl, Nq421, eq421⟩ := hQ421
      have N421 := Fr.app N417 Nq421
      have W423 : ∀ zQ, SS p e below T421 m 322 #[.val (.int sel), .val (.int pos), .val (.int ch), .val (.int len), .val (.int (2 : Int32)), .val (.int (3 : Int32)), .val (.int cz), .val (.int cy), .val (.int cx), .val (.ref b355), .val (.int (-1 : Int32)), .val (.ref oE), .unset, .unset] [(.int (1 : Int32))] zQ → Steps p.tables e below (s₁.setTop (entryFrame m #[(.int sel), (.int pos), (.int ch), (.int len)] maxLocals)) zQ := by
        intro tt kt
        refine W357 tt ?_
        refine XS.iload X355.here hx rfl (hb hby at_177) rfl ?_
        refine XS.iload X355.here hx rfl (hb hby at_179) rfl ?_
        show SS p e below T355 m 181 #[.val (.int sel), .val (.int pos), .val (.int ch), .val (.int len), .val (.int (2 : Int32)), .val (.int (3 : Int32)), .val (.int cz), .val (.int cy), .val (.int cx), .unset, .unset, .unset, .unset, .unset] [(.int cz), (.int (2 : Int32)), (.ref b355), (.ref b355)] _
        refine st402 _ ?_
        show SS p e below T402 m 184 #[.val (.int sel), .val (.int pos), .val (.int ch), .val (.int len), .val (.int (2 : Int32)), .val (.int (3 : Int32)), .val (.int cz), .val (.int cy), .val (.int cx), .unset, .unset, .unset, .unset, .unset] [(.ref r_403), (.ref b355), (.ref b355)] _
        refine st411.trans ?_
        refine XS.astore X411.here hx rfl (hb hby at_187) rfl rfl (l' := #[.val (.int sel), .val (.int pos), .val (.int ch), .val (.int len), .val (.int (2 : Int32)), .val (.int (3 : Int32)), .val (.int cz), .val (.int cy), .val (.int cx), .val (.ref b355), .unset, .unset, .unset, .unset]) rfl ?_
        refine XS.iconst X411.here hx rfl (hb hby at_189) ?_
        refine XS.istore X411.here hx rfl (hb hby at_190) rfl (l' := #[.val (.int sel), .val (.int pos), .val (.int ch), .val (.int len), .val (.int (2 : Int32)), .val (.int (3 : Int32)), .val (.int cz), .val (.int cy), .val (.int cx), .val (.ref b355), .val (.int (-1 : Int32)), .unset, .unset, .unset]) rfl ?_
        refine XS.goto X411.here hx rfl (pc0 := 192) (pc' := 297) rfl (hb hby at_192) (by decide) (by decide) ?_
        refine XS.aload X411.here hx rfl (hb hby at_297) rfl rfl ?_
        show SS p e below T411 m 299 #[.val (.int sel), .val (.int pos), .val (.int ch), .val (.int len), .val (.int (2 : Int32)), .val (.int (3 : Int32)), .val (.int cz), .val (.int cy), .val (.int cx), .val (.ref b355), .val (.int (-1 : Int32)), .unset, .unset, .unset] [(.ref b355)] _
        refine st417 _ ?_
        refine XS.astore X417.here hx rfl (hb hby at_302) rfl rfl (l' := #[.val (.int sel), .val (.int pos), .val (.int ch), .val (.int len), .val (.int (2 : Int32)), .val (.int (3 : Int32)), .val (.int cz), .val (.int cy), .val (.int cx), .val (.ref b355), .val (.int (-1 : Int32)), .val (.ref oE), .unset, .unset]) rfl ?_
        refine XS.iload X417.here hx rfl (hb hby at_304) rfl ?_
        refine XS.ifNo X417.here hx rfl (hb hby at_306) rfl ((if0 _ _).trans (tlt (by decide)).2.1) ?_
        refine XS.aload X417.here hx rfl (hb hby at_309) rfl rfl ?_
        show SS p e below T417 m 311 #[.val (.int sel), .val (.int pos), .val (.int ch), .val (.int len), .val (.int (2 : Int32)), .val (.int (3 : Int32)), .val (.int cz), .val (.int cy), .val (.int cx), .val (.ref b355), .val (.int (-1 : Int32)), .val (.ref oE), .unset, .unset] [(.ref oE)] _
        refine st421.trans ?_
        refine XS.ifNo X421.here hx rfl (hb hby at_314) rfl ((if0 _ _).trans (teq (by decide)).2) ?_
        refine XS.iconst X421.here hx rfl (hb hby at_317) ?_
        refine XS.goto X421.here hx rfl (pc0 := 318) (pc' := 322) rfl (hb hby at_318) (by decide) (by decide) ?_
        exact kt
      obtain ⟨fs, hr, hrun, hended, hRW⟩ := Jvm.Stand.leaveW X421 hS0 (by rw [eq421]; exact (Nat.le_trans hk0 (Nat.le_trans (Nat.le_trans (Nat.le_trans K355.1 K402.1) K411.1) K417.1))) (v := some (.int (nar .boolean (1 : Int32)))) (fun h => by rw [Bd.returns] at h; cases h) (BodyLoose.notSynchronized Bd)
      refine ⟨_, _, W423 _ (retN X421 hx (t := .boolean) Bd.returns (by simp) (hb hby at_322) hr), hrun, hended, _, _, rfl, ?_, own_chr (T := T421) R418 (CHv.at X421 hZ0 hEL R418.1) hh.symm eq421, own_rw hRW (by decide) (by decide)⟩
      show Q_law Z sel pos ch len o0 o1 o2 oV kV j0 v0 kv0 j1 v1 kv1 j2 v2 kv2 oE cS h0 n0 _ T421.heap _
      rw [eq421]
      exact ⟨rfl, N421, (Keep.trans (Keep.trans (Keep.trans (Keep.trans (Keep.refl h0 []) K355 all0) K402 all0) K411 (allS (Or.inr (Nat.le_of_eq g355.symm)) all0)) K417 all0)⟩
  ·
    obtain ⟨cz, h_cz⟩ : ∃ z : Int32, z = ((ch &&& (255 : Int32)).toUInt32.toUInt16.toUInt32.toInt32) := ⟨_, rfl⟩
    have hcz : B8 cz := by rw [h_cz]; exact own_c8 _
    obtain ⟨cy, h_cy⟩ : ∃ z : Int32, z = ((((ch.toUInt32 >>> ((8 : Int32) &&& 31).toUInt32).toInt32) &&& (255 : Int32)).toUInt32.toUInt16.toUInt32.toInt32) := ⟨_, rfl⟩
    have hcy : B8 cy := by rw [h_cy]; exact own_c8 _
    obtain ⟨cx, h_cx⟩ : ∃ z : Int32, z = ((((ch.toUInt32 >>> ((16 : Int32) &&& 31).toUInt32).toInt32) &&& (255 : Int32)).toUInt32.toUInt16.toUInt32.toInt32) := ⟨_, rfl⟩
    have hcx : B8 cx := by rw [h_cx]; exact own_c8 _
    obtain ⟨nq, h_nq⟩ : ∃ z : Int32, z = (len &&& (3 : Int32)) := ⟨_, rfl⟩
    have W424 : ∀ zQ, SS p e below s₁ m 198 #[.val (.int sel), .val (.int pos), .val (.int ch), .val (.int len), .val (.int kq), .val (.int (4 : Int32)), .val (.int cz), .val (.int cy), .val (.int cx), .unset, .unset, .unset, .unset, .unset] [(.int nq)] zQ → Steps p.tables e below (s₁.setTop (entryFrame m #[(.int sel), (.int pos), (.int ch), (.int len)] maxLocals)) zQ := by
      intro tt kt
      refine W101 tt ?_
      refine XS.istore X0.here hx rfl (hb hby at_17) rfl (l' := #[.val (.int sel), .val (.int pos), .val (.int ch), .val (.int len), .val (.int kq), .val (.int (4 : Int32)), .unset, .unset, .unset, .unset, .unset, .unset, .unset, .unset]) rfl ?_
      refine XS.iloadN X0.here hx rfl (hb hby at_19) rfl ?_
      refine XS.sipush X0.here hx rfl (hb hby at_20) ?_
      refine XS.iand X0.here hx rfl (hb hby at_23) rfl ?_
      refine XS.i2c X0.here hx rfl (hb hby at_24) rfl ?_
      show SS p e below s₁ m 25 #[.val (.int sel), .val (.int pos), .val (.int ch), .val (.int len), .val (.int kq), .val (.int (4 : Int32)), .unset, .unset, .unset, .unset, .unset, .unset, .unset, .unset] [(.int ((ch &&& (255 : Int32)).toUInt32.toUInt16.toUInt32.toInt32))] _
      rw [← h_cz]
      refine XS.istore X0.here hx rfl (hb hby at_25) rfl (l' := #[.val (.int sel), .val (.int pos), .val (.int ch), .val (.int len), .val (.int kq), .val (.int (4 : Int32)), .val (.int cz), .unset, .unset, .unset, .unset, .unset, .unset, .unset]) rfl ?_
      refine XS.iloadN X0.here hx rfl (hb hby at_27) rfl ?_
      refine XS.bipush X0.here hx rfl (hb hby at_28) ?_
      refine XS.iushr X0.here hx rfl (hb hby at_30) rfl ?_
      refine XS.sipush X0.here hx rfl (hb hby at_31) ?_
      show SS p e below s₁ m 34 #[.val (.int sel), .val (.int pos), .val (.int ch), .val (.int len), .val (.int kq), .val (.int (4 : Int32)), .val (.int cz), .unset, .unset, .unset, .unset, .unset, .unset, .unset] [(.int (255 : Int32)), (.int ((ch.toUInt32 >>> ((8 : Int32) &&& 31).toUInt32).toInt32))] _
      refine XS.iand X0.here hx rfl (hb hby at_34) rfl ?_
      refine XS.i2c X0.here hx rfl (hb hby at_35) rfl ?_
      show SS p e below s₁ m 36 #[.val (.int sel), .val (.int pos), .val (.int ch), .val (.int len), .val (.int kq), .val (.int (4 : Int32)), .val (.int cz), .unset, .unset, .unset, .unset, .unset, .unset, .unset] [(.int ((((ch.toUInt32 >>> ((8 : Int32) &&& 31).toUInt32).toInt32) &&& (255 : Int32)).toUInt32.toUInt16.toUInt32.toInt32))] _
      rw [← h_cy]
      refine XS.istore X0.here hx rfl (hb hby at_36) rfl (l' := #[.val (.int sel), .val (.int pos), .val (.int ch), .val (.int len), .val (.int kq), .val (.int (4 : Int32)), .val (.int cz), .val (.int cy), .unset, .unset, .unset, .unset, .unset, .unset]) rfl ?_
      refine XS.iloadN X0.here hx rfl (hb hby at_38) rfl ?_
      refine XS.bipush X0.here hx rfl (hb hby at_39) ?_
      refine XS.iushr X0.here hx rfl (hb hby at_41) rfl ?_
      refine XS.sipush X0.here hx rfl (hb hby at_42) ?_
      show SS p e below s₁ m 45 #[.val (.int sel), .val (.int pos), .val (.int ch), .val (.int len), .val (.int kq), .val (.int (4 : Int32)), .val (.int cz), .val (.int cy), .unset, .unset, .unset, .unset, .unset, .unset] [(.int (255 : Int32)), (.int ((ch.toUInt32 >>> ((16 : Int32) &&& 31).toUInt32).toInt32))] _
      refine XS.iand X0.here hx rfl (hb hby at_45) rfl ?_
      refine XS.i2c X0.here hx rfl (hb hby at_46) rfl ?_
      show SS p e below s₁ m 47 #[.val (.int sel), .val (.int pos), .val (.int ch), .val (.int len), .val (.int kq), .val (.int (4 : Int32)), .val (.int cz), .val (.int cy), .unset, .unset, .unset, .unset, .unset, .unset] [(.int ((((ch.toUInt32 >>> ((16 : Int32) &&& 31).toUInt32).toInt32) &&& (255 : Int32)).toUInt32.toUInt16.toUInt32.toInt32))] _
      rw [← h_cx]
      refine XS.istore X0.here hx rfl (hb hby at_47) rfl (l' := #[.val (.int sel), .val (.int pos), .val (.int ch), .val (.int len), .val (.int kq), .val (.int (4 : Int32)), .val (.int cz), .val (.int cy), .val (.int cx), .unset, .unset, .unset, .unset, .unset]) rfl ?_
      refine XS.iload X0.here hx rfl (hb hby at_49) rfl ?_
      refine XS.ifYes X0.here hx rfl (pc0 := 51) (pc' := 75) rfl (hb hby at_51) rfl ((if0 _ _).trans (feq (by decide)).2) (by decide) (by decide) ?_
      refine XS.iload X0.here hx rfl (hb hby at_75) rfl ?_
      refine XS.iconst X0.here hx rfl (hb hby at_77) ?_
      show SS p e below s₁ m 78 #[.val (.int sel), .val (.int pos), .val (.int ch), .val (.int len), .val (.int kq), .val (.int (4 : Int32)), .val (.int cz), .val (.int cy), .val (.int cx), .unset, .unset, .unset, .unset, .unset] [(.int (1 : Int32)), (.int (4 : Int32))] _
      refine XS.icmpYes X0.here hx rfl (pc0 := 78) (pc' := 141) rfl (hb hby at_78) rfl (feq (by decide)).2 (by decide) (by decide) ?_
      refine XS.iload X0.here hx rfl (hb hby at_141) rfl ?_
      refine XS.iconst X0.here hx rfl (hb hby at_143) ?_
      refine XS.icmpYes X0.here hx rfl (pc0 := 144) (pc' := 167) rfl (hb hby at_144) rfl (feq (by decide)).2 (by decide) (by decide) ?_
      refine XS.iload X0.here hx rfl (hb hby at_167) rfl ?_
      refine XS.iconst X0.here hx rfl (hb hby at_169) ?_
      show SS p e below s₁ m 170 #[.val (.int sel), .val (.int pos), .val (.int ch), .val (.int len), .val (.int kq), .val (.int (4 : Int32)), .val (.int cz), .val (.int cy), .val (.int cx), .unset, .unset, .unset, .unset, .unset] [(.int (3 : Int32)), (.int (4 : Int32))] _
      refine XS.icmpYes X0.here hx rfl (pc0 := 170) (pc' := 195) rfl (hb hby at_170) rfl (feq (by decide)).2 (by decide) (by decide) ?_
      refine XS.iloadN X0.here hx rfl (hb hby at_195) rfl ?_
      refine XS.iconst X0.here hx rfl (hb hby at_196) ?_
      refine XS.iand X0.here hx rfl (hb hby at_197) rfl ?_
      show SS p e below s₁ m 198 #[.val (.int sel), .val (.int pos), .val (.int ch), .val (.int len), .val (.int kq), .val (.int (4 : Int32)), .val (.int cz), .val (.int cy), .val (.int cx), .unset, .unset, .unset, .unset, .unset] [(.int (len &&& (3 : Int32)))] _
      rw [← h_nq]
      exact kt
    rcases (h_nq ▸ own_a3 _ : nq = 0 ∨ nq = 1 ∨ nq = 2 ∨ nq = 3) with rfl | rfl | rfl | rfl
    ·
      obtain ⟨T425, h425, X425, e425, E425, A425, D425, U425, st425⟩ := newO X0 hx hZ0 hown0 (w2 hw) (w3 hw) (w4 hw) e0 (g := (mkF m 205 #[.val (.int sel), .val (.int pos), .val (.int ch), .val (.int len), .val (.int kq), .val (.int (4 : Int32)), .val (.int cz), .val (.int cy), .val (.int cx), .unset, .unset, .val (.int (0 : Int32)), .unset, .unset] [])) rfl (hb hby at_205) (by decide) (by decide)
      obtain ⟨b425, g425⟩ : ∃ z, z = h0.size := ⟨_, rfl⟩
      rw [← g425] at A425 D425 U425 st425
      have K425 := (Keep.refl h0 []).ext E425
      have R426 : CHr Z EL_1 s.vm h0 s.vm h425 := R0.trans (CHr.keep K425 sf0 R0.1)
      have G425_coder : Fld Z h425 b425 "java/lang/String" "coder" "B" (.int (0 : Int32)) := D425 (Or.inr (w33 hw)) (ty := .byte) (by decide)
      have G425_value : Fld Z h425 b425 "java/lang/String" "value" "[B" .null := D425 (Or.inr (w35 hw)) (ty := (.array .byte)) (by decide)
      obtain ⟨T427, h427, k427, X427, e427, E427, A427, st427⟩ := newP X425 hx hZ0 (aty := .char) (w9 hw) e425 (g := (mkF m 210 #[.val (.int sel), .val (.int pos), .val (.int ch), .val (.int len), .val (.int kq), .val (.int (4 : Int32)), .val (.int cz), .val (.int cy), .val (.int cx), .unset, .unset, .val (.int (0 : Int32)), .unset, .unset] [(.int (0 : Int32)), (.ref b425), (.ref b425)])) rfl (hb hby at_210) (n := (0 : Int32)) rfl (by decide) (cap := 0) (by decide) (by decide) (by decide) (by decide)
      obtain ⟨b427, g427⟩ : ∃ z, z = h425.size := ⟨_, rfl⟩
      rw [← g427] at A427 st427
      have K427 := (Keep.refl h425 []).ext E427
      have R428 : CHr Z EL_1 s.vm h0 s.vm h427 := R426.trans (CHr.keep K427 sf0 R426.1)
      have G427 : Arv Z h427 b427 k427 .char (0 : Int32) [] (.int (0 : Int32)) := (Arv.new A427 (by decide)).pad (pad_rep [] (.int (0 : Int32)) 0)
      have F429 : Exa Z h427 b425 "java/lang/String" := (A425.keep K427)
      have F430 : Fld Z h427 b425 "java/lang/String" "value" "[B" .null := (G425_value.keep K427 nin0)
      have F431 : Fld Z h427 b425 "java/lang/String" "coder" "B" (.int (0 : Int32)) := (G425_coder.keep K427 nin0)
      obtain ⟨_, _, ⟨T432, L432, k432, n432⟩, -, X432', hS432', hgr432, ⟨Lc432, hQ432, l432, y432, z432, A432⟩, st432⟩ := X427.specialBackS hx (y := yn4) rfl hown0 (mvT hZ0 (w10 hw)) (mvT hZ0 (w11 hw)) (mvT hZ0 (w12 hw)) (by decide) (backOfSH (W := 1) (rm_sinit0 l Z a0 hw [] b425 b427 k427 h427 n0 (Nat.le_trans Z0 (Nat.le_trans K425.1 K427.1)) F429 F430 F431 (Nat.le_trans Z0 (Nat.le_of_eq g425.symm)) G427) hZ0 (w12 hw) (w4 hw) (by decide) (by decide) hEL R428.1) (g := (mkF m 212 #[.val (.int sel), .val (.int pos), .val (.int ch), .val (.int len), .val (.int kq), .val (.int (4 : Int32)), .val (.int cz), .val (.int cy), .val (.int cx), .unset, .unset, .val (.int (0 : Int32)), .unset, .unset] [(.ref b427), (.ref b425), (.ref b425)])) rfl (by rw [hml]; rfl) (Steps.refl _) (a := b425) (argsL := [(.ref b427)]) (rest := [(.ref b425)]) (lenOf pd__28__5b_C_29_V rfl) rfl (by show 2 * 0 + _ ≤ _; exact Nat.le_of_eq rfl) (hb hby at_212) (fun _ _ => ⟨rfl, e427, (Nat.le_of_ble_eq_true rfl), (Nat.le_of_ble_eq_true rfl)⟩)
      dsimp only [Pt.U, Pt.locs, Pt.cells, Pt.slots] at X432' hS432' hgr432 l432 y432 z432 st432 hQ432 A432
      subst l432 y432 z432
      obtain ⟨X432, hS432, hZ432, hown432⟩ := rebS hS0 (by rw [e427]; exact (Nat.le_trans hk0 (Nat.le_trans K425.1 K427.1))) X432' hS432' hgr432 hZ0 hown0
      obtain ⟨t_433, kb_434, rfl, Nq432, K432, P432_0⟩ := hQ432
      have N432 := Fr.app N0 Nq432
      have R435 : CHr Z EL_1 s.vm h0 T432.vm T432.heap := R428.trans A432
      have hk432 : T432.heap.size ≤ T432.heap.size := Nat.le_refl _
      have O436 : Old Z n0 T432.heap := (((O0.keep K425 all0).keep K427 all0).keep K432 (allS (Nat.le_trans Z0 (Nat.le_of_eq g425.symm)) all0))
      obtain ⟨_, _, ⟨T437, L437, k437, n437⟩, -, X437, ⟨Lc437, hQ437, l437, y437, z437⟩, st437⟩ := Jvm.LawKit.callS X432 hx (y := yn22) hown432 (mvT hZ432 (w36 hw)) (mvT hZ432 (w37 hw)) (mvT hZ432 (w38 hw)) (mvT hZ432 (w39 hw)) (by decide) (backOf (W := 0) (rm_of3 l Z a0 hw [] b425 t_433 kb_434 ([] : List Int32) o0 o1 o2 oV kV j0 v0 kv0 j1 v1 kv1 j2 v2 kv2 oE cS T432.heap n0 (Nat.le_trans Z0 (Nat.le_trans (Nat.le_trans K425.1 K427.1) K432.1)) O436 S_V S_0 S_1 S_2 E_V V_V E_0 Fj_0 Ej_0 Fc_0 Fv_0 Vv_0 E_1 Fj_1 Ej_1 Fc_1 Fv_1 Vv_1 E_2 Fj_2 Ej_2 Fc_2 Fv_2 Vv_2 S_EMPTY E_EMPTY F_EMPTY S_cs hcS P432_0 (by decide) (Nat.le_trans Z0 (Nat.le_of_eq g425.symm)) (by simp [jn0]) (by simp [jn1]) (by simp [jn2])) hZ432 (w39 hw) (w38 hw) (by decide) (by decide)) (g := (mkF m 299 #[.val (.int sel), .val (.int pos), .val (.int ch), .val (.int len), .val (.int kq), .val (.int (4 : Int32)), .val (.int cz), .val (.int cy), .val (.int cx), .val (.ref b425), .val (.int (-1 : Int32)), .val (.int (0 : Int32)), .unset, .unset] [(.ref b425)])) rfl (by rw [hml]; rfl) (argsL := [(.ref b425)]) (rest := []) (lenOf pd__28_Ljava_2f_lang_2f_String_3b__29_Ljava_2f_util_2f_Optional_3b_ rfl) rfl (by show 2 * 0 + _ ≤ _; exact Nat.le_of_eq rfl) (hb hby at_299) (fun _ _ => ⟨rfl, rfl, (Nat.le_of_ble_eq_true rfl), (Nat.le_of_ble_eq_true rfl)⟩)
      dsimp only [Pt.U, Pt.locs, Pt.cells, Pt.slots] at X437 l437 y437 z437 st437 hQ437
      subst l437 y437 z437
      obtain ⟨rfl, Nq437, K437⟩ := hQ437
      have N437 := Fr.app N432 Nq437
      have R438 : CHr Z EL_1 s.vm h0 T432.vm T437.heap := R435.trans (CHr.keep K437 sf0 R435.1)
      have O439 : Old Z n0 T437.heap := (O436.keep K437 all0)
      have F440 : Fld Z T437.heap oE "java/util/Optional" "value" "Ljava/lang/Object;" .null := F_EMPTY.ext O439.2
      have F442 : Exa Z T437.heap oE "java/util/Optional" := E_EMPTY.ext O439.2
      obtain ⟨cq441, kq441, q441a, q441b, q441c⟩ := isOf hZ432 rfl F442
      obtain ⟨_, _, ⟨T441, L441, k441, n441⟩, -, X441, ⟨Lc441, hQ441, l441, y441, z441⟩, st441⟩ := X437.virtualBack hx (y := yn18) (z := yn18) hown432 (mvT hZ432 (w87 hw)) (mvT hZ432 (w88 hw)) (notFace_of_selects (args := #[]) (mvT hZ432 (w90 hw))) (mvT hZ432 (w90 hw)) (mvT hZ432 (w89 hw)) (by decide) (backOf (W := 0) (rm_isP0 l Z a0 hw [] oE T437.heap n0 (Nat.le_trans Z0 (Nat.le_trans (Nat.le_trans (Nat.le_trans K425.1 K427.1) K432.1) K437.1)) F440) hZ432 (w91 hw) (w72 hw) (by decide) (by decide)) q441a q441c (g := (mkF m 311 #[.val (.int sel), .val (.int pos), .val (.int ch), .val (.int len), .val (.int kq), .val (.int (4 : Int32)), .val (.int cz), .val (.int cy), .val (.int cx), .val (.ref b425), .val (.int (-1 : Int32)), .val (.ref oE), .unset, .unset] [(.ref oE)])) rfl (by rw [hml]; rfl) (Steps.refl _) (argsL := []) (rest := []) (lenOf pd__28__29_Z rfl) rfl (by show 2 * 0 + _ ≤ _; exact Nat.le_of_eq rfl) (hb hby at_311) (fun _ _ => ⟨rfl, rfl, (Nat.le_of_ble_eq_true rfl), (Nat.le_of_ble_eq_true rfl)⟩)
      dsimp only [Pt.U, Pt.locs, Pt.cells, Pt.slots] at X441 l441 y441 z441 st441 hQ441
      subst l441 y441 z441
      obtain ⟨rfl, Nq441, eq441⟩ := hQ441
      have N441 := Fr.app N437 Nq441
      have W443 : ∀ zQ, SS p e below T441 m 322 #[.val (.int sel), .val (.int pos), .val (.int ch), .val (.int len), .val (.int kq), .val (.int (4 : Int32)), .val (.int cz), .val (.int cy), .val (.int cx), .val (.ref b425), .val (.int (-1 : Int32)), .val (.ref oE), .unset, .unset] [(.int (1 : Int32))] zQ → Steps p.tables e below (s₁.setTop (entryFrame m #[(.int sel), (.int pos), (.int ch), (.int len)] maxLocals)) zQ := by
        intro tt kt
        refine W424 tt ?_
        refine XS.istore X0.here hx rfl (hb hby at_198) rfl (l' := #[.val (.int sel), .val (.int pos), .val (.int ch), .val (.int len), .val (.int kq), .val (.int (4 : Int32)), .val (.int cz), .val (.int cy), .val (.int cx), .unset, .unset, .val (.int (0 : Int32)), .unset, .unset]) rfl ?_
        refine XS.iload X0.here hx rfl (hb hby at_200) rfl ?_
        refine XS.ifNo X0.here hx rfl (hb hby at_202) rfl ((if0 _ _).trans (teq (by decide)).2) ?_
        show SS p e below s₁ m 205 #[.val (.int sel), .val (.int pos), .val (.int ch), .val (.int len), .val (.int kq), .val (.int (4 : Int32)), .val (.int cz), .val (.int cy), .val (.int cx), .unset, .unset, .val (.int (0 : Int32)), .unset, .unset] [] _
        refine st425 _ ?_
        refine XS.dup X425.here hx rfl (hb hby at_208) rfl rfl ?_
        refine XS.iconst X425.here hx rfl (hb hby at_209) ?_
        show SS p e below T425 m 210 #[.val (.int sel), .val (.int pos), .val (.int ch), .val (.int len), .val (.int kq), .val (.int (4 : Int32)), .val (.int cz), .val (.int cy), .val (.int cx), .unset, .unset, .val (.int (0 : Int32)), .unset, .unset] [(.int (0 : Int32)), (.ref b425), (.ref b425)] _
        refine st427 _ ?_
        show SS p e below T427 m 212 #[.val (.int sel), .val (.int pos), .val (.int ch), .val (.int len), .val (.int kq), .val (.int (4 : Int32)), .val (.int cz), .val (.int cy), .val (.int cx), .unset, .unset, .val (.int (0 : Int32)), .unset, .unset] [(.ref b427), (.ref b425), (.ref b425)] _
        refine st432.trans ?_
        refine XS.astore X432.here hx rfl (hb hby at_215) rfl rfl (l' := #[.val (.int sel), .val (.int pos), .val (.int ch), .val (.int len), .val (.int kq), .val (.int (4 : Int32)), .val (.int cz), .val (.int cy), .val (.int cx), .val (.ref b425), .unset, .val (.int (0 : Int32)), .unset, .unset]) rfl ?_
        refine XS.goto X432.here hx rfl (pc0 := 217) (pc' := 294) rfl (hb hby at_217) (by decide) (by decide) ?_
        refine XS.iconst X432.here hx rfl (hb hby at_294) ?_
        refine XS.istore X432.here hx rfl (hb hby at_295) rfl (l' := #[.val (.int sel), .val (.int pos), .val (.int ch), .val (.int len), .val (.int kq), .val (.int (4 : Int32)), .val (.int cz), .val (.int cy), .val (.int cx), .val (.ref b425), .val (.int (-1 : Int32)), .val (.int (0 : Int32)), .unset, .unset]) rfl ?_
        refine XS.aload X432.here hx rfl (hb hby at_297) rfl rfl ?_
        show SS p e below T432 m 299 #[.val (.int sel), .val (.int pos), .val (.int ch), .val (.int len), .val (.int kq), .val (.int (4 : Int32)), .val (.int cz), .val (.int cy), .val (.int cx), .val (.ref b425), .val (.int (-1 : Int32)), .val (.int (0 : Int32)), .unset, .unset] [(.ref b425)] _
        refine st437 _ ?_
        refine XS.astore X437.here hx rfl (hb hby at_302) rfl rfl (l' := #[.val (.int sel), .val (.int pos), .val (.int ch), .val (.int len), .val (.int kq), .val (.int (4 : Int32)), .val (.int cz), .val (.int cy), .val (.int cx), .val (.ref b425), .val (.int (-1 : Int32)), .val (.ref oE), .unset, .unset]) rfl ?_
        refine XS.iload X437.here hx rfl (hb hby at_304) rfl ?_
        refine XS.ifNo X437.here hx rfl (hb hby at_306) rfl ((if0 _ _).trans (tlt (by decide)).2.1) ?_
        refine XS.aload X437.here hx rfl (hb hby at_309) rfl rfl ?_
        show SS p e below T437 m 311 #[.val (.int sel), .val (.int pos), .val (.int ch), .val (.int len), .val (.int kq), .val (.int (4 : Int32)), .val (.int cz), .val (.int cy), .val (.int cx), .val (.ref b425), .val (.int (-1 : Int32)), .val (.ref oE), .unset, .unset] [(.ref oE)] _
        refine st441.trans ?_
        refine XS.ifNo X441.here hx rfl (hb hby at_314) rfl ((if0 _ _).trans (teq (by decide)).2) ?_
        refine XS.iconst X441.here hx rfl (hb hby at_317) ?_
        refine XS.goto X441.here hx rfl (pc0 := 318) (pc' := 322) rfl (hb hby at_318) (by decide) (by decide) ?_
        exact kt
      obtain ⟨fs, hr, hrun, hended, hRW⟩ := Jvm.Stand.leaveW X441 hS432 (by rw [eq441]; exact (Nat.le_trans hk432 K437.1)) (v := some (.int (nar .boolean (1 : Int32)))) (fun h => by rw [Bd.returns] at h; cases h) (BodyLoose.notSynchronized Bd)
      refine ⟨_, _, W443 _ (retN X441 hx (t := .boolean) Bd.returns (by simp) (hb hby at_322) hr), hrun, hended, _, _, rfl, ?_, own_chr (T := T441) R438 (CHv.at X441 hZ432 hEL R438.1) hh.symm eq441, own_rw hRW (by decide) (by decide)⟩
      show Q_law Z sel pos ch len o0 o1 o2 oV kV j0 v0 kv0 j1 v1 kv1 j2 v2 kv2 oE cS h0 n0 _ T441.heap _
      rw [eq441]
      exact ⟨rfl, N441, (Keep.trans (Keep.trans (Keep.trans (Keep.trans (Keep.refl h0 []) K425 all0) K427 all0) K432 (allS (Or.inr (Nat.le_of_eq g425.symm)) all0)) K437 all0)⟩
    ·
      have hk444 := own_okl (l := [cz]) (own_b8a (l := []) (by simp) hcz) (Nat.le_of_ble_eq_true rfl)
      obtain ⟨_, _, ⟨T445, L445, k445, n445⟩, -, X445, ⟨Lc445, hQ445, l445, y445, z445⟩, st445⟩ := Jvm.LawKit.callS X0 hx (y := yn8) hown0 (mvT hZ0 (w116 hw)) (mvT hZ0 (w117 hw)) (mvT hZ0 (w4 hw)) (mvT hZ0 (w118 hw)) (by decide) (backOf (W := 0) (rm_valueOfC l Z a0 hw [] cz cS h0 n0 Z0 O0 S_cs hcS hcz.1 hcz.2) hZ0 (w118 hw) (w4 hw) (by decide) (by decide)) (g := (mkF m 228 #[.val (.int sel), .val (.int pos), .val (.int ch), .val (.int len), .val (.int kq), .val (.int (4 : Int32)), .val (.int cz), .val (.int cy), .val (.int cx), .unset, .unset, .val (.int (1 : Int32)), .unset, .unset] [(.int cz)])) rfl (by rw [hml]; rfl) (argsL := [(.int cz)]) (rest := []) (lenOf pd__28_C_29_Ljava_2f_lang_2f_String_3b_ rfl) rfl (by show 2 * 0 + _ ≤ _; exact Nat.le_of_eq rfl) (hb hby at_228) (fun _ _ => ⟨rfl, e0, (Nat.le_of_ble_eq_true rfl), (Nat.le_of_ble_eq_true rfl)⟩)
      dsimp only [Pt.U, Pt.locs, Pt.cells, Pt.slots] at X445 l445 y445 z445 st445 hQ445
      subst l445 y445 z445
      obtain ⟨r_446, t_447, kb_448, rfl, Nq445, K445, P445_0, P445_1, P445_2⟩ := hQ445
      have N445 := Fr.app N0 Nq445
      have R449 : CHr Z EL_1 s.vm h0 s.vm T445.heap := R0.trans (CHr.keep K445 sf0 R0.1)
      have O450 : Old Z n0 T445.heap := (O0.keep K445 all0)
      obtain ⟨_, _, ⟨T451, L451, k451, n451⟩, -, X451, ⟨Lc451, hQ451, l451, y451, z451⟩, st451⟩ := Jvm.LawKit.callS X445 hx (y := yn22) hown0 (mvT hZ0 (w36 hw)) (mvT hZ0 (w37 hw)) (mvT hZ0 (w38 hw)) (mvT hZ0 (w39 hw)) (by decide) (backOf (W := 0) (rm_of3 l Z a0 hw [] r_446 t_447 kb_448 [cz] o0 o1 o2 oV kV j0 v0 kv0 j1 v1 kv1 j2 v2 kv2 oE cS T445.heap n0 (Nat.le_trans Z0 K445.1) O450 S_V S_0 S_1 S_2 E_V V_V E_0 Fj_0 Ej_0 Fc_0 Fv_0 Vv_0 E_1 Fj_1 Ej_1 Fc_1 Fv_1 Vv_1 E_2 Fj_2 Ej_2 Fc_2 Fv_2 Vv_2 S_EMPTY E_EMPTY F_EMPTY S_cs hcS P445_2 hk444.2 (Nat.le_trans Z0 P445_0) (by simp [jn0]) (by simp [jn1]) (by simp [jn2])) hZ0 (w39 hw) (w38 hw) (by decide) (by decide)) (g := (mkF m 299 #[.val (.int sel), .val (.int pos), .val (.int ch), .val (.int len), .val (.int kq), .val (.int (4 : Int32)), .val (.int cz), .val (.int cy), .val (.int cx), .val (.ref r_446), .val (.int (-1 : Int32)), .val (.int (1 : Int32)), .unset, .unset] [(.ref r_446)])) rfl (by rw [hml]; rfl) (argsL := [(.ref r_446)]) (rest := []) (lenOf pd__28_Ljava_2f_lang_2f_String_3b__29_Ljava_2f_util_2f_Optional_3b_ rfl) rfl (by show 2 * 0 + _ ≤ _; exact Nat.le_of_eq rfl) (hb hby at_299) (fun _ _ => ⟨rfl, rfl, (Nat.le_of_ble_eq_true rfl), (Nat.le_of_ble_eq_true rfl)⟩)
      dsimp only [Pt.U, Pt.locs, Pt.cells, Pt.slots] at X451 l451 y451 z451 st451 hQ451
      subst l451 y451 z451
      obtain ⟨rfl, Nq451, K451⟩ := hQ451
      have N451 := Fr.app N445 Nq451
      have R452 : CHr Z EL_1 s.vm h0 s.vm T451.heap := R449.trans (CHr.keep K451 sf0 R449.1)
      have O453 : Old Z n0 T451.heap := (O450.keep K451 all0)
      have F454 : Fld Z T451.heap oE "java/util/Optional" "value" "Ljava/lang/Object;" .null := F_EMPTY.ext O453.2
      have F456 : Exa Z T451.heap oE "java/util/Optional" := E_EMPTY.ext O453.2
      obtain ⟨cq455, kq455, q455a, q455b, q455c⟩ := isOf hZ0 rfl F456
      obtain ⟨_, _, ⟨T455, L455, k455, n455⟩, -, X455, ⟨Lc455, hQ455, l455, y455, z455⟩, st455⟩ := X451.virtualBack hx (y := yn18) (z := yn18) hown0 (mvT hZ0 (w87 hw)) (mvT hZ0 (w88 hw)) (notFace_of_selects (args := #[]) (mvT hZ0 (w90 hw))) (mvT hZ0 (w90 hw)) (mvT hZ0 (w89 hw)) (by decide) (backOf (W := 0) (rm_isP0 l Z a0 hw [] oE T451.heap n0 (Nat.le_trans Z0 (Nat.le_trans K445.1 K451.1)) F454) hZ0 (w91 hw) (w72 hw) (by decide) (by decide)) q455a q455c (g := (mkF m 311 #[.val (.int sel), .val (.int pos), .val (.int ch), .val (.int len), .val (.int kq), .val (.int (4 : Int32)), .val (.int cz), .val (.int cy), .val (.int cx), .val (.ref r_446), .val (.int (-1 : Int32)), .val (.ref oE), .unset, .unset] [(.ref oE)])) rfl (by rw [hml]; rfl) (Steps.refl _) (argsL := []) (rest := []) (lenOf pd__28__29_Z rfl) rfl (by show 2 * 0 + _ ≤ _; exact Nat.le_of_eq rfl) (hb hby at_311) (fun _ _ => ⟨rfl, rfl, (Nat.le_of_ble_eq_true rfl), (Nat.le_of_ble_eq_true rfl)⟩)
      dsimp only [Pt.U, Pt.locs, Pt.cells, Pt.slots] at X455 l455 y455 z455 st455 hQ455
      subst l455 y455 z455
      obtain ⟨rfl, Nq455, eq455⟩ := hQ455
      have N455 := Fr.app N451 Nq455
      have W457 : ∀ zQ, SS p e below T455 m 322 #[.val (.int sel), .val (.int pos), .val (.int ch), .val (.int len), .val (.int kq), .val (.int (4 : Int32)), .val (.int cz), .val (.int cy), .val (.int cx), .val (.ref r_446), .val (.int (-1 : Int32)), .val (.ref oE), .unset, .unset] [(.int (1 : Int32))] zQ → Steps p.tables e below (s₁.setTop (entryFrame m #[(.int sel), (.int pos), (.int ch), (.int len)] maxLocals)) zQ := by
        intro tt kt
        refine W424 tt ?_
        refine XS.istore X0.here hx rfl (hb hby at_198) rfl (l' := #[.val (.int sel), .val (.int pos), .val (.int ch), .val (.int len), .val (.int kq), .val (.int (4 : Int32)), .val (.int cz), .val (.int cy), .val (.int cx), .unset, .unset, .val (.int (1 : Int32)), .unset, .unset]) rfl ?_
        refine XS.iload X0.here hx rfl (hb hby at_200) rfl ?_
        refine XS.ifYes X0.here hx rfl (pc0 := 202) (pc' := 220) rfl (hb hby at_202) rfl ((if0 _ _).trans (feq (by decide)).2) (by decide) (by decide) ?_
        refine XS.iload X0.here hx rfl (hb hby at_220) rfl ?_
        refine XS.iconst X0.here hx rfl (hb hby at_222) ?_
        refine XS.icmpNo X0.here hx rfl (hb hby at_223) rfl (teq (by decide)).2 ?_
        show SS p e below s₁ m 226 #[.val (.int sel), .val (.int pos), .val (.int ch), .val (.int len), .val (.int kq), .val (.int (4 : Int32)), .val (.int cz), .val (.int cy), .val (.int cx), .unset, .unset, .val (.int (1 : Int32)), .unset, .unset] [] _
        refine XS.iload X0.here hx rfl (hb hby at_226) rfl ?_
        show SS p e below s₁ m 228 #[.val (.int sel), .val (.int pos), .val (.int ch), .val (.int len), .val (.int kq), .val (.int (4 : Int32)), .val (.int cz), .val (.int cy), .val (.int cx), .unset, .unset, .val (.int (1 : Int32)), .unset, .unset] [(.int cz)] _
        refine st445 _ ?_
        refine XS.astore X445.here hx rfl (hb hby at_231) rfl rfl (l' := #[.val (.int sel), .val (.int pos), .val (.int ch), .val (.int len), .val (.int kq), .val (.int (4 : Int32)), .val (.int cz), .val (.int cy), .val (.int cx), .val (.ref r_446), .unset, .val (.int (1 : Int32)), .unset, .unset]) rfl ?_
        refine XS.goto X445.here hx rfl (pc0 := 233) (pc' := 294) rfl (hb hby at_233) (by decide) (by decide) ?_
        refine XS.iconst X445.here hx rfl (hb hby at_294) ?_
        refine XS.istore X445.here hx rfl (hb hby at_295) rfl (l' := #[.val (.int sel), .val (.int pos), .val (.int ch), .val (.int len), .val (.int kq), .val (.int (4 : Int32)), .val (.int cz), .val (.int cy), .val (.int cx), .val (.ref r_446), .val (.int (-1 : Int32)), .val (.int (1 : Int32)), .unset, .unset]) rfl ?_
        refine XS.aload X445.here hx rfl (hb hby at_297) rfl rfl ?_
        show SS p e below T445 m 299 #[.val (.int sel), .val (.int pos), .val (.int ch), .val (.int len), .val (.int kq), .val (.int (4 : Int32)), .val (.int cz), .val (.int cy), .val (.int cx), .val (.ref r_446), .val (.int (-1 : Int32)), .val (.int (1 : Int32)), .unset, .unset] [(.ref r_446)] _
        refine st451 _ ?_
        refine XS.astore X451.here hx rfl (hb hby at_302) rfl rfl (l' := #[.val (.int sel), .val (.int pos), .val (.int ch), .val (.int len), .val (.int kq), .val (.int (4 : Int32)), .val (.int cz), .val (.int cy), .val (.int cx), .val (.ref r_446), .val (.int (-1 : Int32)), .val (.ref oE), .unset, .unset]) rfl ?_
        refine XS.iload X451.here hx rfl (hb hby at_304) rfl ?_
        refine XS.ifNo X451.here hx rfl (hb hby at_306) rfl ((if0 _ _).trans (tlt (by decide)).2.1) ?_
        refine XS.aload X451.here hx rfl (hb hby at_309) rfl rfl ?_
        show SS p e below T451 m 311 #[.val (.int sel), .val (.int pos), .val (.int ch), .val (.int len), .val (.int kq), .val (.int (4 : Int32)), .val (.int cz), .val (.int cy), .val (.int cx), .val (.ref r_446), .val (.int (-1 : Int32)), .val (.ref oE), .unset, .unset] [(.ref oE)] _
        refine st455.trans ?_
        refine XS.ifNo X455.here hx rfl (hb hby at_314) rfl ((if0 _ _).trans (teq (by decide)).2) ?_
        refine XS.iconst X455.here hx rfl (hb hby at_317) ?_
        refine XS.goto X455.here hx rfl (pc0 := 318) (pc' := 322) rfl (hb hby at_318) (by decide) (by decide) ?_
        exact kt
      obtain ⟨fs, hr, hrun, hended, hRW⟩ := Jvm.Stand.leaveW X455 hS0 (by rw [eq455]; exact (Nat.le_trans hk0 (Nat.le_trans K445.1 K451.1))) (v := some (.int (nar .boolean (1 : Int32)))) (fun h => by rw [Bd.returns] at h; cases h) (BodyLoose.notSynchronized Bd)
      refine ⟨_, _, W457 _ (retN X455 hx (t := .boolean) Bd.returns (by simp) (hb hby at_322) hr), hrun, hended, _, _, rfl, ?_, own_chr (T := T455) R452 (CHv.at X455 hZ0 hEL R452.1) hh.symm eq455, own_rw hRW (by decide) (by decide)⟩
      show Q_law Z sel pos ch len o0 o1 o2 oV kV j0 v0 kv0 j1 v1 kv1 j2 v2 kv2 oE cS h0 n0 _ T455.heap _
      rw [eq455]
      exact ⟨rfl, N455, (Keep.trans (Keep.trans (Keep.refl h0 []) K445 all0) K451 all0)⟩
    ·
      obtain ⟨T458, h458, X458, e458, E458, A458, D458, U458, st458⟩ := newO X0 hx hZ0 hown0 (w2 hw) (w3 hw) (w4 hw) e0 (g := (mkF m 242 #[.val (.int sel), .val (.int pos), .val (.int ch), .val (.int len), .val (.int kq), .val (.int (4 : Int32)), .val (.int cz), .val (.int cy), .val (.int cx), .unset, .unset, .val (.int (2 : Int32)), .unset, .unset] [])) rfl (hb hby at_242) (by decide) (by decide)
      obtain ⟨b458, g458⟩ : ∃ z, z = h0.size := ⟨_, rfl⟩
      rw [← g458] at A458 D458 U458 st458
      have K458 := (Keep.refl h0 []).ext E458
      have R459 : CHr Z EL_1 s.vm h0 s.vm h458 := R0.trans (CHr.keep K458 sf0 R0.1)
      have G458_coder : Fld Z h458 b458 "java/lang/String" "coder" "B" (.int (0 : Int32)) := D458 (Or.inr (w33 hw)) (ty := .byte) (by decide)
      have G458_value : Fld Z h458 b458 "java/lang/String" "value" "[B" .null := D458 (Or.inr (w35 hw)) (ty := (.array .byte)) (by decide)
      obtain ⟨T460, h460, k460, X460, e460, E460, A460, st460⟩ := newP X458 hx hZ0 (aty := .char) (w9 hw) e458 (g := (mkF m 247 #[.val (.int sel), .val (.int pos), .val (.int ch), .val (.int len), .val (.int kq), .val (.int (4 : Int32)), .val (.int cz), .val (.int cy), .val (.int cx), .unset, .unset, .val (.int (2 : Int32)), .unset, .unset] [(.int (2 : Int32)), (.ref b458), (.ref b458)])) rfl (hb hby at_247) (n := (2 : Int32)) rfl (by decide) (cap := 2) (by decide) (by decide) (by decide) (by decide)
      obtain ⟨b460, g460⟩ : ∃ z, z = h458.size := ⟨_, rfl⟩
      rw [← g460] at A460 st460
      have K460 := (Keep.refl h458 []).ext E460
      have R461 : CHr Z EL_1 s.vm h0 s.vm h460 := R459.trans (CHr.keep K460 sf0 R459.1)
      have G460 : Arv Z h460 b460 k460 .char (2 : Int32) [(.int (0 : Int32)), (.int (0 : Int32))] (.int (0 : Int32)) := (Arv.new A460 (by decide)).pad (pad_rep [] (.int (0 : Int32)) 2)
      obtain ⟨cl462, Ar462, q462, S462, M462, H462, F462g⟩ := id G460
      have hin462 : ¬ ((0 : Int32) < 0 ∨ cl462.slots.size ≤ ((0 : Int32)).toNatClampNeg) := inb_of S462 ⟨by decide, by decide⟩
      obtain ⟨T462, h462, X462, e462, Wr462, st462⟩ := stC X460 hx hZ0 e460 Ar462 (j := (0 : Int32)) hin462 (g := (mkF m 253 #[.val (.int sel), .val (.int pos), .val (.int ch), .val (.int len), .val (.int kq), .val (.int (4 : Int32)), .val (.int cz), .val (.int cy), .val (.int cx), .unset, .unset, .val (.int (2 : Int32)), .unset, .unset] [(.int cz), (.int (0 : Int32)), (.ref b460), (.ref b460), (.ref b458), (.ref b458)])) rfl rfl (hb hby at_253)
      have G462 : Arv Z h462 b460 k460 .char (2 : Int32) [(.int (nar .char cz)), (.int (0 : Int32))] (.int (0 : Int32)) := Arv.set Ar462 q462 S462 M462 H462 F462g (fits_nar_char _) Wr462 0 rfl (Nat.le_of_ble_eq_true rfl)
      have K462 := Keep.of_wr Wr462
      have N462 := Fr.snoc X462 N0 (Nat.le_trans Z0 (Nat.le_trans K458.1 (Nat.le_of_eq g460.symm)))
      have R463 : CHr Z EL_1 s.vm h0 s.vm h462 := R461.trans (CHr.keep K462 (sfS (Safe.arv hZ0.alike G460 (by intro q; cases q)) sf0) R461.1)
      have J462 : Arv Z h462 b460 k460 .char (2 : Int32) [(.int cz), (.int (0 : Int32))] (.int (0 : Int32)) := by rw [own_nar8 hcz] at G462; exact G462
      obtain ⟨cl464, Ar464, q464, S464, M464, H464, F464g⟩ := id J462
      have hin464 : ¬ ((1 : Int32) < 0 ∨ cl464.slots.size ≤ ((1 : Int32)).toNatClampNeg) := inb_of S464 ⟨by decide, by decide⟩
      obtain ⟨T464, h464, X464, e464, Wr464, st464⟩ := stC X462 hx hZ0 e462 Ar464 (j := (1 : Int32)) hin464 (g := (mkF m 258 #[.val (.int sel), .val (.int pos), .val (.int ch), .val (.int len), .val (.int kq), .val (.int (4 : Int32)), .val (.int cz), .val (.int cy), .val (.int cx), .unset, .unset, .val (.int (2 : Int32)), .unset, .unset] [(.int cy), (.int (1 : Int32)), (.ref b460), (.ref b460), (.ref b458), (.ref b458)])) rfl rfl (hb hby at_258)
      have G464 : Arv Z h464 b460 k460 .char (2 : Int32) [(.int cz), (.int (nar .char cy))] (.int (0 : Int32)) := Arv.set Ar464 q464 S464 M464 H464 F464g (fits_nar_char _) Wr464 1 rfl (Nat.le_of_ble_eq_true rfl)
      have K464 := Keep.of_wr Wr464
      have N464 := Fr.snoc X464 N462 (Nat.le_trans Z0 (Nat.le_trans K458.1 (Nat.le_of_eq g460.symm)))
      have R465 : CHr Z EL_1 s.vm h0 s.vm h464 := R463.trans (CHr.keep K464 (sfS (Safe.arv hZ0.alike J462 (by intro q; cases q)) sf0) R463.1)
      have J464 : Arv Z h464 b460 k460 .char (2 : Int32) [(.int cz), (.int cy)] (.int (0 : Int32)) := by rw [own_nar8 hcy] at G464; exact G464
      have hk466 := own_okl (l := [cz, cy]) (own_b8a (l := [cz]) (own_b8a (l := []) (by simp) hcz) hcy) (Nat.le_of_ble_eq_true rfl)
      have F467 : Exa Z h464 b458 "java/lang/String" := (((A458.keep K460).keep K462).keep K464)
      have F468 : Fld Z h464 b458 "java/lang/String" "value" "[B" .null := (((G458_value.keep K460 nin0).keep K462 (ninS (Nat.ne_of_lt (Nat.lt_of_lt_of_le A458.lt (Nat.le_of_eq g460.symm))) nin0)).keep K464 (ninS (Nat.ne_of_lt (Nat.lt_of_lt_of_le A458.lt (Nat.le_of_eq g460.symm))) nin0))
      have F469 : Fld Z h464 b458 "java/lang/String" "coder" "B" (.int (0 : Int32)) := (((G458_coder.keep K460 nin0).keep K462 (ninS (Nat.ne_of_lt (Nat.lt_of_lt_of_le A458.lt (Nat.le_of_eq g460.symm))) nin0)).keep K464 (ninS (Nat.ne_of_lt (Nat.lt_of_lt_of_le A458.lt (Nat.le_of_eq g460.symm))) nin0))
      have O470 : Old Z n0 h464 := ((((O0.keep K458 all0).keep K460 all0).keep K462 (allS (Nat.le_trans Z0 (Nat.le_trans K458.1 (Nat.le_of_eq g460.symm))) all0)).keep K464 (allS (Nat.le_trans Z0 (Nat.le_trans K458.1 (Nat.le_of_eq g460.symm))) all0))
      obtain ⟨_, _, ⟨T471, L471, k471, n471⟩, -, X471, ⟨Lc471, hQ471, l471, y471, z471⟩, st471⟩ := X464.specialBack hx (y := yn4) rfl hown0 (mvT hZ0 (w10 hw)) (mvT hZ0 (w11 hw)) (mvT hZ0 (w12 hw)) (by decide) (backOf (W := 1) (rm_sinit l Z a0 hw [] b458 b460 k460 [cz, cy] cS h464 n0 (Nat.le_trans Z0 (Nat.le_trans (Nat.le_trans (Nat.le_trans K458.1 K460.1) K462.1) K464.1)) O470 S_cs hcS F467 F468 F469 (Nat.le_trans Z0 (Nat.le_of_eq g458.symm)) J464 hk466.1 (Nat.le_of_ble_eq_true rfl) (Nat.le_of_ble_eq_true rfl) (Nat.ne_of_lt (Nat.lt_of_lt_of_le A458.lt (Nat.le_of_eq g460.symm))) hk466.2) hZ0 (w12 hw) (w4 hw) (by decide) (by decide)) (g := (mkF m 259 #[.val (.int sel), .val (.int pos), .val (.int ch), .val (.int len), .val (.int kq), .val (.int (4 : Int32)), .val (.int cz), .val (.int cy), .val (.int cx), .unset, .unset, .val (.int (2 : Int32)), .unset, .unset] [(.ref b460), (.ref b458), (.ref b458)])) rfl (by rw [hml]; rfl) (Steps.refl _) (a := b458) (argsL := [(.ref b460)]) (rest := [(.ref b458)]) (lenOf pd__28__5b_C_29_V rfl) rfl (by show 2 * 0 + _ ≤ _; exact Nat.le_of_eq rfl) (hb hby at_259) (fun _ _ => ⟨rfl, e464, (Nat.le_of_ble_eq_true rfl), (Nat.le_of_ble_eq_true rfl)⟩)
      dsimp only [Pt.U, Pt.locs, Pt.cells, Pt.slots] at X471 l471 y471 z471 st471 hQ471
      subst l471 y471 z471
      obtain ⟨t_472, kb_473, rfl, Nq471, K471, P471_0, P471_1⟩ := hQ471
      have N471 := Fr.app N464 Nq471
      have Sf474 : Safe Z EL_1 s.vm h464 b458 := (Safe.keep K464 (sfS (Safe.arv hZ0.alike J462 (by intro q; cases q)) sf0) R463.1 (Safe.keep K462 (sfS (Safe.arv hZ0.alike G460 (by intro q; cases q)) sf0) R461.1 (Safe.keep K460 sf0 R459.1 (Safe.keep K458 sf0 R0.1 (Safe.new (Nat.le_of_eq g458.symm))))))
      have R475 : CHr Z EL_1 s.vm h0 s.vm T471.heap := R465.trans (CHr.keep K471 (sfS Sf474 sf0) R465.1)
      have O476 : Old Z n0 T471.heap := (O470.keep K471 (allS (Nat.le_trans Z0 (Nat.le_of_eq g458.symm)) all0))
      obtain ⟨_, _, ⟨T477, L477, k477, n477⟩, -, X477, ⟨Lc477, hQ477, l477, y477, z477⟩, st477⟩ := Jvm.LawKit.callS X471 hx (y := yn22) hown0 (mvT hZ0 (w36 hw)) (mvT hZ0 (w37 hw)) (mvT hZ0 (w38 hw)) (mvT hZ0 (w39 hw)) (by decide) (backOf (W := 0) (rm_of3 l Z a0 hw [] b458 t_472 kb_473 [cz, cy] o0 o1 o2 oV kV j0 v0 kv0 j1 v1 kv1 j2 v2 kv2 oE cS T471.heap n0 (Nat.le_trans Z0 (Nat.le_trans (Nat.le_trans (Nat.le_trans (Nat.le_trans K458.1 K460.1) K462.1) K464.1) K471.1)) O476 S_V S_0 S_1 S_2 E_V V_V E_0 Fj_0 Ej_0 Fc_0 Fv_0 Vv_0 E_1 Fj_1 Ej_1 Fc_1 Fv_1 Vv_1 E_2 Fj_2 Ej_2 Fc_2 Fv_2 Vv_2 S_EMPTY E_EMPTY F_EMPTY S_cs hcS P471_1 hk466.2 (Nat.le_trans Z0 (Nat.le_of_eq g458.symm)) (by simp [jn0]) (by simp [jn1]) (by simp [jn2])) hZ0 (w39 hw) (w38 hw) (by decide) (by decide)) (g := (mkF m 299 #[.val (.int sel), .val (.int pos), .val (.int ch), .val (.int len), .val (.int kq), .val (.int (4 : Int32)), .val (.int cz), .val (.int cy), .val (.int cx), .val (.ref b458), .val (.int (-1 : Int32)), .val (.int (2 : Int32)), .unset, .unset] [(.ref b458)])) rfl (by rw [hml]; rfl) (argsL := [(.ref b458)]) (rest := []) (lenOf pd__28_Ljava_2f_lang_2f_String_3b__29_Ljava_2f_util_2f_Optional_3b_ rfl) rfl (by show 2 * 0 + _ ≤ _; exact Nat.le_of_eq rfl) (hb hby at_299) (fun _ _ => ⟨rfl, rfl, (Nat.le_of_ble_eq_true rfl), (Nat.le_of_ble_eq_true rfl)⟩)
      dsimp only [Pt.U, Pt.locs, Pt.cells, Pt.slots] at X477 l477 y477 z477 st477 hQ477
      subst l477 y477 z477
      obtain ⟨rfl, Nq477, K477⟩ := hQ477
      have N477 := Fr.app N471 Nq477
      have R478 : CHr Z EL_1 s.vm h0 s.vm T477.heap := R475.trans (CHr.keep K477 sf0 R475.1)
      have O479 : Old Z n0 T477.heap := (O476.keep K477 all0)
      have F480 : Fld Z T477.heap oE "java/util/Optional" "value" "Ljava/lang/Object;" .null := F_EMPTY.ext O479.2
      have F482 : Exa Z T477.heap oE "java/util/Optional" := E_EMPTY.ext O479.2
      obtain ⟨cq481, kq481, q481a, q481b, q481c⟩ := isOf hZ0 rfl F482
      obtain ⟨_, _, ⟨T481, L481, k481, n481⟩, -, X481, ⟨Lc481, hQ481, l481, y481, z481⟩, st481⟩ := X477.virtualBack hx (y := yn18) (z := yn18) hown0 (mvT hZ0 (w87 hw)) (mvT hZ0 (w88 hw)) (notFace_of_selects (args := #[]) (mvT hZ0 (w90 hw))) (mvT hZ0 (w90 hw)) (mvT hZ0 (w89 hw)) (by decide) (backOf (W := 0) (rm_isP0 l Z a0 hw [] oE T477.heap n0 (Nat.le_trans Z0 (Nat.le_trans (Nat.le_trans (Nat.le_trans (Nat.le_trans (Nat.le_trans K458.1 K460.1) K462.1) K464.1) K471.1) K477.1)) F480) hZ0 (w91 hw) (w72 hw) (by decide) (by decide)) q481a q481c (g := (mkF m 311 #[.val (.int sel), .val (.int pos), .val (.int ch), .val (.int len), .val (.int kq), .val (.int (4 : Int32)), .val (.int cz), .val (.int cy), .val (.int cx), .val (.ref b458), .val (.int (-1 : Int32)), .val (.ref oE), .unset, .unset] [(.ref oE)])) rfl (by rw [hml]; rfl) (Steps.refl _) (argsL := []) (rest := []) (lenOf pd__28__29_Z rfl) rfl (by show 2 * 0 + _ ≤ _; exact Nat.le_of_eq rfl) (hb hby at_311) (fun _ _ => ⟨rfl, rfl, (Nat.le_of_ble_eq_true rfl), (Nat.le_of_ble_eq_true rfl)⟩)
      dsimp only [Pt.U, Pt.locs, Pt.cells, Pt.slots] at X481 l481 y481 z481 st481 hQ481
      subst l481 y481 z481
      obtain ⟨rfl, Nq481, eq481⟩ := hQ481
      have N481 := Fr.app N477 Nq481
      have W483 : ∀ zQ, SS p e below T481 m 322 #[.val (.int sel), .val (.int pos), .val (.int ch), .val (.int len), .val (.int kq), .val (.int (4 : Int32)), .val (.int cz), .val (.int cy), .val (.int cx), .val (.ref b458), .val (.int (-1 : Int32)), .val (.ref oE), .unset, .unset] [(.int (1 : Int32))] zQ → Steps p.tables e below (s₁.setTop (entryFrame m #[(.int sel), (.int pos), (.int ch), (.int len)] maxLocals)) zQ := by
        intro tt kt
        refine W424 tt ?_
        refine XS.istore X0.here hx rfl (hb hby at_198) rfl (l' := #[.val (.int sel), .val (.int pos), .val (.int ch), .val (.int len), .val (.int kq), .val (.int (4 : Int32)), .val (.int cz), .val (.int cy), .val (.int cx), .unset, .unset, .val (.int (2 : Int32)), .unset, .unset]) rfl ?_
        refine XS.iload X0.here hx rfl (hb hby at_200) rfl ?_
        refine XS.ifYes X0.here hx rfl (pc0 := 202) (pc' := 220) rfl (hb hby at_202) rfl ((if0 _ _).trans (feq (by decide)).2) (by decide) (by decide) ?_
        refine XS.iload X0.here hx rfl (hb hby at_220) rfl ?_
        refine XS.iconst X0.here hx rfl (hb hby at_222) ?_
        refine XS.icmpYes X0.here hx rfl (pc0 := 223) (pc' := 236) rfl (hb hby at_223) rfl (feq (by decide)).2 (by decide) (by decide) ?_
        show SS p e below s₁ m 236 #[.val (.int sel), .val (.int pos), .val (.int ch), .val (.int len), .val (.int kq), .val (.int (4 : Int32)), .val (.int cz), .val (.int cy), .val (.int cx), .unset, .unset, .val (.int (2 : Int32)), .unset, .unset] [] _
        refine XS.iload X0.here hx rfl (hb hby at_236) rfl ?_
        refine XS.iconst X0.here hx rfl (hb hby at_238) ?_
        refine XS.icmpNo X0.here hx rfl (hb hby at_239) rfl (teq (by decide)).2 ?_
        show SS p e below s₁ m 242 #[.val (.int sel), .val (.int pos), .val (.int ch), .val (.int len), .val (.int kq), .val (.int (4 : Int32)), .val (.int cz), .val (.int cy), .val (.int cx), .unset, .unset, .val (.int (2 : Int32)), .unset, .unset] [] _
        refine st458 _ ?_
        refine XS.dup X458.here hx rfl (hb hby at_245) rfl rfl ?_
        refine XS.iconst X458.here hx rfl (hb hby at_246) ?_
        show SS p e below T458 m 247 #[.val (.int sel), .val (.int pos), .val (.int ch), .val (.int len), .val (.int kq), .val (.int (4 : Int32)), .val (.int cz), .val (.int cy), .val (.int cx), .unset, .unset, .val (.int (2 : Int32)), .unset, .unset] [(.int (2 : Int32)), (.ref b458), (.ref b458)] _
        refine st460 _ ?_
        refine XS.dup X460.here hx rfl (hb hby at_249) rfl rfl ?_
        refine XS.iconst X460.here hx rfl (hb hby at_250) ?_
        refine XS.iload X460.here hx rfl (hb hby at_251) rfl ?_
        show SS p e below T460 m 253 #[.val (.int sel), .val (.int pos), .val (.int ch), .val (.int len), .val (.int kq), .val (.int (4 : Int32)), .val (.int cz), .val (.int cy), .val (.int cx), .unset, .unset, .val (.int (2 : Int32)), .unset, .unset] [(.int cz), (.int (0 : Int32)), (.ref b460), (.ref b460), (.ref b458), (.ref b458)] _
        refine st462 _ ?_
        refine XS.dup X462.here hx rfl (hb hby at_254) rfl rfl ?_
        refine XS.iconst X462.here hx rfl (hb hby at_255) ?_
        refine XS.iload X462.here hx rfl (hb hby at_256) rfl ?_
        show SS p e below T462 m 258 #[.val (.int sel), .val (.int pos), .val (.int ch), .val (.int len), .val (.int kq), .val (.int (4 : Int32)), .val (.int cz), .val (.int cy), .val (.int cx), .unset, .unset, .val (.int (2 : Int32)), .unset, .unset] [(.int cy), (.int (1 : Int32)), (.ref b460), (.ref b460), (.ref b458), (.ref b458)] _
        refine st464 _ ?_
        show SS p e below T464 m 259 #[.val (.int sel), .val (.int pos), .val (.int ch), .val (.int len), .val (.int kq), .val (.int (4 : Int32)), .val (.int cz), .val (.int cy), .val (.int cx), .unset, .unset, .val (.int (2 : Int32)), .unset, .unset] [(.ref b460), (.ref b458), (.ref b458)] _
        refine st471.trans ?_
        refine XS.astore X471.here hx rfl (hb hby at_262) rfl rfl (l' := #[.val (.int sel), .val (.int pos), .val (.int ch), .val (.int len), .val (.int kq), .val (.int (4 : Int32)), .val (.int cz), .val (.int cy), .val (.int cx), .val (.ref b458), .unset, .val (.int (2 : Int32)), .unset, .unset]) rfl ?_
        refine XS.goto X471.here hx rfl (pc0 := 264) (pc' := 294) rfl (hb hby at_264) (by decide) (by decide) ?_
        refine XS.iconst X471.here hx rfl (hb hby at_294) ?_
        refine XS.istore X471.here hx rfl (hb hby at_295) rfl (l' := #[.val (.int sel), .val (.int pos), .val (.int ch), .val (.int len), .val (.int kq), .val (.int (4 : Int32)), .val (.int cz), .val (.int cy), .val (.int cx), .val (.ref b458), .val (.int (-1 : Int32)), .val (.int (2 : Int32)), .unset, .unset]) rfl ?_
        refine XS.aload X471.here hx rfl (hb hby at_297) rfl rfl ?_
        show SS p e below T471 m 299 #[.val (.int sel), .val (.int pos), .val (.int ch), .val (.int len), .val (.int kq), .val (.int (4 : Int32)), .val (.int cz), .val (.int cy), .val (.int cx), .val (.ref b458), .val (.int (-1 : Int32)), .val (.int (2 : Int32)), .unset, .unset] [(.ref b458)] _
        refine st477 _ ?_
        refine XS.astore X477.here hx rfl (hb hby at_302) rfl rfl (l' := #[.val (.int sel), .val (.int pos), .val (.int ch), .val (.int len), .val (.int kq), .val (.int (4 : Int32)), .val (.int cz), .val (.int cy), .val (.int cx), .val (.ref b458), .val (.int (-1 : Int32)), .val (.ref oE), .unset, .unset]) rfl ?_
        refine XS.iload X477.here hx rfl (hb hby at_304) rfl ?_
        refine XS.ifNo X477.here hx rfl (hb hby at_306) rfl ((if0 _ _).trans (tlt (by decide)).2.1) ?_
        refine XS.aload X477.here hx rfl (hb hby at_309) rfl rfl ?_
        show SS p e below T477 m 311 #[.val (.int sel), .val (.int pos), .val (.int ch), .val (.int len), .val (.int kq), .val (.int (4 : Int32)), .val (.int cz), .val (.int cy), .val (.int cx), .val (.ref b458), .val (.int (-1 : Int32)), .val (.ref oE), .unset, .unset] [(.ref oE)] _
        refine st481.trans ?_
        refine XS.ifNo X481.here hx rfl (hb hby at_314) rfl ((if0 _ _).trans (teq (by decide)).2) ?_
        refine XS.iconst X481.here hx rfl (hb hby at_317) ?_
        refine XS.goto X481.here hx rfl (pc0 := 318) (pc' := 322) rfl (hb hby at_318) (by decide) (by decide) ?_
        exact kt
      obtain ⟨fs, hr, hrun, hended, hRW⟩ := Jvm.Stand.leaveW X481 hS0 (by rw [eq481]; exact (Nat.le_trans hk0 (Nat.le_trans (Nat.le_trans (Nat.le_trans (Nat.le_trans (Nat.le_trans K458.1 K460.1) K462.1) K464.1) K471.1) K477.1))) (v := some (.int (nar .boolean (1 : Int32)))) (fun h => by rw [Bd.returns] at h; cases h) (BodyLoose.notSynchronized Bd)
      refine ⟨_, _, W483 _ (retN X481 hx (t := .boolean) Bd.returns (by simp) (hb hby at_322) hr), hrun, hended, _, _, rfl, ?_, own_chr (T := T481) R478 (CHv.at X481 hZ0 hEL R478.1) hh.symm eq481, own_rw hRW (by decide) (by decide)⟩
      show Q_law Z sel pos ch len o0 o1 o2 oV kV j0 v0 kv0 j1 v1 kv1 j2 v2 kv2 oE cS h0 n0 _ T481.heap _
      rw [eq481]
      exact ⟨rfl, N481, (Keep.trans (Keep.trans (Keep.trans (Keep.trans (Keep.trans (Keep.trans (Keep.refl h0 []) K458 all0) K460 all0) K462 (allS (Or.inr (Nat.le_trans K458.1 (Nat.le_of_eq g460.symm))) all0)) K464 (allS (Or.inr (Nat.le_trans K458.1 (Nat.le_of_eq g460.symm))) all0)) K471 (allS (Or.inr (Nat.le_of_eq g458.symm)) all0)) K477 all0)⟩
    ·
      obtain ⟨T484, h484, X484, e484, E484, A484, D484, U484, st484⟩ := newO X0 hx hZ0 hown0 (w2 hw) (w3 hw) (w4 hw) e0 (g := (mkF m 267 #[.val (.int sel), .val (.int pos), .val (.int ch), .val (.int len), .val (.int kq), .val (.int (4 : Int32)), .val (.int cz), .val (.int cy), .val (.int cx), .unset, .unset, .val (.int (3 : Int32)), .unset, .unset] [])) rfl (hb hby at_267) (by decide) (by decide)
      obtain ⟨b484, g484⟩ : ∃ z, z = h0.size := ⟨_, rfl⟩
      rw [← g484] at A484 D484 U484 st484
      have K484 := (Keep.refl h0 []).ext E484
      have R485 : CHr Z EL_1 s.vm h0 s.vm h484 := R0.trans (CHr.keep K484 sf0 R0.1)
      have G484_coder : Fld Z h484 b484 "java/lang/String" "coder" "B" (.int (0 : Int32)) := D484 (Or.inr (w33 hw)) (ty := .byte) (by decide)
      have G484_value : Fld Z h484 b484 "java/lang/String" "value" "[B" .null := D484 (Or.inr (w35 hw)) (ty := (.array .byte)) (by decide)
      obtain ⟨T486, h486, k486, X486, e486, E486, A486, st486⟩ := newP X484 hx hZ0 (aty := .char) (w9 hw) e484 (g := (mkF m 272 #[.val (.int sel), .val (.int pos), .val (.int ch), .val (.int len), .val (.int kq), .val (.int (4 : Int32)), .val (.int cz), .val (.int cy), .val (.int cx), .unset, .unset, .val (.int (3 : Int32)), .unset, .unset] [(.int (3 : Int32)), (.ref b484), (.ref b484)])) rfl (hb hby at_272) (n := (3 : Int32)) rfl (by decide) (cap := 3) (by decide) (by decide) (by decide) (by decide)
      obtain ⟨b486, g486⟩ : ∃ z, z = h484.size := ⟨_, rfl⟩
      rw [← g486] at A486 st486
      have K486 := (Keep.refl h484 []).ext E486
      have R487 : CHr Z EL_1 s.vm h0 s.vm h486 := R485.trans (CHr.keep K486 sf0 R485.1)
      have G486 : Arv Z h486 b486 k486 .char (3 : Int32) [(.int (0 : Int32)), (.int (0 : Int32)), (.int (0 : Int32))] (.int (0 : Int32)) := (Arv.new A486 (by decide)).pad (pad_rep [] (.int (0 : Int32)) 3)
      obtain ⟨cl488, Ar488, q488, S488, M488, H488, F488g⟩ := id G486
      have hin488 : ¬ ((0 : Int32) < 0 ∨ cl488.slots.size ≤ ((0 : Int32)).toNatClampNeg) := inb_of S488 ⟨by decide, by decide⟩
      obtain ⟨T488, h488, X488, e488, Wr488, st488⟩ := stC X486 hx hZ0 e486 Ar488 (j := (0 : Int32)) hin488 (g := (mkF m 278 #[.val (.int sel), .val (.int pos), .val (.int ch), .val (.int len), .val (.int kq), .val (.int (4 : Int32)), .val (.int cz), .val (.int cy), .val (.int cx), .unset, .unset, .val (.int (3 : Int32)), .unset, .unset] [(.int cz), (.int (0 : Int32)), (.ref b486), (.ref b486), (.ref b484), (.ref b484)])) rfl rfl (hb hby at_278)
      have G488 : Arv Z h488 b486 k486 .char (3 : Int32) [(.int (nar .char cz)), (.int (0 : Int32)), (.int (0 : Int32))] (.int (0 : Int32)) := Arv.set Ar488 q488 S488 M488 H488 F488g (fits_nar_char _) Wr488 0 rfl (Nat.le_of_ble_eq_true rfl)
      have K488 := Keep.of_wr Wr488
      have N488 := Fr.snoc X488 N0 (Nat.le_trans Z0 (Nat.le_trans K484.1 (Nat.le_of_eq g486.symm)))
      have R489 : CHr Z EL_1 s.vm h0 s.vm h488 := R487.trans (CHr.keep K488 (sfS (Safe.arv hZ0.alike G486 (by intro q; cases q)) sf0) R487.1)
      have J488 : Arv Z h488 b486 k486 .char (3 : Int32) [(.int cz), (.int (0 : Int32)), (.int (0 : Int32))] (.int (0 : Int32)) := by rw [own_nar8 hcz] at G488; exact G488
      obtain ⟨cl490, Ar490, q490, S490, M490, H490, F490g⟩ := id J488
      have hin490 : ¬ ((1 : Int32) < 0 ∨ cl490.slots.size ≤ ((1 : Int32)).toNatClampNeg) := inb_of S490 ⟨by decide, by decide⟩
      obtain ⟨T490, h490, X490, e490, Wr490, st490⟩ := stC X488 hx hZ0 e488 Ar490 (j := (1 : Int32)) hin490 (g := (mkF m 283 #[.val (.int sel), .val (.int pos), .val (.int ch), .val (.int len), .val (.int kq), .val (.int (4 : Int32)), .val (.int cz), .val (.int cy), .val (.int cx), .unset, .unset, .val (.int (3 : Int32)), .unset, .unset] [(.int cy), (.int (1 : Int32)), (.ref b486), (.ref b486), (.ref b484), (.ref b484)])) rfl rfl (hb hby at_283)
      have G490 : Arv Z h490 b486 k486 .char (3 : Int32) [(.int cz), (.int (nar .char cy)), (.int (0 : Int32))] (.int (0 : Int32)) := Arv.set Ar490 q490 S490 M490 H490 F490g (fits_nar_char _) Wr490 1 rfl (Nat.le_of_ble_eq_true rfl)
      have K490 := Keep.of_wr Wr490
      have N490 := Fr.snoc X490 N488 (Nat.le_trans Z0 (Nat.le_trans K484.1 (Nat.le_of_eq g486.symm)))
      have R491 : CHr Z EL_1 s.vm h0 s.vm h490 := R489.trans (CHr.keep K490 (sfS (Safe.arv hZ0.alike J488 (by intro q; cases q)) sf0) R489.1)
      have J490 : Arv Z h490 b486 k486 .char (3 : Int32) [(.int cz), (.int cy), (.int (0 : Int32))] (.int (0 : Int32)) := by rw [own_nar8 hcy] at G490; exact G490
      obtain ⟨cl492, Ar492, q492, S492, M492, H492, F492g⟩ := id J490
      have hin492 : ¬ ((2 : Int32) < 0 ∨ cl492.slots.size ≤ ((2 : Int32)).toNatClampNeg) := inb_of S492 ⟨by decide, by decide⟩
      obtain ⟨T492, h492, X492, e492, Wr492, st492⟩ := stC X490 hx hZ0 e490 Ar492 (j := (2 : Int32)) hin492 (g := (mkF m 288 #[.val (.int sel), .val (.int pos), .val (.int ch), .val (.int len), .val (.int kq), .val (.int (4 : Int32)), .val (.int cz), .val (.int cy), .val (.int cx), .unset, .unset, .val (.int (3 : Int32)), .unset, .unset] [(.int cx), (.int (2 : Int32)), (.ref b486), (.ref b486), (.ref b484), (.ref b484)])) rfl rfl (hb hby at_288)
      have G492 : Arv Z h492 b486 k486 .char (3 : Int32) [(.int cz), (.int cy), (.int (nar .char cx))] (.int (0 : Int32)) := Arv.set Ar492 q492 S492 M492 H492 F492g (fits_nar_char _) Wr492 2 rfl (Nat.le_of_ble_eq_true rfl)
      have K492 := Keep.of_wr Wr492
      have N492 := Fr.snoc X492 N490 (Nat.le_trans Z0 (Nat.le_trans K484.1 (Nat.le_of_eq g486.symm)))
      have R493 : CHr Z EL_1 s.vm h0 s.vm h492 := R491.trans (CHr.keep K492 (sfS (Safe.arv hZ0.alike J490 (by intro q; cases q)) sf0) R491.1)
      have J492 : Arv Z h492 b486 k486 .char (3 : Int32) [(.int cz), (.int cy), (.int cx)] (.int (0 : Int32)) := by rw [own_nar8 hcx] at G492; exact G492
      have hk494 := own_okl (l := [cz, cy, cx]) (own_b8a (l := [cz, cy]) (own_b8a (l := [cz]) (own_b8a (l := []) (by simp) hcz) hcy) hcx) (Nat.le_of_ble_eq_true rfl)
      have F495 : Exa Z h492 b484 "java/lang/String" := ((((A484.keep K486).keep K488).keep K490).keep K492)
      have F496 : Fld Z h492 b484 "java/lang/String" "value" "[B" .null := ((((G484_value.keep K486 nin0).keep K488 (ninS (Nat.ne_of_lt (Nat.lt_of_lt_of_le A484.lt (Nat.le_of_eq g486.symm))) nin0)).keep K490 (ninS (Nat.ne_of_lt (Nat.lt_of_lt_of_le A484.lt (Nat.le_of_eq g486.symm))) nin0)).keep K492 (ninS (Nat.ne_of_lt (Nat.lt_of_lt_of_le A484.lt (Nat.le_of_eq g486.symm))) nin0))
      have F497 : Fld Z h492 b484 "java/lang/String" "coder" "B" (.int (0 : Int32)) := ((((G484_coder.keep K486 nin0).keep K488 (ninS (Nat.ne_of_lt (Nat.lt_of_lt_of_le A484.lt (Nat.le_of_eq g486.symm))) nin0)).keep K490 (ninS (Nat.ne_of_lt (Nat.lt_of_lt_of_le A484.lt (Nat.le_of_eq g486.symm))) nin0)).keep K492 (ninS (Nat.ne_of_lt (Nat.lt_of_lt_of_le A484.lt (Nat.le_of_eq g486.symm))) nin0))
      have O498 : Old Z n0 h492 := (((((O0.keep K484 all0).keep K486 all0).keep K488 (allS (Nat.le_trans Z0 (Nat.le_trans K484.1 (Nat.le_of_eq g486.symm))) all0)).keep K490 (allS (Nat.le_trans Z0 (Nat.le_trans K484.1 (Nat.le_of_eq g486.symm))) all0)).keep K492 (allS (Nat.le_trans Z0 (Nat.le_trans K484.1 (Nat.le_of_eq g486.symm))) all0))
      obtain ⟨_, _, ⟨T499, L499, k499, n499⟩, -, X499, ⟨Lc499, hQ499, l499, y499, z499⟩, st499⟩ := X492.specialBack hx (y := yn4) rfl hown0 (mvT hZ0 (w10 hw)) (mvT hZ0 (w11 hw)) (mvT hZ0 (w12 hw)) (by decide) (backOf (W := 1) (rm_sinit l Z a0 hw [] b484 b486 k486 [cz, cy, cx] cS h492 n0 (Nat.le_trans Z0 (Nat.le_trans (Nat.le_trans (Nat.le_trans (Nat.le_trans K484.1 K486.1) K488.1) K490.1) K492.1)) O498 S_cs hcS F495 F496 F497 (Nat.le_trans Z0 (Nat.le_of_eq g484.symm)) J492 hk494.1 (Nat.le_of_ble_eq_true rfl) (Nat.le_of_ble_eq_true rfl) (Nat.ne_of_lt (Nat.lt_of_lt_of_le A484.lt (Nat.le_of_eq g486.symm))) hk494.2) hZ0 (w12 hw) (w4 hw) (by decide) (by decide)) (g := (mkF m 289 #[.val (.int sel), .val (.int pos), .val (.int ch), .val (.int len), .val (.int kq), .val (.int (4 : Int32)), .val (.int cz), .val (.int cy), .val (.int cx), .unset, .unset, .val (.int (3 : Int32)), .unset, .unset] [(.ref b486), (.ref b484), (.ref b484)])) rfl (by rw [hml]; rfl) (Steps.refl _) (a := b484) (argsL := [(.ref b486)]) (rest := [(.ref b484)]) (lenOf pd__28__5b_C_29_V rfl) rfl (by show 2 * 0 + _ ≤ _; exact Nat.le_of_eq rfl) (hb hby at_289) (fun _ _ => ⟨rfl, e492, (Nat.le_of_ble_eq_true rfl), (Nat.le_of_ble_eq_true rfl)⟩)
      dsimp only [Pt.U, Pt.locs, Pt.cells, Pt.slots] at X499 l499 y499 z499 st499 hQ499
      subst l499 y499 z499
      obtain ⟨t_500, kb_501, rfl, Nq499, K499, P499_0, P499_1⟩ := hQ499
      have N499 := Fr.app N492 Nq499
      have Sf502 : Safe Z EL_1 s.vm h492 b484 := (Safe.keep K492 (sfS (Safe.arv hZ0.alike J490 (by intro q; cases q)) sf0) R491.1 (Safe.keep K490 (sfS (Safe.arv hZ0.alike J488 (by intro q; cases q)) sf0) R489.1 (Safe.keep K488 (sfS (Safe.arv hZ0.alike G486 (by intro q; cases q)) sf0) R487.1 (Safe.keep K486 sf0 R485.1 (Safe.keep K484 sf0 R0.1 (Safe.new (Nat.le_of_eq g484.symm)))))))
      have R503 : CHr Z EL_1 s.vm h0 s.vm T499.heap := R493.trans (CHr.keep K499 (sfS Sf502 sf0) R493.1)
      have O504 : Old Z n0 T499.heap := (O498.keep K499 (allS (Nat.le_trans Z0 (Nat.le_of_eq g484.symm)) all0))
      obtain ⟨_, _, ⟨T505, L505, k505, n505⟩, -, X505, ⟨Lc505, hQ505, l505, y505, z505⟩, st505⟩ := Jvm.LawKit.callS X499 hx (y := yn22) hown0 (mvT hZ0 (w36 hw)) (mvT hZ0 (w37 hw)) (mvT hZ0 (w38 hw)) (mvT hZ0 (w39 hw)) (by decide) (backOf (W := 0) (rm_of3 l Z a0 hw [] b484 t_500 kb_501 [cz, cy, cx] o0 o1 o2 oV kV j0 v0 kv0 j1 v1 kv1 j2 v2 kv2 oE cS T499.heap n0 (Nat.le_trans Z0 (Nat.le_trans (Nat.le_trans (Nat.le_trans (Nat.le_trans (Nat.le_trans K484.1 K486.1) K488.1) K490.1) K492.1) K499.1)) O504 S_V S_0 S_1 S_2 E_V V_V E_0 Fj_0 Ej_0 Fc_0 Fv_0 Vv_0 E_1 Fj_1 Ej_1 Fc_1 Fv_1 Vv_1 E_2 Fj_2 Ej_2 Fc_2 Fv_2 Vv_2 S_EMPTY E_EMPTY F_EMPTY S_cs hcS P499_1 hk494.2 (Nat.le_trans Z0 (Nat.le_of_eq g484.symm)) (by simp [jn0]) (by simp [jn1]) (by simp [jn2])) hZ0 (w39 hw) (w38 hw) (by decide) (by decide)) (g := (mkF m 299 #[.val (.int sel), .val (.int pos), .val (.int ch), .val (.int len), .val (.int kq), .val (.int (4 : Int32)), .val (.int cz), .val (.int cy), .val (.int cx), .val (.ref b484), .val (.int (-1 : Int32)), .val (.int (3 : Int32)), .unset, .unset] [(.ref b484)])) rfl (by rw [hml]; rfl) (argsL := [(.ref b484)]) (rest := []) (lenOf pd__28_Ljava_2f_lang_2f_String_3b__29_Ljava_2f_util_2f_Optional_3b_ rfl) rfl (by show 2 * 0 + _ ≤ _; exact Nat.le_of_eq rfl) (hb hby at_299) (fun _ _ => ⟨rfl, rfl, (Nat.le_of_ble_eq_true rfl), (Nat.le_of_ble_eq_true rfl)⟩)
      dsimp only [Pt.U, Pt.locs, Pt.cells, Pt.slots] at X505 l505 y505 z505 st505 hQ505
      subst l505 y505 z505
      obtain ⟨rfl, Nq505, K505⟩ := hQ505
      have N505 := Fr.app N499 Nq505
      have R506 : CHr Z EL_1 s.vm h0 s.vm T505.heap := R503.trans (CHr.keep K505 sf0 R503.1)
      have O507 : Old Z n0 T505.heap := (O504.keep K505 all0)
      have F508 : Fld Z T505.heap oE "java/util/Optional" "value" "Ljava/lang/Object;" .null := F_EMPTY.ext O507.2
      have F510 : Exa Z T505.heap oE "java/util/Optional" := E_EMPTY.ext O507.2
      obtain ⟨cq509, kq509, q509a, q509b, q509c⟩ := isOf hZ0 rfl F510
      obtain ⟨_, _, ⟨T509, L509, k509, n509⟩, -, X509, ⟨Lc509, hQ509, l509, y509, z509⟩, st509⟩ := X505.virtualBack hx (y := yn18) (z := yn18) hown0 (mvT hZ0 (w87 hw)) (mvT hZ0 (w88 hw)) (notFace_of_selects (args := #[]) (mvT hZ0 (w90 hw))) (mvT hZ0 (w90 hw)) (mvT hZ0 (w89 hw)) (by decide) (backOf (W := 0) (rm_isP0 l Z a0 hw [] oE T505.heap n0 (Nat.le_trans Z0 (Nat.le_trans (Nat.le_trans (Nat.le_trans (Nat.le_trans (Nat.le_trans (Nat.le_trans K484.1 K486.1) K488.1) K490.1) K492.1) K499.1) K505.1)) F508) hZ0 (w91 hw) (w72 hw) (by decide) (by decide)) q509a q509c (g := (mkF m 311 #[.val (.int sel), .val (.int pos), .val (.int ch), .val (.int len), .val (.int kq), .val (.int (4 : Int32)), .val (.int cz), .val (.int cy), .val (.int cx), .val (.ref b484), .val (.int (-1 : Int32)), .val (.ref oE), .unset, .unset] [(.ref oE)])) rfl (by rw [hml]; rfl) (Steps.refl _) (argsL := []) (rest := []) (lenOf pd__28__29_Z rfl) rfl (by show 2 * 0 + _ ≤ _; exact Nat.le_of_eq rfl) (hb hby at_311) (fun _ _ => ⟨rfl, rfl, (Nat.le_of_ble_eq_true rfl), (Nat.le_of_ble_eq_true rfl)⟩)
      dsimp only [Pt.U, Pt.locs, Pt.cells, Pt.slots] at X509 l509 y509 z509 st509 hQ509
      subst l509 y509 z509
      obtain ⟨rfl, Nq509, eq509⟩ := hQ509
      have N509 := Fr.app N505 Nq509
      have W511 : ∀ zQ, SS p e below T509 m 322 #[.val (.int sel), .val (.int pos), .val (.int ch), .val (.int len), .val (.int kq), .val (.int (4 : Int32)), .val (.int cz), .val (.int cy), .val (.int cx), .val (.ref b484), .val (.int (-1 : Int32)), .val (.ref oE), .unset, .unset] [(.int (1 : Int32))] zQ → Steps p.tables e below (s₁.setTop (entryFrame m #[(.int sel), (.int pos), (.int ch), (.int len)] maxLocals)) zQ := by
        intro tt kt
        refine W424 tt ?_
        refine XS.istore X0.here hx rfl (hb hby at_198) rfl (l' := #[.val (.int sel), .val (.int pos), .val (.int ch), .val (.int len), .val (.int kq), .val (.int (4 : Int32)), .val (.int cz), .val (.int cy), .val (.int cx), .unset, .unset, .val (.int (3 : Int32)), .unset, .unset]) rfl ?_
        refine XS.iload X0.here hx rfl (hb hby at_200) rfl ?_
        refine XS.ifYes X0.here hx rfl (pc0 := 202) (pc' := 220) rfl (hb hby at_202) rfl ((if0 _ _).trans (feq (by decide)).2) (by decide) (by decide) ?_
        refine XS.iload X0.here hx rfl (hb hby at_220) rfl ?_
        refine XS.iconst X0.here hx rfl (hb hby at_222) ?_
        refine XS.icmpYes X0.here hx rfl (pc0 := 223) (pc' := 236) rfl (hb hby at_223) rfl (feq (by decide)).2 (by decide) (by decide) ?_
        show SS p e below s₁ m 236 #[.val (.int sel), .val (.int pos), .val (.int ch), .val (.int len), .val (.int kq), .val (.int (4 : Int32)), .val (.int cz), .val (.int cy), .val (.int cx), .unset, .unset, .val (.int (3 : Int32)), .unset, .unset] [] _
        refine XS.iload X0.here hx rfl (hb hby at_236) rfl ?_
        refine XS.iconst X0.here hx rfl (hb hby at_238) ?_
        refine XS.icmpYes X0.here hx rfl (pc0 := 239) (pc' := 267) rfl (hb hby at_239) rfl (feq (by decide)).2 (by decide) (by decide) ?_
        show SS p e below s₁ m 267 #[.val (.int sel), .val (.int pos), .val (.int ch), .val (.int len), .val (.int kq), .val (.int (4 : Int32)), .val (.int cz), .val (.int cy), .val (.int cx), .unset, .unset, .val (.int (3 : Int32)), .unset, .unset] [] _
        refine st484 _ ?_
        refine XS.dup X484.here hx rfl (hb hby at_270) rfl rfl ?_
        refine XS.iconst X484.here hx rfl (hb hby at_271) ?_
        show SS p e below T484 m 272 #[.val (.int sel), .val (.int pos), .val (.int ch), .val (.int len), .val (.int kq), .val (.int (4 : Int32)), .val (.int cz), .val (.int cy), .val (.int cx), .unset, .unset, .val (.int (3 : Int32)), .unset, .unset] [(.int (3 : Int32)), (.ref b484), (.ref b484)] _
        refine st486 _ ?_
        refine XS.dup X486.here hx rfl (hb hby at_274) rfl rfl ?_
        refine XS.iconst X486.here hx rfl (hb hby at_275) ?_
        refine XS.iload X486.here hx rfl (hb hby at_276) rfl ?_
        show SS p e below T486 m 278 #[.val (.int sel), .val (.int pos), .val (.int ch), .val (.int len), .val (.int kq), .val (.int (4 : Int32)), .val (.int cz), .val (.int cy), .val (.int cx), .unset, .unset, .val (.int (3 : Int32)), .unset, .unset] [(.int cz), (.int (0 : Int32)), (.ref b486), (.ref b486), (.ref b484), (.ref b484)] _
        refine st488 _ ?_
        refine XS.dup X488.here hx rfl (hb hby at_279) rfl rfl ?_
        refine XS.iconst X488.here hx rfl (hb hby at_280) ?_
        refine XS.iload X488.here hx rfl (hb hby at_281) rfl ?_
        show SS p e below T488 m 283 #[.val (.int sel), .val (.int pos), .val (.int ch), .val (.int len), .val (.int kq), .val (.int (4 : Int32)), .val (.int cz), .val (.int cy), .val (.int cx), .unset, .unset, .val (.int (3 : Int32)), .unset, .unset] [(.int cy), (.int (1 : Int32)), (.ref b486), (.ref b486), (.ref b484), (.ref b484)] _
        refine st490 _ ?_
        refine XS.dup X490.here hx rfl (hb hby at_284) rfl rfl ?_
        refine XS.iconst X490.here hx rfl (hb hby at_285) ?_
        refine XS.iload X490.here hx rfl (hb hby at_286) rfl ?_
        show SS p e below T490 m 288 #[.val (.int sel), .val (.int pos), .val (.int ch), .val (.int len), .val (.int kq), .val (.int (4 : Int32)), .val (.int cz), .val (.int cy), .val (.int cx), .unset, .unset, .val (.int (3 : Int32)), .unset, .unset] [(.int cx), (.int (2 : Int32)), (.ref b486), (.ref b486), (.ref b484), (.ref b484)] _
        refine st492 _ ?_
        show SS p e below T492 m 289 #[.val (.int sel), .val (.int pos), .val (.int ch), .val (.int len), .val (.int kq), .val (.int (4 : Int32)), .val (.int cz), .val (.int cy), .val (.int cx), .unset, .unset, .val (.int (3 : Int32)), .unset, .unset] [(.ref b486), (.ref b484), (.ref b484)] _
        refine st499.trans ?_
        refine XS.astore X499.here hx rfl (hb hby at_292) rfl rfl (l' := #[.val (.int sel), .val (.int pos), .val (.int ch), .val (.int len), .val (.int kq), .val (.int (4 : Int32)), .val (.int cz), .val (.int cy), .val (.int cx), .val (.ref b484), .unset, .val (.int (3 : Int32)), .unset, .unset]) rfl ?_
        refine XS.iconst X499.here hx rfl (hb hby at_294) ?_
        refine XS.istore X499.here hx rfl (hb hby at_295) rfl (l' := #[.val (.int sel), .val (.int pos), .val (.int ch), .val (.int len), .val (.int kq), .val (.int (4 : Int32)), .val (.int cz), .val (.int cy), .val (.int cx), .val (.ref b484), .val (.int (-1 : Int32)), .val (.int (3 : Int32)), .unset, .unset]) rfl ?_
        refine XS.aload X499.here hx rfl (hb hby at_297) rfl rfl ?_
        show SS p e below T499 m 299 #[.val (.int sel), .val (.int pos), .val (.int ch), .val (.int len), .val (.int kq), .val (.int (4 : Int32)), .val (.int cz), .val (.int cy), .val (.int cx), .val (.ref b484), .val (.int (-1 : Int32)), .val (.int (3 : Int32)), .unset, .unset] [(.ref b484)] _
        refine st505 _ ?_
        refine XS.astore X505.here hx rfl (hb hby at_302) rfl rfl (l' := #[.val (.int sel), .val (.int pos), .val (.int ch), .val (.int len), .val (.int kq), .val (.int (4 : Int32)), .val (.int cz), .val (.int cy), .val (.int cx), .val (.ref b484), .val (.int (-1 : Int32)), .val (.ref oE), .unset, .unset]) rfl ?_
        refine XS.iload X505.here hx rfl (hb hby at_304) rfl ?_
        refine XS.ifNo X505.here hx rfl (hb hby at_306) rfl ((if0 _ _).trans (tlt (by decide)).2.1) ?_
        refine XS.aload X505.here hx rfl (hb hby at_309) rfl rfl ?_
        show SS p e below T505 m 311 #[.val (.int sel), .val (.int pos), .val (.int ch), .val (.int len), .val (.int kq), .val (.int (4 : Int32)), .val (.int cz), .val (.int cy), .val (.int cx), .val (.ref b484), .val (.int (-1 : Int32)), .val (.ref oE), .unset, .unset] [(.ref oE)] _
        refine st509.trans ?_
        refine XS.ifNo X509.here hx rfl (hb hby at_314) rfl ((if0 _ _).trans (teq (by decide)).2) ?_
        refine XS.iconst X509.here hx rfl (hb hby at_317) ?_
        refine XS.goto X509.here hx rfl (pc0 := 318) (pc' := 322) rfl (hb hby at_318) (by decide) (by decide) ?_
        exact kt
      obtain ⟨fs, hr, hrun, hended, hRW⟩ := Jvm.Stand.leaveW X509 hS0 (by rw [eq509]; exact (Nat.le_trans hk0 (Nat.le_trans (Nat.le_trans (Nat.le_trans (Nat.le_trans (Nat.le_trans (Nat.le_trans K484.1 K486.1) K488.1) K490.1) K492.1) K499.1) K505.1))) (v := some (.int (nar .boolean (1 : Int32)))) (fun h => by rw [Bd.returns] at h; cases h) (BodyLoose.notSynchronized Bd)
      refine ⟨_, _, W511 _ (retN X509 hx (t := .boolean) Bd.returns (by simp) (hb hby at_322) hr), hrun, hended, _, _, rfl, ?_, own_chr (T := T509) R506 (CHv.at X509 hZ0 hEL R506.1) hh.symm eq509, own_rw hRW (by decide) (by decide)⟩
      show Q_law Z sel pos ch len o0 o1 o2 oV kV j0 v0 kv0 j1 v1 kv1 j2 v2 kv2 oE cS h0 n0 _ T509.heap _
      rw [eq509]
      exact ⟨rfl, N509, (Keep.trans (Keep.trans (Keep.trans (Keep.trans (Keep.trans (Keep.trans (Keep.trans (Keep.refl h0 []) K484 all0) K486 all0) K488 (allS (Or.inr (Nat.le_trans K484.1 (Nat.le_of_eq g486.symm))) all0)) K490 (allS (Or.inr (Nat.le_trans K484.1 (Nat.le_of_eq g486.symm))) all0)) K492 (allS (Or.inr (Nat.le_trans K484.1 (Nat.le_of_eq g486.symm))) all0)) K499 (allS (Or.inr (Nat.le_of_eq g484.symm)) all0)) K505 all0)⟩
theorem own_eqint {args : Array Value} {s : State} {t : Term} {n : Int32} (h : (Jvm.Cond.eq t (Jvm.Term.int n)).value args s none s [] = some true) : t.eval args s none [] s = some (.int n) := by
  simp only [Cond.value, Term.eval] at h
  cases ht : t.eval args s none [] s with
  | none => simp [ht] at h
  | some x => cases x <;> simp [ht] at h ⊢; exact h
theorem own_eqlong {args : Array Value} {s : State} {t : Term} {n : Int64} (h : (Jvm.Cond.eq t (Jvm.Term.long n)).value args s none s [] = some true) : t.eval args s none [] s = some (.long n) := by
  simp only [Cond.value, Term.eval] at h
  cases ht : t.eval args s none [] s with
  | none => simp [ht] at h
  | some x => cases x <;> simp [ht] at h ⊢; exact h
theorem own_neint {args : Array Value} {s : State} {t : Term} {n x : Int32} (h : (Jvm.Cond.not (Jvm.Cond.eq t (Jvm.Term.int n))).value args s none s [] = some true) (e : t.eval args s none [] s = some (.int x)) : ¬ (x = n) := by
  simpa [Cond.value, Term.eval, e] using h
theorem own_eqref {args : Array Value} {s : State} {t u : Term} {b : Addr} (h : (Jvm.Cond.eq t u).value args s none s [] = some true) (hu : u.eval args s none [] s = some (.ref b)) : t.eval args s none [] s = some (.ref b) := by
  simp only [Cond.value, hu] at h
  cases ht : t.eval args s none [] s with
  | none => simp [ht] at h
  | some x => cases x <;> simp [ht] at h ⊢; exact h
theorem own_arrlen {args : Array Value} {s : State} {t : Term} {a : Addr} {cl : Cell} {ty : FieldType} {z : Int32} (ev : t.eval args s none [] s = some (.ref a)) (A : Arr s s.heap a cl ty) (h : (Term.length t).eval args s none [] s = some (.int z)) : cl.slots.size < 2 ^ 31 ∧ cl.slots.size.toInt32 = z := by
  have e := Arr.fin (U := s) (Vm.Alike.refl _) A
  simp only [Term.eval, ev, Option.bind_eq_bind, Option.bind_some, e] at h
  by_cases q : cl.slots.size < 2 ^ 31
  · simp [q] at h; exact ⟨q, h⟩
  · simp [q] at h
set_option maxRecDepth 65536 in
set_option maxHeartbeats 40000000 in
theorem comes_1 {Post : Tables → Env → Array Value → State → Outcome → State → Prop} (hpost : ∀ tb e args s v u, (limb_1_1.after args s (.returned v) u = true ∧ limb_1_2.after args s (.returned v) u = true ∧ True) → ReturnedEndW s (.returned v) u (Jvm.fieldLocs frame_1_writes args s ++ Jvm.arrayLocs frame_1_arrays args s ++ Jvm.staticLocs frame_1_statics s) 24 1216 → Post tb e args s (.returned v) u) :
    ArmFor flags0 classFile x code maxLocals ret World_1 tables_1 room_1 Calls_1 rest_1 Pre_1 Post := by
  intro l hfl _ _ p e ha hc hk s m args below hf hA hF happ hP
  obtain ⟨hcalls, hrest, hpre⟩ := hP
  obtain ⟨-, -, -, hnamed, -, -, -, hat⟩ := (Spec.applies_iff hf).mp happ
  obtain ⟨hg, hn⟩ := and_e (Cond.before_iff.mp (show (Jvm.Cond.and given_1 narrow_1).before args s = true from hpre))
  obtain ⟨g1, g2⟩ := and_e hg
  obtain ⟨g3, g4⟩ := and_e g2
  obtain ⟨g5, g6⟩ := and_e g4
  obtain ⟨g7, g8⟩ := and_e g6
  obtain ⟨g9, g10⟩ := and_e hn
  obtain ⟨g11, g12⟩ := and_e g10
  obtain ⟨g13, g14⟩ := and_e g12
  obtain ⟨g15, g16⟩ := and_e g14
  obtain ⟨g17, g18⟩ := and_e g16
  obtain ⟨g19, g20⟩ := and_e g18
  obtain ⟨g21, g22⟩ := and_e g20
  obtain ⟨g23, g24⟩ := and_e g22
  obtain ⟨g25, g26⟩ := and_e g24
  obtain ⟨g27, g28⟩ := and_e g26
  obtain ⟨g29, g30⟩ := and_e g28
  obtain ⟨g31, g32⟩ := and_e g30
  obtain ⟨g33, g34⟩ := and_e g32
  obtain ⟨g35, g36⟩ := and_e g34
  obtain ⟨g37, g38⟩ := and_e g36
  obtain ⟨g39, g40⟩ := and_e g38
  obtain ⟨g41, g42⟩ := and_e g40
  obtain ⟨g43, g44⟩ := and_e g42
  obtain ⟨g45, g46⟩ := and_e g44
  obtain ⟨g47, g48⟩ := and_e g46
  obtain ⟨g49, g50⟩ := and_e g48
  obtain ⟨g51, g52⟩ := and_e g50
  obtain ⟨g53, g54⟩ := and_e g52
  obtain ⟨g55, g56⟩ := and_e g54
  obtain ⟨g57, g58⟩ := and_e g56
  obtain ⟨g59, g60⟩ := and_e g58
  obtain ⟨g61, g62⟩ := and_e g60
  obtain ⟨g63, g64⟩ := and_e g62
  obtain ⟨g65, g66⟩ := and_e g64
  obtain ⟨g67, g68⟩ := and_e g66
  obtain ⟨g69, g70⟩ := and_e g68
  obtain ⟨g71, g72⟩ := and_e g70
  obtain ⟨g73, g74⟩ := and_e g72
  obtain ⟨g75, g76⟩ := and_e g74
  obtain ⟨g77, g78⟩ := and_e g76
  obtain ⟨g79, g80⟩ := and_e g78
  obtain ⟨g81, g82⟩ := and_e g80
  obtain ⟨g83, g84⟩ := and_e g82
  obtain ⟨g85, g86⟩ := and_e g84
  obtain ⟨g87, g88⟩ := and_e g86
  obtain ⟨g89, g90⟩ := and_e g88
  obtain ⟨g91, g92⟩ := and_e g90
  obtain ⟨g93, g94⟩ := and_e g92
  obtain ⟨g95, g96⟩ := and_e g94
  obtain ⟨g97, g98⟩ := and_e g96
  obtain ⟨g99, g100⟩ := and_e g98
  obtain ⟨g101, g102⟩ := and_e g100
  obtain ⟨g103, g104⟩ := and_e g102
  obtain ⟨g105, g106⟩ := and_e g104
  obtain ⟨g107, g108⟩ := and_e g106
  obtain ⟨g109, g110⟩ := and_e g108
  obtain ⟨w0, w1, w2, w3, rfl⟩ : ∃ w0 w1 w2 w3 : Value, args = #[w0, w1, w2, w3] := by
    have hs : args.size = 4 := by simpa [Cond.value, given_1] using g1
    obtain ⟨L⟩ := args
    match L, hs with
    | [w0, w1, w2, w3], _ => exact ⟨w0, w1, w2, w3, rfl⟩
  have hw := fun d (hd : d ∈ tables_1) => atoms_spec (ws := Jvm.Cond.code x code maxLocals ret :: tables_1) hat d (List.mem_cons_of_mem _ hd)
  have hfit : Fit s := fun {y c} hc i hi => by
    obtain ⟨ha, rfl⟩ := Array.getElem?_eq_some_iff.mp hc
    have q := List.all_eq_true.mp ((Array.all_eq_true_iff_forall_mem.mp hF) _ (Array.getElem_mem ha)) i (List.mem_range.mpr hi)
    simpa [Array.getElem?_eq_getElem hi] using q
  obtain ⟨hsets, hown0⟩ := atoms_of _ (rest_1_c_eq ▸ (show rest_1_c.before _ s = true from hrest))
  obtain ⟨i0, ei0⟩ := is_v g3
  obtain rfl : w0 = (.int i0) := Option.some.inj ei0
  obtain ⟨i1, ei1⟩ := is_v g5
  obtain rfl : w1 = (.int i1) := Option.some.inj ei1
  obtain ⟨i2, ei2⟩ := is_v g7
  obtain rfl : w2 = (.int i2) := Option.some.inj ei2
  obtain ⟨i3, ei3⟩ := is_v g8
  obtain rfl : w3 = (.int i3) := Option.some.inj ei3
  obtain ⟨A_oV, e111⟩ := exa_v g11
  have B112 : Sta s s.heap "com/example/composition/composition/definition/AbapLanguageVersion" "$VALUES" "[Lcom/example/composition/composition/definition/AbapLanguageVersion;" (.ref A_oV) := Sta.start e111 (Or.inl (w55 hw))
  obtain ⟨A_o0, e113⟩ := exa_v g15
  have B114 : Sta s s.heap "com/example/composition/composition/definition/AbapLanguageVersion" "STANDARD" "Lcom/example/composition/composition/definition/AbapLanguageVersion;" (.ref A_o0) := Sta.start e113 (Or.inr ⟨(w38 hw), (w52 hw)⟩)
  obtain ⟨A_o1, e115⟩ := exa_v g19
  have B116 : Sta s s.heap "com/example/composition/composition/definition/AbapLanguageVersion" "KEY_USER" "Lcom/example/composition/composition/definition/AbapLanguageVersion;" (.ref A_o1) := Sta.start e115 (Or.inr ⟨(w38 hw), (w53 hw)⟩)
  obtain ⟨A_o2, e117⟩ := exa_v g23
  have B118 : Sta s s.heap "com/example/composition/composition/definition/AbapLanguageVersion" "CLOUD_DEVELOPMENT" "Lcom/example/composition/composition/definition/AbapLanguageVersion;" (.ref A_o2) := Sta.start e117 (Or.inr ⟨(w38 hw), (w54 hw)⟩)
  have B119 : Exa s s.heap A_oV "[Lcom/example/composition/composition/definition/AbapLanguageVersion;" := Exa.start e111 g11
  obtain ⟨cl_oV, Ar_oV⟩ := Arr.start e111 g9
  have ln_oV := own_arrlen e111 Ar_oV (own_eqint g13)
  have B120 : Arv s s.heap A_oV cl_oV.cls (.object "com/example/composition/composition/definition/AbapLanguageVersion") (3 : Int32) [(.ref A_o0), (.ref A_o1), (.ref A_o2)] .null := Arv.start hfit Ar_oV ln_oV.1 ln_oV.2 (by decide) rfl ⟨(elem_in (own_eqref g17 e113) e111 (Term.int_eval (0)) Ar_oV.1).2, (elem_in (own_eqref g21 e115) e111 (Term.int_eval (1)) Ar_oV.1).2, (elem_in (own_eqref g25 e117) e111 (Term.int_eval (2)) Ar_oV.1).2, trivial⟩
  have B121 : Exa s s.heap A_o0 "com/example/composition/composition/definition/AbapLanguageVersion" := Exa.start e113 g15
  obtain ⟨A_j0, e123⟩ := exa_v g27
  have B122 : Fld s s.heap A_o0 "com/example/composition/composition/definition/AbapLanguageVersion" "jsonName" "Ljava/lang/String;" (.ref A_j0) := Fld.start ((fld_at e113).symm.trans (e123))
  have B124 : Exa s s.heap A_j0 "java/lang/String" := Exa.start e123 g27
  have B125 : Fld s s.heap A_j0 "java/lang/String" "coder" "B" (.int (0 : Int32)) := Fld.start ((fld_at e123).symm.trans (own_eqint g29))
  obtain ⟨A_v0, e127⟩ := arr_v g31
  have B126 : Fld s s.heap A_j0 "java/lang/String" "value" "[B" (.ref A_v0) := Fld.start ((fld_at e123).symm.trans (e127))
  obtain ⟨cl_v0, Ar_v0⟩ := Arr.start e127 g31
  have ln_v0 := own_arrlen e127 Ar_v0 (own_eqint g33)
  have B128 : Arv s s.heap A_v0 cl_v0.cls .byte (8 : Int32) [(.int (115 : Int32)), (.int (116 : Int32)), (.int (97 : Int32)), (.int (110 : Int32)), (.int (100 : Int32)), (.int (97 : Int32)), (.int (114 : Int32)), (.int (100 : Int32))] (.int (0 : Int32)) := Arv.start hfit Ar_v0 ln_v0.1 ln_v0.2 (by decide) rfl ⟨(elem_in (own_eqint g51) e127 (Term.int_eval (0)) Ar_v0.1).2, (elem_in (own_eqint g53) e127 (Term.int_eval (1)) Ar_v0.1).2, (elem_in (own_eqint g55) e127 (Term.int_eval (2)) Ar_v0.1).2, (elem_in (own_eqint g57) e127 (Term.int_eval (3)) Ar_v0.1).2, (elem_in (own_eqint g59) e127 (Term.int_eval (4)) Ar_v0.1).2, (elem_in (own_eqint g61) e127 (Term.int_eval (5)) Ar_v0.1).2, (elem_in (own_eqint g63) e127 (Term.int_eval (6)) Ar_v0.1).2, (elem_in (own_eqint g65) e127 (Term.int_eval (7)) Ar_v0.1).2, trivial⟩
  have B129 : Exa s s.heap A_o1 "com/example/composition/composition/definition/AbapLanguageVersion" := Exa.start e115 g19
  obtain ⟨A_j1, e131⟩ := exa_v g35
  have B130 : Fld s s.heap A_o1 "com/example/composition/composition/definition/AbapLanguageVersion" "jsonName" "Ljava/lang/String;" (.ref A_j1) := Fld.start ((fld_at e115).symm.trans (e131))
  have B132 : Exa s s.heap A_j1 "java/lang/String" := Exa.start e131 g35
  have B133 : Fld s s.heap A_j1 "java/lang/String" "coder" "B" (.int (0 : Int32)) := Fld.start ((fld_at e131).symm.trans (own_eqint g37))
  obtain ⟨A_v1, e135⟩ := arr_v g39
  have B134 : Fld s s.heap A_j1 "java/lang/String" "value" "[B" (.ref A_v1) := Fld.start ((fld_at e131).symm.trans (e135))
  obtain ⟨cl_v1, Ar_v1⟩ := Arr.start e135 g39
  have ln_v1 := own_arrlen e135 Ar_v1 (own_eqint g41)
  have B136 : Arv s s.heap A_v1 cl_v1.cls .byte (7 : Int32) [(.int (107 : Int32)), (.int (101 : Int32)), (.int (121 : Int32)), (.int (85 : Int32)), (.int (115 : Int32)), (.int (101 : Int32)), (.int (114 : Int32))] (.int (0 : Int32)) := Arv.start hfit Ar_v1 ln_v1.1 ln_v1.2 (by decide) rfl ⟨(elem_in (own_eqint g67) e135 (Term.int_eval (0)) Ar_v1.1).2, (elem_in (own_eqint g69) e135 (Term.int_eval (1)) Ar_v1.1).2, (elem_in (own_eqint g71) e135 (Term.int_eval (2)) Ar_v1.1).2, (elem_in (own_eqint g73) e135 (Term.int_eval (3)) Ar_v1.1).2, (elem_in (own_eqint g75) e135 (Term.int_eval (4)) Ar_v1.1).2, (elem_in (own_eqint g77) e135 (Term.int_eval (5)) Ar_v1.1).2, (elem_in (own_eqint g79) e135 (Term.int_eval (6)) Ar_v1.1).2, trivial⟩
  have B137 : Exa s s.heap A_o2 "com/example/composition/composition/definition/AbapLanguageVersion" := Exa.start e117 g23
  obtain ⟨A_j2, e139⟩ := exa_v g43
  have B138 : Fld s s.heap A_o2 "com/example/composition/composition/definition/AbapLanguageVersion" "jsonName" "Ljava/lang/String;" (.ref A_j2) := Fld.start ((fld_at e117).symm.trans (e139))
  have B140 : Exa s s.heap A_j2 "java/lang/String" := Exa.start e139 g43
  have B141 : Fld s s.heap A_j2 "java/lang/String" "coder" "B" (.int (0 : Int32)) := Fld.start ((fld_at e139).symm.trans (own_eqint g45))
  obtain ⟨A_v2, e143⟩ := arr_v g47
  have B142 : Fld s s.heap A_j2 "java/lang/String" "value" "[B" (.ref A_v2) := Fld.start ((fld_at e139).symm.trans (e143))
  obtain ⟨cl_v2, Ar_v2⟩ := Arr.start e143 g47
  have ln_v2 := own_arrlen e143 Ar_v2 (own_eqint g49)
  have B144 : Arv s s.heap A_v2 cl_v2.cls .byte (16 : Int32) [(.int (99 : Int32)), (.int (108 : Int32)), (.int (111 : Int32)), (.int (117 : Int32)), (.int (100 : Int32)), (.int (68 : Int32)), (.int (101 : Int32)), (.int (118 : Int32)), (.int (101 : Int32)), (.int (108 : Int32)), (.int (111 : Int32)), (.int (112 : Int32)), (.int (109 : Int32)), (.int (101 : Int32)), (.int (110 : Int32)), (.int (116 : Int32))] (.int (0 : Int32)) := Arv.start hfit Ar_v2 ln_v2.1 ln_v2.2 (by decide) rfl ⟨(elem_in (own_eqint g81) e143 (Term.int_eval (0)) Ar_v2.1).2, (elem_in (own_eqint g83) e143 (Term.int_eval (1)) Ar_v2.1).2, (elem_in (own_eqint g85) e143 (Term.int_eval (2)) Ar_v2.1).2, (elem_in (own_eqint g87) e143 (Term.int_eval (3)) Ar_v2.1).2, (elem_in (own_eqint g89) e143 (Term.int_eval (4)) Ar_v2.1).2, (elem_in (own_eqint g91) e143 (Term.int_eval (5)) Ar_v2.1).2, (elem_in (own_eqint g93) e143 (Term.int_eval (6)) Ar_v2.1).2, (elem_in (own_eqint g95) e143 (Term.int_eval (7)) Ar_v2.1).2, (elem_in (own_eqint g97) e143 (Term.int_eval (8)) Ar_v2.1).2, (elem_in (own_eqint g99) e143 (Term.int_eval (9)) Ar_v2.1).2, (elem_in (own_eqint g101) e143 (Term.int_eval (10)) Ar_v2.1).2, (elem_in (own_eqint g103) e143 (Term.int_eval (11)) Ar_v2.1).2, (elem_in (own_eqint g105) e143 (Term.int_eval (12)) Ar_v2.1).2, (elem_in (own_eqint g107) e143 (Term.int_eval (13)) Ar_v2.1).2, (elem_in (own_eqint g109) e143 (Term.int_eval (14)) Ar_v2.1).2, (elem_in (own_eqint g110) e143 (Term.int_eval (15)) Ar_v2.1).2, trivial⟩
  obtain ⟨A_oE, e145⟩ := exa_v (Cond.before_iff.mp (hsets _ (List.mem_of_getElem? (i := 11) rfl)))
  have B146 : Sta s s.heap "java/util/Optional" "EMPTY" "Ljava/util/Optional;" (.ref A_oE) := Sta.start e145 (Or.inl (hsets _ (List.mem_of_getElem? (i := 10) rfl)))
  have B147 : Exa s s.heap A_oE "java/util/Optional" := Exa.start e145 (Cond.before_iff.mp (hsets _ (List.mem_of_getElem? (i := 11) rfl)))
  have B148 : Fld s s.heap A_oE "java/util/Optional" "value" "Ljava/lang/Object;" .null := Fld.start ((fld_at e145).symm.trans (null_v (Cond.before_iff.mp (hsets _ (List.mem_of_getElem? (i := 12) rfl)))))
  obtain ⟨A_cS, e149⟩ := is_v (Cond.before_iff.mp (hsets _ (List.mem_of_getElem? (i := 1) rfl)))
  have B150 : Sta s s.heap "java/lang/String" "COMPACT_STRINGS" "Z" (.int A_cS) := Sta.start e149 (Or.inl (hsets _ (List.mem_of_getElem? (i := 0) rfl)))
  have B151 : ¬ (A_cS = (0 : Int32)) := own_neint (Cond.before_iff.mp (hsets _ (List.mem_of_getElem? (i := 2) rfl))) e149
  obtain ⟨n, o, h1, h2, h3, _, L, rfl, ⟨rfl, N, _⟩, -, hq⟩ := rm_law l s _ hw tables_1 i0 i1 i2 i3 A_o0 A_o1 A_o2 A_oV cl_oV.cls A_j0 A_v0 cl_v0.cls A_j1 A_v1 cl_v1.cls A_j2 A_v2 cl_v2.cls A_oE A_cS s.heap s.heap.size (Nat.le_refl _) (Old.start s) B112 B114 B116 B118 B119 B120 B121 B122 B124 B125 B126 B128 B129 B130 B132 B133 B134 B136 B137 B138 B140 B141 B142 B144 B146 B147 B148 B150 B151 p e ha hc hk s m _ below hf ((Spec.applies_iff_loose hf).mp happ).1 ⟨rfl, State.Warmed39.refl s, rfl, own_chv hw hcalls.1 (Cond.before_iff.mpr (Cond.before_iff.mp (hsets _ (List.mem_of_getElem? (i := 2) rfl))))⟩ trivial
  refine ⟨n, _, h1, h2, h3, hpost _ _ _ _ _ _ ⟨Cond.after_iff.mpr rfl, Cond.after_iff.mpr (eq_i res_at (Term.int_eval (1)) rfl), trivial⟩ ⟨hq.1, hq.2.1, hq.2.2.1, (hq.2.2.2.sift fun y hy => Or.inr (N y hy)).mono (by decide) (by decide)⟩⟩
theorem main_1_1 : Claimed_1_1 := comes_1 fun _ _ _ _ _ _ h hF => ⟨h.1, hF⟩
theorem main_1_2 : Claimed_1_2 := comes_1 fun _ _ _ _ _ _ h hF => ⟨h.2.1, hF⟩

end Jvm.Pilot.@@N@@
namespace Jvm.Pilot.@@N@@
open Jvm Jvm.ClassFile Sem Op Lib Jvm.Free Jvm.Stand Jvm.Pilot.@@N@@.Jvm.D
/-! MADE BY PROGRAM (witnessworld.py) out of the Statement's table words and the real class files: 24 classes; the members and pool entries that the words name. The judged class is class 1, her method 5. -/
namespace start1
open Jvm.ClassFile
def u (s : String) : CpInfo := .utf8 (stringToUtf16 s)
/-- a pool by its gaps: so many unusable entries, then the entry; so many at the end -/
def gap : Nat → List CpInfo → List CpInfo
  | 0, r => r
  | n + 1, r => .unusable :: gap n r
def poolList (es : List (Nat × CpInfo)) (last : Nat) : List CpInfo := es.foldr (fun e r => gap e.1 (e.2 :: r)) (gap last [])
def pool (es : List (Nat × CpInfo)) (last : Nat) : Array CpInfo := ⟨poolList es last⟩
def fileOf (pool : Array CpInfo) (this : Nat) (attrs : Array Attribute := #[]) (ms : Array MethodInfo := #[]) (fl : Nat := 33) (sup : Nat := 0) (ifs : Array Nat := #[]) (fds : Array FieldInfo := #[]) : ClassFile where
  minorVersion := 0
  majorVersion := 65
  constantPool := pool
  accessFlags := fl
  thisClass := this
  superClass := sup
  interfaces := ifs
  fields := fds
  methods := ms
  attributes := attrs
def plain (name : String) (sup : Option ClassId) : Class where
  name := name
  kind := .ordinary
  loader := none
  accessFlags := 33
  super := sup
  interfaces := #[]
  cf := none
  fields := #[]
  methods := #[]
  instanceTypes := #[]
  staticTypes := #[]
  resolved := #[]
  callSites := []
  init := .initialized
  statics := none
  mirror := none

def pool0 : Array CpInfo := pool [(5, u "<init>"), (0, u "()V"), (1, .class_ 10), (1, u "java/lang/Object"), (85, u "clone"), (0, u "()Ljava/lang/Object;")] 26

def k0c0 : Code := { maxStack := 0, maxLocals := 1, code := object_method_1_code, exceptionTable := #[], attributes := #[] }
def k0m0 : Method := { name := "<init>", desc := "()V", sig := { parameters := [], returnType := none }, accessFlags := 1, code := some k0c0 }
def k0m1 : Method := { name := "clone", desc := "()Ljava/lang/Object;", sig := { parameters := [], returnType := some (.object "java/lang/Object") }, accessFlags := 260, code := none }
/-- java/lang/Object -/
def k0 : Class := { plain "java/lang/Object" none with
  accessFlags := 33
  interfaces := #[]
  cf := some (fileOf pool0 8 #[] #[{ accessFlags := 1, nameIndex := 5, descriptorIndex := 6, attributes := #[] }, { accessFlags := 260, nameIndex := 96, descriptorIndex := 97, attributes := #[] }] 33 0 #[] #[])
  fields := #[]
  methods := #[k0m0, k0m1]
  instanceTypes := #[]
  staticTypes := #[]
  resolved := Array.replicate 124 none
  statics := none }

def pool1 : Array CpInfo := pool [(2, .class_ 4), (1, u "java/lang/Object"), (0, u "<init>"), (0, u "()V"), (0, .fieldref 8 9), (0, .class_ 10), (0, .nameAndType 11 12), (0, u "com/example/composition/composition/definition/AbapLanguageVersion"), (0, u "STANDARD"), (0, u "Lcom/example/composition/composition/definition/AbapLanguageVersion;"), (0, .fieldref 8 14), (0, .nameAndType 15 12), (0, u "KEY_USER"), (0, .fieldref 8 17), (0, .nameAndType 18 12), (0, u "CLOUD_DEVELOPMENT"), (0, .integer 2147483647), (0, .integer 16777215), (0, .class_ 22), (0, u "java/lang/String"), (0, .methodref 24 25), (0, .class_ 26), (0, .nameAndType 27 28), (0, u "com/example/composition/composition/definition/AbapLanguageVersionOfJsonNamePinLaw"), (0, u "full"), (0, u "(I)[C"), (0, .methodref 21 30), (0, .nameAndType 5 31), (0, u "([C)V"), (0, .methodref 24 33), (0, .nameAndType 34 28), (0, u "prefix"), (0, .methodref 24 36), (0, .nameAndType 37 38), (0, u "extended"), (0, u "(IC)[C"), (0, .methodref 21 40), (0, .nameAndType 41 42), (0, u "valueOf"), (0, u "(C)Ljava/lang/String;"), (0, .methodref 8 44), (0, .nameAndType 45 46), (0, u "ofJsonName"), (0, u "(Ljava/lang/String;)Ljava/util/Optional;"), (0, .methodref 48 49), (0, .class_ 50), (0, .nameAndType 51 52), (0, u "java/util/Optional"), (0, u "isPresent"), (0, u "()Z"), (0, .methodref 48 54), (0, .nameAndType 55 56), (0, u "get"), (0, u "()Ljava/lang/Object;"), (0, .methodref 24 58), (0, .nameAndType 59 60), (0, u "constant"), (0, u "(I)Lcom/example/composition/composition/definition/AbapLanguageVersion;"), (3, u "law"), (0, u "(IIII)Z")] 4

def k1m0 : Method := { name := "<init>", desc := "()V", sig := { parameters := [], returnType := none }, accessFlags := 2, code := none }
def k1c1 : Code := { maxStack := 4, maxLocals := 1, code := method_2_code, exceptionTable := #[], attributes := #[] }
def k1m1 : Method := { name := "full", desc := "(I)[C", sig := { parameters := [.int], returnType := some (.array .char) }, accessFlags := 10, code := some k1c1 }
def k1c2 : Code := { maxStack := 4, maxLocals := 1, code := method_3_code, exceptionTable := #[], attributes := #[] }
def k1m2 : Method := { name := "prefix", desc := "(I)[C", sig := { parameters := [.int], returnType := some (.array .char) }, accessFlags := 10, code := some k1c2 }
def k1c3 : Code := { maxStack := 4, maxLocals := 2, code := method_4_code, exceptionTable := #[], attributes := #[] }
def k1m3 : Method := { name := "extended", desc := "(IC)[C", sig := { parameters := [.int, .char], returnType := some (.array .char) }, accessFlags := 10, code := some k1c3 }
def k1c4 : Code := { maxStack := 2, maxLocals := 1, code := method_5_code, exceptionTable := #[], attributes := #[] }
def k1m4 : Method := { name := "constant", desc := "(I)Lcom/example/composition/composition/definition/AbapLanguageVersion;", sig := { parameters := [.int], returnType := some (.object "com/example/composition/composition/definition/AbapLanguageVersion") }, accessFlags := 10, code := some k1c4 }
def k1c5 : Code := { maxStack := 6, maxLocals := 14, code := code, exceptionTable := #[], attributes := #[] }
def k1m5 : Method := { name := "law", desc := "(IIII)Z", sig := { parameters := [.int, .int, .int, .int], returnType := some .boolean }, accessFlags := 9, code := some k1c5 }
/-- com/example/composition/composition/definition/AbapLanguageVersionOfJsonNamePinLaw -/
def k1 : Class := { plain "com/example/composition/composition/definition/AbapLanguageVersionOfJsonNamePinLaw" (some 0) with
  accessFlags := 49
  interfaces := #[]
  cf := some (fileOf pool1 24 #[] #[{ accessFlags := 2, nameIndex := 5, descriptorIndex := 6, attributes := #[] }, { accessFlags := 10, nameIndex := 27, descriptorIndex := 28, attributes := #[] }, { accessFlags := 10, nameIndex := 34, descriptorIndex := 28, attributes := #[] }, { accessFlags := 10, nameIndex := 37, descriptorIndex := 38, attributes := #[] }, { accessFlags := 10, nameIndex := 59, descriptorIndex := 60, attributes := #[] }, { accessFlags := 9, nameIndex := 64, descriptorIndex := 65, attributes := #[] }] 49 2 #[] #[])
  fields := #[]
  methods := #[k1m0, k1m1, k1m2, k1m3, k1m4, k1m5]
  instanceTypes := #[]
  staticTypes := #[]
  resolved := Array.replicate 70 none
  statics := none }

def pool2 : Array CpInfo := pool [(1, .class_ 2), (0, u "java/io/Serializable"), (0, .class_ 4), (0, u "java/lang/Object")] 2

/-- java/io/Serializable -/
def k2 : Class := { plain "java/io/Serializable" (some 0) with
  accessFlags := 1537
  interfaces := #[]
  cf := some (fileOf pool2 1 #[] #[] 1537 3 #[] #[])
  fields := #[]
  methods := #[]
  instanceTypes := #[]
  staticTypes := #[]
  resolved := Array.replicate 7 none
  statics := none }

def pool3 : Array CpInfo := pool [(1, .class_ 2), (0, u "java/lang/Comparable"), (0, .class_ 4), (0, u "java/lang/Object")] 7

/-- java/lang/Comparable -/
def k3 : Class := { plain "java/lang/Comparable" (some 0) with
  accessFlags := 1537
  interfaces := #[]
  cf := some (fileOf pool3 1 #[] #[] 1537 3 #[] #[])
  fields := #[]
  methods := #[]
  instanceTypes := #[]
  staticTypes := #[]
  resolved := Array.replicate 12 none
  statics := none }

def pool4 : Array CpInfo := pool [(2, .class_ 4), (1, u "java/lang/CharSequence"), (42, .class_ 48), (0, u "java/lang/CharSequence$1CodePointIterator"), (10, .class_ 60), (0, u "java/lang/CharSequence$1CharIterator"), (5, .class_ 67), (0, u "java/lang/Object")] 63

/-- java/lang/CharSequence -/
def k4 : Class := { plain "java/lang/CharSequence" (some 0) with
  accessFlags := 1537
  interfaces := #[]
  cf := some (fileOf pool4 2 #[.nestMembers #[47, 59]] #[] 1537 66 #[] #[])
  fields := #[]
  methods := #[]
  instanceTypes := #[]
  staticTypes := #[]
  resolved := Array.replicate 131 none
  statics := none }

def pool5 : Array CpInfo := pool [(1, .class_ 2), (0, u "java/lang/constant/Constable"), (0, .class_ 4), (0, u "java/lang/Object")] 6

/-- java/lang/constant/Constable -/
def k5 : Class := { plain "java/lang/constant/Constable" (some 0) with
  accessFlags := 1537
  interfaces := #[]
  cf := some (fileOf pool5 1 #[] #[] 1537 3 #[] #[])
  fields := #[]
  methods := #[]
  instanceTypes := #[]
  staticTypes := #[]
  resolved := Array.replicate 11 none
  statics := none }

def pool6 : Array CpInfo := pool [(1, .class_ 2), (0, u "java/lang/constant/ConstantDesc"), (0, .class_ 4), (0, u "java/lang/Object")] 32

/-- java/lang/constant/ConstantDesc -/
def k6 : Class := { plain "java/lang/constant/ConstantDesc" (some 0) with
  accessFlags := 1537
  interfaces := #[]
  cf := some (fileOf pool6 1 #[] #[] 1537 3 #[] #[])
  fields := #[]
  methods := #[]
  instanceTypes := #[]
  staticTypes := #[]
  resolved := Array.replicate 37 none
  statics := none }

def pool7 : Array CpInfo := pool [(1, .methodref 2 3), (0, .class_ 4), (0, .nameAndType 5 6), (0, u "java/lang/Object"), (0, u "<init>"), (0, u "()V"), (0, .string 8), (0, u ""), (0, .fieldref 10 11), (0, .class_ 12), (0, .nameAndType 13 14), (0, u "java/lang/String"), (0, u "value"), (0, u "[B"), (0, .fieldref 10 16), (0, .nameAndType 17 18), (0, u "coder"), (0, u "B"), (2, u "hash"), (0, u "I"), (2, u "hashIsZero"), (0, u "Z"), (0, .methodref 10 28), (0, .nameAndType 5 29), (0, u "([CIILjava/lang/Void;)V"), (8, .fieldref 10 39), (0, .nameAndType 40 26), (0, u "COMPACT_STRINGS"), (1, .class_ 44), (1, u "java/lang/StringUTF16"), (0, u "compress"), (1, .methodref 42 48), (0, .nameAndType 49 50), (0, u "coderFromArrayLen"), (0, u "([BI)B"), (2, u "toBytes"), (53, .class_ 109), (1, u "java/lang/StringLatin1"), (67, .methodref 42 178), (0, .nameAndType 45 179), (0, u "([CII)[B"), (29, .methodref 10 210), (0, .nameAndType 5 211), (0, u "([BB)V"), (157, u "(C)Z"), (171, .methodref 107 542), (0, .nameAndType 543 544), (0, u "equals"), (0, u "([B[B)Z"), (28, u "(Ljava/lang/Object;)Z"), (1, .class_ 576), (0, u "java/lang/CharSequence"), (22, u "CASE_INSENSITIVE_ORDER"), (0, u "Ljava/util/Comparator;"), (181, u "valueOf"), (0, u "(C)Ljava/lang/String;"), (226, u "([C)V"), (4, .methodref 107 1016), (0, .nameAndType 1017 369), (0, u "canEncode"), (0, .methodref 107 1019), (0, .nameAndType 53 1020), (0, u "(C)[B"), (80, u "serialPersistentFields"), (0, u "[Ljava/io/ObjectStreamField;"), (0, .class_ 1104), (0, u "java/lang/String$CaseInsensitiveComparator"), (1, .class_ 1107), (0, u "java/io/Serializable"), (0, .class_ 1109), (0, u "java/lang/Comparable"), (0, .class_ 1111), (0, u "java/lang/constant/Constable"), (0, .class_ 1113), (0, u "java/lang/constant/ConstantDesc"), (2, u "serialVersionUID"), (0, u "J"), (3, u "REPL"), (0, u "C"), (2, u "LATIN1"), (1, u "UTF16")] 323

def k7m0 : Method := { name := "<init>", desc := "()V", sig := { parameters := [], returnType := none }, accessFlags := 1, code := none }
def k7c1 : Code := { maxStack := 5, maxLocals := 2, code := jdk_42_method_3_code, exceptionTable := #[], attributes := #[] }
def k7m1 : Method := { name := "<init>", desc := "([C)V", sig := { parameters := [(.array .char)], returnType := none }, accessFlags := 1, code := some k7c1 }
def k7c2 : Code := { maxStack := 2, maxLocals := 3, code := jdk_42_method_66_code, exceptionTable := #[], attributes := #[] }
def k7m2 : Method := { name := "equals", desc := "(Ljava/lang/Object;)Z", sig := { parameters := [(.object "java/lang/Object")], returnType := some .boolean }, accessFlags := 1, code := some k7c2 }
def k7c3 : Code := { maxStack := 4, maxLocals := 1, code := jdk_42_method_139_code, exceptionTable := #[], attributes := #[] }
def k7m3 : Method := { name := "valueOf", desc := "(C)Ljava/lang/String;", sig := { parameters := [.char], returnType := some (.object "java/lang/String") }, accessFlags := 9, code := some k7c3 }
def k7c4 : Code := { maxStack := 4, maxLocals := 6, code := jdk_42_method_149_code, exceptionTable := #[], attributes := #[] }
def k7m4 : Method := { name := "<init>", desc := "([CIILjava/lang/Void;)V", sig := { parameters := [(.array .char), .int, .int, (.object "java/lang/Void")], returnType := none }, accessFlags := 2, code := some k7c4 }
def k7c5 : Code := { maxStack := 2, maxLocals := 3, code := jdk_42_method_151_code, exceptionTable := #[], attributes := #[] }
def k7m5 : Method := { name := "<init>", desc := "([BB)V", sig := { parameters := [(.array .byte), .byte], returnType := none }, accessFlags := 0, code := some k7c5 }
/-- java/lang/String -/
def k7 : Class := { plain "java/lang/String" (some 0) with
  accessFlags := 49
  interfaces := #[2, 3, 4, 5, 6]
  cf := some (fileOf pool7 10 #[.nestMembers #[1103]] #[{ accessFlags := 1, nameIndex := 5, descriptorIndex := 6, attributes := #[] }, { accessFlags := 1, nameIndex := 5, descriptorIndex := 1010, attributes := #[] }, { accessFlags := 1, nameIndex := 543, descriptorIndex := 573, attributes := #[] }, { accessFlags := 9, nameIndex := 782, descriptorIndex := 783, attributes := #[] }, { accessFlags := 2, nameIndex := 5, descriptorIndex := 29, attributes := #[] }, { accessFlags := 0, nameIndex := 5, descriptorIndex := 211, attributes := #[] }] 49 2 #[1106, 1108, 575, 1110, 1112] #[{ accessFlags := 18, nameIndex := 13, descriptorIndex := 14, attributes := #[] }, { accessFlags := 18, nameIndex := 17, descriptorIndex := 18, attributes := #[] }, { accessFlags := 2, nameIndex := 21, descriptorIndex := 22, attributes := #[] }, { accessFlags := 2, nameIndex := 25, descriptorIndex := 26, attributes := #[] }, { accessFlags := 26, nameIndex := 1116, descriptorIndex := 1117, attributes := #[] }, { accessFlags := 24, nameIndex := 40, descriptorIndex := 26, attributes := #[] }, { accessFlags := 26, nameIndex := 1101, descriptorIndex := 1102, attributes := #[] }, { accessFlags := 26, nameIndex := 1121, descriptorIndex := 1122, attributes := #[] }, { accessFlags := 25, nameIndex := 599, descriptorIndex := 600, attributes := #[] }, { accessFlags := 24, nameIndex := 1125, descriptorIndex := 18, attributes := #[] }, { accessFlags := 24, nameIndex := 1127, descriptorIndex := 18, attributes := #[] }])
  fields := #[{ name := "value", type := (.array .byte), accessFlags := 18, slot := 0, constantValue := 0 }, { name := "coder", type := .byte, accessFlags := 18, slot := 1, constantValue := 0 }, { name := "hash", type := .int, accessFlags := 2, slot := 2, constantValue := 0 }, { name := "hashIsZero", type := .boolean, accessFlags := 2, slot := 3, constantValue := 0 }, { name := "serialVersionUID", type := .long, accessFlags := 26, slot := 0, constantValue := 0 }, { name := "COMPACT_STRINGS", type := .boolean, accessFlags := 24, slot := 1, constantValue := 0 }, { name := "serialPersistentFields", type := (.array (.object "java/io/ObjectStreamField")), accessFlags := 26, slot := 2, constantValue := 0 }, { name := "REPL", type := .char, accessFlags := 26, slot := 3, constantValue := 0 }, { name := "CASE_INSENSITIVE_ORDER", type := (.object "java/util/Comparator"), accessFlags := 25, slot := 4, constantValue := 0 }, { name := "LATIN1", type := .byte, accessFlags := 24, slot := 5, constantValue := 0 }, { name := "UTF16", type := .byte, accessFlags := 24, slot := 6, constantValue := 0 }]
  methods := #[k7m0, k7m1, k7m2, k7m3, k7m4, k7m5]
  instanceTypes := #[(.array .byte), .byte, .int, .boolean]
  staticTypes := #[.long, .boolean, (.array (.object "java/io/ObjectStreamField")), .char, (.object "java/util/Comparator"), .byte, .byte]
  resolved := Array.replicate 1451 none
  statics := some 0 }

def pool8 : Array CpInfo := pool [(6, .class_ 8), (1, u "java/lang/Object"), (0, u "<init>"), (0, u "()V"), (1, .class_ 14), (1, u "java/lang/StringUTF16"), (31, u "$assertionsDisabled"), (0, u "Z"), (13, u "HI_BYTE_SHIFT"), (0, u "I"), (2, u "LO_BYTE_SHIFT"), (49, .methodref 12 116), (0, .nameAndType 117 118), (0, u "compress"), (0, u "([CI[BII)I"), (3, u "([CII)[B"), (138, u "coderFromArrayLen"), (0, u "([BI)B"), (106, .class_ 371), (1, u "java/lang/StringUTF16$LinesSpliterator"), (58, u "MAX_LENGTH"), (196, .class_ 628), (0, u "java/lang/StringUTF16$CodePointsSpliterator"), (0, .class_ 630), (0, u "java/lang/StringUTF16$CharsSpliterator")] 4

def k8m0 : Method := { name := "<init>", desc := "()V", sig := { parameters := [], returnType := none }, accessFlags := 0, code := none }
def k8c1 : Code := { maxStack := 2, maxLocals := 2, code := jdk_52_method_15_code, exceptionTable := #[], attributes := #[] }
def k8m1 : Method := { name := "coderFromArrayLen", desc := "([BI)B", sig := { parameters := [(.array .byte), .int], returnType := some .byte }, accessFlags := 8, code := some k8c1 }
def k8c2 : Code := { maxStack := 5, maxLocals := 6, code := jdk_52_method_16_code, exceptionTable := #[], attributes := #[] }
def k8m2 : Method := { name := "compress", desc := "([CII)[B", sig := { parameters := [(.array .char), .int, .int], returnType := some (.array .byte) }, accessFlags := 9, code := some k8c2 }
def k8c3 : Code := { maxStack := 3, maxLocals := 7, code := jdk_52_method_21_code, exceptionTable := #[], attributes := #[] }
def k8m3 : Method := { name := "compress", desc := "([CI[BII)I", sig := { parameters := [(.array .char), .int, (.array .byte), .int, .int], returnType := some .int }, accessFlags := 9, code := some k8c3 }
/-- java/lang/StringUTF16 -/
def k8 : Class := { plain "java/lang/StringUTF16" (some 0) with
  accessFlags := 48
  interfaces := #[]
  cf := some (fileOf pool8 12 #[.nestMembers #[627, 629, 369]] #[{ accessFlags := 0, nameIndex := 9, descriptorIndex := 10, attributes := #[] }, { accessFlags := 8, nameIndex := 261, descriptorIndex := 262, attributes := #[] }, { accessFlags := 9, nameIndex := 117, descriptorIndex := 122, attributes := #[] }, { accessFlags := 9, nameIndex := 117, descriptorIndex := 118, attributes := #[] }] 48 6 #[] #[{ accessFlags := 26, nameIndex := 61, descriptorIndex := 62, attributes := #[] }, { accessFlags := 26, nameIndex := 65, descriptorIndex := 62, attributes := #[] }, { accessFlags := 24, nameIndex := 430, descriptorIndex := 62, attributes := #[] }, { accessFlags := 4120, nameIndex := 46, descriptorIndex := 47, attributes := #[] }])
  fields := #[{ name := "HI_BYTE_SHIFT", type := .int, accessFlags := 26, slot := 0, constantValue := 0 }, { name := "LO_BYTE_SHIFT", type := .int, accessFlags := 26, slot := 1, constantValue := 0 }, { name := "MAX_LENGTH", type := .int, accessFlags := 24, slot := 2, constantValue := 0 }, { name := "$assertionsDisabled", type := .boolean, accessFlags := 4120, slot := 3, constantValue := 0 }]
  methods := #[k8m0, k8m1, k8m2, k8m3]
  instanceTypes := #[]
  staticTypes := #[.int, .int, .int, .boolean]
  resolved := Array.replicate 635 none
  statics := none }

def pool9 : Array CpInfo := pool [(2, .class_ 4), (1, u "java/lang/Enum"), (0, u "name"), (0, u "Ljava/lang/String;"), (2, u "ordinal"), (0, u "I"), (1, .class_ 14), (1, u "java/lang/Object"), (4, u "hash"), (86, .class_ 108), (1, u "java/lang/Enum$EnumDesc"), (2, .class_ 112), (0, u "java/lang/constant/Constable"), (0, .class_ 114), (0, u "java/lang/Comparable"), (0, .class_ 116), (0, u "java/io/Serializable")] 87

/-- java/lang/Enum -/
def k9 : Class := { plain "java/lang/Enum" (some 0) with
  accessFlags := 1057
  interfaces := #[5, 3, 2]
  cf := some (fileOf pool9 2 #[.nestMembers #[106]] #[] 1057 12 #[111, 113, 115] #[{ accessFlags := 18, nameIndex := 5, descriptorIndex := 6, attributes := #[] }, { accessFlags := 18, nameIndex := 9, descriptorIndex := 10, attributes := #[] }, { accessFlags := 2, nameIndex := 19, descriptorIndex := 10, attributes := #[] }])
  fields := #[{ name := "name", type := (.object "java/lang/String"), accessFlags := 18, slot := 0, constantValue := 0 }, { name := "ordinal", type := .int, accessFlags := 18, slot := 1, constantValue := 0 }, { name := "hash", type := .int, accessFlags := 2, slot := 2, constantValue := 0 }]
  methods := #[]
  instanceTypes := #[(.object "java/lang/String"), .int, .int]
  staticTypes := #[]
  resolved := Array.replicate 204 none
  statics := none }

def pool10 : Array CpInfo := pool [(1, .class_ 2), (0, u "com/example/composition/composition/definition/AbapLanguageVersion"), (2, u "STANDARD"), (0, u "Lcom/example/composition/composition/definition/AbapLanguageVersion;"), (2, u "KEY_USER"), (2, u "CLOUD_DEVELOPMENT"), (0, .fieldref 1 14), (0, .nameAndType 15 16), (0, u "$VALUES"), (0, u "[Lcom/example/composition/composition/definition/AbapLanguageVersion;"), (0, .methodref 18 19), (0, .class_ 16), (0, .nameAndType 20 21), (0, u "clone"), (0, u "()Ljava/lang/Object;"), (1, .class_ 25), (1, u "java/lang/Enum"), (6, .fieldref 1 33), (0, .nameAndType 34 35), (0, u "jsonName"), (0, u "Ljava/lang/String;"), (0, .methodref 1 37), (0, .nameAndType 38 39), (0, u "values"), (0, u "()[Lcom/example/composition/composition/definition/AbapLanguageVersion;"), (20, .methodref 61 62), (0, .class_ 63), (0, .nameAndType 64 65), (0, u "java/lang/String"), (0, u "equals"), (0, u "(Ljava/lang/Object;)Z"), (0, .methodref 67 68), (0, .class_ 69), (0, .nameAndType 70 71), (0, u "java/util/Optional"), (0, u "of"), (0, u "(Ljava/lang/Object;)Ljava/util/Optional;"), (0, .methodref 67 73), (0, .nameAndType 74 75), (0, u "empty"), (0, u "()Ljava/util/Optional;"), (24, u "ofJsonName"), (0, u "(Ljava/lang/String;)Ljava/util/Optional;")] 28

def k10c0 : Code := { maxStack := 1, maxLocals := 0, code := prog_11_method_1_code, exceptionTable := #[], attributes := #[] }
def k10m0 : Method := { name := "values", desc := "()[Lcom/example/composition/composition/definition/AbapLanguageVersion;", sig := { parameters := [], returnType := some (.array (.object "com/example/composition/composition/definition/AbapLanguageVersion")) }, accessFlags := 9, code := some k10c0 }
def k10c1 : Code := { maxStack := 2, maxLocals := 5, code := prog_11_method_6_code, exceptionTable := #[], attributes := #[] }
def k10m1 : Method := { name := "ofJsonName", desc := "(Ljava/lang/String;)Ljava/util/Optional;", sig := { parameters := [(.object "java/lang/String")], returnType := some (.object "java/util/Optional") }, accessFlags := 8, code := some k10c1 }
/-- com/example/composition/composition/definition/AbapLanguageVersion -/
def k10 : Class := { plain "com/example/composition/composition/definition/AbapLanguageVersion" (some 9) with
  accessFlags := 16433
  interfaces := #[]
  cf := some (fileOf pool10 1 #[] #[{ accessFlags := 9, nameIndex := 38, descriptorIndex := 39, attributes := #[] }, { accessFlags := 8, nameIndex := 100, descriptorIndex := 101, attributes := #[] }] 16433 23 #[] #[{ accessFlags := 16409, nameIndex := 5, descriptorIndex := 6, attributes := #[] }, { accessFlags := 16409, nameIndex := 9, descriptorIndex := 6, attributes := #[] }, { accessFlags := 16409, nameIndex := 12, descriptorIndex := 6, attributes := #[] }, { accessFlags := 18, nameIndex := 34, descriptorIndex := 35, attributes := #[] }, { accessFlags := 4122, nameIndex := 15, descriptorIndex := 16, attributes := #[] }])
  fields := #[{ name := "STANDARD", type := (.object "com/example/composition/composition/definition/AbapLanguageVersion"), accessFlags := 16409, slot := 0, constantValue := 0 }, { name := "KEY_USER", type := (.object "com/example/composition/composition/definition/AbapLanguageVersion"), accessFlags := 16409, slot := 1, constantValue := 0 }, { name := "CLOUD_DEVELOPMENT", type := (.object "com/example/composition/composition/definition/AbapLanguageVersion"), accessFlags := 16409, slot := 2, constantValue := 0 }, { name := "jsonName", type := (.object "java/lang/String"), accessFlags := 18, slot := 3, constantValue := 0 }, { name := "$VALUES", type := (.array (.object "com/example/composition/composition/definition/AbapLanguageVersion")), accessFlags := 4122, slot := 3, constantValue := 0 }]
  methods := #[k10m0, k10m1]
  instanceTypes := #[(.object "java/lang/String"), .int, .int, (.object "java/lang/String")]
  staticTypes := #[(.object "com/example/composition/composition/definition/AbapLanguageVersion"), (.object "com/example/composition/composition/definition/AbapLanguageVersion"), (.object "com/example/composition/composition/definition/AbapLanguageVersion"), (.array (.object "com/example/composition/composition/definition/AbapLanguageVersion"))]
  resolved := Array.replicate 130 none
  statics := some 1 }

def pool11 : Array CpInfo := pool [(1, .class_ 2), (0, u "java/lang/Cloneable"), (0, .class_ 4), (0, u "java/lang/Object")] 2

/-- java/lang/Cloneable -/
def k11 : Class := { plain "java/lang/Cloneable" (some 0) with
  accessFlags := 1537
  interfaces := #[]
  cf := some (fileOf pool11 1 #[] #[] 1537 3 #[] #[])
  fields := #[]
  methods := #[]
  instanceTypes := #[]
  staticTypes := #[]
  resolved := Array.replicate 7 none
  statics := none }

def pool12 : Array CpInfo := pool [(4, .class_ 6), (1, u "java/lang/Object"), (0, u "<init>"), (0, u "()V"), (5, .class_ 16), (1, u "java/lang/StringLatin1"), (73, u "canEncode"), (14, u "(C)Z"), (15, u "$assertionsDisabled"), (0, u "Z"), (98, .class_ 223), (1, u "java/lang/StringLatin1$LinesSpliterator"), (57, u "equals"), (0, u "([B[B)Z"), (97, u "toBytes"), (1, u "(C)[B"), (7, .class_ 391), (0, u "java/lang/StringLatin1$CharsSpliterator")] 3

def k12m0 : Method := { name := "<init>", desc := "()V", sig := { parameters := [], returnType := none }, accessFlags := 0, code := none }
def k12c1 : Code := { maxStack := 2, maxLocals := 1, code := jdk_43_method_3_code, exceptionTable := #[], attributes := #[] }
def k12m1 : Method := { name := "canEncode", desc := "(C)Z", sig := { parameters := [.char], returnType := some .boolean }, accessFlags := 9, code := some k12c1 }
def k12c2 : Code := { maxStack := 3, maxLocals := 3, code := jdk_43_method_13_code, exceptionTable := #[], attributes := #[] }
def k12m2 : Method := { name := "equals", desc := "([B[B)Z", sig := { parameters := [(.array .byte), (.array .byte)], returnType := some .boolean }, accessFlags := 9, code := some k12c2 }
def k12c3 : Code := { maxStack := 4, maxLocals := 1, code := jdk_43_method_46_code, exceptionTable := #[], attributes := #[] }
def k12m3 : Method := { name := "toBytes", desc := "(C)[B", sig := { parameters := [.char], returnType := some (.array .byte) }, accessFlags := 9, code := some k12c3 }
/-- java/lang/StringLatin1 -/
def k12 : Class := { plain "java/lang/StringLatin1" (some 0) with
  accessFlags := 48
  interfaces := #[]
  cf := some (fileOf pool12 14 #[.nestMembers #[390, 221]] #[{ accessFlags := 0, nameIndex := 7, descriptorIndex := 8, attributes := #[] }, { accessFlags := 9, nameIndex := 90, descriptorIndex := 105, attributes := #[] }, { accessFlags := 9, nameIndex := 281, descriptorIndex := 282, attributes := #[] }, { accessFlags := 9, nameIndex := 380, descriptorIndex := 382, attributes := #[] }] 48 4 #[] #[{ accessFlags := 4120, nameIndex := 121, descriptorIndex := 122, attributes := #[] }])
  fields := #[{ name := "$assertionsDisabled", type := .boolean, accessFlags := 4120, slot := 0, constantValue := 0 }]
  methods := #[k12m0, k12m1, k12m2, k12m3]
  instanceTypes := #[]
  staticTypes := #[.boolean]
  resolved := Array.replicate 395 none
  statics := none }

def pool13 : Array CpInfo := pool [(1, .fieldref 2 3), (0, .class_ 4), (0, .nameAndType 5 6), (0, u "java/util/Optional"), (0, u "EMPTY"), (0, u "Ljava/util/Optional;"), (0, .methodref 8 9), (0, .class_ 10), (0, .nameAndType 11 12), (0, u "java/lang/Object"), (0, u "<init>"), (0, u "()V"), (0, .fieldref 2 14), (0, .nameAndType 15 16), (0, u "value"), (0, u "Ljava/lang/Object;"), (0, .methodref 18 19), (0, .class_ 20), (0, .nameAndType 21 22), (0, u "java/util/Objects"), (0, u "requireNonNull"), (0, u "(Ljava/lang/Object;)Ljava/lang/Object;"), (0, .methodref 2 24), (0, .nameAndType 11 25), (0, u "(Ljava/lang/Object;)V"), (20, u "()Z"), (8, u "empty"), (0, u "()Ljava/util/Optional;"), (8, u "(Ljava/lang/Object;)Ljava/util/Optional;"), (2, u "isPresent"), (4, u "get"), (0, u "()Ljava/lang/Object;"), (7, u "of")] 104

def k13c0 : Code := { maxStack := 1, maxLocals := 1, code := jdk_32_method_1_code, exceptionTable := #[], attributes := #[] }
def k13m0 : Method := { name := "empty", desc := "()Ljava/util/Optional;", sig := { parameters := [], returnType := some (.object "java/util/Optional") }, accessFlags := 9, code := some k13c0 }
def k13c1 : Code := { maxStack := 2, maxLocals := 2, code := jdk_32_method_2_code, exceptionTable := #[], attributes := #[] }
def k13m1 : Method := { name := "<init>", desc := "(Ljava/lang/Object;)V", sig := { parameters := [(.object "java/lang/Object")], returnType := none }, accessFlags := 2, code := some k13c1 }
def k13c2 : Code := { maxStack := 3, maxLocals := 1, code := jdk_32_method_3_code, exceptionTable := #[], attributes := #[] }
def k13m2 : Method := { name := "of", desc := "(Ljava/lang/Object;)Ljava/util/Optional;", sig := { parameters := [(.object "java/lang/Object")], returnType := some (.object "java/util/Optional") }, accessFlags := 9, code := some k13c2 }
def k13c3 : Code := { maxStack := 3, maxLocals := 1, code := jdk_32_method_5_code, exceptionTable := #[], attributes := #[] }
def k13m3 : Method := { name := "get", desc := "()Ljava/lang/Object;", sig := { parameters := [], returnType := some (.object "java/lang/Object") }, accessFlags := 1, code := some k13c3 }
def k13c4 : Code := { maxStack := 1, maxLocals := 1, code := jdk_32_method_6_code, exceptionTable := #[], attributes := #[] }
def k13m4 : Method := { name := "isPresent", desc := "()Z", sig := { parameters := [], returnType := some .boolean }, accessFlags := 1, code := some k13c4 }
/-- java/util/Optional -/
def k13 : Class := { plain "java/util/Optional" (some 0) with
  accessFlags := 49
  interfaces := #[]
  cf := some (fileOf pool13 2 #[] #[{ accessFlags := 9, nameIndex := 55, descriptorIndex := 56, attributes := #[] }, { accessFlags := 2, nameIndex := 11, descriptorIndex := 25, attributes := #[] }, { accessFlags := 9, nameIndex := 82, descriptorIndex := 65, attributes := #[] }, { accessFlags := 1, nameIndex := 73, descriptorIndex := 74, attributes := #[] }, { accessFlags := 1, nameIndex := 68, descriptorIndex := 46, attributes := #[] }] 49 8 #[] #[{ accessFlags := 26, nameIndex := 5, descriptorIndex := 6, attributes := #[] }, { accessFlags := 18, nameIndex := 15, descriptorIndex := 16, attributes := #[] }])
  fields := #[{ name := "EMPTY", type := (.object "java/util/Optional"), accessFlags := 26, slot := 0, constantValue := 0 }, { name := "value", type := (.object "java/lang/Object"), accessFlags := 18, slot := 0, constantValue := 0 }]
  methods := #[k13m0, k13m1, k13m2, k13m3, k13m4]
  instanceTypes := #[(.object "java/lang/Object")]
  staticTypes := #[(.object "java/util/Optional")]
  resolved := Array.replicate 187 none
  statics := some 2 }

def pool14 : Array CpInfo := pool [(2, .class_ 4), (1, u "java/lang/Object"), (0, u "<init>"), (0, u "()V"), (35, .class_ 44), (1, u "java/util/Objects"), (0, u "requireNonNull"), (0, u "(Ljava/lang/Object;)Ljava/lang/Object;")] 137

def k14m0 : Method := { name := "<init>", desc := "()V", sig := { parameters := [], returnType := none }, accessFlags := 2, code := none }
def k14c1 : Code := { maxStack := 2, maxLocals := 1, code := jdk_31_method_10_code, exceptionTable := #[], attributes := #[] }
def k14m1 : Method := { name := "requireNonNull", desc := "(Ljava/lang/Object;)Ljava/lang/Object;", sig := { parameters := [(.object "java/lang/Object")], returnType := some (.object "java/lang/Object") }, accessFlags := 9, code := some k14c1 }
/-- java/util/Objects -/
def k14 : Class := { plain "java/util/Objects" (some 0) with
  accessFlags := 49
  interfaces := #[]
  cf := some (fileOf pool14 42 #[] #[{ accessFlags := 2, nameIndex := 5, descriptorIndex := 6, attributes := #[] }, { accessFlags := 9, nameIndex := 45, descriptorIndex := 46, attributes := #[] }] 49 2 #[] #[])
  fields := #[]
  methods := #[k14m0, k14m1]
  instanceTypes := #[]
  staticTypes := #[]
  resolved := Array.replicate 184 none
  statics := none }

def pool15 : Array CpInfo := pool [(2, .class_ 4), (1, u "java/lang/Object"), (0, u "<init>"), (0, u "()V"), (17, .class_ 26), (1, u "jdk/internal/util/Preconditions"), (28, .class_ 56), (0, u "jdk/internal/util/Preconditions$4"), (57, .class_ 115), (0, u "jdk/internal/util/Preconditions$1"), (7, u "SIOOBE_FORMATTER"), (0, u "Ljava/util/function/BiFunction;"), (0, .class_ 126), (0, u "jdk/internal/util/Preconditions$2"), (3, u "AIOOBE_FORMATTER"), (0, .class_ 132), (0, u "jdk/internal/util/Preconditions$3"), (3, u "IOOBE_FORMATTER")] 57

def k15m0 : Method := { name := "<init>", desc := "()V", sig := { parameters := [], returnType := none }, accessFlags := 1, code := none }
/-- jdk/internal/util/Preconditions -/
def k15 : Class := { plain "jdk/internal/util/Preconditions" (some 0) with
  accessFlags := 33
  interfaces := #[]
  cf := some (fileOf pool15 24 #[.nestMembers #[55, 131, 125, 114]] #[{ accessFlags := 1, nameIndex := 5, descriptorIndex := 6, attributes := #[] }] 33 2 #[] #[{ accessFlags := 25, nameIndex := 123, descriptorIndex := 124, attributes := #[] }, { accessFlags := 25, nameIndex := 130, descriptorIndex := 124, attributes := #[] }, { accessFlags := 25, nameIndex := 136, descriptorIndex := 124, attributes := #[] }])
  fields := #[{ name := "SIOOBE_FORMATTER", type := (.object "java/util/function/BiFunction"), accessFlags := 25, slot := 0, constantValue := 0 }, { name := "AIOOBE_FORMATTER", type := (.object "java/util/function/BiFunction"), accessFlags := 25, slot := 1, constantValue := 0 }, { name := "IOOBE_FORMATTER", type := (.object "java/util/function/BiFunction"), accessFlags := 25, slot := 2, constantValue := 0 }]
  methods := #[k15m0]
  instanceTypes := #[]
  staticTypes := #[(.object "java/util/function/BiFunction"), (.object "java/util/function/BiFunction"), (.object "java/util/function/BiFunction")]
  resolved := Array.replicate 194 none
  statics := some 3 }

def pool16 : Array CpInfo := pool [(9, u "<init>"), (6, .class_ 18), (1, u "java/lang/Object"), (0, u "()V"), (1, .class_ 23), (1, u "jdk/internal/util/ArraysSupport"), (0, u "LOG2_ARRAY_LONG_INDEX_SCALE"), (0, u "I"), (2, u "U"), (0, u "Ljdk/internal/misc/Unsafe;"), (8, u "BIG_ENDIAN"), (0, u "Z"), (8, u "LOG2_BYTE_BIT_SIZE"), (4, u "LOG2_ARRAY_INT_INDEX_SCALE"), (54, u "JLA"), (0, u "Ljdk/internal/access/JavaLangAccess;"), (11, u "LOG2_ARRAY_BOOLEAN_INDEX_SCALE"), (9, u "LOG2_ARRAY_BYTE_INDEX_SCALE"), (5, u "LOG2_ARRAY_CHAR_INDEX_SCALE"), (5, u "LOG2_ARRAY_SHORT_INDEX_SCALE"), (18, u "LOG2_ARRAY_FLOAT_INDEX_SCALE"), (24, u "LOG2_ARRAY_DOUBLE_INDEX_SCALE"), (89, u "T_BOOLEAN"), (2, u "T_CHAR"), (1, u "T_FLOAT"), (1, u "T_DOUBLE"), (1, u "T_BYTE"), (1, u "T_SHORT"), (1, u "T_INT"), (1, u "T_LONG"), (1, u "SOFT_MAX_ARRAY_LENGTH")] 83

def k16m0 : Method := { name := "<init>", desc := "()V", sig := { parameters := [], returnType := none }, accessFlags := 2, code := none }
/-- jdk/internal/util/ArraysSupport -/
def k16 : Class := { plain "jdk/internal/util/ArraysSupport" (some 0) with
  accessFlags := 33
  interfaces := #[]
  cf := some (fileOf pool16 21 #[] #[{ accessFlags := 2, nameIndex := 9, descriptorIndex := 19, attributes := #[] }] 33 16 #[] #[{ accessFlags := 24, nameIndex := 28, descriptorIndex := 29, attributes := #[] }, { accessFlags := 26, nameIndex := 38, descriptorIndex := 39, attributes := #[] }, { accessFlags := 25, nameIndex := 121, descriptorIndex := 25, attributes := #[] }, { accessFlags := 25, nameIndex := 131, descriptorIndex := 25, attributes := #[] }, { accessFlags := 25, nameIndex := 137, descriptorIndex := 25, attributes := #[] }, { accessFlags := 25, nameIndex := 143, descriptorIndex := 25, attributes := #[] }, { accessFlags := 25, nameIndex := 53, descriptorIndex := 25, attributes := #[] }, { accessFlags := 25, nameIndex := 24, descriptorIndex := 25, attributes := #[] }, { accessFlags := 25, nameIndex := 162, descriptorIndex := 25, attributes := #[] }, { accessFlags := 25, nameIndex := 187, descriptorIndex := 25, attributes := #[] }, { accessFlags := 26, nameIndex := 48, descriptorIndex := 25, attributes := #[] }, { accessFlags := 25, nameIndex := 277, descriptorIndex := 25, attributes := #[] }, { accessFlags := 25, nameIndex := 280, descriptorIndex := 25, attributes := #[] }, { accessFlags := 25, nameIndex := 282, descriptorIndex := 25, attributes := #[] }, { accessFlags := 25, nameIndex := 284, descriptorIndex := 25, attributes := #[] }, { accessFlags := 25, nameIndex := 286, descriptorIndex := 25, attributes := #[] }, { accessFlags := 25, nameIndex := 288, descriptorIndex := 25, attributes := #[] }, { accessFlags := 25, nameIndex := 290, descriptorIndex := 25, attributes := #[] }, { accessFlags := 25, nameIndex := 292, descriptorIndex := 25, attributes := #[] }, { accessFlags := 26, nameIndex := 108, descriptorIndex := 109, attributes := #[] }, { accessFlags := 25, nameIndex := 294, descriptorIndex := 25, attributes := #[] }])
  fields := #[{ name := "U", type := (.object "jdk/internal/misc/Unsafe"), accessFlags := 24, slot := 0, constantValue := 0 }, { name := "BIG_ENDIAN", type := .boolean, accessFlags := 26, slot := 1, constantValue := 0 }, { name := "LOG2_ARRAY_BOOLEAN_INDEX_SCALE", type := .int, accessFlags := 25, slot := 2, constantValue := 0 }, { name := "LOG2_ARRAY_BYTE_INDEX_SCALE", type := .int, accessFlags := 25, slot := 3, constantValue := 0 }, { name := "LOG2_ARRAY_CHAR_INDEX_SCALE", type := .int, accessFlags := 25, slot := 4, constantValue := 0 }, { name := "LOG2_ARRAY_SHORT_INDEX_SCALE", type := .int, accessFlags := 25, slot := 5, constantValue := 0 }, { name := "LOG2_ARRAY_INT_INDEX_SCALE", type := .int, accessFlags := 25, slot := 6, constantValue := 0 }, { name := "LOG2_ARRAY_LONG_INDEX_SCALE", type := .int, accessFlags := 25, slot := 7, constantValue := 0 }, { name := "LOG2_ARRAY_FLOAT_INDEX_SCALE", type := .int, accessFlags := 25, slot := 8, constantValue := 0 }, { name := "LOG2_ARRAY_DOUBLE_INDEX_SCALE", type := .int, accessFlags := 25, slot := 9, constantValue := 0 }, { name := "LOG2_BYTE_BIT_SIZE", type := .int, accessFlags := 26, slot := 10, constantValue := 0 }, { name := "T_BOOLEAN", type := .int, accessFlags := 25, slot := 11, constantValue := 0 }, { name := "T_CHAR", type := .int, accessFlags := 25, slot := 12, constantValue := 0 }, { name := "T_FLOAT", type := .int, accessFlags := 25, slot := 13, constantValue := 0 }, { name := "T_DOUBLE", type := .int, accessFlags := 25, slot := 14, constantValue := 0 }, { name := "T_BYTE", type := .int, accessFlags := 25, slot := 15, constantValue := 0 }, { name := "T_SHORT", type := .int, accessFlags := 25, slot := 16, constantValue := 0 }, { name := "T_INT", type := .int, accessFlags := 25, slot := 17, constantValue := 0 }, { name := "T_LONG", type := .int, accessFlags := 25, slot := 18, constantValue := 0 }, { name := "JLA", type := (.object "jdk/internal/access/JavaLangAccess"), accessFlags := 26, slot := 19, constantValue := 0 }, { name := "SOFT_MAX_ARRAY_LENGTH", type := .int, accessFlags := 25, slot := 20, constantValue := 0 }]
  methods := #[k16m0]
  instanceTypes := #[]
  staticTypes := #[(.object "jdk/internal/misc/Unsafe"), .boolean, .int, .int, .int, .int, .int, .int, .int, .int, .int, .int, .int, .int, .int, .int, .int, .int, .int, (.object "jdk/internal/access/JavaLangAccess"), .int]
  resolved := Array.replicate 378 none
  statics := none }

/-- the primitive byte -/
def k17 : Class := { plain "byte" none with kind := .primitive 'B', accessFlags := 0x411 }
/-- [B -/
def k18 : Class := { plain "[B" (some 0) with kind := .array 17 .byte, interfaces := #[11, 2], accessFlags := 1041 }

/-- the primitive char -/
def k19 : Class := { plain "char" none with kind := .primitive 'C', accessFlags := 0x411 }
/-- [C -/
def k20 : Class := { plain "[C" (some 0) with kind := .array 19 .char, interfaces := #[11, 2], accessFlags := 1041 }

/-- the primitive int -/
def k21 : Class := { plain "int" none with kind := .primitive 'I', accessFlags := 0x411 }
/-- [I -/
def k22 : Class := { plain "[I" (some 0) with kind := .array 21 .int, interfaces := #[11, 2], accessFlags := 1041 }

/-- [Lcom/example/composition/composition/definition/AbapLanguageVersion; -/
def k23 : Class := { plain "[Lcom/example/composition/composition/definition/AbapLanguageVersion;" (some 0) with kind := .array 10 (.object "com/example/composition/composition/definition/AbapLanguageVersion"), interfaces := #[11, 2], accessFlags := 1041 }

def heap : Heap := #[{ cls := 7, slots := #[.long 0, .int 1, .null, .int 0, .null, .int 0, .int 0], vm := .statics 7 },
  { cls := 10, slots := #[.ref 5, .ref 6, .ref 7, .ref 4], vm := .statics 10 },
  { cls := 13, slots := #[.ref 14], vm := .statics 13 },
  { cls := 15, slots := #[.null, .null, .null], vm := .statics 15 },
  { cls := 23, slots := #[.ref 5, .ref 6, .ref 7], vm := .none },
  { cls := 10, slots := #[.null, .int 0, .int 0, .ref 8], vm := .none },
  { cls := 10, slots := #[.null, .int 0, .int 0, .ref 9], vm := .none },
  { cls := 10, slots := #[.null, .int 0, .int 0, .ref 10], vm := .none },
  { cls := 7, slots := #[.ref 11, .int 0, .int 0, .int 0], vm := .none },
  { cls := 7, slots := #[.ref 12, .int 0, .int 0, .int 0], vm := .none },
  { cls := 7, slots := #[.ref 13, .int 0, .int 0, .int 0], vm := .none },
  { cls := 18, slots := #[.int 115, .int 116, .int 97, .int 110, .int 100, .int 97, .int 114, .int 100], vm := .none },
  { cls := 18, slots := #[.int 107, .int 101, .int 121, .int 85, .int 115, .int 101, .int 114], vm := .none },
  { cls := 18, slots := #[.int 99, .int 108, .int 111, .int 117, .int 100, .int 68, .int 101, .int 118, .int 101, .int 108, .int 111, .int 112, .int 109, .int 101, .int 110, .int 116], vm := .none },
  { cls := 13, slots := #[.null], vm := .none }]
def classes : Array Class := #[k0, k1, k2, k3, k4, k5, k6, k7, k8, k9, k10, k11, k12, k13, k14, k15, k16, k17, k18, k19, k20, k21, k22, k23]
def interned : List (Array UInt16 × Addr) := []
def slotsUsed : Nat := 74
def theMethod : MethodId := ⟨1, 5⟩
def args0 : Array Value := #[.int 5, .int 5, .int 5, .int 5]
def aboutOver (below : List Frame) : State where
  vm := { classes := classes, interned := interned.toArray }
  heap := heap
  slotsUsed := slotsUsed
  threads := #[{ frames := .invoking theMethod args0 :: below }]
def below0 : List Frame := [.native { method := ⟨0, 0⟩, args := #[] }]
def about1 : State := aboutOver below0
def p0 : Program := .bare "" "" ""
def e0 : Env := launch0.env 0 0 0
theorem w_frames : about1.frames = Frame.invoking theMethod args0 :: below0 := rfl
set_option maxRecDepth 65536 in
theorem w_args : argsFit about1.vm theMethod args0 = true := by decide +kernel
set_option maxRecDepth 65536 in
theorem w_heap : heapFits about1 = true := by decide +kernel
set_option maxRecDepth 65536 in
theorem w_runnable : about1.curStatus? = some .runnable := by decide +kernel
set_option maxRecDepth 65536 in
theorem w_alone : about1.alone = true := by decide +kernel
set_option maxRecDepth 65536 in
theorem w_named : about1.methodNamed? x = some theMethod := by decide +kernel
set_option maxRecDepth 65536 in
theorem w_hears : about1.hears theMethod below0 = true := by decide +kernel
set_option maxRecDepth 65536 in
theorem w_ripe : about1.ripe theMethod args0 below0 = true := by decide +kernel
theorem w_running : about1.status = .running := rfl
set_option maxRecDepth 65536 in
theorem w_room : about1.hasRoom e0.platform room_1 = true :=
  launch0.hasRoom_least _ room_1 (by decide +kernel) (by decide +kernel) (by decide +kernel) (by decide +kernel) (by decide +kernel) (by decide +kernel)
theorem allAtoms_all (ts : List Jvm.Cond) (a : Array Jvm.Value) (st : Jvm.State) : (allAtoms ts).before a st = ts.all (fun c => c.before a st) := by
  induction ts with
  | nil => rfl
  | cons c t ih =>
    show (Jvm.Cond.and c (allAtoms t)).before a st = _
    rw [Jvm.Cond.before_and, ih, List.all_cons]
def words1 : List Jvm.Cond := Jvm.Cond.code x code maxLocals ret :: tables_1
/-- a 'code' word, met by the world's own term for the bytes: nothing is compared byte by byte -/
theorem code_word {y : MethodName} {bytes : ByteArray} {mx : Nat} {rt : Option FieldType} {a : Array Value} {s : State} {m : MethodId} {meth : Method} {c : Code} (h1 : s.methodNamed? y = some m) (h2 : s.vm.method? m = some meth) (h3 : meth.code = some c) (h4 : c.code = bytes)
    (h5 : (c.maxLocals == mx && c.exceptionTable.isEmpty && decide (c.maxStack ≤ mostOperands) && decide (meth.sig.returnType = rt) && !meth.locks && decide (parseMethodDescriptor y.desc = some meth.sig)) = true) : (Jvm.Cond.code y bytes mx rt).before a s = true := by
  simp only [Bool.and_eq_true, beq_iff_eq, Bool.not_eq_true', decide_eq_true_eq] at h5
  obtain ⟨⟨⟨⟨⟨g1, g2⟩, g3⟩, g4⟩, g5⟩, g6⟩ := h5
  simp [Cond.before, Cond.holds, Cond.value, h1, h2, h3, h4, g1, g2, g3, g4, g5, g6]
def isCode : Jvm.Cond → Bool
  | .code _ _ _ _ => true
  | _ => false
theorem all_split {L : List Jvm.Cond} {P : Jvm.Cond → Bool} (h1 : L.all (fun c => isCode c || P c) = true) (h2 : ∀ c ∈ L.filter isCode, P c = true) : L.all P = true := by
  refine List.all_eq_true.mpr fun c hc => ?_
  have h := List.all_eq_true.mp h1 c hc
  rcases Bool.eq_false_or_eq_true (isCode c) with hi | hi
  · exact h2 c (List.mem_filter.mpr ⟨hc, hi⟩)
  · simpa [hi] using h
set_option maxRecDepth 65536 in
theorem w_c0 : (Jvm.Cond.code x code maxLocals ret).before args0 about1 = true := code_word (m := ⟨1, 5⟩) (meth := k1m5) (c := k1c5) (by decide +kernel) rfl rfl rfl (by decide +kernel)
set_option maxRecDepth 65536 in
theorem w_c1 : (Jvm.Cond.code ({ cls := "com/example/composition/composition/definition/AbapLanguageVersionOfJsonNamePinLaw", name := "full", desc := "(I)[C" } : Jvm.MethodName) method_2_code (1 : Nat) (Option.some (Jvm.ClassFile.FieldType.array Jvm.ClassFile.FieldType.char))).before args0 about1 = true := code_word (m := ⟨1, 1⟩) (meth := k1m1) (c := k1c1) (by decide +kernel) rfl rfl rfl (by decide +kernel)
set_option maxRecDepth 65536 in
theorem w_c2 : (Jvm.Cond.code ({ cls := "java/lang/String", name := "<init>", desc := "([C)V" } : Jvm.MethodName) jdk_42_method_3_code (2 : Nat) (Option.none : Option Jvm.ClassFile.FieldType)).before args0 about1 = true := code_word (m := ⟨7, 1⟩) (meth := k7m1) (c := k7c1) (by decide +kernel) rfl rfl rfl (by decide +kernel)
set_option maxRecDepth 65536 in
theorem w_c3 : (Jvm.Cond.code ({ cls := "java/lang/String", name := "<init>", desc := "([CIILjava/lang/Void;)V" } : Jvm.MethodName) jdk_42_method_149_code (6 : Nat) (Option.none : Option Jvm.ClassFile.FieldType)).before args0 about1 = true := code_word (m := ⟨7, 4⟩) (meth := k7m4) (c := k7c4) (by decide +kernel) rfl rfl rfl (by decide +kernel)
set_option maxRecDepth 65536 in
theorem w_c4 : (Jvm.Cond.code ({ cls := "java/lang/Object", name := "<init>", desc := "()V" } : Jvm.MethodName) object_method_1_code (1 : Nat) (Option.none : Option Jvm.ClassFile.FieldType)).before args0 about1 = true := code_word (m := ⟨0, 0⟩) (meth := k0m0) (c := k0c0) (by decide +kernel) rfl rfl rfl (by decide +kernel)
set_option maxRecDepth 65536 in
theorem w_c5 : (Jvm.Cond.code ({ cls := "java/lang/StringUTF16", name := "compress", desc := "([CII)[B" } : Jvm.MethodName) jdk_52_method_16_code (6 : Nat) (Option.some (Jvm.ClassFile.FieldType.array Jvm.ClassFile.FieldType.byte))).before args0 about1 = true := code_word (m := ⟨8, 2⟩) (meth := k8m2) (c := k8c2) (by decide +kernel) rfl rfl rfl (by decide +kernel)
set_option maxRecDepth 65536 in
theorem w_c6 : (Jvm.Cond.code ({ cls := "java/lang/StringUTF16", name := "compress", desc := "([CI[BII)I" } : Jvm.MethodName) jdk_52_method_21_code (7 : Nat) (Option.some Jvm.ClassFile.FieldType.int)).before args0 about1 = true := code_word (m := ⟨8, 3⟩) (meth := k8m3) (c := k8c3) (by decide +kernel) rfl rfl rfl (by decide +kernel)
set_option maxRecDepth 65536 in
theorem w_c7 : (Jvm.Cond.code ({ cls := "java/lang/StringUTF16", name := "coderFromArrayLen", desc := "([BI)B" } : Jvm.MethodName) jdk_52_method_15_code (2 : Nat) (Option.some Jvm.ClassFile.FieldType.byte)).before args0 about1 = true := code_word (m := ⟨8, 1⟩) (meth := k8m1) (c := k8c1) (by decide +kernel) rfl rfl rfl (by decide +kernel)
set_option maxRecDepth 65536 in
theorem w_c8 : (Jvm.Cond.code ({ cls := "com/example/composition/composition/definition/AbapLanguageVersion", name := "ofJsonName", desc := "(Ljava/lang/String;)Ljava/util/Optional;" } : Jvm.MethodName) prog_11_method_6_code (5 : Nat) (Option.some (Jvm.ClassFile.FieldType.object "java/util/Optional"))).before args0 about1 = true := code_word (m := ⟨10, 1⟩) (meth := k10m1) (c := k10c1) (by decide +kernel) rfl rfl rfl (by decide +kernel)
set_option maxRecDepth 65536 in
theorem w_c9 : (Jvm.Cond.code ({ cls := "com/example/composition/composition/definition/AbapLanguageVersion", name := "values", desc := "()[Lcom/example/composition/composition/definition/AbapLanguageVersion;" } : Jvm.MethodName) prog_11_method_1_code (0 : Nat) (Option.some (Jvm.ClassFile.FieldType.array (Jvm.ClassFile.FieldType.object "com/example/composition/composition/definition/AbapLanguageVersion")))).before args0 about1 = true := code_word (m := ⟨10, 0⟩) (meth := k10m0) (c := k10c0) (by decide +kernel) rfl rfl rfl (by decide +kernel)
set_option maxRecDepth 65536 in
theorem w_c10 : (Jvm.Cond.code ({ cls := "java/lang/String", name := "equals", desc := "(Ljava/lang/Object;)Z" } : Jvm.MethodName) jdk_42_method_66_code (3 : Nat) (Option.some Jvm.ClassFile.FieldType.boolean)).before args0 about1 = true := code_word (m := ⟨7, 2⟩) (meth := k7m2) (c := k7c2) (by decide +kernel) rfl rfl rfl (by decide +kernel)
set_option maxRecDepth 65536 in
theorem w_c11 : (Jvm.Cond.code ({ cls := "java/lang/StringLatin1", name := "equals", desc := "([B[B)Z" } : Jvm.MethodName) jdk_43_method_13_code (3 : Nat) (Option.some Jvm.ClassFile.FieldType.boolean)).before args0 about1 = true := code_word (m := ⟨12, 2⟩) (meth := k12m2) (c := k12c2) (by decide +kernel) rfl rfl rfl (by decide +kernel)
set_option maxRecDepth 65536 in
theorem w_c12 : (Jvm.Cond.code ({ cls := "java/util/Optional", name := "of", desc := "(Ljava/lang/Object;)Ljava/util/Optional;" } : Jvm.MethodName) jdk_32_method_3_code (1 : Nat) (Option.some (Jvm.ClassFile.FieldType.object "java/util/Optional"))).before args0 about1 = true := code_word (m := ⟨13, 2⟩) (meth := k13m2) (c := k13c2) (by decide +kernel) rfl rfl rfl (by decide +kernel)
set_option maxRecDepth 65536 in
theorem w_c13 : (Jvm.Cond.code ({ cls := "java/util/Objects", name := "requireNonNull", desc := "(Ljava/lang/Object;)Ljava/lang/Object;" } : Jvm.MethodName) jdk_31_method_10_code (1 : Nat) (Option.some (Jvm.ClassFile.FieldType.object "java/lang/Object"))).before args0 about1 = true := code_word (m := ⟨14, 1⟩) (meth := k14m1) (c := k14c1) (by decide +kernel) rfl rfl rfl (by decide +kernel)
set_option maxRecDepth 65536 in
theorem w_c14 : (Jvm.Cond.code ({ cls := "java/util/Optional", name := "<init>", desc := "(Ljava/lang/Object;)V" } : Jvm.MethodName) jdk_32_method_2_code (2 : Nat) (Option.none : Option Jvm.ClassFile.FieldType)).before args0 about1 = true := code_word (m := ⟨13, 1⟩) (meth := k13m1) (c := k13c1) (by decide +kernel) rfl rfl rfl (by decide +kernel)
set_option maxRecDepth 65536 in
theorem w_c15 : (Jvm.Cond.code ({ cls := "java/util/Optional", name := "isPresent", desc := "()Z" } : Jvm.MethodName) jdk_32_method_6_code (1 : Nat) (Option.some Jvm.ClassFile.FieldType.boolean)).before args0 about1 = true := code_word (m := ⟨13, 4⟩) (meth := k13m4) (c := k13c4) (by decide +kernel) rfl rfl rfl (by decide +kernel)
set_option maxRecDepth 65536 in
theorem w_c16 : (Jvm.Cond.code ({ cls := "java/util/Optional", name := "get", desc := "()Ljava/lang/Object;" } : Jvm.MethodName) jdk_32_method_5_code (1 : Nat) (Option.some (Jvm.ClassFile.FieldType.object "java/lang/Object"))).before args0 about1 = true := code_word (m := ⟨13, 3⟩) (meth := k13m3) (c := k13c3) (by decide +kernel) rfl rfl rfl (by decide +kernel)
set_option maxRecDepth 65536 in
theorem w_c17 : (Jvm.Cond.code ({ cls := "com/example/composition/composition/definition/AbapLanguageVersionOfJsonNamePinLaw", name := "constant", desc := "(I)Lcom/example/composition/composition/definition/AbapLanguageVersion;" } : Jvm.MethodName) method_5_code (1 : Nat) (Option.some (Jvm.ClassFile.FieldType.object "com/example/composition/composition/definition/AbapLanguageVersion"))).before args0 about1 = true := code_word (m := ⟨1, 4⟩) (meth := k1m4) (c := k1c4) (by decide +kernel) rfl rfl rfl (by decide +kernel)
set_option maxRecDepth 65536 in
theorem w_c18 : (Jvm.Cond.code ({ cls := "com/example/composition/composition/definition/AbapLanguageVersionOfJsonNamePinLaw", name := "extended", desc := "(IC)[C" } : Jvm.MethodName) method_4_code (2 : Nat) (Option.some (Jvm.ClassFile.FieldType.array Jvm.ClassFile.FieldType.char))).before args0 about1 = true := code_word (m := ⟨1, 3⟩) (meth := k1m3) (c := k1c3) (by decide +kernel) rfl rfl rfl (by decide +kernel)
set_option maxRecDepth 65536 in
theorem w_c19 : (Jvm.Cond.code ({ cls := "java/util/Optional", name := "empty", desc := "()Ljava/util/Optional;" } : Jvm.MethodName) jdk_32_method_1_code (1 : Nat) (Option.some (Jvm.ClassFile.FieldType.object "java/util/Optional"))).before args0 about1 = true := code_word (m := ⟨13, 0⟩) (meth := k13m0) (c := k13c0) (by decide +kernel) rfl rfl rfl (by decide +kernel)
set_option maxRecDepth 65536 in
theorem w_c20 : (Jvm.Cond.code ({ cls := "com/example/composition/composition/definition/AbapLanguageVersionOfJsonNamePinLaw", name := "prefix", desc := "(I)[C" } : Jvm.MethodName) method_3_code (1 : Nat) (Option.some (Jvm.ClassFile.FieldType.array Jvm.ClassFile.FieldType.char))).before args0 about1 = true := code_word (m := ⟨1, 2⟩) (meth := k1m2) (c := k1c2) (by decide +kernel) rfl rfl rfl (by decide +kernel)
set_option maxRecDepth 65536 in
theorem w_c21 : (Jvm.Cond.code ({ cls := "java/lang/String", name := "valueOf", desc := "(C)Ljava/lang/String;" } : Jvm.MethodName) jdk_42_method_139_code (1 : Nat) (Option.some (Jvm.ClassFile.FieldType.object "java/lang/String"))).before args0 about1 = true := code_word (m := ⟨7, 3⟩) (meth := k7m3) (c := k7c3) (by decide +kernel) rfl rfl rfl (by decide +kernel)
set_option maxRecDepth 65536 in
theorem w_c22 : (Jvm.Cond.code ({ cls := "java/lang/StringLatin1", name := "canEncode", desc := "(C)Z" } : Jvm.MethodName) jdk_43_method_3_code (1 : Nat) (Option.some Jvm.ClassFile.FieldType.boolean)).before args0 about1 = true := code_word (m := ⟨12, 1⟩) (meth := k12m1) (c := k12c1) (by decide +kernel) rfl rfl rfl (by decide +kernel)
set_option maxRecDepth 65536 in
theorem w_c23 : (Jvm.Cond.code ({ cls := "java/lang/StringLatin1", name := "toBytes", desc := "(C)[B" } : Jvm.MethodName) jdk_43_method_46_code (1 : Nat) (Option.some (Jvm.ClassFile.FieldType.array Jvm.ClassFile.FieldType.byte))).before args0 about1 = true := code_word (m := ⟨12, 3⟩) (meth := k12m3) (c := k12c3) (by decide +kernel) rfl rfl rfl (by decide +kernel)
set_option maxRecDepth 65536 in
theorem w_c24 : (Jvm.Cond.code ({ cls := "java/lang/String", name := "<init>", desc := "([BB)V" } : Jvm.MethodName) jdk_42_method_151_code (3 : Nat) (Option.none : Option Jvm.ClassFile.FieldType)).before args0 about1 = true := code_word (m := ⟨7, 5⟩) (meth := k7m5) (c := k7c5) (by decide +kernel) rfl rfl rfl (by decide +kernel)
def codes1 : List Jvm.Cond := [Jvm.Cond.code x code maxLocals ret, Jvm.Cond.code ({ cls := "com/example/composition/composition/definition/AbapLanguageVersionOfJsonNamePinLaw", name := "full", desc := "(I)[C" } : Jvm.MethodName) method_2_code (1 : Nat) (Option.some (Jvm.ClassFile.FieldType.array Jvm.ClassFile.FieldType.char)), Jvm.Cond.code ({ cls := "java/lang/String", name := "<init>", desc := "([C)V" } : Jvm.MethodName) jdk_42_method_3_code (2 : Nat) (Option.none : Option Jvm.ClassFile.FieldType), Jvm.Cond.code ({ cls := "java/lang/String", name := "<init>", desc := "([CIILjava/lang/Void;)V" } : Jvm.MethodName) jdk_42_method_149_code (6 : Nat) (Option.none : Option Jvm.ClassFile.FieldType), Jvm.Cond.code ({ cls := "java/lang/Object", name := "<init>", desc := "()V" } : Jvm.MethodName) object_method_1_code (1 : Nat) (Option.none : Option Jvm.ClassFile.FieldType), Jvm.Cond.code ({ cls := "java/lang/StringUTF16", name := "compress", desc := "([CII)[B" } : Jvm.MethodName) jdk_52_method_16_code (6 : Nat) (Option.some (Jvm.ClassFile.FieldType.array Jvm.ClassFile.FieldType.byte)), Jvm.Cond.code ({ cls := "java/lang/StringUTF16", name := "compress", desc := "([CI[BII)I" } : Jvm.MethodName) jdk_52_method_21_code (7 : Nat) (Option.some Jvm.ClassFile.FieldType.int), Jvm.Cond.code ({ cls := "java/lang/StringUTF16", name := "coderFromArrayLen", desc := "([BI)B" } : Jvm.MethodName) jdk_52_method_15_code (2 : Nat) (Option.some Jvm.ClassFile.FieldType.byte), Jvm.Cond.code ({ cls := "com/example/composition/composition/definition/AbapLanguageVersion", name := "ofJsonName", desc := "(Ljava/lang/String;)Ljava/util/Optional;" } : Jvm.MethodName) prog_11_method_6_code (5 : Nat) (Option.some (Jvm.ClassFile.FieldType.object "java/util/Optional")), Jvm.Cond.code ({ cls := "com/example/composition/composition/definition/AbapLanguageVersion", name := "values", desc := "()[Lcom/example/composition/composition/definition/AbapLanguageVersion;" } : Jvm.MethodName) prog_11_method_1_code (0 : Nat) (Option.some (Jvm.ClassFile.FieldType.array (Jvm.ClassFile.FieldType.object "com/example/composition/composition/definition/AbapLanguageVersion"))), Jvm.Cond.code ({ cls := "java/lang/String", name := "equals", desc := "(Ljava/lang/Object;)Z" } : Jvm.MethodName) jdk_42_method_66_code (3 : Nat) (Option.some Jvm.ClassFile.FieldType.boolean), Jvm.Cond.code ({ cls := "java/lang/StringLatin1", name := "equals", desc := "([B[B)Z" } : Jvm.MethodName) jdk_43_method_13_code (3 : Nat) (Option.some Jvm.ClassFile.FieldType.boolean), Jvm.Cond.code ({ cls := "java/util/Optional", name := "of", desc := "(Ljava/lang/Object;)Ljava/util/Optional;" } : Jvm.MethodName) jdk_32_method_3_code (1 : Nat) (Option.some (Jvm.ClassFile.FieldType.object "java/util/Optional")), Jvm.Cond.code ({ cls := "java/util/Objects", name := "requireNonNull", desc := "(Ljava/lang/Object;)Ljava/lang/Object;" } : Jvm.MethodName) jdk_31_method_10_code (1 : Nat) (Option.some (Jvm.ClassFile.FieldType.object "java/lang/Object")), Jvm.Cond.code ({ cls := "java/util/Optional", name := "<init>", desc := "(Ljava/lang/Object;)V" } : Jvm.MethodName) jdk_32_method_2_code (2 : Nat) (Option.none : Option Jvm.ClassFile.FieldType), Jvm.Cond.code ({ cls := "java/util/Optional", name := "isPresent", desc := "()Z" } : Jvm.MethodName) jdk_32_method_6_code (1 : Nat) (Option.some Jvm.ClassFile.FieldType.boolean), Jvm.Cond.code ({ cls := "java/util/Optional", name := "get", desc := "()Ljava/lang/Object;" } : Jvm.MethodName) jdk_32_method_5_code (1 : Nat) (Option.some (Jvm.ClassFile.FieldType.object "java/lang/Object")), Jvm.Cond.code ({ cls := "com/example/composition/composition/definition/AbapLanguageVersionOfJsonNamePinLaw", name := "constant", desc := "(I)Lcom/example/composition/composition/definition/AbapLanguageVersion;" } : Jvm.MethodName) method_5_code (1 : Nat) (Option.some (Jvm.ClassFile.FieldType.object "com/example/composition/composition/definition/AbapLanguageVersion")), Jvm.Cond.code ({ cls := "com/example/composition/composition/definition/AbapLanguageVersionOfJsonNamePinLaw", name := "extended", desc := "(IC)[C" } : Jvm.MethodName) method_4_code (2 : Nat) (Option.some (Jvm.ClassFile.FieldType.array Jvm.ClassFile.FieldType.char)), Jvm.Cond.code ({ cls := "java/util/Optional", name := "empty", desc := "()Ljava/util/Optional;" } : Jvm.MethodName) jdk_32_method_1_code (1 : Nat) (Option.some (Jvm.ClassFile.FieldType.object "java/util/Optional")), Jvm.Cond.code ({ cls := "com/example/composition/composition/definition/AbapLanguageVersionOfJsonNamePinLaw", name := "prefix", desc := "(I)[C" } : Jvm.MethodName) method_3_code (1 : Nat) (Option.some (Jvm.ClassFile.FieldType.array Jvm.ClassFile.FieldType.char)), Jvm.Cond.code ({ cls := "java/lang/String", name := "valueOf", desc := "(C)Ljava/lang/String;" } : Jvm.MethodName) jdk_42_method_139_code (1 : Nat) (Option.some (Jvm.ClassFile.FieldType.object "java/lang/String")), Jvm.Cond.code ({ cls := "java/lang/StringLatin1", name := "canEncode", desc := "(C)Z" } : Jvm.MethodName) jdk_43_method_3_code (1 : Nat) (Option.some Jvm.ClassFile.FieldType.boolean), Jvm.Cond.code ({ cls := "java/lang/StringLatin1", name := "toBytes", desc := "(C)[B" } : Jvm.MethodName) jdk_43_method_46_code (1 : Nat) (Option.some (Jvm.ClassFile.FieldType.array Jvm.ClassFile.FieldType.byte)), Jvm.Cond.code ({ cls := "java/lang/String", name := "<init>", desc := "([BB)V" } : Jvm.MethodName) jdk_42_method_151_code (3 : Nat) (Option.none : Option Jvm.ClassFile.FieldType)]
set_option maxRecDepth 65536 in
theorem codes_eq : words1.filter isCode = codes1 := rfl
theorem w_codes : ∀ c ∈ words1.filter isCode, c.before args0 about1 = true := by
  rw [codes_eq]
  intro c hc
  simp only [codes1, List.mem_cons, List.not_mem_nil, or_false] at hc
  rcases hc with rfl | rfl | rfl | rfl | rfl | rfl | rfl | rfl | rfl | rfl | rfl | rfl | rfl | rfl | rfl | rfl | rfl | rfl | rfl | rfl | rfl | rfl | rfl | rfl | rfl
  · exact w_c0
  · exact w_c1
  · exact w_c2
  · exact w_c3
  · exact w_c4
  · exact w_c5
  · exact w_c6
  · exact w_c7
  · exact w_c8
  · exact w_c9
  · exact w_c10
  · exact w_c11
  · exact w_c12
  · exact w_c13
  · exact w_c14
  · exact w_c15
  · exact w_c16
  · exact w_c17
  · exact w_c18
  · exact w_c19
  · exact w_c20
  · exact w_c21
  · exact w_c22
  · exact w_c23
  · exact w_c24
set_option maxRecDepth 65536 in
theorem w_t1 : (words1.take 24).all (fun c => isCode c || c.before args0 about1) = true := by decide +kernel
set_option maxRecDepth 65536 in
theorem w_t2 : ((words1.drop 24).take 24).all (fun c => isCode c || c.before args0 about1) = true := by decide +kernel
set_option maxRecDepth 65536 in
theorem w_t3 : (((words1.drop 24).drop 24).take 24).all (fun c => isCode c || c.before args0 about1) = true := by decide +kernel
set_option maxRecDepth 65536 in
theorem w_t4 : ((((words1.drop 24).drop 24).drop 24).take 24).all (fun c => isCode c || c.before args0 about1) = true := by decide +kernel
set_option maxRecDepth 65536 in
theorem w_t5 : (((((words1.drop 24).drop 24).drop 24).drop 24).take 24).all (fun c => isCode c || c.before args0 about1) = true := by decide +kernel
set_option maxRecDepth 65536 in
theorem w_t6 : (((((words1.drop 24).drop 24).drop 24).drop 24).drop 24).all (fun c => isCode c || c.before args0 about1) = true := by decide +kernel
theorem w_tables : (allAtoms (Jvm.Cond.code x code maxLocals ret :: tables_1)).before args0 about1 = true := by
  rw [allAtoms_all]
  show words1.all (fun c => c.before args0 about1) = true
  refine all_split ?_ w_codes
  rw [← List.take_append_drop 24 words1, List.all_append, w_t1, ← List.take_append_drop 24 (words1.drop 24), List.all_append, w_t2, ← List.take_append_drop 24 ((words1.drop 24).drop 24), List.all_append, w_t3, ← List.take_append_drop 24 (((words1.drop 24).drop 24).drop 24), List.all_append, w_t4, ← List.take_append_drop 24 ((((words1.drop 24).drop 24).drop 24).drop 24), List.all_append, w_t5, w_t6]
  rfl
set_option maxRecDepth 65536 in
theorem w_rest : rest_1_c.before args0 about1 = true := by decide +kernel
set_option maxRecDepth 65536 in
theorem w_case : (Jvm.Cond.and given_1 narrow_1).before args0 about1 = true := by decide +kernel
set_option maxRecDepth 65536 in
theorem w_consts : constsHeld consts_1 about1 := Jvm.Lit.constsHeldB_iff.mp (by decide +kernel)
theorem w_applies : (headSpec (Jvm.Cond.code x code maxLocals ret :: tables_1) room_1).applies x e0.platform about1 = true :=
  (Spec.applies_iff w_frames).mpr ⟨w_running, w_runnable, w_alone, w_named, w_hears, w_ripe, w_room, w_tables⟩
theorem atStart : AtStart classFile x code maxLocals ret World_1 tables_1 room_1 Calls_1 rest_1 Pre_1 launch0 p0 e0 about1 theMethod args0 below0 :=
  ⟨lists_1, trivial, launch0.admits_env _ _ _, launch0.least_env, fairChoices_fair.cas, fairChoices_fair.clock, w_frames, w_args, w_heap, w_applies, ⟨w_consts, trivial⟩, w_rest, w_case⟩
end start1
theorem witness_1 : WitnessClaimed_1 := ⟨start1.p0, start1.e0, start1.about1, start1.theMethod, start1.args0, start1.below0, start1.atStart⟩
end Jvm.Pilot.@@N@@
