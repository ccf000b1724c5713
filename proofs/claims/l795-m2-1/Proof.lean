import JvmDerived
import JvmDerived.Pilot.@@N@@Statement
import JvmDerived.Pilot.@@N@@Code
set_option linter.unusedVariables false
set_option linter.unusedSimpArgs false
namespace Jvm.RoadKit
open Sem ClassFile Op Lib Jvm.Stand Jvm.Free Jvm.LawKit
section New
variable {p : Program} {l : Launch} {e : Env} {R : Room} {s : State} {m : MethodId} {args : Array Value} {below : List Frame} {meth : Method} {c : Code} {T : State} {locs : List Loc} {cells slots : Nat}
theorem retI (X : Stand p l e R s m args below meth c T locs cells slots) (hx : p.tables.exec = Jvm.exec) {pc : Nat} {Ls : Array Slot} {z : Int32} {rest : List Value} (hret : meth.sig.returnType = some .int) (hd : decode c.code pc = .ok (.ireturn, 1)) {fs : List Frame}
    (hl : ∀ (f : JFrame) (acts : List Action), f.method = m → f.locked = none → f.entered = [] → (doReturn e (T.setTop f) acts (some (.int z))).1 = T.setFrames fs) : Steps p.tables e below (T.setTop (mkF m pc Ls (.int z :: rest))) (T.setFrames fs) := by
  have hm' : T.vm.method? m = some meth := X.method'
  have hn : narrow .int (.int z) = .int z := rfl
  show Steps p.tables e below (T.setTop { method := m, pc := pc, locals := Ls, stack := _ :: rest, locked := none }) _
  jvm_step X.here [X.here.top, hx, hd, hm', hret, hn]
  first | (intro acts; rw [hl _ acts rfl rfl rfl]) | rw [hl _ _ rfl rfl rfl]
  exact Steps.refl _
theorem own_retR (X : Stand p l e R s m args below meth c T locs cells slots) (hx : p.tables.exec = Jvm.exec) {pc : Nat} {Ls : Array Slot} {w : Value} {t : FieldType} {rest : List Value} (hret : meth.sig.returnType = some t) (ht : t.isReference = true) (hw : w.isRef = true) (hd : decode c.code pc = .ok (.areturn, 1)) {fs : List Frame}
    (hl : ∀ (f : JFrame) (acts : List Action), f.method = m → f.locked = none → f.entered = [] → (doReturn e (T.setTop f) acts (some w)).1 = T.setFrames fs) : Steps p.tables e below (T.setTop (mkF m pc Ls (w :: rest))) (T.setFrames fs) := by
  have hm' : T.vm.method? m = some meth := X.method'
  rcases ref_cases hw with rfl | ⟨a, rfl⟩
  all_goals
    show Steps p.tables e below (T.setTop { method := m, pc := pc, locals := Ls, stack := _ :: rest, locked := none }) _
    jvm_step X.here [X.here.top, hx, hd, hm', hret, ht, Value.isRef]
    first | (intro acts; rw [hl _ acts rfl rfl rfl]) | rw [hl _ _ rfl rfl rfl]
    exact Steps.refl _
end New
end Jvm.RoadKit
namespace Jvm.Pilot.@@N@@
open Jvm Jvm.ClassFile Sem Op Lib Jvm.Free Jvm.Stand Jvm.LawKit Jvm.RoadKit Bundle Jvm.Pilot.@@N@@.Jvm.D
set_option maxRecDepth 65536
set_option maxHeartbeats 40000000
theorem wq {a b : Nat} (h : a = b) : 2 * 0 + a ≤ b := by omega
abbrev SS (p : Program) (e : Env) (below : List Frame) (T : State) (m : MethodId) (pc : Nat) (ls : Array Slot) (st : List Value) (t : State) : Prop := Steps p.tables e below (T.setTop (mkF m pc ls st)) t
theorem own_bool {P : Prop} [Decidable P] : nar .boolean (if P then (1 : Int32) else (0 : Int32)) = if P then (1 : Int32) else (0 : Int32) := by split <;> decide
abbrev HW (a0 : Array Value) (Z : State) : Prop := ∀ d ∈ tables_1, d.before a0 Z = true
section
variable {a0 : Array Value} {Z : State}
theorem mw (hw : HW a0 Z) {d : Jvm.Cond} (i : Nat) (h : tables_1[i]? = some d) : d.before a0 Z = true := hw d (List.mem_of_getElem? h)
theorem w0 (hw : HW a0 Z) : (Jvm.Cond.arrayClass Jvm.ClassFile.FieldType.char).before a0 Z = true := mw hw 0 rfl
theorem w1 (hw : HW a0 Z) : (Jvm.Cond.methodLink "com/example/patents_via_api/patentsviaapi/cli/OptionsSplitAtFirstPinLaw" (15 : Nat) ({ cls := "com/example/patents_via_api/patentsviaapi/cli/OptionsSplitAtFirstPinLaw", name := "pick", desc := "(JIIC)C" } : Jvm.MethodName)).before a0 Z = true := mw hw 1 rfl
theorem w2 (hw : HW a0 Z) : (Jvm.Cond.static ({ cls := "com/example/patents_via_api/patentsviaapi/cli/OptionsSplitAtFirstPinLaw", name := "pick", desc := "(JIIC)C" } : Jvm.MethodName)).before a0 Z = true := mw hw 2 rfl
theorem w3 (hw : HW a0 Z) : (Jvm.Cond.initialized "com/example/patents_via_api/patentsviaapi/cli/OptionsSplitAtFirstPinLaw").before a0 Z = true := mw hw 3 rfl
theorem w4 (hw : HW a0 Z) : (Jvm.Cond.code ({ cls := "com/example/patents_via_api/patentsviaapi/cli/OptionsSplitAtFirstPinLaw", name := "pick", desc := "(JIIC)C" } : Jvm.MethodName) method_2_code (5 : Nat) (Option.some Jvm.ClassFile.FieldType.char)).before a0 Z = true := mw hw 4 rfl
theorem w5 (hw : HW a0 Z) : (Jvm.Cond.constantLong "com/example/patents_via_api/patentsviaapi/cli/OptionsSplitAtFirstPinLaw" (7 : Nat) (65535 : Int64)).before a0 Z = true := mw hw 5 rfl
theorem w6 (hw : HW a0 Z) : (Jvm.Cond.classLink "com/example/patents_via_api/patentsviaapi/cli/OptionsSplitAtFirstPinLaw" (10 : Nat) "java/lang/String").before a0 Z = true := mw hw 6 rfl
theorem w7 (hw : HW a0 Z) : (Jvm.Cond.instantiable "java/lang/String" (4 : Nat)).before a0 Z = true := mw hw 7 rfl
theorem w8 (hw : HW a0 Z) : (Jvm.Cond.initialized "java/lang/String").before a0 Z = true := mw hw 8 rfl
theorem w9 (hw : HW a0 Z) : (Jvm.Cond.methodLink "com/example/patents_via_api/patentsviaapi/cli/OptionsSplitAtFirstPinLaw" (21 : Nat) ({ cls := "java/lang/String", name := "<init>", desc := "([C)V" } : Jvm.MethodName)).before a0 Z = true := mw hw 9 rfl
theorem w10 (hw : HW a0 Z) : (Jvm.Cond.instanceMethod ({ cls := "java/lang/String", name := "<init>", desc := "([C)V" } : Jvm.MethodName)).before a0 Z = true := mw hw 10 rfl
theorem w11 (hw : HW a0 Z) : (Jvm.Cond.code ({ cls := "java/lang/String", name := "<init>", desc := "([C)V" } : Jvm.MethodName) jdk_42_method_3_code (2 : Nat) (Option.none : Option Jvm.ClassFile.FieldType)).before a0 Z = true := mw hw 11 rfl
theorem w12 (hw : HW a0 Z) : (Jvm.Cond.methodLink "java/lang/String" (27 : Nat) ({ cls := "java/lang/String", name := "<init>", desc := "([CIILjava/lang/Void;)V" } : Jvm.MethodName)).before a0 Z = true := mw hw 12 rfl
theorem w13 (hw : HW a0 Z) : (Jvm.Cond.instanceMethod ({ cls := "java/lang/String", name := "<init>", desc := "([CIILjava/lang/Void;)V" } : Jvm.MethodName)).before a0 Z = true := mw hw 13 rfl
theorem w15 (hw : HW a0 Z) : (Jvm.Cond.code ({ cls := "java/lang/String", name := "<init>", desc := "([CIILjava/lang/Void;)V" } : Jvm.MethodName) jdk_42_method_149_code (6 : Nat) (Option.none : Option Jvm.ClassFile.FieldType)).before a0 Z = true := mw hw 15 rfl
theorem w16 (hw : HW a0 Z) : (Jvm.Cond.methodLink "java/lang/String" (1 : Nat) ({ cls := "java/lang/Object", name := "<init>", desc := "()V" } : Jvm.MethodName)).before a0 Z = true := mw hw 16 rfl
theorem w17 (hw : HW a0 Z) : (Jvm.Cond.instanceMethod ({ cls := "java/lang/Object", name := "<init>", desc := "()V" } : Jvm.MethodName)).before a0 Z = true := mw hw 17 rfl
theorem w18 (hw : HW a0 Z) : (Jvm.Cond.code ({ cls := "java/lang/Object", name := "<init>", desc := "()V" } : Jvm.MethodName) object_method_1_code (1 : Nat) (Option.none : Option Jvm.ClassFile.FieldType)).before a0 Z = true := mw hw 18 rfl
theorem w19 (hw : HW a0 Z) : (Jvm.Cond.fieldLink "java/lang/String" (38 : Nat) "java/lang/String" "COMPACT_STRINGS" "Z").before a0 Z = true := mw hw 19 rfl
theorem w20 (hw : HW a0 Z) : (Jvm.Cond.methodLink "java/lang/String" (177 : Nat) ({ cls := "java/lang/StringUTF16", name := "compress", desc := "([CII)[B" } : Jvm.MethodName)).before a0 Z = true := mw hw 20 rfl
theorem w21 (hw : HW a0 Z) : (Jvm.Cond.static ({ cls := "java/lang/StringUTF16", name := "compress", desc := "([CII)[B" } : Jvm.MethodName)).before a0 Z = true := mw hw 21 rfl
theorem w22 (hw : HW a0 Z) : (Jvm.Cond.initialized "java/lang/StringUTF16").before a0 Z = true := mw hw 22 rfl
theorem w23 (hw : HW a0 Z) : (Jvm.Cond.code ({ cls := "java/lang/StringUTF16", name := "compress", desc := "([CII)[B" } : Jvm.MethodName) jdk_52_method_16_code (6 : Nat) (Option.some (Jvm.ClassFile.FieldType.array Jvm.ClassFile.FieldType.byte))).before a0 Z = true := mw hw 23 rfl
theorem w24 (hw : HW a0 Z) : (Jvm.Cond.arrayClass Jvm.ClassFile.FieldType.byte).before a0 Z = true := mw hw 24 rfl
theorem w25 (hw : HW a0 Z) : (Jvm.Cond.methodLink "java/lang/StringUTF16" (115 : Nat) ({ cls := "java/lang/StringUTF16", name := "compress", desc := "([CI[BII)I" } : Jvm.MethodName)).before a0 Z = true := mw hw 25 rfl
theorem w26 (hw : HW a0 Z) : (Jvm.Cond.static ({ cls := "java/lang/StringUTF16", name := "compress", desc := "([CI[BII)I" } : Jvm.MethodName)).before a0 Z = true := mw hw 26 rfl
theorem w27 (hw : HW a0 Z) : (Jvm.Cond.code ({ cls := "java/lang/StringUTF16", name := "compress", desc := "([CI[BII)I" } : Jvm.MethodName) jdk_52_method_21_code (7 : Nat) (Option.some Jvm.ClassFile.FieldType.int)).before a0 Z = true := mw hw 27 rfl
theorem w28 (hw : HW a0 Z) : (Jvm.Cond.methodLink "java/lang/String" (47 : Nat) ({ cls := "java/lang/StringUTF16", name := "coderFromArrayLen", desc := "([BI)B" } : Jvm.MethodName)).before a0 Z = true := mw hw 28 rfl
theorem w29 (hw : HW a0 Z) : (Jvm.Cond.static ({ cls := "java/lang/StringUTF16", name := "coderFromArrayLen", desc := "([BI)B" } : Jvm.MethodName)).before a0 Z = true := mw hw 29 rfl
theorem w30 (hw : HW a0 Z) : (Jvm.Cond.code ({ cls := "java/lang/StringUTF16", name := "coderFromArrayLen", desc := "([BI)B" } : Jvm.MethodName) jdk_52_method_15_code (2 : Nat) (Option.some Jvm.ClassFile.FieldType.byte)).before a0 Z = true := mw hw 30 rfl
theorem w31 (hw : HW a0 Z) : (Jvm.Cond.fieldLink "java/lang/String" (15 : Nat) "java/lang/String" "coder" "B").before a0 Z = true := mw hw 31 rfl
theorem w32 (hw : HW a0 Z) : (Jvm.Cond.laysFinal "java/lang/String" "java/lang/String" "coder" "B").before a0 Z = true := mw hw 32 rfl
theorem w33 (hw : HW a0 Z) : (Jvm.Cond.fieldLink "java/lang/String" (9 : Nat) "java/lang/String" "value" "[B").before a0 Z = true := mw hw 33 rfl
theorem w34 (hw : HW a0 Z) : (Jvm.Cond.laysFinal "java/lang/String" "java/lang/String" "value" "[B").before a0 Z = true := mw hw 34 rfl
theorem w35 (hw : HW a0 Z) : (Jvm.Cond.methodLink "com/example/patents_via_api/patentsviaapi/cli/OptionsSplitAtFirstPinLaw" (24 : Nat) ({ cls := "com/example/patents_via_api/patentsviaapi/cli/Options", name := "splitAtFirst", desc := "(Ljava/lang/String;C)[Ljava/lang/String;" } : Jvm.MethodName)).before a0 Z = true := mw hw 35 rfl
theorem w36 (hw : HW a0 Z) : (Jvm.Cond.static ({ cls := "com/example/patents_via_api/patentsviaapi/cli/Options", name := "splitAtFirst", desc := "(Ljava/lang/String;C)[Ljava/lang/String;" } : Jvm.MethodName)).before a0 Z = true := mw hw 36 rfl
theorem w37 (hw : HW a0 Z) : (Jvm.Cond.initialized "com/example/patents_via_api/patentsviaapi/cli/Options").before a0 Z = true := mw hw 37 rfl
theorem w38 (hw : HW a0 Z) : (Jvm.Cond.code ({ cls := "com/example/patents_via_api/patentsviaapi/cli/Options", name := "splitAtFirst", desc := "(Ljava/lang/String;C)[Ljava/lang/String;" } : Jvm.MethodName) prog_2_method_10_code (3 : Nat) (Option.some (Jvm.ClassFile.FieldType.array (Jvm.ClassFile.FieldType.object "java/lang/String")))).before a0 Z = true := mw hw 38 rfl
theorem w39 (hw : HW a0 Z) : (Jvm.Cond.methodLink "com/example/patents_via_api/patentsviaapi/cli/Options" (174 : Nat) ({ cls := "java/lang/String", name := "indexOf", desc := "(I)I" } : Jvm.MethodName)).before a0 Z = true := mw hw 39 rfl
theorem w40 (hw : HW a0 Z) : (Jvm.Cond.declares ({ cls := "java/lang/String", name := "indexOf", desc := "(I)I" } : Jvm.MethodName)).before a0 Z = true := mw hw 40 rfl
theorem w41 (hw : HW a0 Z) : (Jvm.Cond.instanceMethod ({ cls := "java/lang/String", name := "indexOf", desc := "(I)I" } : Jvm.MethodName)).before a0 Z = true := mw hw 41 rfl
theorem w42 (hw : HW a0 Z) : (Jvm.Cond.selects "java/lang/String" ({ cls := "java/lang/String", name := "indexOf", desc := "(I)I" } : Jvm.MethodName) ({ cls := "java/lang/String", name := "indexOf", desc := "(I)I" } : Jvm.MethodName)).before a0 Z = true := mw hw 42 rfl
theorem w43 (hw : HW a0 Z) : (Jvm.Cond.code ({ cls := "java/lang/String", name := "indexOf", desc := "(I)I" } : Jvm.MethodName) jdk_42_method_79_code (2 : Nat) (Option.some Jvm.ClassFile.FieldType.int)).before a0 Z = true := mw hw 43 rfl
theorem w44 (hw : HW a0 Z) : (Jvm.Cond.methodLink "java/lang/String" (633 : Nat) ({ cls := "java/lang/String", name := "indexOf", desc := "(II)I" } : Jvm.MethodName)).before a0 Z = true := mw hw 44 rfl
theorem w45 (hw : HW a0 Z) : (Jvm.Cond.declares ({ cls := "java/lang/String", name := "indexOf", desc := "(II)I" } : Jvm.MethodName)).before a0 Z = true := mw hw 45 rfl
theorem w46 (hw : HW a0 Z) : (Jvm.Cond.instanceMethod ({ cls := "java/lang/String", name := "indexOf", desc := "(II)I" } : Jvm.MethodName)).before a0 Z = true := mw hw 46 rfl
theorem w47 (hw : HW a0 Z) : (Jvm.Cond.selects "java/lang/String" ({ cls := "java/lang/String", name := "indexOf", desc := "(II)I" } : Jvm.MethodName) ({ cls := "java/lang/String", name := "indexOf", desc := "(II)I" } : Jvm.MethodName)).before a0 Z = true := mw hw 47 rfl
theorem w48 (hw : HW a0 Z) : (Jvm.Cond.code ({ cls := "java/lang/String", name := "indexOf", desc := "(II)I" } : Jvm.MethodName) jdk_42_method_80_code (3 : Nat) (Option.some Jvm.ClassFile.FieldType.int)).before a0 Z = true := mw hw 48 rfl
theorem w49 (hw : HW a0 Z) : (Jvm.Cond.methodLink "java/lang/String" (492 : Nat) ({ cls := "java/lang/String", name := "isLatin1", desc := "()Z" } : Jvm.MethodName)).before a0 Z = true := mw hw 49 rfl
theorem w50 (hw : HW a0 Z) : (Jvm.Cond.declares ({ cls := "java/lang/String", name := "isLatin1", desc := "()Z" } : Jvm.MethodName)).before a0 Z = true := mw hw 50 rfl
theorem w51 (hw : HW a0 Z) : (Jvm.Cond.instanceMethod ({ cls := "java/lang/String", name := "isLatin1", desc := "()Z" } : Jvm.MethodName)).before a0 Z = true := mw hw 51 rfl
theorem w52 (hw : HW a0 Z) : (Jvm.Cond.selects "java/lang/String" ({ cls := "java/lang/String", name := "isLatin1", desc := "()Z" } : Jvm.MethodName) ({ cls := "java/lang/String", name := "isLatin1", desc := "()Z" } : Jvm.MethodName)).before a0 Z = true := mw hw 52 rfl
theorem w53 (hw : HW a0 Z) : (Jvm.Cond.code ({ cls := "java/lang/String", name := "isLatin1", desc := "()Z" } : Jvm.MethodName) jdk_42_method_154_code (1 : Nat) (Option.some Jvm.ClassFile.FieldType.boolean)).before a0 Z = true := mw hw 53 rfl
theorem w54 (hw : HW a0 Z) : (Jvm.Cond.methodLink "java/lang/String" (505 : Nat) ({ cls := "java/lang/String", name := "length", desc := "()I" } : Jvm.MethodName)).before a0 Z = true := mw hw 54 rfl
theorem w55 (hw : HW a0 Z) : (Jvm.Cond.declares ({ cls := "java/lang/String", name := "length", desc := "()I" } : Jvm.MethodName)).before a0 Z = true := mw hw 55 rfl
theorem w56 (hw : HW a0 Z) : (Jvm.Cond.instanceMethod ({ cls := "java/lang/String", name := "length", desc := "()I" } : Jvm.MethodName)).before a0 Z = true := mw hw 56 rfl
theorem w57 (hw : HW a0 Z) : (Jvm.Cond.selects "java/lang/String" ({ cls := "java/lang/String", name := "length", desc := "()I" } : Jvm.MethodName) ({ cls := "java/lang/String", name := "length", desc := "()I" } : Jvm.MethodName)).before a0 Z = true := mw hw 57 rfl
theorem w58 (hw : HW a0 Z) : (Jvm.Cond.code ({ cls := "java/lang/String", name := "length", desc := "()I" } : Jvm.MethodName) jdk_42_method_54_code (1 : Nat) (Option.some Jvm.ClassFile.FieldType.int)).before a0 Z = true := mw hw 58 rfl
theorem w59 (hw : HW a0 Z) : (Jvm.Cond.methodLink "java/lang/String" (335 : Nat) ({ cls := "java/lang/String", name := "coder", desc := "()B" } : Jvm.MethodName)).before a0 Z = true := mw hw 59 rfl
theorem w60 (hw : HW a0 Z) : (Jvm.Cond.declares ({ cls := "java/lang/String", name := "coder", desc := "()B" } : Jvm.MethodName)).before a0 Z = true := mw hw 60 rfl
theorem w61 (hw : HW a0 Z) : (Jvm.Cond.instanceMethod ({ cls := "java/lang/String", name := "coder", desc := "()B" } : Jvm.MethodName)).before a0 Z = true := mw hw 61 rfl
theorem w62 (hw : HW a0 Z) : (Jvm.Cond.selects "java/lang/String" ({ cls := "java/lang/String", name := "coder", desc := "()B" } : Jvm.MethodName) ({ cls := "java/lang/String", name := "coder", desc := "()B" } : Jvm.MethodName)).before a0 Z = true := mw hw 62 rfl
theorem w63 (hw : HW a0 Z) : (Jvm.Cond.code ({ cls := "java/lang/String", name := "coder", desc := "()B" } : Jvm.MethodName) jdk_42_method_152_code (1 : Nat) (Option.some Jvm.ClassFile.FieldType.byte)).before a0 Z = true := mw hw 63 rfl
theorem w64 (hw : HW a0 Z) : (Jvm.Cond.methodLink "java/lang/String" (637 : Nat) ({ cls := "java/lang/StringLatin1", name := "indexOf", desc := "([BIII)I" } : Jvm.MethodName)).before a0 Z = true := mw hw 64 rfl
theorem w65 (hw : HW a0 Z) : (Jvm.Cond.static ({ cls := "java/lang/StringLatin1", name := "indexOf", desc := "([BIII)I" } : Jvm.MethodName)).before a0 Z = true := mw hw 65 rfl
theorem w66 (hw : HW a0 Z) : (Jvm.Cond.initialized "java/lang/StringLatin1").before a0 Z = true := mw hw 66 rfl
theorem w67 (hw : HW a0 Z) : (Jvm.Cond.code ({ cls := "java/lang/StringLatin1", name := "indexOf", desc := "([BIII)I" } : Jvm.MethodName) jdk_43_method_22_code (4 : Nat) (Option.some Jvm.ClassFile.FieldType.int)).before a0 Z = true := mw hw 67 rfl
theorem w68 (hw : HW a0 Z) : (Jvm.Cond.methodLink "java/lang/StringLatin1" (88 : Nat) ({ cls := "java/lang/StringLatin1", name := "canEncode", desc := "(I)Z" } : Jvm.MethodName)).before a0 Z = true := mw hw 68 rfl
theorem w69 (hw : HW a0 Z) : (Jvm.Cond.static ({ cls := "java/lang/StringLatin1", name := "canEncode", desc := "(I)Z" } : Jvm.MethodName)).before a0 Z = true := mw hw 69 rfl
theorem w70 (hw : HW a0 Z) : (Jvm.Cond.code ({ cls := "java/lang/StringLatin1", name := "canEncode", desc := "(I)Z" } : Jvm.MethodName) jdk_43_method_4_code (1 : Nat) (Option.some Jvm.ClassFile.FieldType.boolean)).before a0 Z = true := mw hw 70 rfl
theorem w71 (hw : HW a0 Z) : (Jvm.Cond.methodLink "java/lang/StringLatin1" (92 : Nat) ({ cls := "java/lang/Math", name := "max", desc := "(II)I" } : Jvm.MethodName)).before a0 Z = true := mw hw 71 rfl
theorem w72 (hw : HW a0 Z) : (Jvm.Cond.static ({ cls := "java/lang/Math", name := "max", desc := "(II)I" } : Jvm.MethodName)).before a0 Z = true := mw hw 72 rfl
theorem w73 (hw : HW a0 Z) : (Jvm.Cond.initialized "java/lang/Math").before a0 Z = true := mw hw 73 rfl
theorem w74 (hw : HW a0 Z) : (Jvm.Cond.code ({ cls := "java/lang/Math", name := "max", desc := "(II)I" } : Jvm.MethodName) jdk_29_method_65_code (2 : Nat) (Option.some Jvm.ClassFile.FieldType.int)).before a0 Z = true := mw hw 74 rfl
theorem w75 (hw : HW a0 Z) : (Jvm.Cond.methodLink "java/lang/StringLatin1" (38 : Nat) ({ cls := "java/lang/Math", name := "min", desc := "(II)I" } : Jvm.MethodName)).before a0 Z = true := mw hw 75 rfl
theorem w76 (hw : HW a0 Z) : (Jvm.Cond.static ({ cls := "java/lang/Math", name := "min", desc := "(II)I" } : Jvm.MethodName)).before a0 Z = true := mw hw 76 rfl
theorem w77 (hw : HW a0 Z) : (Jvm.Cond.code ({ cls := "java/lang/Math", name := "min", desc := "(II)I" } : Jvm.MethodName) jdk_29_method_69_code (2 : Nat) (Option.some Jvm.ClassFile.FieldType.int)).before a0 Z = true := mw hw 77 rfl
theorem w78 (hw : HW a0 Z) : (Jvm.Cond.methodLink "java/lang/StringLatin1" (95 : Nat) ({ cls := "java/lang/StringLatin1", name := "indexOfChar", desc := "([BIII)I" } : Jvm.MethodName)).before a0 Z = true := mw hw 78 rfl
theorem w79 (hw : HW a0 Z) : (Jvm.Cond.static ({ cls := "java/lang/StringLatin1", name := "indexOfChar", desc := "([BIII)I" } : Jvm.MethodName)).before a0 Z = true := mw hw 79 rfl
theorem w80 (hw : HW a0 Z) : (Jvm.Cond.code ({ cls := "java/lang/StringLatin1", name := "indexOfChar", desc := "([BIII)I" } : Jvm.MethodName) jdk_43_method_23_code (6 : Nat) (Option.some Jvm.ClassFile.FieldType.int)).before a0 Z = true := mw hw 80 rfl
theorem w81 (hw : HW a0 Z) : (Jvm.Cond.classLink "com/example/patents_via_api/patentsviaapi/cli/Options" (39 : Nat) "java/lang/String").before a0 Z = true := mw hw 81 rfl
theorem w82 (hw : HW a0 Z) : (Jvm.Cond.arrayOver (Jvm.ClassFile.FieldType.object "java/lang/String")).before a0 Z = true := mw hw 82 rfl
theorem w83 (hw : HW a0 Z) : (Jvm.Cond.methodLink "com/example/patents_via_api/patentsviaapi/cli/Options" (182 : Nat) ({ cls := "java/lang/String", name := "substring", desc := "(II)Ljava/lang/String;" } : Jvm.MethodName)).before a0 Z = true := mw hw 83 rfl
theorem w84 (hw : HW a0 Z) : (Jvm.Cond.declares ({ cls := "java/lang/String", name := "substring", desc := "(II)Ljava/lang/String;" } : Jvm.MethodName)).before a0 Z = true := mw hw 84 rfl
theorem w85 (hw : HW a0 Z) : (Jvm.Cond.instanceMethod ({ cls := "java/lang/String", name := "substring", desc := "(II)Ljava/lang/String;" } : Jvm.MethodName)).before a0 Z = true := mw hw 85 rfl
theorem w86 (hw : HW a0 Z) : (Jvm.Cond.selects "java/lang/String" ({ cls := "java/lang/String", name := "substring", desc := "(II)Ljava/lang/String;" } : Jvm.MethodName) ({ cls := "java/lang/String", name := "substring", desc := "(II)Ljava/lang/String;" } : Jvm.MethodName)).before a0 Z = true := mw hw 86 rfl
theorem w87 (hw : HW a0 Z) : (Jvm.Cond.code ({ cls := "java/lang/String", name := "substring", desc := "(II)Ljava/lang/String;" } : Jvm.MethodName) jdk_42_method_92_code (5 : Nat) (Option.some (Jvm.ClassFile.FieldType.object "java/lang/String"))).before a0 Z = true := mw hw 87 rfl
theorem w88 (hw : HW a0 Z) : (Jvm.Cond.methodLink "java/lang/String" (521 : Nat) ({ cls := "java/lang/String", name := "checkBoundsBeginEnd", desc := "(III)V" } : Jvm.MethodName)).before a0 Z = true := mw hw 88 rfl
theorem w89 (hw : HW a0 Z) : (Jvm.Cond.static ({ cls := "java/lang/String", name := "checkBoundsBeginEnd", desc := "(III)V" } : Jvm.MethodName)).before a0 Z = true := mw hw 89 rfl
theorem w90 (hw : HW a0 Z) : (Jvm.Cond.code ({ cls := "java/lang/String", name := "checkBoundsBeginEnd", desc := "(III)V" } : Jvm.MethodName) jdk_42_method_158_code (3 : Nat) (Option.none : Option Jvm.ClassFile.FieldType)).before a0 Z = true := mw hw 90 rfl
theorem w91 (hw : HW a0 Z) : (Jvm.Cond.fieldLink "java/lang/String" (1053 : Nat) "jdk/internal/util/Preconditions" "SIOOBE_FORMATTER" "Ljava/util/function/BiFunction;").before a0 Z = true := mw hw 91 rfl
theorem w92 (hw : HW a0 Z) : (Jvm.Cond.initialized "jdk/internal/util/Preconditions").before a0 Z = true := mw hw 92 rfl
theorem w93 (hw : HW a0 Z) : (Jvm.Cond.methodLink "java/lang/String" (1062 : Nat) ({ cls := "jdk/internal/util/Preconditions", name := "checkFromToIndex", desc := "(IIILjava/util/function/BiFunction;)I" } : Jvm.MethodName)).before a0 Z = true := mw hw 93 rfl
theorem w94 (hw : HW a0 Z) : (Jvm.Cond.static ({ cls := "jdk/internal/util/Preconditions", name := "checkFromToIndex", desc := "(IIILjava/util/function/BiFunction;)I" } : Jvm.MethodName)).before a0 Z = true := mw hw 94 rfl
theorem w95 (hw : HW a0 Z) : (Jvm.Cond.code ({ cls := "jdk/internal/util/Preconditions", name := "checkFromToIndex", desc := "(IIILjava/util/function/BiFunction;)I" } : Jvm.MethodName) jdk_41_method_12_code (4 : Nat) (Option.some Jvm.ClassFile.FieldType.int)).before a0 Z = true := mw hw 95 rfl
theorem w96 (hw : HW a0 Z) : (Jvm.Cond.methodLink "java/lang/String" (685 : Nat) ({ cls := "java/lang/StringLatin1", name := "newString", desc := "([BII)Ljava/lang/String;" } : Jvm.MethodName)).before a0 Z = true := mw hw 96 rfl
theorem w97 (hw : HW a0 Z) : (Jvm.Cond.static ({ cls := "java/lang/StringLatin1", name := "newString", desc := "([BII)Ljava/lang/String;" } : Jvm.MethodName)).before a0 Z = true := mw hw 97 rfl
theorem w98 (hw : HW a0 Z) : (Jvm.Cond.code ({ cls := "java/lang/StringLatin1", name := "newString", desc := "([BII)Ljava/lang/String;" } : Jvm.MethodName) jdk_43_method_47_code (3 : Nat) (Option.some (Jvm.ClassFile.FieldType.object "java/lang/String"))).before a0 Z = true := mw hw 98 rfl
theorem w99 (hw : HW a0 Z) : (Jvm.Cond.stringLink "java/lang/StringLatin1" (151 : Nat) "").before a0 Z = true := mw hw 99 rfl
theorem w100 (hw : HW a0 Z) : (Jvm.Cond.soleField "java/lang/String" "value").before a0 Z = true := mw hw 100 rfl
theorem w101 (hw : HW a0 Z) : (Jvm.Cond.soleField "java/lang/String" "coder").before a0 Z = true := mw hw 101 rfl
theorem w102 (hw : HW a0 Z) : (Jvm.Cond.methodLink "com/example/patents_via_api/patentsviaapi/cli/Options" (47 : Nat) ({ cls := "java/lang/String", name := "substring", desc := "(I)Ljava/lang/String;" } : Jvm.MethodName)).before a0 Z = true := mw hw 102 rfl
theorem w103 (hw : HW a0 Z) : (Jvm.Cond.declares ({ cls := "java/lang/String", name := "substring", desc := "(I)Ljava/lang/String;" } : Jvm.MethodName)).before a0 Z = true := mw hw 103 rfl
theorem w104 (hw : HW a0 Z) : (Jvm.Cond.instanceMethod ({ cls := "java/lang/String", name := "substring", desc := "(I)Ljava/lang/String;" } : Jvm.MethodName)).before a0 Z = true := mw hw 104 rfl
theorem w105 (hw : HW a0 Z) : (Jvm.Cond.selects "java/lang/String" ({ cls := "java/lang/String", name := "substring", desc := "(I)Ljava/lang/String;" } : Jvm.MethodName) ({ cls := "java/lang/String", name := "substring", desc := "(I)Ljava/lang/String;" } : Jvm.MethodName)).before a0 Z = true := mw hw 105 rfl
theorem w106 (hw : HW a0 Z) : (Jvm.Cond.code ({ cls := "java/lang/String", name := "substring", desc := "(I)Ljava/lang/String;" } : Jvm.MethodName) jdk_42_method_91_code (2 : Nat) (Option.some (Jvm.ClassFile.FieldType.object "java/lang/String"))).before a0 Z = true := mw hw 106 rfl
theorem w107 (hw : HW a0 Z) : (Jvm.Cond.methodLink "java/lang/String" (681 : Nat) ({ cls := "java/lang/String", name := "substring", desc := "(II)Ljava/lang/String;" } : Jvm.MethodName)).before a0 Z = true := mw hw 107 rfl
theorem w108 (hw : HW a0 Z) : (Jvm.Cond.methodLink "com/example/patents_via_api/patentsviaapi/cli/OptionsSplitAtFirstPinLaw" (30 : Nat) ({ cls := "java/lang/String", name := "length", desc := "()I" } : Jvm.MethodName)).before a0 Z = true := mw hw 108 rfl
theorem w109 (hw : HW a0 Z) : (Jvm.Cond.methodLink "com/example/patents_via_api/patentsviaapi/cli/OptionsSplitAtFirstPinLaw" (34 : Nat) ({ cls := "com/example/patents_via_api/patentsviaapi/cli/OptionsSplitAtFirstPinLaw", name := "pre", desc := "(Ljava/lang/String;II[C)Z" } : Jvm.MethodName)).before a0 Z = true := mw hw 109 rfl
theorem w110 (hw : HW a0 Z) : (Jvm.Cond.static ({ cls := "com/example/patents_via_api/patentsviaapi/cli/OptionsSplitAtFirstPinLaw", name := "pre", desc := "(Ljava/lang/String;II[C)Z" } : Jvm.MethodName)).before a0 Z = true := mw hw 110 rfl
theorem w111 (hw : HW a0 Z) : (Jvm.Cond.code ({ cls := "com/example/patents_via_api/patentsviaapi/cli/OptionsSplitAtFirstPinLaw", name := "pre", desc := "(Ljava/lang/String;II[C)Z" } : Jvm.MethodName) method_3_code (4 : Nat) (Option.some Jvm.ClassFile.FieldType.boolean)).before a0 Z = true := mw hw 111 rfl
theorem w112 (hw : HW a0 Z) : (Jvm.Cond.methodLink "com/example/patents_via_api/patentsviaapi/cli/OptionsSplitAtFirstPinLaw" (38 : Nat) ({ cls := "com/example/patents_via_api/patentsviaapi/cli/OptionsSplitAtFirstPinLaw", name := "suf", desc := "(Ljava/lang/String;III[C)Z" } : Jvm.MethodName)).before a0 Z = true := mw hw 112 rfl
theorem w113 (hw : HW a0 Z) : (Jvm.Cond.static ({ cls := "com/example/patents_via_api/patentsviaapi/cli/OptionsSplitAtFirstPinLaw", name := "suf", desc := "(Ljava/lang/String;III[C)Z" } : Jvm.MethodName)).before a0 Z = true := mw hw 113 rfl
theorem w114 (hw : HW a0 Z) : (Jvm.Cond.code ({ cls := "com/example/patents_via_api/patentsviaapi/cli/OptionsSplitAtFirstPinLaw", name := "suf", desc := "(Ljava/lang/String;III[C)Z" } : Jvm.MethodName) method_4_code (6 : Nat) (Option.some Jvm.ClassFile.FieldType.boolean)).before a0 Z = true := mw hw 114 rfl
theorem w115 (hw : HW a0 Z) : (Jvm.Cond.classLink "java/lang/StringLatin1" (1 : Nat) "java/lang/String").before a0 Z = true := mw hw 115 rfl
theorem w116 (hw : HW a0 Z) : (Jvm.Cond.methodLink "java/lang/StringLatin1" (232 : Nat) ({ cls := "java/util/Arrays", name := "copyOfRange", desc := "([BII)[B" } : Jvm.MethodName)).before a0 Z = true := mw hw 116 rfl
theorem w117 (hw : HW a0 Z) : (Jvm.Cond.static ({ cls := "java/util/Arrays", name := "copyOfRange", desc := "([BII)[B" } : Jvm.MethodName)).before a0 Z = true := mw hw 117 rfl
theorem w118 (hw : HW a0 Z) : (Jvm.Cond.initialized "java/util/Arrays").before a0 Z = true := mw hw 118 rfl
theorem w119 (hw : HW a0 Z) : (Jvm.Cond.code ({ cls := "java/util/Arrays", name := "copyOfRange", desc := "([BII)[B" } : Jvm.MethodName) jdk_65_method_132_code (3 : Nat) (Option.some (Jvm.ClassFile.FieldType.array Jvm.ClassFile.FieldType.byte))).before a0 Z = true := mw hw 119 rfl
theorem w120 (hw : HW a0 Z) : (Jvm.Cond.methodLink "java/util/Arrays" (339 : Nat) ({ cls := "java/util/Arrays", name := "copyOfRangeByte", desc := "([BII)[B" } : Jvm.MethodName)).before a0 Z = true := mw hw 120 rfl
theorem w121 (hw : HW a0 Z) : (Jvm.Cond.static ({ cls := "java/util/Arrays", name := "copyOfRangeByte", desc := "([BII)[B" } : Jvm.MethodName)).before a0 Z = true := mw hw 121 rfl
theorem w122 (hw : HW a0 Z) : (Jvm.Cond.code ({ cls := "java/util/Arrays", name := "copyOfRangeByte", desc := "([BII)[B" } : Jvm.MethodName) jdk_65_method_133_code (5 : Nat) (Option.some (Jvm.ClassFile.FieldType.array Jvm.ClassFile.FieldType.byte))).before a0 Z = true := mw hw 122 rfl
theorem w123 (hw : HW a0 Z) : (Jvm.Cond.methodLink "java/util/Arrays" (343 : Nat) ({ cls := "java/util/Arrays", name := "checkLength", desc := "(II)V" } : Jvm.MethodName)).before a0 Z = true := mw hw 123 rfl
theorem w124 (hw : HW a0 Z) : (Jvm.Cond.static ({ cls := "java/util/Arrays", name := "checkLength", desc := "(II)V" } : Jvm.MethodName)).before a0 Z = true := mw hw 124 rfl
theorem w125 (hw : HW a0 Z) : (Jvm.Cond.code ({ cls := "java/util/Arrays", name := "checkLength", desc := "(II)V" } : Jvm.MethodName) jdk_65_method_131_code (2 : Nat) (Option.none : Option Jvm.ClassFile.FieldType)).before a0 Z = true := mw hw 125 rfl
theorem w126 (hw : HW a0 Z) : (Jvm.Cond.methodLink "java/util/Arrays" (304 : Nat) ({ cls := "java/lang/Math", name := "min", desc := "(II)I" } : Jvm.MethodName)).before a0 Z = true := mw hw 126 rfl
theorem w127 (hw : HW a0 Z) : (Jvm.Cond.methodLink "java/util/Arrays" (150 : Nat) ({ cls := "java/lang/System", name := "arraycopy", desc := "(Ljava/lang/Object;ILjava/lang/Object;II)V" } : Jvm.MethodName)).before a0 Z = true := mw hw 127 rfl
theorem w128 (hw : HW a0 Z) : (Jvm.Cond.static ({ cls := "java/lang/System", name := "arraycopy", desc := "(Ljava/lang/Object;ILjava/lang/Object;II)V" } : Jvm.MethodName)).before a0 Z = true := mw hw 128 rfl
theorem w129 (hw : HW a0 Z) : (Jvm.Cond.initialized "java/lang/System").before a0 Z = true := mw hw 129 rfl
theorem w130 (hw : HW a0 Z) : (Jvm.Cond.native ({ cls := "java/lang/System", name := "arraycopy", desc := "(Ljava/lang/Object;ILjava/lang/Object;II)V" } : Jvm.MethodName)).before a0 Z = true := mw hw 130 rfl
theorem w131 (hw : HW a0 Z) : (Jvm.Cond.methodLink "java/lang/StringLatin1" (112 : Nat) ({ cls := "java/lang/String", name := "<init>", desc := "([BB)V" } : Jvm.MethodName)).before a0 Z = true := mw hw 131 rfl
theorem w132 (hw : HW a0 Z) : (Jvm.Cond.instanceMethod ({ cls := "java/lang/String", name := "<init>", desc := "([BB)V" } : Jvm.MethodName)).before a0 Z = true := mw hw 132 rfl
theorem w133 (hw : HW a0 Z) : (Jvm.Cond.code ({ cls := "java/lang/String", name := "<init>", desc := "([BB)V" } : Jvm.MethodName) jdk_42_method_151_code (3 : Nat) (Option.none : Option Jvm.ClassFile.FieldType)).before a0 Z = true := mw hw 133 rfl
theorem w134 (hw : HW a0 Z) : (Jvm.Cond.methodLink "com/example/patents_via_api/patentsviaapi/cli/OptionsSplitAtFirstPinLaw" (9 : Nat) ({ cls := "java/lang/String", name := "charAt", desc := "(I)C" } : Jvm.MethodName)).before a0 Z = true := mw hw 134 rfl
theorem w135 (hw : HW a0 Z) : (Jvm.Cond.declares ({ cls := "java/lang/String", name := "charAt", desc := "(I)C" } : Jvm.MethodName)).before a0 Z = true := mw hw 135 rfl
theorem w136 (hw : HW a0 Z) : (Jvm.Cond.instanceMethod ({ cls := "java/lang/String", name := "charAt", desc := "(I)C" } : Jvm.MethodName)).before a0 Z = true := mw hw 136 rfl
theorem w137 (hw : HW a0 Z) : (Jvm.Cond.selects "java/lang/String" ({ cls := "java/lang/String", name := "charAt", desc := "(I)C" } : Jvm.MethodName) ({ cls := "java/lang/String", name := "charAt", desc := "(I)C" } : Jvm.MethodName)).before a0 Z = true := mw hw 137 rfl
theorem w138 (hw : HW a0 Z) : (Jvm.Cond.code ({ cls := "java/lang/String", name := "charAt", desc := "(I)C" } : Jvm.MethodName) jdk_42_method_56_code (2 : Nat) (Option.some Jvm.ClassFile.FieldType.char)).before a0 Z = true := mw hw 138 rfl
theorem w139 (hw : HW a0 Z) : (Jvm.Cond.methodLink "java/lang/String" (495 : Nat) ({ cls := "java/lang/StringLatin1", name := "charAt", desc := "([BI)C" } : Jvm.MethodName)).before a0 Z = true := mw hw 139 rfl
theorem w140 (hw : HW a0 Z) : (Jvm.Cond.static ({ cls := "java/lang/StringLatin1", name := "charAt", desc := "([BI)C" } : Jvm.MethodName)).before a0 Z = true := mw hw 140 rfl
theorem w141 (hw : HW a0 Z) : (Jvm.Cond.code ({ cls := "java/lang/StringLatin1", name := "charAt", desc := "([BI)C" } : Jvm.MethodName) jdk_43_method_2_code (2 : Nat) (Option.some Jvm.ClassFile.FieldType.char)).before a0 Z = true := mw hw 141 rfl
theorem w142 (hw : HW a0 Z) : (Jvm.Cond.methodLink "java/lang/StringLatin1" (9 : Nat) ({ cls := "java/lang/String", name := "checkIndex", desc := "(II)V" } : Jvm.MethodName)).before a0 Z = true := mw hw 142 rfl
theorem w143 (hw : HW a0 Z) : (Jvm.Cond.static ({ cls := "java/lang/String", name := "checkIndex", desc := "(II)V" } : Jvm.MethodName)).before a0 Z = true := mw hw 143 rfl
theorem w144 (hw : HW a0 Z) : (Jvm.Cond.code ({ cls := "java/lang/String", name := "checkIndex", desc := "(II)V" } : Jvm.MethodName) jdk_42_method_155_code (2 : Nat) (Option.none : Option Jvm.ClassFile.FieldType)).before a0 Z = true := mw hw 144 rfl
theorem w145 (hw : HW a0 Z) : (Jvm.Cond.methodLink "java/lang/String" (1059 : Nat) ({ cls := "jdk/internal/util/Preconditions", name := "checkIndex", desc := "(IILjava/util/function/BiFunction;)I" } : Jvm.MethodName)).before a0 Z = true := mw hw 145 rfl
theorem w146 (hw : HW a0 Z) : (Jvm.Cond.static ({ cls := "jdk/internal/util/Preconditions", name := "checkIndex", desc := "(IILjava/util/function/BiFunction;)I" } : Jvm.MethodName)).before a0 Z = true := mw hw 146 rfl
theorem w147 (hw : HW a0 Z) : (Jvm.Cond.code ({ cls := "jdk/internal/util/Preconditions", name := "checkIndex", desc := "(IILjava/util/function/BiFunction;)I" } : Jvm.MethodName) jdk_41_method_11_code (3 : Nat) (Option.some Jvm.ClassFile.FieldType.int)).before a0 Z = true := mw hw 147 rfl
theorem w148 (hw : HW a0 Z) : (Jvm.Cond.methodLink "java/lang/StringUTF16" (119 : Nat) ({ cls := "java/lang/StringUTF16", name := "toBytes", desc := "([CII)[B" } : Jvm.MethodName)).before a0 Z = true := mw hw 148 rfl
theorem w149 (hw : HW a0 Z) : (Jvm.Cond.static ({ cls := "java/lang/StringUTF16", name := "toBytes", desc := "([CII)[B" } : Jvm.MethodName)).before a0 Z = true := mw hw 149 rfl
theorem w150 (hw : HW a0 Z) : (Jvm.Cond.code ({ cls := "java/lang/StringUTF16", name := "toBytes", desc := "([CII)[B" } : Jvm.MethodName) jdk_52_method_14_code (5 : Nat) (Option.some (Jvm.ClassFile.FieldType.array Jvm.ClassFile.FieldType.byte))).before a0 Z = true := mw hw 150 rfl
theorem w151 (hw : HW a0 Z) : (Jvm.Cond.methodLink "java/lang/StringUTF16" (107 : Nat) ({ cls := "java/lang/StringUTF16", name := "newBytesFor", desc := "(I)[B" } : Jvm.MethodName)).before a0 Z = true := mw hw 151 rfl
theorem w152 (hw : HW a0 Z) : (Jvm.Cond.static ({ cls := "java/lang/StringUTF16", name := "newBytesFor", desc := "(I)[B" } : Jvm.MethodName)).before a0 Z = true := mw hw 152 rfl
theorem w153 (hw : HW a0 Z) : (Jvm.Cond.code ({ cls := "java/lang/StringUTF16", name := "newBytesFor", desc := "(I)[B" } : Jvm.MethodName) jdk_52_method_2_code (1 : Nat) (Option.some (Jvm.ClassFile.FieldType.array Jvm.ClassFile.FieldType.byte))).before a0 Z = true := mw hw 153 rfl
theorem w154 (hw : HW a0 Z) : (Jvm.Cond.methodLink "java/lang/StringUTF16" (11 : Nat) ({ cls := "java/lang/StringUTF16", name := "newBytesLength", desc := "(I)I" } : Jvm.MethodName)).before a0 Z = true := mw hw 154 rfl
theorem w155 (hw : HW a0 Z) : (Jvm.Cond.static ({ cls := "java/lang/StringUTF16", name := "newBytesLength", desc := "(I)I" } : Jvm.MethodName)).before a0 Z = true := mw hw 155 rfl
theorem w156 (hw : HW a0 Z) : (Jvm.Cond.code ({ cls := "java/lang/StringUTF16", name := "newBytesLength", desc := "(I)I" } : Jvm.MethodName) jdk_52_method_3_code (1 : Nat) (Option.some Jvm.ClassFile.FieldType.int)).before a0 Z = true := mw hw 156 rfl
theorem w157 (hw : HW a0 Z) : (Jvm.Cond.constant "java/lang/StringUTF16" (20 : Nat) (1073741823 : Int32)).before a0 Z = true := mw hw 157 rfl
theorem w158 (hw : HW a0 Z) : (Jvm.Cond.methodLink "java/lang/StringUTF16" (111 : Nat) ({ cls := "java/lang/StringUTF16", name := "putChar", desc := "([BII)V" } : Jvm.MethodName)).before a0 Z = true := mw hw 158 rfl
theorem w159 (hw : HW a0 Z) : (Jvm.Cond.static ({ cls := "java/lang/StringUTF16", name := "putChar", desc := "([BII)V" } : Jvm.MethodName)).before a0 Z = true := mw hw 159 rfl
theorem w160 (hw : HW a0 Z) : (Jvm.Cond.code ({ cls := "java/lang/StringUTF16", name := "putChar", desc := "([BII)V" } : Jvm.MethodName) jdk_52_method_4_code (3 : Nat) (Option.none : Option Jvm.ClassFile.FieldType)).before a0 Z = true := mw hw 160 rfl
theorem w161 (hw : HW a0 Z) : (Jvm.Cond.fieldLink "java/lang/StringUTF16" (44 : Nat) "java/lang/StringUTF16" "$assertionsDisabled" "Z").before a0 Z = true := mw hw 161 rfl
theorem w162 (hw : HW a0 Z) : (Jvm.Cond.fieldLink "java/lang/StringUTF16" (59 : Nat) "java/lang/StringUTF16" "HI_BYTE_SHIFT" "I").before a0 Z = true := mw hw 162 rfl
theorem w163 (hw : HW a0 Z) : (Jvm.Cond.fieldLink "java/lang/StringUTF16" (63 : Nat) "java/lang/StringUTF16" "LO_BYTE_SHIFT" "I").before a0 Z = true := mw hw 163 rfl
theorem w164 (hw : HW a0 Z) : (Jvm.Cond.methodLink "java/lang/StringUTF16" (71 : Nat) ({ cls := "java/lang/StringUTF16", name := "getChar", desc := "([BI)C" } : Jvm.MethodName)).before a0 Z = true := mw hw 164 rfl
theorem w165 (hw : HW a0 Z) : (Jvm.Cond.static ({ cls := "java/lang/StringUTF16", name := "getChar", desc := "([BI)C" } : Jvm.MethodName)).before a0 Z = true := mw hw 165 rfl
theorem w166 (hw : HW a0 Z) : (Jvm.Cond.code ({ cls := "java/lang/StringUTF16", name := "getChar", desc := "([BI)C" } : Jvm.MethodName) jdk_52_method_5_code (2 : Nat) (Option.some Jvm.ClassFile.FieldType.char)).before a0 Z = true := mw hw 166 rfl
theorem w167 (hw : HW a0 Z) : (Jvm.Cond.methodLink "java/lang/String" (640 : Nat) ({ cls := "java/lang/StringUTF16", name := "indexOf", desc := "([BIII)I" } : Jvm.MethodName)).before a0 Z = true := mw hw 167 rfl
theorem w168 (hw : HW a0 Z) : (Jvm.Cond.static ({ cls := "java/lang/StringUTF16", name := "indexOf", desc := "([BIII)I" } : Jvm.MethodName)).before a0 Z = true := mw hw 168 rfl
theorem w169 (hw : HW a0 Z) : (Jvm.Cond.code ({ cls := "java/lang/StringUTF16", name := "indexOf", desc := "([BIII)I" } : Jvm.MethodName) jdk_52_method_40_code (4 : Nat) (Option.some Jvm.ClassFile.FieldType.int)).before a0 Z = true := mw hw 169 rfl
theorem w170 (hw : HW a0 Z) : (Jvm.Cond.methodLink "java/lang/StringUTF16" (224 : Nat) ({ cls := "java/lang/Math", name := "max", desc := "(II)I" } : Jvm.MethodName)).before a0 Z = true := mw hw 170 rfl
theorem w171 (hw : HW a0 Z) : (Jvm.Cond.methodLink "java/lang/StringUTF16" (183 : Nat) ({ cls := "java/lang/Math", name := "min", desc := "(II)I" } : Jvm.MethodName)).before a0 Z = true := mw hw 171 rfl
theorem w172 (hw : HW a0 Z) : (Jvm.Cond.constant "java/lang/StringUTF16" (227 : Nat) (65536 : Int32)).before a0 Z = true := mw hw 172 rfl
theorem w173 (hw : HW a0 Z) : (Jvm.Cond.methodLink "java/lang/StringUTF16" (228 : Nat) ({ cls := "java/lang/StringUTF16", name := "indexOfChar", desc := "([BIII)I" } : Jvm.MethodName)).before a0 Z = true := mw hw 173 rfl
theorem w174 (hw : HW a0 Z) : (Jvm.Cond.static ({ cls := "java/lang/StringUTF16", name := "indexOfChar", desc := "([BIII)I" } : Jvm.MethodName)).before a0 Z = true := mw hw 174 rfl
theorem w175 (hw : HW a0 Z) : (Jvm.Cond.code ({ cls := "java/lang/StringUTF16", name := "indexOfChar", desc := "([BIII)I" } : Jvm.MethodName) jdk_52_method_47_code (4 : Nat) (Option.some Jvm.ClassFile.FieldType.int)).before a0 Z = true := mw hw 175 rfl
theorem w176 (hw : HW a0 Z) : (Jvm.Cond.methodLink "java/lang/StringUTF16" (96 : Nat) ({ cls := "java/lang/StringUTF16", name := "checkBoundsBeginEnd", desc := "(II[B)V" } : Jvm.MethodName)).before a0 Z = true := mw hw 176 rfl
theorem w177 (hw : HW a0 Z) : (Jvm.Cond.static ({ cls := "java/lang/StringUTF16", name := "checkBoundsBeginEnd", desc := "(II[B)V" } : Jvm.MethodName)).before a0 Z = true := mw hw 177 rfl
theorem w178 (hw : HW a0 Z) : (Jvm.Cond.code ({ cls := "java/lang/StringUTF16", name := "checkBoundsBeginEnd", desc := "(II[B)V" } : Jvm.MethodName) jdk_52_method_93_code (3 : Nat) (Option.none : Option Jvm.ClassFile.FieldType)).before a0 Z = true := mw hw 178 rfl
theorem w179 (hw : HW a0 Z) : (Jvm.Cond.methodLink "java/lang/StringUTF16" (48 : Nat) ({ cls := "java/lang/StringUTF16", name := "length", desc := "([B)I" } : Jvm.MethodName)).before a0 Z = true := mw hw 179 rfl
theorem w180 (hw : HW a0 Z) : (Jvm.Cond.static ({ cls := "java/lang/StringUTF16", name := "length", desc := "([B)I" } : Jvm.MethodName)).before a0 Z = true := mw hw 180 rfl
theorem w181 (hw : HW a0 Z) : (Jvm.Cond.code ({ cls := "java/lang/StringUTF16", name := "length", desc := "([B)I" } : Jvm.MethodName) jdk_52_method_6_code (1 : Nat) (Option.some Jvm.ClassFile.FieldType.int)).before a0 Z = true := mw hw 181 rfl
theorem w182 (hw : HW a0 Z) : (Jvm.Cond.methodLink "java/lang/StringUTF16" (241 : Nat) ({ cls := "java/lang/String", name := "checkBoundsBeginEnd", desc := "(III)V" } : Jvm.MethodName)).before a0 Z = true := mw hw 182 rfl
theorem w183 (hw : HW a0 Z) : (Jvm.Cond.methodLink "java/lang/StringUTF16" (244 : Nat) ({ cls := "java/lang/StringUTF16", name := "indexOfCharUnsafe", desc := "([BIII)I" } : Jvm.MethodName)).before a0 Z = true := mw hw 183 rfl
theorem w184 (hw : HW a0 Z) : (Jvm.Cond.static ({ cls := "java/lang/StringUTF16", name := "indexOfCharUnsafe", desc := "([BIII)I" } : Jvm.MethodName)).before a0 Z = true := mw hw 184 rfl
theorem w185 (hw : HW a0 Z) : (Jvm.Cond.code ({ cls := "java/lang/StringUTF16", name := "indexOfCharUnsafe", desc := "([BIII)I" } : Jvm.MethodName) jdk_52_method_48_code (5 : Nat) (Option.some Jvm.ClassFile.FieldType.int)).before a0 Z = true := mw hw 185 rfl
theorem w186 (hw : HW a0 Z) : (Jvm.Cond.methodLink "java/lang/String" (689 : Nat) ({ cls := "java/lang/StringUTF16", name := "newString", desc := "([BII)Ljava/lang/String;" } : Jvm.MethodName)).before a0 Z = true := mw hw 186 rfl
theorem w187 (hw : HW a0 Z) : (Jvm.Cond.static ({ cls := "java/lang/StringUTF16", name := "newString", desc := "([BII)Ljava/lang/String;" } : Jvm.MethodName)).before a0 Z = true := mw hw 187 rfl
theorem w188 (hw : HW a0 Z) : (Jvm.Cond.code ({ cls := "java/lang/StringUTF16", name := "newString", desc := "([BII)Ljava/lang/String;" } : Jvm.MethodName) jdk_52_method_69_code (5 : Nat) (Option.some (Jvm.ClassFile.FieldType.object "java/lang/String"))).before a0 Z = true := mw hw 188 rfl
theorem w189 (hw : HW a0 Z) : (Jvm.Cond.stringLink "java/lang/StringUTF16" (295 : Nat) "").before a0 Z = true := mw hw 189 rfl
theorem w190 (hw : HW a0 Z) : (Jvm.Cond.fieldLink "java/lang/StringUTF16" (251 : Nat) "java/lang/String" "COMPACT_STRINGS" "Z").before a0 Z = true := mw hw 190 rfl
theorem w191 (hw : HW a0 Z) : (Jvm.Cond.methodLink "java/lang/StringUTF16" (257 : Nat) ({ cls := "java/lang/StringUTF16", name := "compress", desc := "([BII)[B" } : Jvm.MethodName)).before a0 Z = true := mw hw 191 rfl
theorem w192 (hw : HW a0 Z) : (Jvm.Cond.static ({ cls := "java/lang/StringUTF16", name := "compress", desc := "([BII)[B" } : Jvm.MethodName)).before a0 Z = true := mw hw 192 rfl
theorem w193 (hw : HW a0 Z) : (Jvm.Cond.code ({ cls := "java/lang/StringUTF16", name := "compress", desc := "([BII)[B" } : Jvm.MethodName) jdk_52_method_17_code (6 : Nat) (Option.some (Jvm.ClassFile.FieldType.array Jvm.ClassFile.FieldType.byte))).before a0 Z = true := mw hw 193 rfl
theorem w194 (hw : HW a0 Z) : (Jvm.Cond.methodLink "java/lang/StringUTF16" (123 : Nat) ({ cls := "java/lang/StringUTF16", name := "compress", desc := "([BI[BII)I" } : Jvm.MethodName)).before a0 Z = true := mw hw 194 rfl
theorem w195 (hw : HW a0 Z) : (Jvm.Cond.static ({ cls := "java/lang/StringUTF16", name := "compress", desc := "([BI[BII)I" } : Jvm.MethodName)).before a0 Z = true := mw hw 195 rfl
theorem w196 (hw : HW a0 Z) : (Jvm.Cond.code ({ cls := "java/lang/StringUTF16", name := "compress", desc := "([BI[BII)I" } : Jvm.MethodName) jdk_52_method_22_code (7 : Nat) (Option.some Jvm.ClassFile.FieldType.int)).before a0 Z = true := mw hw 196 rfl
theorem w197 (hw : HW a0 Z) : (Jvm.Cond.methodLink "java/lang/StringUTF16" (173 : Nat) ({ cls := "java/lang/StringUTF16", name := "checkBoundsOffCount", desc := "(II[B)V" } : Jvm.MethodName)).before a0 Z = true := mw hw 197 rfl
theorem w198 (hw : HW a0 Z) : (Jvm.Cond.static ({ cls := "java/lang/StringUTF16", name := "checkBoundsOffCount", desc := "(II[B)V" } : Jvm.MethodName)).before a0 Z = true := mw hw 198 rfl
theorem w199 (hw : HW a0 Z) : (Jvm.Cond.code ({ cls := "java/lang/StringUTF16", name := "checkBoundsOffCount", desc := "(II[B)V" } : Jvm.MethodName) jdk_52_method_94_code (3 : Nat) (Option.none : Option Jvm.ClassFile.FieldType)).before a0 Z = true := mw hw 199 rfl
theorem w200 (hw : HW a0 Z) : (Jvm.Cond.methodLink "java/lang/StringUTF16" (419 : Nat) ({ cls := "java/lang/String", name := "checkBoundsOffCount", desc := "(III)I" } : Jvm.MethodName)).before a0 Z = true := mw hw 200 rfl
theorem w201 (hw : HW a0 Z) : (Jvm.Cond.static ({ cls := "java/lang/String", name := "checkBoundsOffCount", desc := "(III)I" } : Jvm.MethodName)).before a0 Z = true := mw hw 201 rfl
theorem w202 (hw : HW a0 Z) : (Jvm.Cond.code ({ cls := "java/lang/String", name := "checkBoundsOffCount", desc := "(III)I" } : Jvm.MethodName) jdk_42_method_157_code (3 : Nat) (Option.some Jvm.ClassFile.FieldType.int)).before a0 Z = true := mw hw 202 rfl
theorem w203 (hw : HW a0 Z) : (Jvm.Cond.methodLink "java/lang/String" (1065 : Nat) ({ cls := "jdk/internal/util/Preconditions", name := "checkFromIndexSize", desc := "(IIILjava/util/function/BiFunction;)I" } : Jvm.MethodName)).before a0 Z = true := mw hw 203 rfl
theorem w204 (hw : HW a0 Z) : (Jvm.Cond.static ({ cls := "jdk/internal/util/Preconditions", name := "checkFromIndexSize", desc := "(IIILjava/util/function/BiFunction;)I" } : Jvm.MethodName)).before a0 Z = true := mw hw 204 rfl
theorem w205 (hw : HW a0 Z) : (Jvm.Cond.code ({ cls := "jdk/internal/util/Preconditions", name := "checkFromIndexSize", desc := "(IIILjava/util/function/BiFunction;)I" } : Jvm.MethodName) jdk_41_method_13_code (4 : Nat) (Option.some Jvm.ClassFile.FieldType.int)).before a0 Z = true := mw hw 205 rfl
theorem w206 (hw : HW a0 Z) : (Jvm.Cond.methodLink "java/lang/StringUTF16" (126 : Nat) ({ cls := "java/util/Arrays", name := "copyOfRange", desc := "([BII)[B" } : Jvm.MethodName)).before a0 Z = true := mw hw 206 rfl
theorem w207 (hw : HW a0 Z) : (Jvm.Cond.methodLink "java/lang/StringUTF16" (259 : Nat) ({ cls := "java/lang/StringUTF16", name := "coderFromArrayLen", desc := "([BI)B" } : Jvm.MethodName)).before a0 Z = true := mw hw 207 rfl
theorem w208 (hw : HW a0 Z) : (Jvm.Cond.classLink "java/lang/StringUTF16" (3 : Nat) "java/lang/String").before a0 Z = true := mw hw 208 rfl
theorem w209 (hw : HW a0 Z) : (Jvm.Cond.methodLink "java/lang/StringUTF16" (263 : Nat) ({ cls := "java/lang/String", name := "<init>", desc := "([BB)V" } : Jvm.MethodName)).before a0 Z = true := mw hw 209 rfl
theorem w210 (hw : HW a0 Z) : (Jvm.Cond.methodLink "java/lang/String" (498 : Nat) ({ cls := "java/lang/StringUTF16", name := "charAt", desc := "([BI)C" } : Jvm.MethodName)).before a0 Z = true := mw hw 210 rfl
theorem w211 (hw : HW a0 Z) : (Jvm.Cond.static ({ cls := "java/lang/StringUTF16", name := "charAt", desc := "([BI)C" } : Jvm.MethodName)).before a0 Z = true := mw hw 211 rfl
theorem w212 (hw : HW a0 Z) : (Jvm.Cond.code ({ cls := "java/lang/StringUTF16", name := "charAt", desc := "([BI)C" } : Jvm.MethodName) jdk_52_method_83_code (2 : Nat) (Option.some Jvm.ClassFile.FieldType.char)).before a0 Z = true := mw hw 212 rfl
theorem w213 (hw : HW a0 Z) : (Jvm.Cond.methodLink "java/lang/StringUTF16" (67 : Nat) ({ cls := "java/lang/StringUTF16", name := "checkIndex", desc := "(I[B)V" } : Jvm.MethodName)).before a0 Z = true := mw hw 213 rfl
theorem w214 (hw : HW a0 Z) : (Jvm.Cond.static ({ cls := "java/lang/StringUTF16", name := "checkIndex", desc := "(I[B)V" } : Jvm.MethodName)).before a0 Z = true := mw hw 214 rfl
theorem w215 (hw : HW a0 Z) : (Jvm.Cond.code ({ cls := "java/lang/StringUTF16", name := "checkIndex", desc := "(I[B)V" } : Jvm.MethodName) jdk_52_method_91_code (2 : Nat) (Option.none : Option Jvm.ClassFile.FieldType)).before a0 Z = true := mw hw 215 rfl
theorem w216 (hw : HW a0 Z) : (Jvm.Cond.methodLink "java/lang/StringUTF16" (414 : Nat) ({ cls := "java/lang/String", name := "checkIndex", desc := "(II)V" } : Jvm.MethodName)).before a0 Z = true := mw hw 216 rfl
end
theorem ef_pcheck (m : MethodId) (x0 : Int32) (x1 : Int32) (x2 : Value) (hx2 : x2.category = 1) : entryFrame m #[(.int x0), (.int x1), x2] 3 = mkF m 0 #[.val (.int x0), .val (.int x1), .val x2] [] := by first | (simp [entryFrame, mkF, argsToLocals, Value.category, hx2]; done) | rfl | (cases x2 <;> first | rfl | (simp [Value.category] at hx2))
theorem pn_jdk_internal_util_Preconditions : plainName "jdk/internal/util/Preconditions" = true := by first | (simp [plainName, overriddenIn]; done) | decide +kernel
abbrev c_0 := jdk_41_method_11_code
theorem d0_0 : decode c_0 0 = .ok (.iload_n 0, 1) := by decide +kernel
theorem d0_1 : decode c_0 1 = .ok (.ifCond .lt 8, 3) := by decide +kernel
theorem d0_4 : decode c_0 4 = .ok (.iload_n 0, 1) := by decide +kernel
theorem d0_5 : decode c_0 5 = .ok (.iload_n 1, 1) := by decide +kernel
theorem d0_6 : decode c_0 6 = .ok (.if_icmp .lt 10, 3) := by decide +kernel
theorem d0_16 : decode c_0 16 = .ok (.iload_n 0, 1) := by decide +kernel
theorem d0_17 : decode c_0 17 = .ok (.ireturn, 1) := by decide +kernel
abbrev yn0 : MethodName := ⟨"jdk/internal/util/Preconditions", "checkIndex", "(IILjava/util/function/BiFunction;)I"⟩
abbrev CT (l : Launch) (y : MethodName) (cs : List Jvm.Cond) (R : Room) (A : Array Value) (Z : State) (h0 : Heap) (Q : Option Value → Heap → List Loc → Prop) : Prop := MetFree l y (head1 cs R) (fun aQ_ UQ => aQ_ = A ∧ Z.Warmed39 UQ.vm ∧ UQ.heap = h0) (fun _ _ _ _ _ => True) (fun _ UQ oQ UQ' => ∃ vQ_ LQ_, oQ = .returned vQ_ ∧ Q vQ_ UQ'.heap LQ_ ∧ FrameEnd UQ oQ UQ' LQ_ R.cells R.slots)
theorem ef_scheck (m : MethodId) (x0 : Int32) (x1 : Int32) : entryFrame m #[(.int x0), (.int x1)] 2 = mkF m 0 #[.val (.int x0), .val (.int x1)] [] := rfl
theorem pn_java_lang_String : plainName "java/lang/String" = true := by first | (simp [plainName, overriddenIn]; done) | decide +kernel
abbrev c_1 := jdk_42_method_155_code
theorem d1_0 : decode c_1 0 = .ok (.iload_n 0, 1) := by decide +kernel
theorem d1_1 : decode c_1 1 = .ok (.iload_n 1, 1) := by decide +kernel
theorem d1_2 : decode c_1 2 = .ok (.getstatic 1053, 3) := by decide +kernel
theorem d1_5 : decode c_1 5 = .ok (.invokestatic 1059, 3) := by decide +kernel
theorem pd0 : parseMethodDescriptor "(IILjava/util/function/BiFunction;)I" = some ⟨[.int, .int, (.object "java/util/function/BiFunction")], some .int⟩ := by decide +kernel
theorem d1_8 : decode c_1 8 = .ok (.pop, 1) := by decide +kernel
theorem d1_9 : decode c_1 9 = .ok (.return_, 1) := by decide +kernel
abbrev yn1 : MethodName := ⟨"java/lang/String", "checkIndex", "(II)V"⟩
theorem ef_l1charAt (m : MethodId) (x0 : Addr) (x1 : Int32) : entryFrame m #[(.ref x0), (.int x1)] 2 = mkF m 0 #[.val (.ref x0), .val (.int x1)] [] := rfl
theorem pn_java_lang_StringLatin1 : plainName "java/lang/StringLatin1" = true := by first | (simp [plainName, overriddenIn]; done) | decide +kernel
abbrev c_2 := jdk_43_method_2_code
theorem d2_0 : decode c_2 0 = .ok (.iload_n 1, 1) := by decide +kernel
theorem d2_1 : decode c_2 1 = .ok (.aload_n 0, 1) := by decide +kernel
theorem d2_2 : decode c_2 2 = .ok (.arraylength, 1) := by decide +kernel
theorem d2_3 : decode c_2 3 = .ok (.invokestatic 9, 3) := by decide +kernel
theorem pd1 : parseMethodDescriptor "(II)V" = some ⟨[.int, .int], none⟩ := by decide +kernel
theorem d2_6 : decode c_2 6 = .ok (.aload_n 0, 1) := by decide +kernel
theorem d2_7 : decode c_2 7 = .ok (.iload_n 1, 1) := by decide +kernel
theorem d2_8 : decode c_2 8 = .ok (.baload, 1) := by decide +kernel
theorem d2_9 : decode c_2 9 = .ok (.sipush 255, 3) := by decide +kernel
theorem d2_12 : decode c_2 12 = .ok (.iand, 1) := by decide +kernel
theorem d2_13 : decode c_2 13 = .ok (.i2c, 1) := by decide +kernel
theorem d2_14 : decode c_2 14 = .ok (.ireturn, 1) := by decide +kernel
abbrev yn2 : MethodName := ⟨"java/lang/StringLatin1", "charAt", "([BI)C"⟩
theorem ef_u16length (m : MethodId) (x0 : Addr) : entryFrame m #[(.ref x0)] 1 = mkF m 0 #[.val (.ref x0)] [] := rfl
theorem pn_java_lang_StringUTF16 : plainName "java/lang/StringUTF16" = true := by first | (simp [plainName, overriddenIn]; done) | decide +kernel
abbrev c_3 := jdk_52_method_6_code
theorem d3_0 : decode c_3 0 = .ok (.aload_n 0, 1) := by decide +kernel
theorem d3_1 : decode c_3 1 = .ok (.arraylength, 1) := by decide +kernel
theorem d3_2 : decode c_3 2 = .ok (.iconst 1, 1) := by decide +kernel
theorem d3_3 : decode c_3 3 = .ok (.ishr, 1) := by decide +kernel
theorem d3_4 : decode c_3 4 = .ok (.ireturn, 1) := by decide +kernel
abbrev yn3 : MethodName := ⟨"java/lang/StringUTF16", "length", "([B)I"⟩
theorem ef_u16check (m : MethodId) (x0 : Int32) (x1 : Addr) : entryFrame m #[(.int x0), (.ref x1)] 2 = mkF m 0 #[.val (.int x0), .val (.ref x1)] [] := rfl
abbrev c_4 := jdk_52_method_91_code
theorem d4_0 : decode c_4 0 = .ok (.iload_n 0, 1) := by decide +kernel
theorem d4_1 : decode c_4 1 = .ok (.aload_n 1, 1) := by decide +kernel
theorem d4_2 : decode c_4 2 = .ok (.invokestatic 48, 3) := by decide +kernel
theorem pd2 : parseMethodDescriptor "([B)I" = some ⟨[(.array .byte)], some .int⟩ := by decide +kernel
theorem d4_5 : decode c_4 5 = .ok (.invokestatic 414, 3) := by decide +kernel
theorem d4_8 : decode c_4 8 = .ok (.return_, 1) := by decide +kernel
abbrev yn4 : MethodName := ⟨"java/lang/StringUTF16", "checkIndex", "(I[B)V"⟩
theorem ef_getChar (m : MethodId) (x0 : Addr) (x1 : Int32) : entryFrame m #[(.ref x0), (.int x1)] 2 = mkF m 0 #[.val (.ref x0), .val (.int x1)] [] := rfl
abbrev c_5 := jdk_52_method_5_code
theorem d5_0 : decode c_5 0 = .ok (.getstatic 44, 3) := by decide +kernel
theorem d5_3 : decode c_5 3 = .ok (.ifCond .ne 25, 3) := by decide +kernel
theorem d5_28 : decode c_5 28 = .ok (.iload_n 1, 1) := by decide +kernel
theorem d5_29 : decode c_5 29 = .ok (.iconst 1, 1) := by decide +kernel
theorem d5_30 : decode c_5 30 = .ok (.ishl, 1) := by decide +kernel
theorem d5_31 : decode c_5 31 = .ok (.istore_n 1, 1) := by decide +kernel
theorem d5_32 : decode c_5 32 = .ok (.aload_n 0, 1) := by decide +kernel
theorem d5_33 : decode c_5 33 = .ok (.iload_n 1, 1) := by decide +kernel
theorem d5_34 : decode c_5 34 = .ok (.iinc 1 1, 3) := by decide +kernel
theorem d5_37 : decode c_5 37 = .ok (.baload, 1) := by decide +kernel
theorem d5_38 : decode c_5 38 = .ok (.sipush 255, 3) := by decide +kernel
theorem d5_41 : decode c_5 41 = .ok (.iand, 1) := by decide +kernel
theorem d5_42 : decode c_5 42 = .ok (.getstatic 59, 3) := by decide +kernel
theorem d5_45 : decode c_5 45 = .ok (.ishl, 1) := by decide +kernel
theorem d5_46 : decode c_5 46 = .ok (.aload_n 0, 1) := by decide +kernel
theorem d5_47 : decode c_5 47 = .ok (.iload_n 1, 1) := by decide +kernel
theorem d5_48 : decode c_5 48 = .ok (.baload, 1) := by decide +kernel
theorem d5_49 : decode c_5 49 = .ok (.sipush 255, 3) := by decide +kernel
theorem d5_52 : decode c_5 52 = .ok (.iand, 1) := by decide +kernel
theorem d5_53 : decode c_5 53 = .ok (.getstatic 63, 3) := by decide +kernel
theorem d5_56 : decode c_5 56 = .ok (.ishl, 1) := by decide +kernel
theorem d5_57 : decode c_5 57 = .ok (.ior, 1) := by decide +kernel
theorem d5_58 : decode c_5 58 = .ok (.i2c, 1) := by decide +kernel
theorem d5_59 : decode c_5 59 = .ok (.ireturn, 1) := by decide +kernel
abbrev yn5 : MethodName := ⟨"java/lang/StringUTF16", "getChar", "([BI)C"⟩
theorem ef_u16charAt (m : MethodId) (x0 : Addr) (x1 : Int32) : entryFrame m #[(.ref x0), (.int x1)] 2 = mkF m 0 #[.val (.ref x0), .val (.int x1)] [] := rfl
abbrev c_6 := jdk_52_method_83_code
theorem d6_0 : decode c_6 0 = .ok (.iload_n 1, 1) := by decide +kernel
theorem d6_1 : decode c_6 1 = .ok (.aload_n 0, 1) := by decide +kernel
theorem d6_2 : decode c_6 2 = .ok (.invokestatic 67, 3) := by decide +kernel
theorem pd3 : parseMethodDescriptor "(I[B)V" = some ⟨[.int, (.array .byte)], none⟩ := by decide +kernel
theorem d6_5 : decode c_6 5 = .ok (.aload_n 0, 1) := by decide +kernel
theorem d6_6 : decode c_6 6 = .ok (.iload_n 1, 1) := by decide +kernel
theorem d6_7 : decode c_6 7 = .ok (.invokestatic 71, 3) := by decide +kernel
theorem pd4 : parseMethodDescriptor "([BI)C" = some ⟨[(.array .byte), .int], some .char⟩ := by decide +kernel
theorem d6_10 : decode c_6 10 = .ok (.ireturn, 1) := by decide +kernel
abbrev yn6 : MethodName := ⟨"java/lang/StringUTF16", "charAt", "([BI)C"⟩
theorem ef_isLatin1 (m : MethodId) (x0 : Addr) : entryFrame m #[(.ref x0)] 1 = mkF m 0 #[.val (.ref x0)] [] := rfl
abbrev c_7 := jdk_42_method_154_code
theorem d7_0 : decode c_7 0 = .ok (.getstatic 38, 3) := by decide +kernel
theorem d7_3 : decode c_7 3 = .ok (.ifCond .eq 14, 3) := by decide +kernel
theorem d7_6 : decode c_7 6 = .ok (.aload_n 0, 1) := by decide +kernel
theorem d7_7 : decode c_7 7 = .ok (.getfield 15, 3) := by decide +kernel
theorem d7_10 : decode c_7 10 = .ok (.ifCond .ne 7, 3) := by decide +kernel
theorem d7_13 : decode c_7 13 = .ok (.iconst 1, 1) := by decide +kernel
theorem d7_14 : decode c_7 14 = .ok (.goto 4, 3) := by decide +kernel
theorem d7_17 : decode c_7 17 = .ok (.iconst 0, 1) := by decide +kernel
theorem d7_18 : decode c_7 18 = .ok (.ireturn, 1) := by decide +kernel
abbrev yn7 : MethodName := ⟨"java/lang/String", "isLatin1", "()Z"⟩
theorem ef_charAt (m : MethodId) (x0 : Addr) (x1 : Int32) : entryFrame m #[(.ref x0), (.int x1)] 2 = mkF m 0 #[.val (.ref x0), .val (.int x1)] [] := rfl
abbrev c_8 := jdk_42_method_56_code
theorem d8_0 : decode c_8 0 = .ok (.aload_n 0, 1) := by decide +kernel
theorem d8_1 : decode c_8 1 = .ok (.invokevirtual 492, 3) := by decide +kernel
theorem pd5 : parseMethodDescriptor "()Z" = some ⟨[], some .boolean⟩ := by decide +kernel
theorem d8_4 : decode c_8 4 = .ok (.ifCond .eq 12, 3) := by decide +kernel
theorem d8_7 : decode c_8 7 = .ok (.aload_n 0, 1) := by decide +kernel
theorem d8_8 : decode c_8 8 = .ok (.getfield 9, 3) := by decide +kernel
theorem d8_11 : decode c_8 11 = .ok (.iload_n 1, 1) := by decide +kernel
theorem d8_12 : decode c_8 12 = .ok (.invokestatic 495, 3) := by decide +kernel
theorem d8_15 : decode c_8 15 = .ok (.ireturn, 1) := by decide +kernel
theorem d8_16 : decode c_8 16 = .ok (.aload_n 0, 1) := by decide +kernel
theorem d8_17 : decode c_8 17 = .ok (.getfield 9, 3) := by decide +kernel
theorem d8_20 : decode c_8 20 = .ok (.iload_n 1, 1) := by decide +kernel
theorem d8_21 : decode c_8 21 = .ok (.invokestatic 498, 3) := by decide +kernel
theorem d8_24 : decode c_8 24 = .ok (.ireturn, 1) := by decide +kernel
abbrev yn8 : MethodName := ⟨"java/lang/String", "charAt", "(I)C"⟩
theorem ef_coder (m : MethodId) (x0 : Addr) : entryFrame m #[(.ref x0)] 1 = mkF m 0 #[.val (.ref x0)] [] := rfl
abbrev c_9 := jdk_42_method_152_code
theorem d9_0 : decode c_9 0 = .ok (.getstatic 38, 3) := by decide +kernel
theorem d9_3 : decode c_9 3 = .ok (.ifCond .eq 10, 3) := by decide +kernel
theorem d9_6 : decode c_9 6 = .ok (.aload_n 0, 1) := by decide +kernel
theorem d9_7 : decode c_9 7 = .ok (.getfield 15, 3) := by decide +kernel
theorem d9_10 : decode c_9 10 = .ok (.goto 4, 3) := by decide +kernel
theorem d9_14 : decode c_9 14 = .ok (.ireturn, 1) := by decide +kernel
abbrev yn9 : MethodName := ⟨"java/lang/String", "coder", "()B"⟩
theorem ef_length (m : MethodId) (x0 : Addr) : entryFrame m #[(.ref x0)] 1 = mkF m 0 #[.val (.ref x0)] [] := rfl
abbrev c_10 := jdk_42_method_54_code
theorem d10_0 : decode c_10 0 = .ok (.aload_n 0, 1) := by decide +kernel
theorem d10_1 : decode c_10 1 = .ok (.getfield 9, 3) := by decide +kernel
theorem d10_4 : decode c_10 4 = .ok (.arraylength, 1) := by decide +kernel
theorem d10_5 : decode c_10 5 = .ok (.aload_n 0, 1) := by decide +kernel
theorem d10_6 : decode c_10 6 = .ok (.invokevirtual 335, 3) := by decide +kernel
theorem pd6 : parseMethodDescriptor "()B" = some ⟨[], some .byte⟩ := by decide +kernel
theorem d10_9 : decode c_10 9 = .ok (.ishr, 1) := by decide +kernel
theorem d10_10 : decode c_10 10 = .ok (.ireturn, 1) := by decide +kernel
abbrev yn10 : MethodName := ⟨"java/lang/String", "length", "()I"⟩
abbrev c_11 := jdk_52_method_21_code
theorem d11_3 : decode c_11 3 = .ok (.iload 5, 2) := by decide +kernel
theorem d11_5 : decode c_11 5 = .ok (.iload 4, 2) := by decide +kernel
theorem d11_7 : decode c_11 7 = .ok (.if_icmp .ge 37, 3) := by decide +kernel
theorem d11_44 : decode c_11 44 = .ok (.iload 4, 2) := by decide +kernel
theorem d11_46 : decode c_11 46 = .ok (.ireturn, 1) := by decide +kernel
theorem d11_10 : decode c_11 10 = .ok (.aload_n 0, 1) := by decide +kernel
theorem d11_11 : decode c_11 11 = .ok (.iload_n 1, 1) := by decide +kernel
theorem d11_12 : decode c_11 12 = .ok (.caload, 1) := by decide +kernel
theorem d11_13 : decode c_11 13 = .ok (.istore 6, 2) := by decide +kernel
theorem d11_15 : decode c_11 15 = .ok (.iload 6, 2) := by decide +kernel
theorem d11_17 : decode c_11 17 = .ok (.sipush 255, 3) := by decide +kernel
theorem d11_20 : decode c_11 20 = .ok (.if_icmp .le 6, 3) := by decide +kernel
theorem d11_23 : decode c_11 23 = .ok (.iload 5, 2) := by decide +kernel
theorem d11_25 : decode c_11 25 = .ok (.ireturn, 1) := by decide +kernel
theorem d11_26 : decode c_11 26 = .ok (.aload_n 2, 1) := by decide +kernel
theorem d11_27 : decode c_11 27 = .ok (.iload_n 3, 1) := by decide +kernel
theorem d11_28 : decode c_11 28 = .ok (.iload 6, 2) := by decide +kernel
theorem d11_30 : decode c_11 30 = .ok (.i2b, 1) := by decide +kernel
theorem d11_31 : decode c_11 31 = .ok (.bastore, 1) := by decide +kernel
theorem d11_32 : decode c_11 32 = .ok (.iinc 1 1, 3) := by decide +kernel
theorem d11_35 : decode c_11 35 = .ok (.iinc 3 1, 3) := by decide +kernel
theorem d11_38 : decode c_11 38 = .ok (.iinc 5 1, 3) := by decide +kernel
theorem d11_41 : decode c_11 41 = .ok (.goto (-38), 3) := by decide +kernel
theorem ef_compress21 (m : MethodId) (x0 : Addr) (x1 : Int32) (x2 : Addr) (x3 : Int32) (x4 : Int32) : entryFrame m #[(.ref x0), (.int x3), (.ref x2), (.int x3), (.int x4)] 7 = mkF m 0 #[.val (.ref x0), .val (.int x3), .val (.ref x2), .val (.int x3), .val (.int x4), .unset, .unset] [] := rfl
theorem d11_0 : decode c_11 0 = .ok (.iconst 0, 1) := by decide +kernel
theorem d11_1 : decode c_11 1 = .ok (.istore 5, 2) := by decide +kernel
abbrev yn11 : MethodName := ⟨"java/lang/StringUTF16", "compress", "([CI[BII)I"⟩
theorem ef_coderOf (m : MethodId) (x0 : Addr) (x1 : Int32) : entryFrame m #[(.ref x0), (.int x1)] 2 = mkF m 0 #[.val (.ref x0), .val (.int x1)] [] := rfl
abbrev c_12 := jdk_52_method_15_code
theorem d12_0 : decode c_12 0 = .ok (.iload_n 1, 1) := by decide +kernel
theorem d12_1 : decode c_12 1 = .ok (.aload_n 0, 1) := by decide +kernel
theorem d12_2 : decode c_12 2 = .ok (.arraylength, 1) := by decide +kernel
theorem d12_3 : decode c_12 3 = .ok (.isub, 1) := by decide +kernel
theorem d12_4 : decode c_12 4 = .ok (.bipush 31, 2) := by decide +kernel
theorem d12_6 : decode c_12 6 = .ok (.iushr, 1) := by decide +kernel
theorem d12_7 : decode c_12 7 = .ok (.i2b, 1) := by decide +kernel
theorem d12_8 : decode c_12 8 = .ok (.ireturn, 1) := by decide +kernel
abbrev yn12 : MethodName := ⟨"java/lang/StringUTF16", "coderFromArrayLen", "([BI)B"⟩
theorem ef_nbl (m : MethodId) (x0 : Int32) : entryFrame m #[(.int x0)] 1 = mkF m 0 #[.val (.int x0)] [] := rfl
abbrev c_13 := jdk_52_method_3_code
theorem d13_0 : decode c_13 0 = .ok (.iload_n 0, 1) := by decide +kernel
theorem d13_1 : decode c_13 1 = .ok (.ifCond .ge 11, 3) := by decide +kernel
theorem d13_12 : decode c_13 12 = .ok (.iload_n 0, 1) := by decide +kernel
theorem d13_13 : decode c_13 13 = .ok (.ldc 20, 2) := by decide +kernel
theorem d13_15 : decode c_13 15 = .ok (.if_icmp .lt 40, 3) := by decide +kernel
theorem d13_55 : decode c_13 55 = .ok (.iload_n 0, 1) := by decide +kernel
theorem d13_56 : decode c_13 56 = .ok (.iconst 1, 1) := by decide +kernel
theorem d13_57 : decode c_13 57 = .ok (.ishl, 1) := by decide +kernel
theorem d13_58 : decode c_13 58 = .ok (.ireturn, 1) := by decide +kernel
abbrev yn13 : MethodName := ⟨"java/lang/StringUTF16", "newBytesLength", "(I)I"⟩
theorem ef_nbf (m : MethodId) (x0 : Int32) : entryFrame m #[(.int x0)] 1 = mkF m 0 #[.val (.int x0)] [] := rfl
abbrev c_14 := jdk_52_method_2_code
theorem d14_0 : decode c_14 0 = .ok (.iload_n 0, 1) := by decide +kernel
theorem d14_1 : decode c_14 1 = .ok (.invokestatic 11, 3) := by decide +kernel
theorem pd7 : parseMethodDescriptor "(I)I" = some ⟨[.int], some .int⟩ := by decide +kernel
theorem d14_4 : decode c_14 4 = .ok (.newarray .byte, 2) := by decide +kernel
theorem d14_6 : decode c_14 6 = .ok (.areturn, 1) := by decide +kernel
abbrev yn14 : MethodName := ⟨"java/lang/StringUTF16", "newBytesFor", "(I)[B"⟩
theorem ef_putChar (m : MethodId) (x0 : Addr) (x1 : Int32) (x2 : Int32) : entryFrame m #[(.ref x0), (.int x1), (.int x2)] 3 = mkF m 0 #[.val (.ref x0), .val (.int x1), .val (.int x2)] [] := rfl
abbrev c_15 := jdk_52_method_4_code
theorem d15_0 : decode c_15 0 = .ok (.getstatic 44, 3) := by decide +kernel
theorem d15_3 : decode c_15 3 = .ok (.ifCond .ne 25, 3) := by decide +kernel
theorem d15_28 : decode c_15 28 = .ok (.iload_n 1, 1) := by decide +kernel
theorem d15_29 : decode c_15 29 = .ok (.iconst 1, 1) := by decide +kernel
theorem d15_30 : decode c_15 30 = .ok (.ishl, 1) := by decide +kernel
theorem d15_31 : decode c_15 31 = .ok (.istore_n 1, 1) := by decide +kernel
theorem d15_32 : decode c_15 32 = .ok (.aload_n 0, 1) := by decide +kernel
theorem d15_33 : decode c_15 33 = .ok (.iload_n 1, 1) := by decide +kernel
theorem d15_34 : decode c_15 34 = .ok (.iinc 1 1, 3) := by decide +kernel
theorem d15_37 : decode c_15 37 = .ok (.iload_n 2, 1) := by decide +kernel
theorem d15_38 : decode c_15 38 = .ok (.getstatic 59, 3) := by decide +kernel
theorem d15_41 : decode c_15 41 = .ok (.ishr, 1) := by decide +kernel
theorem d15_42 : decode c_15 42 = .ok (.i2b, 1) := by decide +kernel
theorem d15_43 : decode c_15 43 = .ok (.bastore, 1) := by decide +kernel
theorem d15_44 : decode c_15 44 = .ok (.aload_n 0, 1) := by decide +kernel
theorem d15_45 : decode c_15 45 = .ok (.iload_n 1, 1) := by decide +kernel
theorem d15_46 : decode c_15 46 = .ok (.iload_n 2, 1) := by decide +kernel
theorem d15_47 : decode c_15 47 = .ok (.getstatic 63, 3) := by decide +kernel
theorem d15_50 : decode c_15 50 = .ok (.ishr, 1) := by decide +kernel
theorem d15_51 : decode c_15 51 = .ok (.i2b, 1) := by decide +kernel
theorem d15_52 : decode c_15 52 = .ok (.bastore, 1) := by decide +kernel
theorem d15_53 : decode c_15 53 = .ok (.return_, 1) := by decide +kernel
abbrev yn15 : MethodName := ⟨"java/lang/StringUTF16", "putChar", "([BII)V"⟩
abbrev c_16 := jdk_52_method_14_code
theorem d16_8 : decode c_16 8 = .ok (.iload 4, 2) := by decide +kernel
theorem d16_10 : decode c_16 10 = .ok (.iload_n 2, 1) := by decide +kernel
theorem d16_11 : decode c_16 11 = .ok (.if_icmp .ge 21, 3) := by decide +kernel
theorem d16_14 : decode c_16 14 = .ok (.aload_n 3, 1) := by decide +kernel
theorem d16_15 : decode c_16 15 = .ok (.iload 4, 2) := by decide +kernel
theorem d16_17 : decode c_16 17 = .ok (.aload_n 0, 1) := by decide +kernel
theorem d16_18 : decode c_16 18 = .ok (.iload_n 1, 1) := by decide +kernel
theorem d16_19 : decode c_16 19 = .ok (.caload, 1) := by decide +kernel
theorem d16_20 : decode c_16 20 = .ok (.invokestatic 111, 3) := by decide +kernel
theorem pd8 : parseMethodDescriptor "([BII)V" = some ⟨[(.array .byte), .int, .int], none⟩ := by decide +kernel
theorem d16_23 : decode c_16 23 = .ok (.iinc 1 1, 3) := by decide +kernel
theorem d16_26 : decode c_16 26 = .ok (.iinc 4 1, 3) := by decide +kernel
theorem d16_29 : decode c_16 29 = .ok (.goto (-21), 3) := by decide +kernel
theorem ef_toBytes (m : MethodId) (x0 : Addr) (x1 : Int32) (x2 : Int32) : entryFrame m #[(.ref x0), (.int x1), (.int x2)] 5 = mkF m 0 #[.val (.ref x0), .val (.int x1), .val (.int x2), .unset, .unset] [] := rfl
theorem d16_0 : decode c_16 0 = .ok (.iload_n 2, 1) := by decide +kernel
theorem d16_1 : decode c_16 1 = .ok (.invokestatic 107, 3) := by decide +kernel
theorem pd9 : parseMethodDescriptor "(I)[B" = some ⟨[.int], some (.array .byte)⟩ := by decide +kernel
theorem d16_4 : decode c_16 4 = .ok (.astore_n 3, 1) := by decide +kernel
theorem d16_5 : decode c_16 5 = .ok (.iconst 0, 1) := by decide +kernel
theorem d16_6 : decode c_16 6 = .ok (.istore 4, 2) := by decide +kernel
theorem d16_32 : decode c_16 32 = .ok (.aload_n 3, 1) := by decide +kernel
theorem d16_33 : decode c_16 33 = .ok (.areturn, 1) := by decide +kernel
abbrev yn16 : MethodName := ⟨"java/lang/StringUTF16", "toBytes", "([CII)[B"⟩
theorem ef_compress16 (m : MethodId) (x0 : Addr) (x1 : Int32) (x2 : Int32) : entryFrame m #[(.ref x0), (.int x1), (.int x2)] 6 = mkF m 0 #[.val (.ref x0), .val (.int x1), .val (.int x2), .unset, .unset, .unset] [] := rfl
abbrev c_17 := jdk_52_method_16_code
theorem d17_0 : decode c_17 0 = .ok (.iload_n 2, 1) := by decide +kernel
theorem d17_1 : decode c_17 1 = .ok (.newarray .byte, 2) := by decide +kernel
theorem d17_3 : decode c_17 3 = .ok (.astore_n 3, 1) := by decide +kernel
theorem d17_4 : decode c_17 4 = .ok (.aload_n 0, 1) := by decide +kernel
theorem d17_5 : decode c_17 5 = .ok (.iload_n 1, 1) := by decide +kernel
theorem d17_6 : decode c_17 6 = .ok (.aload_n 3, 1) := by decide +kernel
theorem d17_7 : decode c_17 7 = .ok (.iconst 0, 1) := by decide +kernel
theorem d17_8 : decode c_17 8 = .ok (.iload_n 2, 1) := by decide +kernel
theorem d17_9 : decode c_17 9 = .ok (.invokestatic 115, 3) := by decide +kernel
theorem pd10 : parseMethodDescriptor "([CI[BII)I" = some ⟨[(.array .char), .int, (.array .byte), .int, .int], some .int⟩ := by decide +kernel
theorem d17_12 : decode c_17 12 = .ok (.istore 4, 2) := by decide +kernel
theorem d17_14 : decode c_17 14 = .ok (.iload 4, 2) := by decide +kernel
theorem d17_16 : decode c_17 16 = .ok (.iload_n 2, 1) := by decide +kernel
theorem d17_17 : decode c_17 17 = .ok (.if_icmp .eq 40, 3) := by decide +kernel
theorem d17_57 : decode c_17 57 = .ok (.aload_n 3, 1) := by decide +kernel
theorem d17_58 : decode c_17 58 = .ok (.areturn, 1) := by decide +kernel
theorem d17_20 : decode c_17 20 = .ok (.aload_n 0, 1) := by decide +kernel
theorem d17_21 : decode c_17 21 = .ok (.iload_n 1, 1) := by decide +kernel
theorem d17_22 : decode c_17 22 = .ok (.iload_n 2, 1) := by decide +kernel
theorem d17_23 : decode c_17 23 = .ok (.invokestatic 119, 3) := by decide +kernel
theorem pd11 : parseMethodDescriptor "([CII)[B" = some ⟨[(.array .char), .int, .int], some (.array .byte)⟩ := by decide +kernel
theorem d17_26 : decode c_17 26 = .ok (.astore 5, 2) := by decide +kernel
theorem d17_28 : decode c_17 28 = .ok (.aload 5, 2) := by decide +kernel
theorem d17_30 : decode c_17 30 = .ok (.iload 4, 2) := by decide +kernel
theorem d17_32 : decode c_17 32 = .ok (.invokestatic 71, 3) := by decide +kernel
theorem d17_35 : decode c_17 35 = .ok (.sipush 255, 3) := by decide +kernel
theorem d17_38 : decode c_17 38 = .ok (.if_icmp .gt 16, 3) := by decide +kernel
theorem d17_54 : decode c_17 54 = .ok (.aload 5, 2) := by decide +kernel
theorem d17_56 : decode c_17 56 = .ok (.areturn, 1) := by decide +kernel
abbrev yn17 : MethodName := ⟨"java/lang/StringUTF16", "compress", "([CII)[B"⟩
theorem ef_sinitV (m : MethodId) (x0 : Addr) (x1 : Addr) (x2 : Int32) (x3 : Int32) : entryFrame m #[(.ref x0), (.ref x1), (.int x2), (.int x3), .null] 6 = mkF m 0 #[.val (.ref x0), .val (.ref x1), .val (.int x2), .val (.int x3), .val .null, .unset] [] := rfl
abbrev c_18 := jdk_42_method_149_code
theorem d18_0 : decode c_18 0 = .ok (.aload_n 0, 1) := by decide +kernel
theorem d18_1 : decode c_18 1 = .ok (.invokespecial 1, 3) := by decide +kernel
theorem d18_4 : decode c_18 4 = .ok (.iload_n 3, 1) := by decide +kernel
theorem d18_5 : decode c_18 5 = .ok (.ifCond .ne 22, 3) := by decide +kernel
theorem d18_27 : decode c_18 27 = .ok (.getstatic 38, 3) := by decide +kernel
theorem d18_30 : decode c_18 30 = .ok (.ifCond .eq 28, 3) := by decide +kernel
theorem d18_33 : decode c_18 33 = .ok (.aload_n 1, 1) := by decide +kernel
theorem d18_34 : decode c_18 34 = .ok (.iload_n 2, 1) := by decide +kernel
theorem d18_35 : decode c_18 35 = .ok (.iload_n 3, 1) := by decide +kernel
theorem d18_36 : decode c_18 36 = .ok (.invokestatic 177, 3) := by decide +kernel
theorem d18_39 : decode c_18 39 = .ok (.astore 5, 2) := by decide +kernel
theorem d18_41 : decode c_18 41 = .ok (.aload_n 0, 1) := by decide +kernel
theorem d18_42 : decode c_18 42 = .ok (.aload 5, 2) := by decide +kernel
theorem d18_44 : decode c_18 44 = .ok (.iload_n 3, 1) := by decide +kernel
theorem d18_45 : decode c_18 45 = .ok (.invokestatic 47, 3) := by decide +kernel
theorem pd12 : parseMethodDescriptor "([BI)B" = some ⟨[(.array .byte), .int], some .byte⟩ := by decide +kernel
theorem d18_48 : decode c_18 48 = .ok (.putfield 15, 3) := by decide +kernel
theorem d18_51 : decode c_18 51 = .ok (.aload_n 0, 1) := by decide +kernel
theorem d18_52 : decode c_18 52 = .ok (.aload 5, 2) := by decide +kernel
theorem d18_54 : decode c_18 54 = .ok (.putfield 9, 3) := by decide +kernel
theorem d18_57 : decode c_18 57 = .ok (.return_, 1) := by decide +kernel
abbrev yn18 : MethodName := ⟨"java/lang/String", "<init>", "([CIILjava/lang/Void;)V"⟩
theorem ef_sinit (m : MethodId) (x0 : Addr) (x1 : Addr) : entryFrame m #[(.ref x0), (.ref x1)] 2 = mkF m 0 #[.val (.ref x0), .val (.ref x1)] [] := rfl
abbrev c_19 := jdk_42_method_3_code
theorem d19_0 : decode c_19 0 = .ok (.aload_n 0, 1) := by decide +kernel
theorem d19_1 : decode c_19 1 = .ok (.aload_n 1, 1) := by decide +kernel
theorem d19_2 : decode c_19 2 = .ok (.iconst 0, 1) := by decide +kernel
theorem d19_3 : decode c_19 3 = .ok (.aload_n 1, 1) := by decide +kernel
theorem d19_4 : decode c_19 4 = .ok (.arraylength, 1) := by decide +kernel
theorem d19_5 : decode c_19 5 = .ok (.aconst_null, 1) := by decide +kernel
theorem d19_6 : decode c_19 6 = .ok (.invokespecial 27, 3) := by decide +kernel
theorem pd13 : parseMethodDescriptor "([CIILjava/lang/Void;)V" = some ⟨[(.array .char), .int, .int, (.object "java/lang/Void")], none⟩ := by decide +kernel
theorem d19_9 : decode c_19 9 = .ok (.return_, 1) := by decide +kernel
abbrev yn19 : MethodName := ⟨"java/lang/String", "<init>", "([C)V"⟩
theorem ef_pcheckFT (m : MethodId) (x0 : Int32) (x1 : Int32) (x2 : Int32) (x3 : Value) (hx3 : x3.category = 1) : entryFrame m #[(.int x0), (.int x1), (.int x2), x3] 4 = mkF m 0 #[.val (.int x0), .val (.int x1), .val (.int x2), .val x3] [] := by first | (simp [entryFrame, mkF, argsToLocals, Value.category, hx3]; done) | rfl | (cases x3 <;> first | rfl | (simp [Value.category] at hx3))
abbrev c_20 := jdk_41_method_12_code
theorem d20_0 : decode c_20 0 = .ok (.iload_n 0, 1) := by decide +kernel
theorem d20_1 : decode c_20 1 = .ok (.ifCond .lt 13, 3) := by decide +kernel
theorem d20_4 : decode c_20 4 = .ok (.iload_n 0, 1) := by decide +kernel
theorem d20_5 : decode c_20 5 = .ok (.iload_n 1, 1) := by decide +kernel
theorem d20_6 : decode c_20 6 = .ok (.if_icmp .gt 8, 3) := by decide +kernel
theorem d20_9 : decode c_20 9 = .ok (.iload_n 1, 1) := by decide +kernel
theorem d20_10 : decode c_20 10 = .ok (.iload_n 2, 1) := by decide +kernel
theorem d20_11 : decode c_20 11 = .ok (.if_icmp .le 11, 3) := by decide +kernel
theorem d20_22 : decode c_20 22 = .ok (.iload_n 0, 1) := by decide +kernel
theorem d20_23 : decode c_20 23 = .ok (.ireturn, 1) := by decide +kernel
abbrev yn20 : MethodName := ⟨"jdk/internal/util/Preconditions", "checkFromToIndex", "(IIILjava/util/function/BiFunction;)I"⟩
theorem ef_scheckBE (m : MethodId) (x0 : Int32) (x1 : Int32) (x2 : Int32) : entryFrame m #[(.int x0), (.int x1), (.int x2)] 3 = mkF m 0 #[.val (.int x0), .val (.int x1), .val (.int x2)] [] := rfl
abbrev c_21 := jdk_42_method_158_code
theorem d21_0 : decode c_21 0 = .ok (.iload_n 0, 1) := by decide +kernel
theorem d21_1 : decode c_21 1 = .ok (.iload_n 1, 1) := by decide +kernel
theorem d21_2 : decode c_21 2 = .ok (.iload_n 2, 1) := by decide +kernel
theorem d21_3 : decode c_21 3 = .ok (.getstatic 1053, 3) := by decide +kernel
theorem d21_6 : decode c_21 6 = .ok (.invokestatic 1062, 3) := by decide +kernel
theorem pd14 : parseMethodDescriptor "(IIILjava/util/function/BiFunction;)I" = some ⟨[.int, .int, .int, (.object "java/util/function/BiFunction")], some .int⟩ := by decide +kernel
theorem d21_9 : decode c_21 9 = .ok (.pop, 1) := by decide +kernel
theorem d21_10 : decode c_21 10 = .ok (.return_, 1) := by decide +kernel
abbrev yn21 : MethodName := ⟨"java/lang/String", "checkBoundsBeginEnd", "(III)V"⟩
theorem ef_pcheckFIS (m : MethodId) (x0 : Int32) (x1 : Int32) (x2 : Int32) (x3 : Value) (hx3 : x3.category = 1) : entryFrame m #[(.int x0), (.int x1), (.int x2), x3] 4 = mkF m 0 #[.val (.int x0), .val (.int x1), .val (.int x2), .val x3] [] := by first | (simp [entryFrame, mkF, argsToLocals, Value.category, hx3]; done) | rfl | (cases x3 <;> first | rfl | (simp [Value.category] at hx3))
abbrev c_22 := jdk_41_method_13_code
theorem d22_0 : decode c_22 0 = .ok (.iload_n 2, 1) := by decide +kernel
theorem d22_1 : decode c_22 1 = .ok (.iload_n 0, 1) := by decide +kernel
theorem d22_2 : decode c_22 2 = .ok (.ior, 1) := by decide +kernel
theorem d22_3 : decode c_22 3 = .ok (.iload_n 1, 1) := by decide +kernel
theorem d22_4 : decode c_22 4 = .ok (.ior, 1) := by decide +kernel
theorem d22_5 : decode c_22 5 = .ok (.ifCond .lt 10, 3) := by decide +kernel
theorem d22_8 : decode c_22 8 = .ok (.iload_n 1, 1) := by decide +kernel
theorem d22_9 : decode c_22 9 = .ok (.iload_n 2, 1) := by decide +kernel
theorem d22_10 : decode c_22 10 = .ok (.iload_n 0, 1) := by decide +kernel
theorem d22_11 : decode c_22 11 = .ok (.isub, 1) := by decide +kernel
theorem d22_12 : decode c_22 12 = .ok (.if_icmp .le 11, 3) := by decide +kernel
theorem d22_23 : decode c_22 23 = .ok (.iload_n 0, 1) := by decide +kernel
theorem d22_24 : decode c_22 24 = .ok (.ireturn, 1) := by decide +kernel
abbrev yn22 : MethodName := ⟨"jdk/internal/util/Preconditions", "checkFromIndexSize", "(IIILjava/util/function/BiFunction;)I"⟩
theorem ef_scheckOC (m : MethodId) (x0 : Int32) (x1 : Int32) (x2 : Int32) : entryFrame m #[(.int x0), (.int x1), (.int x2)] 3 = mkF m 0 #[.val (.int x0), .val (.int x1), .val (.int x2)] [] := rfl
abbrev c_23 := jdk_42_method_157_code
theorem d23_0 : decode c_23 0 = .ok (.iload_n 0, 1) := by decide +kernel
theorem d23_1 : decode c_23 1 = .ok (.iload_n 1, 1) := by decide +kernel
theorem d23_2 : decode c_23 2 = .ok (.iload_n 2, 1) := by decide +kernel
theorem d23_3 : decode c_23 3 = .ok (.getstatic 1053, 3) := by decide +kernel
theorem d23_6 : decode c_23 6 = .ok (.invokestatic 1065, 3) := by decide +kernel
theorem d23_9 : decode c_23 9 = .ok (.ireturn, 1) := by decide +kernel
abbrev yn23 : MethodName := ⟨"java/lang/String", "checkBoundsOffCount", "(III)I"⟩
theorem ef_u16checkOC (m : MethodId) (x0 : Int32) (x1 : Int32) (x2 : Addr) : entryFrame m #[(.int x0), (.int x1), (.ref x2)] 3 = mkF m 0 #[.val (.int x0), .val (.int x1), .val (.ref x2)] [] := rfl
abbrev c_24 := jdk_52_method_94_code
theorem d24_0 : decode c_24 0 = .ok (.iload_n 0, 1) := by decide +kernel
theorem d24_1 : decode c_24 1 = .ok (.iload_n 1, 1) := by decide +kernel
theorem d24_2 : decode c_24 2 = .ok (.aload_n 2, 1) := by decide +kernel
theorem d24_3 : decode c_24 3 = .ok (.invokestatic 48, 3) := by decide +kernel
theorem d24_6 : decode c_24 6 = .ok (.invokestatic 419, 3) := by decide +kernel
theorem pd15 : parseMethodDescriptor "(III)I" = some ⟨[.int, .int, .int], some .int⟩ := by decide +kernel
theorem d24_9 : decode c_24 9 = .ok (.pop, 1) := by decide +kernel
theorem d24_10 : decode c_24 10 = .ok (.return_, 1) := by decide +kernel
abbrev yn24 : MethodName := ⟨"java/lang/StringUTF16", "checkBoundsOffCount", "(II[B)V"⟩
theorem ef_checkLength (m : MethodId) (x0 : Int32) (x1 : Int32) : entryFrame m #[(.int x0), (.int x1)] 2 = mkF m 0 #[.val (.int x0), .val (.int x1)] [] := rfl
theorem pn_java_util_Arrays : plainName "java/util/Arrays" = true := by first | (simp [plainName, overriddenIn]; done) | decide +kernel
abbrev c_25 := jdk_65_method_131_code
theorem d25_0 : decode c_25 0 = .ok (.iload_n 1, 1) := by decide +kernel
theorem d25_1 : decode c_25 1 = .ok (.iload_n 0, 1) := by decide +kernel
theorem d25_2 : decode c_25 2 = .ok (.if_icmp .ge 35, 3) := by decide +kernel
theorem d25_37 : decode c_25 37 = .ok (.return_, 1) := by decide +kernel
abbrev yn25 : MethodName := ⟨"java/util/Arrays", "checkLength", "(II)V"⟩
theorem ef_mini (m : MethodId) (x0 : Int32) (x1 : Int32) : entryFrame m #[(.int x0), (.int x1)] 2 = mkF m 0 #[.val (.int x0), .val (.int x1)] [] := rfl
abbrev c_26 := jdk_29_method_69_code
theorem d26_0 : decode c_26 0 = .ok (.iload_n 0, 1) := by decide +kernel
theorem d26_1 : decode c_26 1 = .ok (.iload_n 1, 1) := by decide +kernel
theorem d26_2 : decode c_26 2 = .ok (.if_icmp .gt 7, 3) := by decide +kernel
theorem d26_9 : decode c_26 9 = .ok (.iload_n 1, 1) := by decide +kernel
theorem d26_5 : decode c_26 5 = .ok (.iload_n 0, 1) := by decide +kernel
theorem d26_6 : decode c_26 6 = .ok (.goto 4, 3) := by decide +kernel
theorem d26_10 : decode c_26 10 = .ok (.ireturn, 1) := by decide +kernel
abbrev yn26 : MethodName := ⟨"java/lang/Math", "min", "(II)I"⟩
theorem ef_corb (m : MethodId) (x0 : Addr) (x1 : Int32) (x2 : Int32) : entryFrame m #[(.ref x0), (.int x1), (.int x2)] 5 = mkF m 0 #[.val (.ref x0), .val (.int x1), .val (.int x2), .unset, .unset] [] := rfl
abbrev c_27 := jdk_65_method_133_code
theorem d27_0 : decode c_27 0 = .ok (.iload_n 1, 1) := by decide +kernel
theorem d27_1 : decode c_27 1 = .ok (.iload_n 2, 1) := by decide +kernel
theorem d27_2 : decode c_27 2 = .ok (.invokestatic 343, 3) := by decide +kernel
theorem d27_5 : decode c_27 5 = .ok (.iload_n 2, 1) := by decide +kernel
theorem d27_6 : decode c_27 6 = .ok (.iload_n 1, 1) := by decide +kernel
theorem d27_7 : decode c_27 7 = .ok (.isub, 1) := by decide +kernel
theorem d27_8 : decode c_27 8 = .ok (.istore_n 3, 1) := by decide +kernel
theorem d27_9 : decode c_27 9 = .ok (.iload_n 3, 1) := by decide +kernel
theorem d27_10 : decode c_27 10 = .ok (.newarray .byte, 2) := by decide +kernel
theorem d27_12 : decode c_27 12 = .ok (.astore 4, 2) := by decide +kernel
theorem d27_14 : decode c_27 14 = .ok (.aload_n 0, 1) := by decide +kernel
theorem d27_15 : decode c_27 15 = .ok (.iload_n 1, 1) := by decide +kernel
theorem d27_16 : decode c_27 16 = .ok (.aload 4, 2) := by decide +kernel
theorem d27_18 : decode c_27 18 = .ok (.iconst 0, 1) := by decide +kernel
theorem d27_19 : decode c_27 19 = .ok (.aload_n 0, 1) := by decide +kernel
theorem d27_20 : decode c_27 20 = .ok (.arraylength, 1) := by decide +kernel
theorem d27_21 : decode c_27 21 = .ok (.iload_n 1, 1) := by decide +kernel
theorem d27_22 : decode c_27 22 = .ok (.isub, 1) := by decide +kernel
theorem d27_23 : decode c_27 23 = .ok (.iload_n 3, 1) := by decide +kernel
theorem d27_24 : decode c_27 24 = .ok (.invokestatic 304, 3) := by decide +kernel
theorem pd16 : parseMethodDescriptor "(II)I" = some ⟨[.int, .int], some .int⟩ := by decide +kernel
theorem d27_27 : decode c_27 27 = .ok (.invokestatic 150, 3) := by decide +kernel
theorem d27_30 : decode c_27 30 = .ok (.aload 4, 2) := by decide +kernel
theorem d27_32 : decode c_27 32 = .ok (.areturn, 1) := by decide +kernel
abbrev yn27 : MethodName := ⟨"java/util/Arrays", "copyOfRangeByte", "([BII)[B"⟩
theorem ef_cor (m : MethodId) (x0 : Addr) (x1 : Int32) (x2 : Int32) : entryFrame m #[(.ref x0), (.int x1), (.int x2)] 3 = mkF m 0 #[.val (.ref x0), .val (.int x1), .val (.int x2)] [] := rfl
abbrev c_28 := jdk_65_method_132_code
theorem d28_0 : decode c_28 0 = .ok (.iload_n 1, 1) := by decide +kernel
theorem d28_1 : decode c_28 1 = .ok (.ifCond .ne 9, 3) := by decide +kernel
theorem d28_4 : decode c_28 4 = .ok (.iload_n 2, 1) := by decide +kernel
theorem d28_5 : decode c_28 5 = .ok (.aload_n 0, 1) := by decide +kernel
theorem d28_6 : decode c_28 6 = .ok (.arraylength, 1) := by decide +kernel
theorem d28_7 : decode c_28 7 = .ok (.if_icmp .eq 10, 3) := by decide +kernel
theorem d28_10 : decode c_28 10 = .ok (.aload_n 0, 1) := by decide +kernel
theorem d28_11 : decode c_28 11 = .ok (.iload_n 1, 1) := by decide +kernel
theorem d28_12 : decode c_28 12 = .ok (.iload_n 2, 1) := by decide +kernel
theorem d28_13 : decode c_28 13 = .ok (.invokestatic 339, 3) := by decide +kernel
theorem pd17 : parseMethodDescriptor "([BII)[B" = some ⟨[(.array .byte), .int, .int], some (.array .byte)⟩ := by decide +kernel
theorem d28_16 : decode c_28 16 = .ok (.areturn, 1) := by decide +kernel
abbrev yn28 : MethodName := ⟨"java/util/Arrays", "copyOfRange", "([BII)[B"⟩
theorem ef_sinitB (m : MethodId) (x0 : Addr) (x1 : Addr) (x2 : Int32) : entryFrame m #[(.ref x0), (.ref x1), (.int x2)] 3 = mkF m 0 #[.val (.ref x0), .val (.ref x1), .val (.int x2)] [] := rfl
abbrev c_29 := jdk_42_method_151_code
theorem d29_0 : decode c_29 0 = .ok (.aload_n 0, 1) := by decide +kernel
theorem d29_1 : decode c_29 1 = .ok (.invokespecial 1, 3) := by decide +kernel
theorem d29_4 : decode c_29 4 = .ok (.aload_n 0, 1) := by decide +kernel
theorem d29_5 : decode c_29 5 = .ok (.aload_n 1, 1) := by decide +kernel
theorem d29_6 : decode c_29 6 = .ok (.putfield 9, 3) := by decide +kernel
theorem d29_9 : decode c_29 9 = .ok (.aload_n 0, 1) := by decide +kernel
theorem d29_10 : decode c_29 10 = .ok (.iload_n 2, 1) := by decide +kernel
theorem d29_11 : decode c_29 11 = .ok (.putfield 15, 3) := by decide +kernel
theorem d29_14 : decode c_29 14 = .ok (.return_, 1) := by decide +kernel
abbrev yn29 : MethodName := ⟨"java/lang/String", "<init>", "([BB)V"⟩
abbrev c_30 := jdk_52_method_22_code
theorem d30_10 : decode c_30 10 = .ok (.iload 5, 2) := by decide +kernel
theorem d30_12 : decode c_30 12 = .ok (.iload 4, 2) := by decide +kernel
theorem d30_14 : decode c_30 14 = .ok (.if_icmp .ge 39, 3) := by decide +kernel
theorem d30_53 : decode c_30 53 = .ok (.iload 4, 2) := by decide +kernel
theorem d30_55 : decode c_30 55 = .ok (.ireturn, 1) := by decide +kernel
theorem d30_17 : decode c_30 17 = .ok (.aload_n 0, 1) := by decide +kernel
theorem d30_18 : decode c_30 18 = .ok (.iload_n 1, 1) := by decide +kernel
theorem d30_19 : decode c_30 19 = .ok (.invokestatic 71, 3) := by decide +kernel
theorem d30_22 : decode c_30 22 = .ok (.istore 6, 2) := by decide +kernel
theorem d30_24 : decode c_30 24 = .ok (.iload 6, 2) := by decide +kernel
theorem d30_26 : decode c_30 26 = .ok (.sipush 255, 3) := by decide +kernel
theorem d30_29 : decode c_30 29 = .ok (.if_icmp .le 6, 3) := by decide +kernel
theorem d30_32 : decode c_30 32 = .ok (.iload 5, 2) := by decide +kernel
theorem d30_34 : decode c_30 34 = .ok (.ireturn, 1) := by decide +kernel
theorem d30_35 : decode c_30 35 = .ok (.aload_n 2, 1) := by decide +kernel
theorem d30_36 : decode c_30 36 = .ok (.iload_n 3, 1) := by decide +kernel
theorem d30_37 : decode c_30 37 = .ok (.iload 6, 2) := by decide +kernel
theorem d30_39 : decode c_30 39 = .ok (.i2b, 1) := by decide +kernel
theorem d30_40 : decode c_30 40 = .ok (.bastore, 1) := by decide +kernel
theorem d30_41 : decode c_30 41 = .ok (.iinc 1 1, 3) := by decide +kernel
theorem d30_44 : decode c_30 44 = .ok (.iinc 3 1, 3) := by decide +kernel
theorem d30_47 : decode c_30 47 = .ok (.iinc 5 1, 3) := by decide +kernel
theorem d30_50 : decode c_30 50 = .ok (.goto (-40), 3) := by decide +kernel
theorem ef_compress22 (m : MethodId) (x0 : Addr) (x1 : Int32) (x2 : Addr) (x3 : Int32) (x4 : Int32) : entryFrame m #[(.ref x0), (.int x1), (.ref x2), (.int x3), (.int x4)] 7 = mkF m 0 #[.val (.ref x0), .val (.int x1), .val (.ref x2), .val (.int x3), .val (.int x4), .unset, .unset] [] := rfl
theorem d30_0 : decode c_30 0 = .ok (.iload_n 1, 1) := by decide +kernel
theorem d30_1 : decode c_30 1 = .ok (.iload 4, 2) := by decide +kernel
theorem d30_3 : decode c_30 3 = .ok (.aload_n 0, 1) := by decide +kernel
theorem d30_4 : decode c_30 4 = .ok (.invokestatic 173, 3) := by decide +kernel
theorem pd18 : parseMethodDescriptor "(II[B)V" = some ⟨[.int, .int, (.array .byte)], none⟩ := by decide +kernel
theorem d30_7 : decode c_30 7 = .ok (.iconst 0, 1) := by decide +kernel
theorem d30_8 : decode c_30 8 = .ok (.istore 5, 2) := by decide +kernel
abbrev yn30 : MethodName := ⟨"java/lang/StringUTF16", "compress", "([BI[BII)I"⟩
theorem ef_compress17 (m : MethodId) (x0 : Addr) (x1 : Int32) (x2 : Int32) : entryFrame m #[(.ref x0), (.int x1), (.int x2)] 6 = mkF m 0 #[.val (.ref x0), .val (.int x1), .val (.int x2), .unset, .unset, .unset] [] := rfl
abbrev c_31 := jdk_52_method_17_code
theorem d31_0 : decode c_31 0 = .ok (.iload_n 2, 1) := by decide +kernel
theorem d31_1 : decode c_31 1 = .ok (.newarray .byte, 2) := by decide +kernel
theorem d31_3 : decode c_31 3 = .ok (.astore_n 3, 1) := by decide +kernel
theorem d31_4 : decode c_31 4 = .ok (.aload_n 0, 1) := by decide +kernel
theorem d31_5 : decode c_31 5 = .ok (.iload_n 1, 1) := by decide +kernel
theorem d31_6 : decode c_31 6 = .ok (.aload_n 3, 1) := by decide +kernel
theorem d31_7 : decode c_31 7 = .ok (.iconst 0, 1) := by decide +kernel
theorem d31_8 : decode c_31 8 = .ok (.iload_n 2, 1) := by decide +kernel
theorem d31_9 : decode c_31 9 = .ok (.invokestatic 123, 3) := by decide +kernel
theorem pd19 : parseMethodDescriptor "([BI[BII)I" = some ⟨[(.array .byte), .int, (.array .byte), .int, .int], some .int⟩ := by decide +kernel
theorem d31_12 : decode c_31 12 = .ok (.istore 4, 2) := by decide +kernel
theorem d31_14 : decode c_31 14 = .ok (.iload 4, 2) := by decide +kernel
theorem d31_16 : decode c_31 16 = .ok (.iload_n 2, 1) := by decide +kernel
theorem d31_17 : decode c_31 17 = .ok (.if_icmp .eq 47, 3) := by decide +kernel
theorem d31_64 : decode c_31 64 = .ok (.aload_n 3, 1) := by decide +kernel
theorem d31_65 : decode c_31 65 = .ok (.areturn, 1) := by decide +kernel
theorem d31_20 : decode c_31 20 = .ok (.aload_n 0, 1) := by decide +kernel
theorem d31_21 : decode c_31 21 = .ok (.iload_n 1, 1) := by decide +kernel
theorem d31_22 : decode c_31 22 = .ok (.iconst 1, 1) := by decide +kernel
theorem d31_23 : decode c_31 23 = .ok (.ishl, 1) := by decide +kernel
theorem d31_24 : decode c_31 24 = .ok (.iload_n 1, 1) := by decide +kernel
theorem d31_25 : decode c_31 25 = .ok (.iload_n 2, 1) := by decide +kernel
theorem d31_26 : decode c_31 26 = .ok (.iadd, 1) := by decide +kernel
theorem d31_27 : decode c_31 27 = .ok (.invokestatic 11, 3) := by decide +kernel
theorem d31_30 : decode c_31 30 = .ok (.invokestatic 126, 3) := by decide +kernel
theorem d31_33 : decode c_31 33 = .ok (.astore 5, 2) := by decide +kernel
theorem d31_35 : decode c_31 35 = .ok (.aload 5, 2) := by decide +kernel
theorem d31_37 : decode c_31 37 = .ok (.iload 4, 2) := by decide +kernel
theorem d31_39 : decode c_31 39 = .ok (.invokestatic 71, 3) := by decide +kernel
theorem d31_42 : decode c_31 42 = .ok (.sipush 255, 3) := by decide +kernel
theorem d31_45 : decode c_31 45 = .ok (.if_icmp .gt 16, 3) := by decide +kernel
theorem d31_61 : decode c_31 61 = .ok (.aload 5, 2) := by decide +kernel
theorem d31_63 : decode c_31 63 = .ok (.areturn, 1) := by decide +kernel
abbrev yn31 : MethodName := ⟨"java/lang/StringUTF16", "compress", "([BII)[B"⟩
abbrev c_32 := jdk_43_method_23_code
theorem d32_7 : decode c_32 7 = .ok (.iload 5, 2) := by decide +kernel
theorem d32_9 : decode c_32 9 = .ok (.iload_n 3, 1) := by decide +kernel
theorem d32_10 : decode c_32 10 = .ok (.if_icmp .ge 21, 3) := by decide +kernel
theorem d32_31 : decode c_32 31 = .ok (.iconst (-1), 1) := by decide +kernel
theorem d32_32 : decode c_32 32 = .ok (.ireturn, 1) := by decide +kernel
theorem d32_13 : decode c_32 13 = .ok (.aload_n 0, 1) := by decide +kernel
theorem d32_14 : decode c_32 14 = .ok (.iload 5, 2) := by decide +kernel
theorem d32_16 : decode c_32 16 = .ok (.baload, 1) := by decide +kernel
theorem d32_17 : decode c_32 17 = .ok (.iload 4, 2) := by decide +kernel
theorem d32_19 : decode c_32 19 = .ok (.if_icmp .ne 6, 3) := by decide +kernel
theorem d32_22 : decode c_32 22 = .ok (.iload 5, 2) := by decide +kernel
theorem d32_24 : decode c_32 24 = .ok (.ireturn, 1) := by decide +kernel
theorem d32_25 : decode c_32 25 = .ok (.iinc 5 1, 3) := by decide +kernel
theorem d32_28 : decode c_32 28 = .ok (.goto (-21), 3) := by decide +kernel
theorem ef_l1ixc (m : MethodId) (x0 : Addr) (x1 : Int32) (x2 : Int32) (x3 : Int32) : entryFrame m #[(.ref x0), (.int x1), (.int x2), (.int x3)] 6 = mkF m 0 #[.val (.ref x0), .val (.int x1), .val (.int x2), .val (.int x3), .unset, .unset] [] := rfl
theorem d32_0 : decode c_32 0 = .ok (.iload_n 1, 1) := by decide +kernel
theorem d32_1 : decode c_32 1 = .ok (.i2b, 1) := by decide +kernel
theorem d32_2 : decode c_32 2 = .ok (.istore 4, 2) := by decide +kernel
theorem d32_4 : decode c_32 4 = .ok (.iload_n 2, 1) := by decide +kernel
theorem d32_5 : decode c_32 5 = .ok (.istore 5, 2) := by decide +kernel
abbrev yn32 : MethodName := ⟨"java/lang/StringLatin1", "indexOfChar", "([BIII)I"⟩
theorem ef_canEncodeI (m : MethodId) (x0 : Int32) : entryFrame m #[(.int x0)] 1 = mkF m 0 #[.val (.int x0)] [] := rfl
abbrev c_33 := jdk_43_method_4_code
theorem d33_0 : decode c_33 0 = .ok (.iload_n 0, 1) := by decide +kernel
theorem d33_1 : decode c_33 1 = .ok (.ifCond .lt 14, 3) := by decide +kernel
theorem d33_4 : decode c_33 4 = .ok (.iload_n 0, 1) := by decide +kernel
theorem d33_5 : decode c_33 5 = .ok (.sipush 255, 3) := by decide +kernel
theorem d33_8 : decode c_33 8 = .ok (.if_icmp .gt 7, 3) := by decide +kernel
theorem d33_11 : decode c_33 11 = .ok (.iconst 1, 1) := by decide +kernel
theorem d33_12 : decode c_33 12 = .ok (.goto 4, 3) := by decide +kernel
theorem d33_16 : decode c_33 16 = .ok (.ireturn, 1) := by decide +kernel
abbrev yn33 : MethodName := ⟨"java/lang/StringLatin1", "canEncode", "(I)Z"⟩
theorem ef_maxi (m : MethodId) (x0 : Int32) (x1 : Int32) : entryFrame m #[(.int x1), (.int x1)] 2 = mkF m 0 #[.val (.int x1), .val (.int x1)] [] := rfl
abbrev c_34 := jdk_29_method_65_code
theorem d34_0 : decode c_34 0 = .ok (.iload_n 0, 1) := by decide +kernel
theorem d34_1 : decode c_34 1 = .ok (.iload_n 1, 1) := by decide +kernel
theorem d34_2 : decode c_34 2 = .ok (.if_icmp .lt 7, 3) := by decide +kernel
theorem d34_5 : decode c_34 5 = .ok (.iload_n 0, 1) := by decide +kernel
theorem d34_6 : decode c_34 6 = .ok (.goto 4, 3) := by decide +kernel
theorem d34_10 : decode c_34 10 = .ok (.ireturn, 1) := by decide +kernel
abbrev yn34 : MethodName := ⟨"java/lang/Math", "max", "(II)I"⟩
theorem ef_l1ix (m : MethodId) (x0 : Addr) (x1 : Int32) (x2 : Int32) (x3 : Int32) : entryFrame m #[(.ref x0), (.int x1), (.int x2), (.int x3)] 4 = mkF m 0 #[.val (.ref x0), .val (.int x1), .val (.int x2), .val (.int x3)] [] := rfl
abbrev c_35 := jdk_43_method_22_code
theorem d35_0 : decode c_35 0 = .ok (.iload_n 1, 1) := by decide +kernel
theorem d35_1 : decode c_35 1 = .ok (.invokestatic 88, 3) := by decide +kernel
theorem pd20 : parseMethodDescriptor "(I)Z" = some ⟨[.int], some .boolean⟩ := by decide +kernel
theorem d35_4 : decode c_35 4 = .ok (.ifCond .ne 5, 3) := by decide +kernel
theorem d35_9 : decode c_35 9 = .ok (.iload_n 2, 1) := by decide +kernel
theorem d35_10 : decode c_35 10 = .ok (.iconst 0, 1) := by decide +kernel
theorem d35_11 : decode c_35 11 = .ok (.invokestatic 92, 3) := by decide +kernel
theorem d35_14 : decode c_35 14 = .ok (.istore_n 2, 1) := by decide +kernel
theorem d35_15 : decode c_35 15 = .ok (.iload_n 3, 1) := by decide +kernel
theorem d35_16 : decode c_35 16 = .ok (.aload_n 0, 1) := by decide +kernel
theorem d35_17 : decode c_35 17 = .ok (.arraylength, 1) := by decide +kernel
theorem d35_18 : decode c_35 18 = .ok (.invokestatic 38, 3) := by decide +kernel
theorem d35_21 : decode c_35 21 = .ok (.istore_n 3, 1) := by decide +kernel
theorem d35_22 : decode c_35 22 = .ok (.iload_n 2, 1) := by decide +kernel
theorem d35_23 : decode c_35 23 = .ok (.iload_n 3, 1) := by decide +kernel
theorem d35_24 : decode c_35 24 = .ok (.if_icmp .lt 5, 3) := by decide +kernel
theorem d35_29 : decode c_35 29 = .ok (.aload_n 0, 1) := by decide +kernel
theorem d35_30 : decode c_35 30 = .ok (.iload_n 1, 1) := by decide +kernel
theorem d35_31 : decode c_35 31 = .ok (.iload_n 2, 1) := by decide +kernel
theorem d35_32 : decode c_35 32 = .ok (.iload_n 3, 1) := by decide +kernel
theorem d35_33 : decode c_35 33 = .ok (.invokestatic 95, 3) := by decide +kernel
theorem pd21 : parseMethodDescriptor "([BIII)I" = some ⟨[(.array .byte), .int, .int, .int], some .int⟩ := by decide +kernel
theorem d35_36 : decode c_35 36 = .ok (.ireturn, 1) := by decide +kernel
abbrev yn35 : MethodName := ⟨"java/lang/StringLatin1", "indexOf", "([BIII)I"⟩
abbrev c_36 := jdk_52_method_48_code
theorem d36_3 : decode c_36 3 = .ok (.iload 4, 2) := by decide +kernel
theorem d36_5 : decode c_36 5 = .ok (.iload_n 3, 1) := by decide +kernel
theorem d36_6 : decode c_36 6 = .ok (.if_icmp .ge 22, 3) := by decide +kernel
theorem d36_28 : decode c_36 28 = .ok (.iconst (-1), 1) := by decide +kernel
theorem d36_29 : decode c_36 29 = .ok (.ireturn, 1) := by decide +kernel
theorem d36_9 : decode c_36 9 = .ok (.aload_n 0, 1) := by decide +kernel
theorem d36_10 : decode c_36 10 = .ok (.iload 4, 2) := by decide +kernel
theorem d36_12 : decode c_36 12 = .ok (.invokestatic 71, 3) := by decide +kernel
theorem d36_15 : decode c_36 15 = .ok (.iload_n 1, 1) := by decide +kernel
theorem d36_16 : decode c_36 16 = .ok (.if_icmp .ne 6, 3) := by decide +kernel
theorem d36_19 : decode c_36 19 = .ok (.iload 4, 2) := by decide +kernel
theorem d36_21 : decode c_36 21 = .ok (.ireturn, 1) := by decide +kernel
theorem d36_22 : decode c_36 22 = .ok (.iinc 4 1, 3) := by decide +kernel
theorem d36_25 : decode c_36 25 = .ok (.goto (-22), 3) := by decide +kernel
theorem ef_u16ixc (m : MethodId) (x0 : Addr) (x1 : Int32) (x2 : Int32) (x3 : Int32) : entryFrame m #[(.ref x0), (.int x1), (.int x2), (.int x3)] 5 = mkF m 0 #[.val (.ref x0), .val (.int x1), .val (.int x2), .val (.int x3), .unset] [] := rfl
theorem d36_0 : decode c_36 0 = .ok (.iload_n 2, 1) := by decide +kernel
theorem d36_1 : decode c_36 1 = .ok (.istore 4, 2) := by decide +kernel
abbrev yn36 : MethodName := ⟨"java/lang/StringUTF16", "indexOfCharUnsafe", "([BIII)I"⟩
theorem ef_u16checkBE (m : MethodId) (x0 : Int32) (x1 : Int32) (x2 : Addr) : entryFrame m #[(.int x0), (.int x1), (.ref x2)] 3 = mkF m 0 #[.val (.int x0), .val (.int x1), .val (.ref x2)] [] := rfl
abbrev c_37 := jdk_52_method_93_code
theorem d37_0 : decode c_37 0 = .ok (.iload_n 0, 1) := by decide +kernel
theorem d37_1 : decode c_37 1 = .ok (.iload_n 1, 1) := by decide +kernel
theorem d37_2 : decode c_37 2 = .ok (.aload_n 2, 1) := by decide +kernel
theorem d37_3 : decode c_37 3 = .ok (.invokestatic 48, 3) := by decide +kernel
theorem d37_6 : decode c_37 6 = .ok (.invokestatic 241, 3) := by decide +kernel
theorem pd22 : parseMethodDescriptor "(III)V" = some ⟨[.int, .int, .int], none⟩ := by decide +kernel
theorem d37_9 : decode c_37 9 = .ok (.return_, 1) := by decide +kernel
abbrev yn37 : MethodName := ⟨"java/lang/StringUTF16", "checkBoundsBeginEnd", "(II[B)V"⟩
theorem ef_u16ixd (m : MethodId) (x0 : Addr) (x1 : Int32) (x2 : Int32) (x3 : Int32) : entryFrame m #[(.ref x0), (.int x1), (.int x2), (.int x3)] 4 = mkF m 0 #[.val (.ref x0), .val (.int x1), .val (.int x2), .val (.int x3)] [] := rfl
abbrev c_38 := jdk_52_method_47_code
theorem d38_0 : decode c_38 0 = .ok (.iload_n 2, 1) := by decide +kernel
theorem d38_1 : decode c_38 1 = .ok (.iload_n 3, 1) := by decide +kernel
theorem d38_2 : decode c_38 2 = .ok (.aload_n 0, 1) := by decide +kernel
theorem d38_3 : decode c_38 3 = .ok (.invokestatic 96, 3) := by decide +kernel
theorem d38_6 : decode c_38 6 = .ok (.aload_n 0, 1) := by decide +kernel
theorem d38_7 : decode c_38 7 = .ok (.iload_n 1, 1) := by decide +kernel
theorem d38_8 : decode c_38 8 = .ok (.iload_n 2, 1) := by decide +kernel
theorem d38_9 : decode c_38 9 = .ok (.iload_n 3, 1) := by decide +kernel
theorem d38_10 : decode c_38 10 = .ok (.invokestatic 244, 3) := by decide +kernel
theorem d38_13 : decode c_38 13 = .ok (.ireturn, 1) := by decide +kernel
abbrev yn38 : MethodName := ⟨"java/lang/StringUTF16", "indexOfChar", "([BIII)I"⟩
theorem ef_u16ix (m : MethodId) (x0 : Addr) (x1 : Int32) (x2 : Int32) (x3 : Int32) : entryFrame m #[(.ref x0), (.int x1), (.int x2), (.int x3)] 4 = mkF m 0 #[.val (.ref x0), .val (.int x1), .val (.int x2), .val (.int x3)] [] := rfl
abbrev c_39 := jdk_52_method_40_code
theorem d39_0 : decode c_39 0 = .ok (.iload_n 2, 1) := by decide +kernel
theorem d39_1 : decode c_39 1 = .ok (.iconst 0, 1) := by decide +kernel
theorem d39_2 : decode c_39 2 = .ok (.invokestatic 224, 3) := by decide +kernel
theorem d39_5 : decode c_39 5 = .ok (.istore_n 2, 1) := by decide +kernel
theorem d39_6 : decode c_39 6 = .ok (.iload_n 3, 1) := by decide +kernel
theorem d39_7 : decode c_39 7 = .ok (.aload_n 0, 1) := by decide +kernel
theorem d39_8 : decode c_39 8 = .ok (.arraylength, 1) := by decide +kernel
theorem d39_9 : decode c_39 9 = .ok (.iconst 1, 1) := by decide +kernel
theorem d39_10 : decode c_39 10 = .ok (.ishr, 1) := by decide +kernel
theorem d39_11 : decode c_39 11 = .ok (.invokestatic 183, 3) := by decide +kernel
theorem d39_14 : decode c_39 14 = .ok (.istore_n 3, 1) := by decide +kernel
theorem d39_15 : decode c_39 15 = .ok (.iload_n 2, 1) := by decide +kernel
theorem d39_16 : decode c_39 16 = .ok (.iload_n 3, 1) := by decide +kernel
theorem d39_17 : decode c_39 17 = .ok (.if_icmp .lt 5, 3) := by decide +kernel
theorem d39_22 : decode c_39 22 = .ok (.iload_n 1, 1) := by decide +kernel
theorem d39_23 : decode c_39 23 = .ok (.ldc 227, 2) := by decide +kernel
theorem d39_25 : decode c_39 25 = .ok (.if_icmp .ge 11, 3) := by decide +kernel
theorem d39_28 : decode c_39 28 = .ok (.aload_n 0, 1) := by decide +kernel
theorem d39_29 : decode c_39 29 = .ok (.iload_n 1, 1) := by decide +kernel
theorem d39_30 : decode c_39 30 = .ok (.iload_n 2, 1) := by decide +kernel
theorem d39_31 : decode c_39 31 = .ok (.iload_n 3, 1) := by decide +kernel
theorem d39_32 : decode c_39 32 = .ok (.invokestatic 228, 3) := by decide +kernel
theorem d39_35 : decode c_39 35 = .ok (.ireturn, 1) := by decide +kernel
abbrev yn39 : MethodName := ⟨"java/lang/StringUTF16", "indexOf", "([BIII)I"⟩
theorem ef_sixII (m : MethodId) (x0 : Addr) (x1 : Int32) (x2 : Int32) : entryFrame m #[(.ref x0), (.int x1), (.int x2)] 3 = mkF m 0 #[.val (.ref x0), .val (.int x1), .val (.int x2)] [] := rfl
abbrev c_40 := jdk_42_method_80_code
theorem d40_0 : decode c_40 0 = .ok (.aload_n 0, 1) := by decide +kernel
theorem d40_1 : decode c_40 1 = .ok (.invokevirtual 492, 3) := by decide +kernel
theorem d40_4 : decode c_40 4 = .ok (.ifCond .eq 19, 3) := by decide +kernel
theorem d40_7 : decode c_40 7 = .ok (.aload_n 0, 1) := by decide +kernel
theorem d40_8 : decode c_40 8 = .ok (.getfield 9, 3) := by decide +kernel
theorem d40_11 : decode c_40 11 = .ok (.iload_n 1, 1) := by decide +kernel
theorem d40_12 : decode c_40 12 = .ok (.iload_n 2, 1) := by decide +kernel
theorem d40_13 : decode c_40 13 = .ok (.aload_n 0, 1) := by decide +kernel
theorem d40_14 : decode c_40 14 = .ok (.invokevirtual 505, 3) := by decide +kernel
theorem pd23 : parseMethodDescriptor "()I" = some ⟨[], some .int⟩ := by decide +kernel
theorem d40_17 : decode c_40 17 = .ok (.invokestatic 637, 3) := by decide +kernel
theorem d40_20 : decode c_40 20 = .ok (.goto 16, 3) := by decide +kernel
theorem d40_36 : decode c_40 36 = .ok (.ireturn, 1) := by decide +kernel
theorem d40_23 : decode c_40 23 = .ok (.aload_n 0, 1) := by decide +kernel
theorem d40_24 : decode c_40 24 = .ok (.getfield 9, 3) := by decide +kernel
theorem d40_27 : decode c_40 27 = .ok (.iload_n 1, 1) := by decide +kernel
theorem d40_28 : decode c_40 28 = .ok (.iload_n 2, 1) := by decide +kernel
theorem d40_29 : decode c_40 29 = .ok (.aload_n 0, 1) := by decide +kernel
theorem d40_30 : decode c_40 30 = .ok (.invokevirtual 505, 3) := by decide +kernel
theorem d40_33 : decode c_40 33 = .ok (.invokestatic 640, 3) := by decide +kernel
abbrev yn40 : MethodName := ⟨"java/lang/String", "indexOf", "(II)I"⟩
theorem ef_sixI (m : MethodId) (x0 : Addr) (x1 : Int32) : entryFrame m #[(.ref x0), (.int x1)] 2 = mkF m 0 #[.val (.ref x0), .val (.int x1)] [] := rfl
abbrev c_41 := jdk_42_method_79_code
theorem d41_0 : decode c_41 0 = .ok (.aload_n 0, 1) := by decide +kernel
theorem d41_1 : decode c_41 1 = .ok (.iload_n 1, 1) := by decide +kernel
theorem d41_2 : decode c_41 2 = .ok (.iconst 0, 1) := by decide +kernel
theorem d41_3 : decode c_41 3 = .ok (.invokevirtual 633, 3) := by decide +kernel
theorem d41_6 : decode c_41 6 = .ok (.ireturn, 1) := by decide +kernel
abbrev yn41 : MethodName := ⟨"java/lang/String", "indexOf", "(I)I"⟩
theorem ef_l1newW (m : MethodId) (x0 : Addr) (x1 : Int32) (x2 : Int32) : entryFrame m #[(.ref x0), (.int x1), (.int x2)] 3 = mkF m 0 #[.val (.ref x0), .val (.int x1), .val (.int x2)] [] := rfl
abbrev c_42 := jdk_43_method_47_code
theorem d42_0 : decode c_42 0 = .ok (.iload_n 2, 1) := by decide +kernel
theorem d42_1 : decode c_42 1 = .ok (.ifCond .ne 6, 3) := by decide +kernel
theorem d42_4 : decode c_42 4 = .ok (.ldc 151, 2) := by decide +kernel
theorem d42_6 : decode c_42 6 = .ok (.areturn, 1) := by decide +kernel
theorem d42_7 : decode c_42 7 = .ok (.new 1, 3) := by decide +kernel
theorem d42_10 : decode c_42 10 = .ok (.dup, 1) := by decide +kernel
theorem d42_11 : decode c_42 11 = .ok (.aload_n 0, 1) := by decide +kernel
theorem d42_12 : decode c_42 12 = .ok (.iload_n 1, 1) := by decide +kernel
theorem d42_13 : decode c_42 13 = .ok (.iload_n 1, 1) := by decide +kernel
theorem d42_14 : decode c_42 14 = .ok (.iload_n 2, 1) := by decide +kernel
theorem d42_15 : decode c_42 15 = .ok (.iadd, 1) := by decide +kernel
theorem d42_16 : decode c_42 16 = .ok (.invokestatic 232, 3) := by decide +kernel
theorem d42_19 : decode c_42 19 = .ok (.iconst 0, 1) := by decide +kernel
theorem d42_20 : decode c_42 20 = .ok (.invokespecial 112, 3) := by decide +kernel
theorem pd24 : parseMethodDescriptor "([BB)V" = some ⟨[(.array .byte), .byte], none⟩ := by decide +kernel
theorem d42_23 : decode c_42 23 = .ok (.areturn, 1) := by decide +kernel
abbrev yn42 : MethodName := ⟨"java/lang/StringLatin1", "newString", "([BII)Ljava/lang/String;"⟩
theorem ef_u16newW (m : MethodId) (x0 : Addr) (x1 : Int32) (x2 : Int32) : entryFrame m #[(.ref x0), (.int x1), (.int x2)] 5 = mkF m 0 #[.val (.ref x0), .val (.int x1), .val (.int x2), .unset, .unset] [] := rfl
abbrev c_43 := jdk_52_method_69_code
theorem d43_0 : decode c_43 0 = .ok (.iload_n 2, 1) := by decide +kernel
theorem d43_1 : decode c_43 1 = .ok (.ifCond .ne 7, 3) := by decide +kernel
theorem d43_4 : decode c_43 4 = .ok (.ldc_w 295, 3) := by decide +kernel
theorem d43_7 : decode c_43 7 = .ok (.areturn, 1) := by decide +kernel
theorem d43_8 : decode c_43 8 = .ok (.getstatic 251, 3) := by decide +kernel
theorem d43_11 : decode c_43 11 = .ok (.ifCond .eq 28, 3) := by decide +kernel
theorem d43_14 : decode c_43 14 = .ok (.aload_n 0, 1) := by decide +kernel
theorem d43_15 : decode c_43 15 = .ok (.iload_n 1, 1) := by decide +kernel
theorem d43_16 : decode c_43 16 = .ok (.iload_n 2, 1) := by decide +kernel
theorem d43_17 : decode c_43 17 = .ok (.invokestatic 257, 3) := by decide +kernel
theorem d43_20 : decode c_43 20 = .ok (.astore_n 3, 1) := by decide +kernel
theorem d43_21 : decode c_43 21 = .ok (.aload_n 3, 1) := by decide +kernel
theorem d43_22 : decode c_43 22 = .ok (.iload_n 2, 1) := by decide +kernel
theorem d43_23 : decode c_43 23 = .ok (.invokestatic 259, 3) := by decide +kernel
theorem d43_26 : decode c_43 26 = .ok (.istore 4, 2) := by decide +kernel
theorem d43_28 : decode c_43 28 = .ok (.new 3, 3) := by decide +kernel
theorem d43_31 : decode c_43 31 = .ok (.dup, 1) := by decide +kernel
theorem d43_32 : decode c_43 32 = .ok (.aload_n 3, 1) := by decide +kernel
theorem d43_33 : decode c_43 33 = .ok (.iload 4, 2) := by decide +kernel
theorem d43_35 : decode c_43 35 = .ok (.invokespecial 263, 3) := by decide +kernel
theorem d43_38 : decode c_43 38 = .ok (.areturn, 1) := by decide +kernel
abbrev yn43 : MethodName := ⟨"java/lang/StringUTF16", "newString", "([BII)Ljava/lang/String;"⟩
theorem ef_subW (m : MethodId) (x0 : Addr) (x1 : Int32) (x2 : Int32) : entryFrame m #[(.ref x0), (.int x1), (.int x2)] 5 = mkF m 0 #[.val (.ref x0), .val (.int x1), .val (.int x2), .unset, .unset] [] := rfl
abbrev c_44 := jdk_42_method_92_code
theorem d44_0 : decode c_44 0 = .ok (.aload_n 0, 1) := by decide +kernel
theorem d44_1 : decode c_44 1 = .ok (.invokevirtual 505, 3) := by decide +kernel
theorem d44_4 : decode c_44 4 = .ok (.istore_n 3, 1) := by decide +kernel
theorem d44_5 : decode c_44 5 = .ok (.iload_n 1, 1) := by decide +kernel
theorem d44_6 : decode c_44 6 = .ok (.iload_n 2, 1) := by decide +kernel
theorem d44_7 : decode c_44 7 = .ok (.iload_n 3, 1) := by decide +kernel
theorem d44_8 : decode c_44 8 = .ok (.invokestatic 521, 3) := by decide +kernel
theorem d44_11 : decode c_44 11 = .ok (.iload_n 1, 1) := by decide +kernel
theorem d44_12 : decode c_44 12 = .ok (.ifCond .ne 10, 3) := by decide +kernel
theorem d44_15 : decode c_44 15 = .ok (.iload_n 2, 1) := by decide +kernel
theorem d44_16 : decode c_44 16 = .ok (.iload_n 3, 1) := by decide +kernel
theorem d44_17 : decode c_44 17 = .ok (.if_icmp .ne 5, 3) := by decide +kernel
theorem d44_22 : decode c_44 22 = .ok (.iload_n 2, 1) := by decide +kernel
theorem d44_23 : decode c_44 23 = .ok (.iload_n 1, 1) := by decide +kernel
theorem d44_24 : decode c_44 24 = .ok (.isub, 1) := by decide +kernel
theorem d44_25 : decode c_44 25 = .ok (.istore 4, 2) := by decide +kernel
theorem d44_27 : decode c_44 27 = .ok (.aload_n 0, 1) := by decide +kernel
theorem d44_28 : decode c_44 28 = .ok (.invokevirtual 492, 3) := by decide +kernel
theorem d44_31 : decode c_44 31 = .ok (.ifCond .eq 16, 3) := by decide +kernel
theorem d44_34 : decode c_44 34 = .ok (.aload_n 0, 1) := by decide +kernel
theorem d44_35 : decode c_44 35 = .ok (.getfield 9, 3) := by decide +kernel
theorem d44_38 : decode c_44 38 = .ok (.iload_n 1, 1) := by decide +kernel
theorem d44_39 : decode c_44 39 = .ok (.iload 4, 2) := by decide +kernel
theorem d44_41 : decode c_44 41 = .ok (.invokestatic 685, 3) := by decide +kernel
theorem pd25 : parseMethodDescriptor "([BII)Ljava/lang/String;" = some ⟨[(.array .byte), .int, .int], some (.object "java/lang/String")⟩ := by decide +kernel
theorem d44_44 : decode c_44 44 = .ok (.goto 13, 3) := by decide +kernel
theorem d44_57 : decode c_44 57 = .ok (.areturn, 1) := by decide +kernel
theorem d44_47 : decode c_44 47 = .ok (.aload_n 0, 1) := by decide +kernel
theorem d44_48 : decode c_44 48 = .ok (.getfield 9, 3) := by decide +kernel
theorem d44_51 : decode c_44 51 = .ok (.iload_n 1, 1) := by decide +kernel
theorem d44_52 : decode c_44 52 = .ok (.iload 4, 2) := by decide +kernel
theorem d44_54 : decode c_44 54 = .ok (.invokestatic 689, 3) := by decide +kernel
abbrev yn44 : MethodName := ⟨"java/lang/String", "substring", "(II)Ljava/lang/String;"⟩
theorem ef_subI (m : MethodId) (x0 : Addr) (x1 : Int32) : entryFrame m #[(.ref x0), (.int x1)] 2 = mkF m 0 #[.val (.ref x0), .val (.int x1)] [] := rfl
abbrev c_45 := jdk_42_method_91_code
theorem d45_0 : decode c_45 0 = .ok (.aload_n 0, 1) := by decide +kernel
theorem d45_1 : decode c_45 1 = .ok (.iload_n 1, 1) := by decide +kernel
theorem d45_2 : decode c_45 2 = .ok (.aload_n 0, 1) := by decide +kernel
theorem d45_3 : decode c_45 3 = .ok (.invokevirtual 505, 3) := by decide +kernel
theorem d45_6 : decode c_45 6 = .ok (.invokevirtual 681, 3) := by decide +kernel
theorem pd26 : parseMethodDescriptor "(II)Ljava/lang/String;" = some ⟨[.int, .int], some (.object "java/lang/String")⟩ := by decide +kernel
theorem d45_9 : decode c_45 9 = .ok (.areturn, 1) := by decide +kernel
abbrev yn45 : MethodName := ⟨"java/lang/String", "substring", "(I)Ljava/lang/String;"⟩
theorem ef_splitAt (m : MethodId) (x0 : Addr) (x1 : Int32) : entryFrame m #[(.ref x0), (.int x1)] 3 = mkF m 0 #[.val (.ref x0), .val (.int x1), .unset] [] := rfl
theorem pn_com_example_patents_via_api_patentsviaapi_cli_Options : plainName "com/example/patents_via_api/patentsviaapi/cli/Options" = true := by first | (simp [plainName, overriddenIn]; done) | decide +kernel
abbrev c_46 := prog_2_method_10_code
theorem d46_0 : decode c_46 0 = .ok (.aload_n 0, 1) := by decide +kernel
theorem d46_1 : decode c_46 1 = .ok (.iload_n 1, 1) := by decide +kernel
theorem d46_2 : decode c_46 2 = .ok (.invokevirtual 174, 3) := by decide +kernel
theorem d46_5 : decode c_46 5 = .ok (.istore_n 2, 1) := by decide +kernel
theorem d46_6 : decode c_46 6 = .ok (.iload_n 2, 1) := by decide +kernel
theorem d46_7 : decode c_46 7 = .ok (.ifCond .ge 17, 3) := by decide +kernel
theorem d46_24 : decode c_46 24 = .ok (.iconst 2, 1) := by decide +kernel
theorem d46_25 : decode c_46 25 = .ok (.anewarray 39, 3) := by decide +kernel
theorem d46_28 : decode c_46 28 = .ok (.dup, 1) := by decide +kernel
theorem d46_29 : decode c_46 29 = .ok (.iconst 0, 1) := by decide +kernel
theorem d46_30 : decode c_46 30 = .ok (.aload_n 0, 1) := by decide +kernel
theorem d46_31 : decode c_46 31 = .ok (.iconst 0, 1) := by decide +kernel
theorem d46_32 : decode c_46 32 = .ok (.iload_n 2, 1) := by decide +kernel
theorem d46_33 : decode c_46 33 = .ok (.invokevirtual 182, 3) := by decide +kernel
theorem d46_36 : decode c_46 36 = .ok (.aastore, 1) := by decide +kernel
theorem d46_37 : decode c_46 37 = .ok (.dup, 1) := by decide +kernel
theorem d46_38 : decode c_46 38 = .ok (.iconst 1, 1) := by decide +kernel
theorem d46_39 : decode c_46 39 = .ok (.aload_n 0, 1) := by decide +kernel
theorem d46_40 : decode c_46 40 = .ok (.iload_n 2, 1) := by decide +kernel
theorem d46_41 : decode c_46 41 = .ok (.iconst 1, 1) := by decide +kernel
theorem d46_42 : decode c_46 42 = .ok (.iadd, 1) := by decide +kernel
theorem d46_43 : decode c_46 43 = .ok (.invokevirtual 47, 3) := by decide +kernel
theorem pd27 : parseMethodDescriptor "(I)Ljava/lang/String;" = some ⟨[.int], some (.object "java/lang/String")⟩ := by decide +kernel
theorem d46_46 : decode c_46 46 = .ok (.aastore, 1) := by decide +kernel
theorem d46_47 : decode c_46 47 = .ok (.areturn, 1) := by decide +kernel
abbrev yn46 : MethodName := ⟨"com/example/patents_via_api/patentsviaapi/cli/Options", "splitAtFirst", "(Ljava/lang/String;C)[Ljava/lang/String;"⟩
theorem ef_pick (m : MethodId) (x0 : Int64) (x1 : Int32) (x2 : Int32) (x3 : Int32) : entryFrame m #[(.long x0), (.int x1), (.int x2), (.int x3)] 5 = mkF m 0 #[.val (.long x0), .second, .val (.int x1), .val (.int x2), .val (.int x3)] [] := rfl
theorem pn_com_example_patents_via_api_patentsviaapi_cli_OptionsSplitAtFirstPinLaw : plainName "com/example/patents_via_api/patentsviaapi/cli/OptionsSplitAtFirstPinLaw" = true := by first | (simp [plainName, overriddenIn]; done) | decide +kernel
abbrev c_47 := method_2_code
theorem d47_0 : decode c_47 0 = .ok (.iload_n 3, 1) := by decide +kernel
theorem d47_1 : decode c_47 1 = .ok (.iload_n 2, 1) := by decide +kernel
theorem d47_2 : decode c_47 2 = .ok (.iushr, 1) := by decide +kernel
theorem d47_3 : decode c_47 3 = .ok (.iconst 1, 1) := by decide +kernel
theorem d47_4 : decode c_47 4 = .ok (.iand, 1) := by decide +kernel
theorem d47_5 : decode c_47 5 = .ok (.ifCond .eq 6, 3) := by decide +kernel
theorem d47_11 : decode c_47 11 = .ok (.lload_n 0, 1) := by decide +kernel
theorem d47_12 : decode c_47 12 = .ok (.bipush 16, 2) := by decide +kernel
theorem d47_14 : decode c_47 14 = .ok (.iload_n 2, 1) := by decide +kernel
theorem d47_15 : decode c_47 15 = .ok (.imul, 1) := by decide +kernel
theorem d47_16 : decode c_47 16 = .ok (.lushr, 1) := by decide +kernel
theorem d47_17 : decode c_47 17 = .ok (.ldc2_w 7, 3) := by decide +kernel
theorem d47_20 : decode c_47 20 = .ok (.land, 1) := by decide +kernel
theorem d47_21 : decode c_47 21 = .ok (.l2i, 1) := by decide +kernel
theorem d47_22 : decode c_47 22 = .ok (.i2c, 1) := by decide +kernel
theorem d47_23 : decode c_47 23 = .ok (.ireturn, 1) := by decide +kernel
theorem d47_8 : decode c_47 8 = .ok (.iload 4, 2) := by decide +kernel
theorem d47_10 : decode c_47 10 = .ok (.ireturn, 1) := by decide +kernel
abbrev yn47 : MethodName := ⟨"com/example/patents_via_api/patentsviaapi/cli/OptionsSplitAtFirstPinLaw", "pick", "(JIIC)C"⟩
theorem ef_preB (m : MethodId) (x0 : Addr) (x1 : Int32) (x2 : Int32) (x3 : Addr) : entryFrame m #[(.ref x0), (.int x1), (.int x2), (.ref x3)] 4 = mkF m 0 #[.val (.ref x0), .val (.int x1), .val (.int x2), .val (.ref x3)] [] := rfl
abbrev c_48 := method_3_code
theorem d48_0 : decode c_48 0 = .ok (.iload_n 1, 1) := by decide +kernel
theorem d48_1 : decode c_48 1 = .ok (.iload_n 2, 1) := by decide +kernel
theorem d48_2 : decode c_48 2 = .ok (.if_icmp .ge 14, 3) := by decide +kernel
theorem d48_5 : decode c_48 5 = .ok (.aload_n 0, 1) := by decide +kernel
theorem d48_6 : decode c_48 6 = .ok (.iload_n 1, 1) := by decide +kernel
theorem d48_7 : decode c_48 7 = .ok (.invokevirtual 9, 3) := by decide +kernel
theorem pd28 : parseMethodDescriptor "(I)C" = some ⟨[.int], some .char⟩ := by decide +kernel
theorem d48_10 : decode c_48 10 = .ok (.aload_n 3, 1) := by decide +kernel
theorem d48_11 : decode c_48 11 = .ok (.iload_n 1, 1) := by decide +kernel
theorem d48_12 : decode c_48 12 = .ok (.caload, 1) := by decide +kernel
theorem d48_13 : decode c_48 13 = .ok (.if_icmp .ne 7, 3) := by decide +kernel
theorem d48_16 : decode c_48 16 = .ok (.iconst 1, 1) := by decide +kernel
theorem d48_17 : decode c_48 17 = .ok (.goto 4, 3) := by decide +kernel
theorem d48_21 : decode c_48 21 = .ok (.ireturn, 1) := by decide +kernel
abbrev yn48 : MethodName := ⟨"com/example/patents_via_api/patentsviaapi/cli/OptionsSplitAtFirstPinLaw", "pre", "(Ljava/lang/String;II[C)Z"⟩
theorem ef_sufB (m : MethodId) (x0 : Addr) (x1 : Int32) (x2 : Int32) (x3 : Int32) (x4 : Addr) : entryFrame m #[(.ref x0), (.int x1), (.int x2), (.int x3), (.ref x4)] 6 = mkF m 0 #[.val (.ref x0), .val (.int x1), .val (.int x2), .val (.int x3), .val (.ref x4), .unset] [] := rfl
abbrev c_49 := method_4_code
theorem d49_0 : decode c_49 0 = .ok (.iload_n 2, 1) := by decide +kernel
theorem d49_1 : decode c_49 1 = .ok (.iconst 1, 1) := by decide +kernel
theorem d49_2 : decode c_49 2 = .ok (.iadd, 1) := by decide +kernel
theorem d49_3 : decode c_49 3 = .ok (.iload_n 1, 1) := by decide +kernel
theorem d49_4 : decode c_49 4 = .ok (.iadd, 1) := by decide +kernel
theorem d49_5 : decode c_49 5 = .ok (.istore 5, 2) := by decide +kernel
theorem d49_7 : decode c_49 7 = .ok (.iload 5, 2) := by decide +kernel
theorem d49_9 : decode c_49 9 = .ok (.iload_n 3, 1) := by decide +kernel
theorem d49_10 : decode c_49 10 = .ok (.if_icmp .ge 16, 3) := by decide +kernel
theorem d49_13 : decode c_49 13 = .ok (.aload_n 0, 1) := by decide +kernel
theorem d49_14 : decode c_49 14 = .ok (.iload_n 1, 1) := by decide +kernel
theorem d49_15 : decode c_49 15 = .ok (.invokevirtual 9, 3) := by decide +kernel
theorem d49_18 : decode c_49 18 = .ok (.aload 4, 2) := by decide +kernel
theorem d49_20 : decode c_49 20 = .ok (.iload 5, 2) := by decide +kernel
theorem d49_22 : decode c_49 22 = .ok (.caload, 1) := by decide +kernel
theorem d49_23 : decode c_49 23 = .ok (.if_icmp .ne 7, 3) := by decide +kernel
theorem d49_26 : decode c_49 26 = .ok (.iconst 1, 1) := by decide +kernel
theorem d49_27 : decode c_49 27 = .ok (.goto 4, 3) := by decide +kernel
theorem d49_31 : decode c_49 31 = .ok (.ireturn, 1) := by decide +kernel
abbrev yn49 : MethodName := ⟨"com/example/patents_via_api/patentsviaapi/cli/OptionsSplitAtFirstPinLaw", "suf", "(Ljava/lang/String;III[C)Z"⟩
theorem ef_law (m : MethodId) (x0 : Int64) (x1 : Int32) (x2 : Int32) : entryFrame m #[(.long x0), (.int x1), (.int x2)] maxLocals = mkF m 0 #[.val (.long x0), .second, .val (.int x1), .val (.int x2), .unset, .unset, .unset, .unset, .unset, .unset, .unset, .unset] [] := rfl
theorem pd29 : parseMethodDescriptor "(JIIC)C" = some ⟨[.long, .int, .int, .char], some .char⟩ := by decide +kernel
theorem pd30 : parseMethodDescriptor "([C)V" = some ⟨[(.array .char)], none⟩ := by decide +kernel
theorem pd31 : parseMethodDescriptor "(Ljava/lang/String;C)[Ljava/lang/String;" = some ⟨[(.object "java/lang/String"), .char], some (.array (.object "java/lang/String"))⟩ := by decide +kernel
theorem pd32 : parseMethodDescriptor "(Ljava/lang/String;II[C)Z" = some ⟨[(.object "java/lang/String"), .int, .int, (.array .char)], some .boolean⟩ := by decide +kernel
theorem pd33 : parseMethodDescriptor "(Ljava/lang/String;III[C)Z" = some ⟨[(.object "java/lang/String"), .int, .int, .int, (.array .char)], some .boolean⟩ := by decide +kernel
theorem own_wS {a0 : Array Value} {Z : State} (hw : HW a0 Z) : ∀ a ∈ Bundle.stringAtoms, a.before a0 Z = true := by
  intro d hd
  simp only [Bundle.stringAtoms, List.mem_cons, List.not_mem_nil, or_false] at hd
  rcases hd with rfl | rfl | rfl | rfl | rfl | rfl | rfl
  · exact (w8 hw)
  · exact (w7 hw)
  · exact (w24 hw)
  · exact (w34 hw)
  · exact (w32 hw)
  · exact (w100 hw)
  · exact (w101 hw)
theorem own_rw {s t : State} {o : Outcome} {L : List Loc} {k n k' n' : Nat} (h : ReturnedEndW s o t L k n) (hk : k ≤ k') (hn : n ≤ n') : ReturnedEndW s o t L k' n' := ⟨h.1, h.2.1, h.2.2.1, h.2.2.2.mono hk hn⟩
def EL_1 : List (String × Nat) := [("java/lang/StringLatin1", 151), ("java/lang/StringUTF16", 295)]
theorem own_EW {a0 : Array Value} {Z : State} (hw : HW a0 Z) : EW Z a0 EL_1 := (EW.cons (w99 hw) (by decide +kernel) (EW.cons (w189 hw) (by decide +kernel) EW.nil))
theorem own_held {tb : Tables} {e : Env} {args : Array Value} {s : State} (hc : call_1_1 tb e args s) : ∀ p ∈ EL_1, Jvm.Lit.constHeld s p.1 p.2 := fun p hp => hc p ((by decide +kernel : ∀ p ∈ EL_1, p ∈ consts_1) p hp)
theorem own_chr {Z s T : State} {EL : List (String × Nat)} {vm0 vm : Vm} {h0 H : Heap} (R : CHr Z EL vm0 h0 vm H) (A : CHr Z EL vm H T.vm H) (hs : h0 = s.heap) (eT : T.heap = H) : CHr Z EL vm0 s.heap T.vm T.heap := by subst hs eT; exact R.trans A
theorem own_inskeep {Z : State} {h h' : Heap} {a : Addr} {C : String} {ws : List Addr} (F : Ins Z h a C true) (K : Keep h h' ws) : Ins Z h' a C true := by
  obtain ⟨cell, cT, h1, h2, h3⟩ := F
  obtain ⟨c', q1, q2, q3, -⟩ := K.2.2 _ _ h1
  exact ⟨c', cT, q1, h2, by rw [q2, q3]; exact h3⟩
theorem own_safeS {Z : State} {EL : List (String × Nat)} {vm : Vm} {h : Heap} {x : Addr} (hal : Z.vm.Alike vm) (E : Exa Z h x "java/lang/String") (F : Fld Z h x "java/lang/String" "value" "[B" .null) : Safe Z EL vm h x := fun B => by
  obtain ⟨cell, k, e1, e2, e3, -, -⟩ := E
  obtain ⟨p, -, u, a, -, q, -, S, rfl | rfl⟩ := B
  · obtain ⟨c1, _, _, _, f0, g1, g2, -, -, -, -, g7⟩ := F
    cases (show h[q.sa]? = some q.sC from S.ha).symm.trans g1
    obtain ⟨cS, ⟨⟨-, -, -, ⟨c1', k1, i1, f1, -⟩, -, -, -, v1, -⟩, -⟩, -⟩ := S
    obtain ⟨k3, e3', -⟩ := State.fieldFound?_setVm (s := Z) hal g2
    have e4 := (show (Wst Z vm h).fieldFound? _ _ _ = _ from e3').symm.trans f1
    simp only [Option.some.injEq, Prod.mk.injEq] at e4
    rw [← e4.2.2.2, g7] at v1
    simp at v1
  · cases (show h[q.sd]? = some q.SA from S.hd).symm.trans e1
    obtain ⟨cS, -, -, f, -⟩ := S
    have f' : vm.findClass "[B" = some q.SA.cls := f
    rw [hal.findClass] at f'
    obtain ⟨k1, q1, q2⟩ := Vm.findClass_spec f'
    obtain ⟨k2, q3, q4⟩ := Vm.findClass_spec e2
    cases q1.symm.trans q3
    exact absurd (q2.symm.trans q4) (by decide)
theorem own_chv {s : State} {args : Array Value} {tb : Tables} {e : Env} (hw : ∀ d ∈ tables_1, d.before args s = true) (hc : call_1_1 tb e args s) (hcw : Jvm.Lit.compactW.before args s = true) : CHv s EL_1 s.vm s.heap := CHv.start (own_EW hw) (fun p hp => own_held hc p hp) hcw (w24 hw) (w7 hw)
theorem nb {a b : Nat} (h : Nat.ble a b = true) : a ≤ b := Nat.le_of_ble_eq_true h
/- numbers -/
theorem own_i {n : Nat} (h : n < 2147483648) : (Int32.ofNat n).toInt = n := len_toInt h
theorem own_lt {i n : Nat} (h : i < n) (hn : n < 2147483648) : Int32.ofNat i < Int32.ofNat n := by
  rw [Int32.lt_iff_toInt_lt, own_i (Nat.lt_trans h hn), own_i hn]; omega
theorem own_nlt {i n : Nat} (h : n ≤ i) (hi : i < 2147483648) : ¬ (Int32.ofNat i < Int32.ofNat n) := by
  rw [Int32.lt_iff_toInt_lt, own_i hi, own_i (Nat.lt_of_le_of_lt h hi)]; omega
theorem own_nneg {i : Nat} (hi : i < 2147483648) : ¬ (Int32.ofNat i < (0 : Int32)) := by
  rw [Int32.lt_iff_toInt_lt, own_i hi]; have : (0 : Int32).toInt = 0 := rfl; omega
theorem own_cl {i : Nat} (hi : i < 2147483648) : (Int32.ofNat i).toNatClampNeg = i := by
  have h := own_i hi; simp only [Int32.toNatClampNeg, h]; omega
theorem own_succ (i : Nat) : Int32.ofNat i + (1 : Int32) = Int32.ofNat (i + 1) := (Int32.ofNat_add i 1).symm
theorem own_shl1 {i : Nat} (hi : 2 * i < 2147483648) : (Int32.ofNat i <<< ((1 : Int32) &&& 31)) = Int32.ofNat (2 * i) := by
  apply Int32.toInt_inj.mp
  have h := c_ishl (Int32.ofNat i) 1 1 rfl
  have r := rng32 (Int32.ofNat i <<< ((1 : Int32) &&& 31))
  rw [own_i (by omega)] at h; rw [own_i hi]; omega
theorem own_shr1 {i : Nat} (hi : 2 * i < 2147483648) : (Int32.ofNat (2 * i) >>> ((1 : Int32) &&& 31)) = Int32.ofNat i := by
  apply Int32.toInt_inj.mp
  have h := c_ishr (Int32.ofNat (2 * i)) 1 1 rfl
  rw [own_i hi] at h; rw [own_i (by omega)]; omega
theorem own_narb (x : Int32) : nar .byte (x.toInt8.toInt32) = x.toInt8.toInt32 := by simp [nar]
/- strings -/
def lat (cs : List Int32) : Bool := cs.all fun c => decide (¬ (255 : Int32) < c)
def fl : List Int32 → Nat
  | [] => 0
  | c :: r => if (255 : Int32) < c then 0 else fl r + 1
def l1 (cs : List Int32) : List Value := cs.map fun c => .int (c.toInt8.toInt32)
def u16 : List Int32 → List Value
  | [] => []
  | c :: r => .int ((c >>> ((0 : Int32) &&& 31)).toInt8.toInt32) :: .int ((c >>> ((8 : Int32) &&& 31)).toInt8.toInt32) :: u16 r
def cdr (cs : List Int32) : Int32 := if lat cs = true then 0 else 1
def blen (cs : List Int32) : Nat := if lat cs = true then cs.length else 2 * cs.length
def enc (cs : List Int32) : List Value := if lat cs = true then l1 cs else u16 cs
def OkS (cs : List Int32) : Prop := (∀ c ∈ cs, ¬ (c < (0 : Int32)) ∧ ¬ ((65535 : Int32) < c)) ∧ cs.length < 1048576
theorem lat_cons (c : Int32) (r : List Int32) : lat (c :: r) = true ↔ ¬ (255 : Int32) < c ∧ lat r = true := by simp [lat]
theorem fl_le : ∀ cs : List Int32, fl cs ≤ cs.length
  | [] => Nat.le_refl _
  | c :: r => by
    show (if (255 : Int32) < c then 0 else fl r + 1) ≤ r.length + 1
    have := fl_le r; split <;> omega
theorem fl_lat : ∀ {cs : List Int32}, lat cs = true → fl cs = cs.length
  | [], _ => rfl
  | c :: r, h => by
    obtain ⟨h1, h2⟩ := (lat_cons c r).mp h
    show (if (255 : Int32) < c then 0 else fl r + 1) = r.length + 1
    rw [if_neg h1, fl_lat h2]
theorem fl_nlat : ∀ {cs : List Int32}, ¬ lat cs = true → fl cs < cs.length ∧ (255 : Int32) < cs.getD (fl cs) 0
  | [], h => absurd rfl h
  | c :: r, h => by
    by_cases q : (255 : Int32) < c
    · have e : fl (c :: r) = 0 := if_pos q
      rw [e]; exact ⟨Nat.succ_pos _, q⟩
    · have e : fl (c :: r) = fl r + 1 := if_neg q
      have := fl_nlat (cs := r) fun z => h ((lat_cons c r).mpr ⟨q, z⟩)
      rw [e]; exact ⟨Nat.succ_lt_succ this.1, by simpa using this.2⟩
theorem fl_ne {cs : List Int32} (h : fl cs = cs.length) : lat cs = true := by
  by_cases q : lat cs = true
  · exact q
  · exact absurd h (Nat.ne_of_lt (fl_nlat q).1)
theorem fl_app : ∀ {pre : List Int32} (suf : List Int32), lat pre = true → fl (pre ++ suf) = pre.length + fl suf
  | [], suf, _ => by simp
  | c :: r, suf, h => by
    obtain ⟨h1, h2⟩ := (lat_cons c r).mp h
    show (if (255 : Int32) < c then 0 else fl (r ++ suf) + 1) = r.length + 1 + fl suf
    rw [if_neg h1, fl_app suf h2]; omega
theorem lat_snoc {pre : List Int32} {c : Int32} (h : lat pre = true) (hc : ¬ (255 : Int32) < c) : lat (pre ++ [c]) = true := by
  simp only [lat, List.all_append, Bool.and_eq_true]; exact ⟨h, by simpa using hc⟩
theorem l1_snoc (pre : List Int32) (c : Int32) : l1 pre ++ [.int (c.toInt8.toInt32)] = l1 (pre ++ [c]) := by simp [l1]
theorem u16_app : ∀ (pre suf : List Int32), u16 (pre ++ suf) = u16 pre ++ u16 suf
  | [], _ => rfl
  | c :: r, suf => by show _ :: _ :: u16 (r ++ suf) = _ :: _ :: (u16 r ++ u16 suf); rw [u16_app r suf]
theorem u16_len : ∀ cs : List Int32, (u16 cs).length = 2 * cs.length
  | [] => rfl
  | c :: r => by show (u16 r).length + 1 + 1 = 2 * (r.length + 1); rw [u16_len r]; omega
theorem l1_len (cs : List Int32) : (l1 cs).length = cs.length := by simp [l1]
theorem u16_at : ∀ (cs : List Int32) (i : Nat) (d : Value), i < cs.length → (u16 cs).getD (2 * i) d = .int ((cs.getD i 0 >>> ((0 : Int32) &&& 31)).toInt8.toInt32) ∧ (u16 cs).getD (2 * i + 1) d = .int ((cs.getD i 0 >>> ((8 : Int32) &&& 31)).toInt8.toInt32)
  | [], i, _, h => absurd h (Nat.not_lt_zero _)
  | c :: r, 0, d, _ => ⟨rfl, rfl⟩
  | c :: r, i + 1, d, h => by
    have := u16_at r i d (Nat.lt_of_succ_lt_succ h)
    exact this
theorem l1_at (cs : List Int32) (i : Nat) (d : Value) (h : i < cs.length) : (l1 cs).getD i d = .int ((cs.getD i 0).toInt8.toInt32) := by
  simp [l1, List.getD, h]
theorem ch_at (cs : List Int32) (i : Nat) (d : Value) (h : i < cs.length) : (cs.map Value.int).getD i d = .int (cs.getD i 0) := by
  simp [List.getD, h]
theorem app_at (pre r : List Int32) (c d : Int32) : (pre ++ c :: r).getD pre.length d = c := by simp [List.getD]
theorem getD_mem {cs : List Int32} {i : Nat} (h : i < cs.length) : cs.getD i 0 ∈ cs := by simp [List.getD, h]
theorem OkS.at {cs : List Int32} (h : OkS cs) {i : Nat} (hi : i < cs.length) : ¬ (cs.getD i 0 < (0 : Int32)) ∧ ¬ ((65535 : Int32) < cs.getD i 0) := h.1 _ (getD_mem hi)
theorem own_rng {c : Int32} (h1 : ¬ (c < (0 : Int32))) (h2 : ¬ ((65535 : Int32) < c)) : 0 ≤ c.toInt ∧ c.toInt ≤ 65535 := by
  rw [Int32.lt_iff_toInt_lt] at h1 h2; have a : (0 : Int32).toInt = 0 := rfl; have b : (65535 : Int32).toInt = 65535 := rfl; omega
theorem own_narc {c : Int32} (h1 : ¬ (c < (0 : Int32))) (h2 : ¬ ((65535 : Int32) < c)) : nar .char c = c := by
  apply Int32.toInt_inj.mp
  have := own_rng h1 h2; have := c_i2c c; show (c.toUInt32.toUInt16.toUInt32.toInt32).toInt = _; omega
theorem own_l1c {c : Int32} (h1 : ¬ (c < (0 : Int32))) (h2 : ¬ ((255 : Int32) < c)) : nar .char ((c.toInt8.toInt32 &&& (255 : Int32)).toUInt32.toUInt16.toUInt32.toInt32) = c := by
  apply Int32.toInt_inj.mp
  rw [Int32.lt_iff_toInt_lt] at h1 h2; have a : (0 : Int32).toInt = 0 := rfl; have b : (255 : Int32).toInt = 255 := rfl
  have q1 := c_i2b c; have q2 := c_mask c.toInt8.toInt32 255 8 (by decide) rfl
  have q3 := c_i2c (c.toInt8.toInt32 &&& 255); have q4 := c_i2c ((c.toInt8.toInt32 &&& (255 : Int32)).toUInt32.toUInt16.toUInt32.toInt32)
  show (((c.toInt8.toInt32 &&& (255 : Int32)).toUInt32.toUInt16.toUInt32.toInt32).toUInt32.toUInt16.toUInt32.toInt32).toInt = _
  omega
theorem own_u16c {c : Int32} (h1 : ¬ (c < (0 : Int32))) (h2 : ¬ ((65535 : Int32) < c)) :
    nar .char ((((((c >>> ((0 : Int32) &&& 31)).toInt8.toInt32) &&& (255 : Int32)) <<< ((0 : Int32) &&& 31)) ||| ((((c >>> ((8 : Int32) &&& 31)).toInt8.toInt32) &&& (255 : Int32)) <<< ((8 : Int32) &&& 31))).toUInt32.toUInt16.toUInt32.toInt32) = c := by
  apply Int32.toInt_inj.mp
  have r := own_rng h1 h2
  have s0 := c_ishr c 0 0 rfl; have s8 := c_ishr c 8 8 rfl
  have b0 := c_i2b (c >>> ((0 : Int32) &&& 31)); have b8 := c_i2b (c >>> ((8 : Int32) &&& 31))
  have m0 := c_mask ((c >>> ((0 : Int32) &&& 31)).toInt8.toInt32) 255 8 (by decide) rfl; have m8 := c_mask ((c >>> ((8 : Int32) &&& 31)).toInt8.toInt32) 255 8 (by decide) rfl
  generalize (c >>> ((0 : Int32) &&& 31)).toInt8.toInt32 = x at *
  generalize (c >>> ((8 : Int32) &&& 31)).toInt8.toInt32 = y at *
  have l0 := c_ishl (x &&& 255) 0 0 rfl; have l8 := c_ishl (y &&& 255) 8 8 rfl
  generalize (x &&& (255 : Int32)) = x' at *
  generalize (y &&& (255 : Int32)) = y' at *
  have r0 := rng32 (x' <<< ((0 : Int32) &&& 31)); have r8 := rng32 (y' <<< ((8 : Int32) &&& 31))
  have o := c_or' (x' <<< ((0 : Int32) &&& 31)) (y' <<< ((8 : Int32) &&& 31)) 8 (by decide) 256 rfl
  have ro := rng32 ((x' <<< ((0 : Int32) &&& 31)) ||| (y' <<< ((8 : Int32) &&& 31)))
  generalize ((x' <<< ((0 : Int32) &&& 31)) ||| (y' <<< ((8 : Int32) &&& 31))) = w at *
  have q3 := c_i2c w; have q4 := c_i2c (w.toUInt32.toUInt16.toUInt32.toInt32)
  show ((w.toUInt32.toUInt16.toUInt32.toInt32).toUInt32.toUInt16.toUInt32.toInt32).toInt = _
  have o' := o (by omega) (by omega) (by omega)
  omega
theorem own_len {cs : List Int32} (h : cs.length < 1048576) : (Int32.ofNat (blen cs) >>> (cdr cs &&& 31)) = Int32.ofNat cs.length := by
  apply Int32.toInt_inj.mp
  by_cases q : lat cs = true
  · have := c_ishr (Int32.ofNat cs.length) 0 0 rfl
    simp only [blen, cdr, if_pos q]; rw [own_i (by omega)] at *; omega
  · have := c_ishr (Int32.ofNat (2 * cs.length)) 1 1 rfl
    simp only [blen, cdr, if_neg q]; rw [own_i (by omega)] at *; rw [this]; omega
theorem own_narcdr (cs : List Int32) : nar .byte (cdr cs) = cdr cs := by by_cases q : lat cs = true <;> simp only [cdr, q] <;> decide
theorem own_cdr {cs : List Int32} (h : cs.length < 1048576) : nar .byte ((((Int32.ofNat cs.length - Int32.ofNat (blen cs)).toUInt32 >>> ((31 : Int32) &&& 31).toUInt32).toInt32).toInt8.toInt32) = cdr cs := by
  by_cases q : lat cs = true
  · simp only [blen, cdr, if_pos q, Int32.sub_self]; decide
  · have n0 := (fl_nlat q).1
    simp only [blen, cdr, if_neg q]
    have e : ((Int32.ofNat cs.length - Int32.ofNat (2 * cs.length)).toUInt32 >>> ((31 : Int32) &&& 31).toUInt32).toInt32 = 1 := by
      apply Int32.toInt_inj.mp
      have s := c_isub (Int32.ofNat cs.length) (Int32.ofNat (2 * cs.length)); have r := rng32 (Int32.ofNat cs.length - Int32.ofNat (2 * cs.length))
      rw [own_i (by omega), own_i (by omega)] at s
      rw [c_iushr _ 31 31 rfl (by decide)]; have : (1 : Int32).toInt = 1 := rfl; omega
    rw [e]; decide
theorem cdr_lat {cs : List Int32} (h : cdr cs = (0 : Int32)) : lat cs = true := by
  by_cases q : lat cs = true
  · exact q
  · simp only [cdr, if_neg q] at h; exact absurd h (by decide)
theorem cdr_nlat {cs : List Int32} (h : ¬ cdr cs = (0 : Int32)) : ¬ lat cs = true := fun q => h (by simp only [cdr, if_pos q])
theorem Arv.push {Z : State} {h h' : Heap} {a : Addr} {c : Cell} {k : ClassId} {ty : FieldType} {z j : Int32} {vs : List Value} {dv v : Value} (A : Arr Z h a c ty) (q1 : c.cls = k) (S : c.slots.size = z.toNatClampNeg) (q3 : ¬ z < 0) (H : Has c vs dv) (G : ∀ i, i < c.slots.size → fits ty (vs.getD i dv) = true) (hv : fits ty v = true) (W : Wr h h' a j.toNatClampNeg v) (hj : j.toNatClampNeg = vs.length) : Arv Z h' a k ty z (vs ++ [v]) dv := by
  have F : Arv Z h a k ty z (vs ++ List.replicate 1 dv) dv := Arv.pad ⟨c, A, q1, S, q3, H, G⟩ (pad_rep vs dv 1)
  obtain ⟨c', A', r1, r2, r3, H', G'⟩ := F
  have R := Arv.set A' r1 r2 r3 H' G' hv W vs.length hj (by simp)
  have e : (vs ++ List.replicate 1 dv).set vs.length v = vs ++ [v] := by simp
  rw [e] at R; exact R
def Str (Z : State) (h : Heap) (a t : Addr) (kb : ClassId) (cs : List Int32) : Prop := Exa Z h a "java/lang/String" ∧ Fld Z h a "java/lang/String" "value" "[B" (.ref t) ∧ Fld Z h a "java/lang/String" "coder" "B" (.int (cdr cs)) ∧ Arv Z h t kb .byte (Int32.ofNat (blen cs)) (enc cs) (.int (0 : Int32)) ∧ OkS cs
theorem Str.keep {Z : State} {h h' : Heap} {a t : Addr} {kb : ClassId} {cs : List Int32} {ws : List Addr} (S : Str Z h a t kb cs) (K : Keep h h' ws) (q1 : a ∉ ws) (q2 : t ∉ ws) : Str Z h' a t kb cs := ⟨S.1.keep K, S.2.1.keep K q1, S.2.2.1.keep K q1, S.2.2.2.1.keep K q2, S.2.2.2.2⟩
theorem Str.ext {Z : State} {h h' : Heap} {a t : Addr} {kb : ClassId} {cs : List Int32} (S : Str Z h a t kb cs) (E : Ext h h') : Str Z h' a t kb cs := ⟨S.1.ext E, S.2.1.ext E, S.2.2.1.ext E, S.2.2.2.1.ext E, S.2.2.2.2⟩
theorem Str.lt {Z : State} {h : Heap} {a t : Addr} {kb : ClassId} {cs : List Int32} (S : Str Z h a t kb cs) : a < h.size := S.1.lt
theorem Str.lt2 {Z : State} {h : Heap} {a t : Addr} {kb : ClassId} {cs : List Int32} (S : Str Z h a t kb cs) : t < h.size := S.2.2.2.1.lt
theorem enc_lat {cs : List Int32} (h : lat cs = true) : enc cs = l1 cs ∧ blen cs = cs.length ∧ cdr cs = (0 : Int32) := ⟨if_pos h, if_pos h, if_pos h⟩
theorem enc_nlat {cs : List Int32} (h : ¬ lat cs = true) : enc cs = u16 cs ∧ blen cs = 2 * cs.length ∧ cdr cs = (1 : Int32) := ⟨if_neg h, if_neg h, if_neg h⟩
theorem lat_at {cs : List Int32} (h : lat cs = true) {i : Nat} (hi : i < cs.length) : ¬ ((255 : Int32) < cs.getD i 0) := by
  have := List.all_eq_true.mp h _ (getD_mem hi); simpa using this
theorem own_fitcdr (cs : List Int32) : fits .byte (.int (cdr cs)) = true := by by_cases q : lat cs = true <;> simp only [cdr, q] <;> decide
theorem own_zero {i : Nat} (hi : i < 2147483648) (h : Int32.ofNat i = (0 : Int32)) : i = 0 := by
  have q := congrArg Int32.toInt h; rw [own_i hi] at q; have z : (0 : Int32).toInt = 0 := rfl; omega
theorem own_neq {i n : Nat} (h : i ≠ n) (hi : i < 2147483648) (hn : n < 2147483648) : ¬ (Int32.ofNat i = Int32.ofNat n) := fun q => by
  have q := congrArg Int32.toInt q; rw [own_i hi, own_i hn] at q; omega
theorem own_sub {i n : Nat} (h : i ≤ n) (hn : n < 2147483648) : Int32.ofNat n - Int32.ofNat i = Int32.ofNat (n - i) := by
  apply Int32.toInt_inj.mp
  have s := c_isub (Int32.ofNat n) (Int32.ofNat i); have r := rng32 (Int32.ofNat n - Int32.ofNat i)
  rw [own_i hn, own_i (by omega)] at s; rw [own_i (by omega)]; omega
theorem own_min {i n : Nat} (h : i ≤ n) (hn : n < 2147483648) : (if Int32.ofNat i < Int32.ofNat n then Int32.ofNat i else Int32.ofNat n) = Int32.ofNat i := by
  by_cases q : i < n
  · rw [if_pos (own_lt q hn)]
  · rw [if_neg (own_nlt (by omega) (by omega))]; congr 1; omega
theorem own_or3 {i n N : Nat} (hi : i < 2147483648) (hn : n < 2147483648) (hN : N < 2147483648) : ¬ ((Int32.ofNat N ||| Int32.ofNat i) ||| Int32.ofNat n < (0 : Int32)) := by
  rw [Int32.lt_iff_toInt_lt]
  have a := (c_orS (Int32.ofNat N) (Int32.ofNat i)).1 (by rw [own_i hN]; omega) (by rw [own_i hi]; omega)
  have b := (c_orS (Int32.ofNat N ||| Int32.ofNat i) (Int32.ofNat n)).1 a (by rw [own_i hn]; omega)
  have z : (0 : Int32).toInt = 0 := rfl; omega
theorem own_slice (vs : List Value) (f n : Nat) (d : Value) (h : f + n ≤ vs.length) : (vs.drop f).take n = (List.range n).map fun i => vs.getD (f + i) d := by
  apply List.ext_getElem
  · simp; omega
  · intro i h1 h2
    simp at h1
    simp [List.getD, List.getElem?_eq_getElem (show f + i < vs.length by omega)]
theorem own_fill (us : List Value) (n : Nat) (h : us.length = n) : (List.replicate n (.int (0 : Int32)) : List Value).take 0 ++ us ++ (List.replicate n (.int (0 : Int32))).drop (0 + n) = us := by simp
theorem own_okdt {cs : List Int32} {bg n : Nat} (h : OkS cs) : OkS ((cs.drop bg).take n) := ⟨fun c hc => h.1 c (List.mem_of_mem_drop (List.mem_of_mem_take hc)), by have := h.2; simp; omega⟩
theorem own_dt {cs : List Int32} {bg n i : Nat} (h : bg + n ≤ cs.length) (hd : ((cs.drop bg).take n).length = n) (hi : i < ((cs.drop bg).take n).length) : ((cs.drop bg).take n).getD i 0 = cs.getD (bg + i) 0 := by
  rw [hd] at hi; simp [List.getD, List.getElem?_take, List.getElem?_drop, hi]
theorem l1_dt (cs : List Int32) (bg n : Nat) : ((l1 cs).drop bg).take n = l1 ((cs.drop bg).take n) := by simp [l1, List.map_take, List.map_drop]
theorem own_u16s (cs : List Int32) (bg n : Nat) : ((u16 cs).drop (2 * bg)).take (2 * n) = u16 ((cs.drop bg).take n) := by
  induction bg generalizing cs with
  | zero =>
    simp only [Nat.mul_zero, List.drop_zero]
    induction n generalizing cs with
    | zero => simp [u16]
    | succ n ih => cases cs with
      | nil => simp [u16]
      | cons c r => rw [show 2 * (n + 1) = 2 * n + 1 + 1 from by omega]; simp only [u16, List.take_succ_cons]; rw [ih]
  | succ b ih => cases cs with
    | nil => simp [u16]
    | cons c r => rw [show 2 * (b + 1) = 2 * b + 1 + 1 from by omega]; simp only [u16, List.drop_succ_cons]; exact ih r
theorem lat_dt {cs : List Int32} {bg n : Nat} (h : lat cs = true) : lat ((cs.drop bg).take n) = true := List.all_eq_true.mpr fun c hc => List.all_eq_true.mp h c (List.mem_of_mem_drop (List.mem_of_mem_take hc))
theorem own_mkL {Z : State} {h : Heap} {a t : Addr} {kb : ClassId} {cs : List Int32} {bg n : Nat} (hl : lat cs = true) (ok : OkS cs) (hn : bg + n ≤ cs.length) (E : Exa Z h a "java/lang/String") (V : Fld Z h a "java/lang/String" "value" "[B" (.ref t)) (C : Fld Z h a "java/lang/String" "coder" "B" (.int (0 : Int32))) (A : Arv Z h t kb .byte (Int32.ofNat (bg + n - bg)) (((l1 cs).drop bg).take (bg + n - bg)) (.int (0 : Int32))) : Str Z h a t kb ((cs.drop bg).take n) := by
  obtain ⟨e1, e2, e3⟩ := enc_lat (lat_dt (bg := bg) (n := n) hl)
  rw [show bg + n - bg = n from by omega, l1_dt] at A
  refine ⟨E, V, by rw [e3]; exact C, ?_, own_okdt ok⟩
  rw [e1, e2, show ((cs.drop bg).take n).length = n from by simp; omega]; exact A
/- ldc_w of the empty string, where her text is held -/
theorem own_ldcW {p : Program} {l : Launch} {e : Env} {R : Room} {s : State} {m : MethodId} {args : Array Value} {below : List Frame} {meth : Method} {c : Code} {T : State} {locs : List Loc} {cells slots : Nat}
    (X : Stand p l e R s m args below meth c T locs cells slots) (hx : p.tables.exec = Jvm.exec) {own : String} {index : Nat} (hown : s.vm.findClass own = some m.cls) (w : (Cond.stringLink own index "").before args s = true) (wS : ∀ a ∈ Bundle.stringAtoms, a.before args s = true)
    {g : JFrame} (hg : g.method = m) (hd : decode c.code g.pc = .ok (.ldc_w index, 3)) (hc : cells + 2 ≤ R.cells) (hl : slots + 4 ≤ R.slots) :
    ∃ (a : Addr) (U : State), Stand p l e R (s.setVm U.vm) m args below meth c U locs (cells + 2) (slots + 4) ∧ s.Since U.vm U.heap.size ∧ (∃ k, U.vm.classes[m.cls]? = some k ∧ k.resolved[index]? = some (some (.string a))) ∧ Ext T.heap U.heap ∧ T.Warmed39 U.vm ∧
      (U.vm.interned = T.vm.interned ∨ ∃ us : Array UInt16, U.vm.interned = T.vm.interned.push (us, a) ∧ T.vm.interned.find? (fun p => p.1 == us) = none ∧ (us.all (· < 256) = true → SlIn 0 T.heap.size U a us)) ∧
      ∀ z, Steps p.tables e below (U.setTop { g with pc := g.pc + 3, stack := .ref a :: g.stack }) z → Steps p.tables e below (T.setTop g) z := by
  subst hg
  have hf : T.vm.findClass own = some g.method.cls := by rw [X.warmed.alike.findClass]; exact hown
  obtain ⟨k, cf, i, us, hk, hcf, hi, hu, hnm, hdec, hres⟩ := Cond.stringLink_spec (s := T) hf (mvS (s := T) (args := args) X.warmed.wide w)
  have hz : (stringBytes us).size = 0 := by have := text_bytes_le hdec; simpa using this
  have n1 : k.cf.bind (namesOf? ·.constantPool index) = some (.string "") := by rw [hcf]; exact hnm
  have n2 : k.cf.bind (·.constantPool[index]?) = some (.string i) := by rw [hcf]; exact hi
  have n3 : k.cf.bind (·.constantPool.utf8? i) = some us := by rw [hcf]; simp [ConstantPool.utf8?, hu]
  rcases hres with ho | ⟨a, hr⟩
  · cases hq : T.vm.interned.find? (fun p => p.1 == us) with
    | some pr =>
      obtain ⟨v, a⟩ := pr
      obtain rfl : v = us := by simpa using Array.find?_some hq
      have W1 : T.Warmed39 (T.vm.noted g.method.cls index (.string a)) := (State.Warmed39.refl T).notedString hk (Or.inl ho) n1 n2 n3 hq
      have W2 : s.Warmed39 (T.vm.noted g.method.cls index (.string a)) := State.Warmed39.trans (t := T) X.warmed.wide W1
      refine ⟨a, T.setVm (T.vm.noted g.method.cls index (.string a)), (X.mono (by omega) (by omega)).retabled W2, ⟨W2, State.Booked.step (T₂ := T.setVm (T.vm.noted g.method.cls index (.string a))) (X.warmed.no_new_pair _) X.same.2.1 ⟨Nat.le_refl _, Or.inl rfl⟩⟩, ⟨_, Vm.classes_note_self index (.string a) hk, Class.resolved_note_self (.string a) ho⟩, ⟨Nat.le_refl _, fun _ _ q => q⟩, W1, Or.inl rfl, fun z q => ?_⟩
      jvm_step X.here [hx, hd, ldc_w.wp_string_found (e := e) (s := T) (f := g) X.here.top hk hcf hi hu ho hq]
      exact q
    | none =>
      obtain ⟨S, LS, s4, fv, fc⟩ := StringT.of_atoms (args := args) wS
      obtain ⟨kS, kB, LT, ty⟩ := LS.warmer X.warmed.alike
      obtain ⟨vm1, e1⟩ : ∃ v : Vm, v = { T.vm with interned := T.vm.interned.push (us, T.heap.size + 1) } := ⟨_, rfl⟩
      have i1 : vm1.interned = T.vm.interned.push (us, T.heap.size + 1) := by rw [e1]
      have c1 : vm1.classes = T.vm.classes := by rw [e1]
      have hp : vm1.interned.find? (fun p => p.1 == us) = some (us, T.heap.size + 1) := by rw [i1, Array.find?_push, hq]; simp
      have W1 : T.Warmed39 (vm1.noted g.method.cls index (.string (T.heap.size + 1))) := by
        have q := (State.Warmed39.refl T).interns us (T.heap.size + 1)
        rw [← e1] at q; exact q.notedString hk (Or.inl ho) n1 n2 n3 hp
      have W2 : s.Warmed39 (vm1.noted g.method.cls index (.string (T.heap.size + 1))) := State.Warmed39.trans (t := T) X.warmed.wide W1
      have hU : (withString T S.cB S.cS kS S.fv S.fc us).heap = (T.heap.push (bytesOf S.cB us)).push (stringAt S.cS kS S.fv S.fc us T.heap.size) := by rw [withString_eq]; rfl
      have hb : (bytesOf S.cB us).slots.size = 0 := by rw [(Cell.writeAll_facts _ _).2.2]; simp [bytes0, hz]
      have hs : (stringAt S.cS kS S.fv S.fc us T.heap.size).slots.size = 4 := by simp [string0, Cell.setSlot, ty, s4]
      have X2 := (X.pushed (bytesOf S.cB us)).pushed (stringAt S.cS kS S.fv S.fc us T.heap.size)
      rw [← withString_eq, hb, hs] at X2
      have hE : Ext T.heap (withString T S.cB S.cS kS S.fv S.fc us).heap := by
        rw [hU]; refine ext_of fun a h => ?_
        rw [Array.getElem?_push, if_neg (by rw [Array.size_push]; omega), Array.getElem?_push, if_neg (by omega)]
      have h1 : (withString T S.cB S.cS kS S.fv S.fc us).heap[T.heap.size]? = some (bytesOf S.cB us) := by
        rw [hU, Array.getElem?_push, if_neg (by rw [Array.size_push]; omega), Array.getElem?_push, if_pos rfl]
      have h2 : (withString T S.cB S.cS kS S.fv S.fc us).heap[T.heap.size + 1]? = some (stringAt S.cS kS S.fv S.fc us T.heap.size) := by
        rw [hU, Array.getElem?_push, if_pos (by rw [Array.size_push])]
      have hn : (withString T S.cB S.cS kS S.fv S.fc us).heap.size = T.heap.size + 2 := by rw [hU]; simp
      obtain ⟨U, eU⟩ : ∃ U : State, U = (withString T S.cB S.cS kS S.fv S.fc us).setVm (vm1.noted g.method.cls index (.string (T.heap.size + 1))) := ⟨_, rfl⟩
      have uv : U.vm = vm1.noted g.method.cls index (.string (T.heap.size + 1)) := by rw [eU]; rfl
      have uh : U.heap = (withString T S.cB S.cS kS S.fv S.fc us).heap := by rw [eU]; rfl
      have ui : U.vm.interned = T.vm.interned.push (us, T.heap.size + 1) := by rw [uv]; exact i1
      have bk : s.Since U.vm U.heap.size := by
        refine ⟨by rw [uv]; exact W2, State.Booked.step (T₂ := U) (X.warmed.no_new_pair _) X.same.2.1 ⟨by rw [uh, hn]; omega, Or.inr ⟨us, T.heap.size + 1, ui, Nat.le_succ _, by rw [uh, hn]; exact Nat.lt_succ_self _⟩⟩⟩
      refine ⟨T.heap.size + 1, U, ?_, bk, ?_, by rw [uh]; exact hE, by rw [uv]; exact W1, Or.inr ⟨us, ui, hq, fun q => ?_⟩, fun z q => ?_⟩
      · have q := (X2.mono (show cells + 1 + 1 ≤ cells + 2 by omega) (show slots + 0 + 4 ≤ slots + 4 by omega)).retabled W2
        rw [eU]; exact q
      · refine ⟨k.noted index (.string (T.heap.size + 1)), ?_, Class.resolved_note_self (.string (T.heap.size + 1)) ho⟩
        rw [uv]; exact Vm.classes_note_self index (.string (T.heap.size + 1)) (by rw [c1]; exact hk)
      · exact made_sl wS LS s4 ty (by rw [uv]; exact W2.alike) (by rw [uh]; exact h1) (by rw [uh]; exact h2) q (by omega) 0
      · rw [eU, e1] at q
        refine Steps.instr (c := _) (by simpa using X.here) ?_
        simp [jvm, wpRun, exec, X.here.top, hx, hd]
        have fs : T.fitsSlot = s.fitsSlot := (show T.fitsSlot = (s.setVm T.vm).fitsSlot from rfl).trans (State.fitsSlot_setVm X.warmed.alike)
        refine ldc_w.wp_string_new (e := e) (s := T) (f := g) X.here.top hk hcf hi hu ho hq LT.found LT.cls LT.initialized LT.ordinary LT.foundB LT.clsB LT.kindB LT.value LT.coder ?_ ?_ (X.cellsAbove hc) ?_
          (stringBytes_fit LT.clsB LT.kindB us) LT.valueSlot LT.coderSlot (by rw [fs]; exact fv _) (by rw [fs]; exact fc _) (fun d' a' => ?_)
        · rw [hz]; exact Nat.not_lt_zero _
        · rw [hz]; simp
        · have := X.slotsAbove hl
          rw [hz, ty, s4]; omega
        · intro a''
          have t1 : (withString T S.cB S.cS kS S.fv S.fc us).topJava?.isSome := by simpa [withString] using X.here.top
          have t2 : ((withString T S.cB S.cS kS S.fv S.fc us).setVm (({ T.vm with interned := T.vm.interned.push (us, T.heap.size + 1) } : Vm).noted g.method.cls index (.string (T.heap.size + 1)))).topJava?.isSome := by simpa using t1
          simp [jvm, afterInstr, t1, t2]
          rw [State.modifyTopJava_setTop]
          exact q
  · refine ⟨a, T, (X.mono (by omega) (by omega)).retabled X.warmed.wide, X.warmed.since _, ⟨k, hk, hr⟩, ⟨Nat.le_refl _, fun _ _ q => q⟩, State.Warmed39.refl T, Or.inl rfl, fun z q => ?_⟩
    jvm_step X.here [hx, hd, ldc_w.wp_string (e := e) (s := T) (f := g) X.here.top hk hcf hi hr]
    exact q
theorem own_sl0 {Z : State} {vm : Vm} {h : Heap} {q : SB.SQ} {us : Array UInt16} (hal : Z.vm.Alike vm) (F : SlB (Wst Z vm h) q us) (h0 : (stringBytes us).size = 0) :
    Exa Z h q.sa "java/lang/String" ∧ Fld Z h q.sa "java/lang/String" "coder" "B" (.int 0) ∧ Fld Z h q.sa "java/lang/String" "value" "[B" (.ref q.sd) ∧ Arv Z h q.sd q.SA.cls .byte (0 : Int32) [] (.int 0) := by
  obtain ⟨cS, ⟨⟨s1, s2, s3, ⟨cv, kv, iv, s4, s5⟩, ⟨cc, kc, ic, s6, s7⟩, s8, s9, s10, s11, s12, ⟨s13, kA, hkA, co, hco⟩, s14, -⟩, hS, ec⟩, ⟨kS, k1, k2, k3⟩, hB, hsl⟩ := F
  have hsz : q.SA.slots.size = 0 := by rw [hsl]; exact h0
  have hS : vm.findClass "java/lang/String" = some cS := hS
  have k1 : vm.classes[cS]? = some kS := k1
  have hkA : vm.classes[q.SA.cls]? = some kA := hkA
  have hB : vm.findClass "[B" = some q.SA.cls := hB
  obtain ⟨kv', z4⟩ := ff_back (U := Wst Z vm h) hal s4
  obtain ⟨kc', z6⟩ := ff_back (U := Wst Z vm h) hal s6
  have fS : Z.vm.findClass "java/lang/String" = some q.sC.cls := by rw [← hal.findClass, ec]; exact hS
  have fB : Z.vm.findClass "[B" = some q.SA.cls := by rw [← hal.findClass]; exact hB
  obtain ⟨kz, hkz, -⟩ := Vm.findClass_spec fS
  obtain ⟨kz', hkz', ez⟩ := hal.2.2 _ _ hkz
  have e1 : kz' = kS := Option.some.inj (hkz'.symm.trans (by rw [ec]; exact k1))
  obtain ⟨kb, hkb, -⟩ := Vm.findClass_spec fB
  obtain ⟨kb', hkb', eb⟩ := hal.2.2 _ _ hkb
  have e2 : kb' = kA := Option.some.inj (hkb'.symm.trans hkA)
  refine ⟨⟨q.sC, kz, s1, fS, hkz, s3, fun _ => by rw [k3, ← e1, ez]⟩, ⟨q.sC, cc, kc', ic, q.fSC, s1, z6, s9, s2, s3, by rw [← hal.assignable]; exact s7, s11⟩, ⟨q.sC, cv, kv', iv, q.fSV, s1, z4, s8, s2, s3, by rw [← hal.assignable]; exact s5, s10⟩, ⟨q.SA, ⟨s12, ⟨s13, kb, hkb, co, by rw [← hco, ← e2, eb]⟩, s14⟩, rfl, by rw [hsz]; rfl, by decide, fun j hj => absurd hj (by rw [hsz]; exact Nat.not_lt_zero _), fun j hj => absurd hj (by rw [hsz]; exact Nat.not_lt_zero _)⟩⟩
theorem own_ldcWCH {p : Program} {l : Launch} {e : Env} {R : Room} {s : State} {m : MethodId} {args : Array Value} {below : List Frame} {meth : Method} {c : Code} {T : State} {locs : List Loc} {cells slots : Nat} {Z : State} {a0 : Array Value} {EL : List (String × Nat)} {h : Heap} {vm0 : Vm} {own : String} {index : Nat}
    (X : Stand p l e R (s.setVm vm0) m args below meth c T locs cells slots) (hx : p.tables.exec = Jvm.exec) (hZ : Z.Warmed39 vm0) (hown : vm0.findClass own = some m.cls) (w : (Cond.stringLink own index "").before a0 Z = true) (wS : ∀ a ∈ Bundle.stringAtoms, a.before a0 Z = true)
    (eT : T.heap = h) {k0 : Nat} (hS : s.Since vm0 k0) (hk : k0 ≤ h.size) (hEL : EW Z a0 EL) (hmem : (own, index) ∈ EL) (H : CHv Z EL vm0 h) {vs : List Value} {z : Int32} (hv : vs = []) (hz : z = 0) (_ : True)
    {g : JFrame} (hg : g.method = m) (hd : decode c.code g.pc = .ok (.ldc_w index, 3)) {n : Nat} (hn : n = 0) (_ : True) (hc : cells + 2 ≤ R.cells) (hl : slots + (n + 4) ≤ R.slots) :
    ∃ (a : Addr) (U : State) (h' : Heap) (k1 : Nat) (b : Addr) (k : ClassId), Stand p l e R (s.setVm U.vm) m args below meth c U locs (cells + 2) (slots + (n + 4)) ∧ U.heap = h' ∧ Ext h h' ∧ s.Since U.vm k1 ∧ k1 ≤ h'.size ∧ Z.Warmed39 (s.setVm U.vm).vm ∧ (s.setVm U.vm).vm.findClass own = some m.cls ∧
      Exa Z h' a "java/lang/String" ∧ Fld Z h' a "java/lang/String" "coder" "B" (.int 0) ∧ Fld Z h' a "java/lang/String" "value" "[B" (.ref b) ∧ Arv Z h' b k .byte z vs (.int 0) ∧ a < h'.size ∧ b < h'.size ∧ CHr Z EL vm0 h U.vm h' ∧ Lit (s.setVm U.vm) own index a ∧ (∀ x, Safe Z EL U.vm h' x → x ≠ a ∧ x ≠ b) ∧
      ∀ t, Steps p.tables e below (U.setTop { g with pc := g.pc + 3, stack := .ref a :: g.stack }) t → Steps p.tables e below (T.setTop g) t := by
  subst hv hz hn eT
  have wS' : ∀ d ∈ Bundle.stringAtoms, d.before args (s.setVm vm0) = true := fun d hd => by
    have q := wS d hd
    simp only [Bundle.stringAtoms, List.mem_cons, List.not_mem_nil, or_false] at hd
    rcases hd with rfl | rfl | rfl | rfl | rfl | rfl | rfl
    · exact mv (s := s.setVm vm0) hZ q
    · exact mv (s := s.setVm vm0) hZ q
    · exact mvA (s := s.setVm vm0) hZ q
    · exact mv (s := s.setVm vm0) hZ q
    · exact mv (s := s.setVm vm0) hZ q
    · exact mv (s := s.setVm vm0) hZ q
    · exact mv (s := s.setVm vm0) hZ q
  obtain ⟨a, U, X', S', ⟨kk, hkk, hrr⟩, E, hTU, hint, st⟩ := own_ldcW X hx hown (mvS hZ w) wS' hg hd hc hl
  have hW : Z.Warmed39 U.vm := State.Warmed39.trans (t := s.setVm vm0) hZ S'.1
  have A := CHv.at X hZ hEL H
  have hI : U.vm.interned = T.vm.interned ∨ ∃ (us : Array UInt16) (b : Addr), U.vm.interned = T.vm.interned.push (us, b) ∧ T.vm.interned.find? (fun p => p.1 == us) = none ∧ (us.all (· < 256) = true → ∃ q : SB.SQ, q.sa = b ∧ SlB (Wst Z U.vm U.heap) q us ∧ T.heap.size ≤ q.sa ∧ T.heap.size ≤ q.sd) := by
    rcases hint with q | ⟨us, q1, q2, q3⟩
    · exact Or.inl q
    · refine Or.inr ⟨us, a, q1, q2, fun hl => ?_⟩
      obtain ⟨q, cS, r0, r1, r2, r3, r4, r5⟩ := q3 hl
      have F : SlB U q us := ⟨cS, r1, r2, r3, r4⟩
      refine ⟨q, r0, F.carry (V := Wst Z U.vm U.heap) (Vm.Alike.refl _) F.ha F.hd, ?_⟩
      exact r5.elim (fun y => absurd y.1 (Nat.not_lt_zero _)) id
  have B := CHv.later (vm := T.vm) (vm1 := U.vm) (wtrans (s := s.setVm vm0) hZ X.warmed) (show (Wst Z T.vm T.heap).Warmed39 U.vm from hTU) hEL E hI A.1
  have hf : U.vm.findClass own = some m.cls := by rw [S'.1.alike.findClass]; exact hown
  obtain ⟨kx, cf, i, us, hkx, hcf, hp, hu, -, htx, -⟩ := Cond.stringLink_spec (s := Wst Z U.vm U.heap) hf (mvS (s := { Z with heap := U.heap }) (args := a0) hW w)
  have hkx : U.vm.classes[m.cls]? = some kx := hkx
  obtain rfl : kx = kk := Option.some.inj (hkx.symm.trans hkk)
  have hB : Booksv U.vm own index us a := ⟨m.cls, kx, cf, i, hf, hkx, hcf, hp, hu, Or.inl hrr⟩
  obtain ⟨q, rfl, F⟩ := SlB.of (B.1 _ hmem us a hB)
  obtain ⟨f1, f2, f3, f4⟩ := own_sl0 hW.alike F (by have := text_bytes_le htx; simpa using this)
  exact ⟨q.sa, U, _, _, q.sd, q.SA.cls, X', rfl, E, hS.trans S' (Nat.le_trans hk E.1), Nat.le_refl _, hW, hf, f1, f2, f3, f4, f1.lt, f4.lt, A.trans ⟨B.1, E.1, B.2⟩, by simp [Lit, State.resolvedAt?, hf, hkk, hrr], fun x S => ⟨fun y => S ⟨_, hmem, us, q.sa, hB, q, rfl, F, Or.inl y⟩, fun y => S ⟨_, hmem, us, q.sa, hB, q, rfl, F, Or.inr y⟩⟩, st⟩
def fi (x : Int32) : List Int32 → Nat
  | [] => 0
  | c :: r => if c = x then 0 else fi x r + 1
theorem own_memr {x c : Int32} {r : List Int32} (h : x ∈ c :: r) (q : ¬ c = x) : x ∈ r := by
  rcases List.mem_cons.mp h with e | e
  · exact absurd e.symm q
  · exact e
theorem fi_lt {x : Int32} : ∀ {cs : List Int32}, x ∈ cs → fi x cs < cs.length
  | [], h => nomatch h
  | c :: r, h => by
    show (if c = x then 0 else fi x r + 1) < r.length + 1
    by_cases q : c = x
    · rw [if_pos q]; omega
    · rw [if_neg q]; have := fi_lt (own_memr h q); omega
theorem fi_app {x : Int32} : ∀ {pre : List Int32} (suf : List Int32), x ∉ pre → fi x (pre ++ suf) = pre.length + fi x suf
  | [], suf, _ => by simp
  | c :: r, suf, h => by
    have h1 : ¬ c = x := fun e => h (by rw [e]; exact List.mem_cons_self ..)
    have h2 : x ∉ r := fun e => h (List.mem_cons_of_mem _ e)
    show (if c = x then 0 else fi x (r ++ suf) + 1) = r.length + 1 + fi x suf
    rw [if_neg h1, fi_app suf h2]; omega
theorem fi_take {x : Int32} : ∀ {cs : List Int32} {n : Nat}, x ∈ cs.take n → fi x (cs.take n) = fi x cs
  | [], n, h => by simp at h
  | c :: r, 0, h => by simp at h
  | c :: r, n + 1, h => by
    show (if c = x then 0 else fi x (r.take n) + 1) = (if c = x then 0 else fi x r + 1)
    by_cases q : c = x
    · rw [if_pos q, if_pos q]
    · rw [if_neg q, if_neg q, fi_take (own_memr h q)]
theorem own_hit {x cc : Int32} {cs pre r : List Int32} (hk : cs = pre ++ cc :: r) (hn : x ∉ pre) (e : cc = x) : Int32.ofNat pre.length = Int32.ofNat (fi x cs) := by
  rw [hk, fi_app _ hn]; show _ = Int32.ofNat (pre.length + (if cc = x then 0 else fi x r + 1)); rw [if_pos e]; rfl
theorem own_miss {x cc : Int32} {pre : List Int32} (hn : x ∉ pre) (e : ¬ cc = x) : x ∉ pre ++ [cc] := fun q => by
  rcases List.mem_append.mp q with q | q
  · exact hn q
  · exact e (List.mem_singleton.mp q).symm
theorem own_b8 {c x : Int32} (h0 : ¬ (c < (0 : Int32))) (h1 : ¬ ((255 : Int32) < c)) (k0 : ¬ (x < (0 : Int32))) (k1 : ¬ ((255 : Int32) < x)) (e : c.toInt8.toInt32 = x.toInt8.toInt32) : c = x := by
  have a := own_l1c h0 h1; have b := own_l1c k0 k1; rw [e] at a; exact a.symm.trans b
theorem lat_mem {cs : List Int32} {x : Int32} (h : lat cs = true) (m : x ∈ cs) : ¬ ((255 : Int32) < x) := by have := List.all_eq_true.mp h _ m; simpa using this
theorem own_pos0 {n : Nat} (h : 0 < n) (hn : n < 2147483648) : (0 : Int32) < Int32.ofNat n := own_lt (i := 0) h hn
theorem own_c16 {x : Int32} (h : ¬ ((65535 : Int32) < x)) : x < (65536 : Int32) := by
  have a : (65535 : Int32).toInt = 65535 := rfl; have b : (65536 : Int32).toInt = 65536 := rfl
  rw [Int32.lt_iff_toInt_lt] at *; omega
theorem own_dl {cs : List Int32} {bg n : Nat} (h : bg + n ≤ cs.length) : ((cs.drop bg).take n).length = n := by simp; omega
theorem own_ltof {i n : Nat} (hi : i < 2147483648) (hn : n < 2147483648) (h : Int32.ofNat i < Int32.ofNat n) : i < n := by
  rw [Int32.lt_iff_toInt_lt, own_i hi, own_i hn] at h; omega
theorem own_ln (z : Int32) : ∃ n : Nat, 1 ≤ n ∧ n ≤ 4 ∧ (1 : Int32) + (z &&& (3 : Int32)) = Int32.ofNat n := by
  have h := c_and z 3 (by decide); have q : (3 : Int32).toInt = 3 := rfl
  refine ⟨(z &&& 3).toInt.toNat + 1, by omega, by omega, ?_⟩
  have e : Int32.ofNat (z &&& 3).toInt.toNat = z &&& 3 := Int32.toInt_inj.mp (by rw [own_i (by omega)]; omega)
  rw [← own_succ, e, Int32.add_comm]
theorem own_pn (z : Int32) {n : Nat} (h1 : 1 ≤ n) (h4 : n ≤ 4) : ∃ i : Nat, i < n ∧ (z &&& (3 : Int32)) % Int32.ofNat n = Int32.ofNat i := by
  have h := c_and z 3 (by decide); have q := (c_iremV (z &&& 3) (Int32.ofNat n)).1 h.1; rw [own_i (by omega)] at q
  have r := q (by omega)
  refine ⟨((z &&& 3) % Int32.ofNat n).toInt.toNat, by omega, Int32.toInt_inj.mp ?_⟩
  rw [own_i (by omega)]; omega
theorem own_nz {n : Nat} (h1 : 1 ≤ n) (h4 : n ≤ 4) : ¬ (Int32.ofNat n = (0 : Int32)) := fun q => by have := own_zero (by omega) q; omega
theorem own_ceq {n k : Nat} (hn : n < 2147483648) (hk : k < 2147483648) (h : Int32.ofNat n = Int32.ofNat k) : n = k := by
  have q := congrArg Int32.toInt h; rw [own_i hn, own_i hk] at q; omega
def C16 (c : Int32) : Prop := ¬ (c < (0 : Int32)) ∧ ¬ ((65535 : Int32) < c)
theorem own_i2c16 (y : Int32) : C16 y.toUInt32.toUInt16.toUInt32.toInt32 := by
  have := c_i2c y; have a : (0 : Int32).toInt = 0 := rfl; have b : (65535 : Int32).toInt = 65535 := rfl
  refine ⟨?_, ?_⟩ <;> rw [Int32.lt_iff_toInt_lt] <;> omega
theorem own_nar16 {c : Int32} (h : C16 c) : nar .char c = c := own_narc h.1 h.2
def Q4 (x0 x1 x2 x3 : Int32) : Prop := ∀ c ∈ [x0, x1, x2, x3], C16 c
theorem own_q4 {x0 x1 x2 x3 : Int32} (h0 : C16 x0) (h1 : C16 x1) (h2 : C16 x2) (h3 : C16 x3) : Q4 x0 x1 x2 x3 := fun c hc => by
  simp only [List.mem_cons, List.not_mem_nil, or_false] at hc
  rcases hc with rfl | rfl | rfl | rfl <;> assumption
theorem Q4.ok {x0 x1 x2 x3 : Int32} (h : Q4 x0 x1 x2 x3) (n : Nat) : OkS ([x0, x1, x2, x3].take n) :=
  ⟨fun c hc => h c (List.mem_of_mem_take hc), by have := List.length_take_le n [x0, x1, x2, x3]; simp at this ⊢; omega⟩
theorem own_set4 {x0 x1 x2 x3 c : Int32} (h0 : C16 x0) (h1 : C16 x1) (h2 : C16 x2) (h3 : C16 x3) (hc : C16 c) {i n : Nat} (hi : i < n) (hn : n ≤ 4) : ∃ y0 y1 y2 y3 : Int32, [Value.int x0, .int x1, .int x2, .int x3].set i (.int c) = [.int y0, .int y1, .int y2, .int y3] ∧ Q4 y0 y1 y2 y3 ∧ c ∈ [y0, y1, y2, y3].take n := by
  have hn4 : n = 1 ∨ n = 2 ∨ n = 3 ∨ n = 4 := by omega
  match i, hi with
  | 0, hi => refine ⟨c, x1, x2, x3, rfl, own_q4 hc h1 h2 h3, ?_⟩; rcases hn4 with rfl | rfl | rfl | rfl <;> simp
  | 1, hi => refine ⟨x0, c, x2, x3, rfl, own_q4 h0 hc h2 h3, ?_⟩; rcases hn4 with rfl | rfl | rfl | rfl <;> first | omega | simp
  | 2, hi => refine ⟨x0, x1, c, x3, rfl, own_q4 h0 h1 hc h3, ?_⟩; rcases hn4 with rfl | rfl | rfl | rfl <;> first | omega | simp
  | 3, hi => refine ⟨x0, x1, x2, c, rfl, own_q4 h0 h1 h2 hc, ?_⟩; rcases hn4 with rfl | rfl | rfl | rfl <;> first | omega | simp
  | i + 4, hi => exact absurd hi (by omega)
theorem own_at3 {x0 x1 x2 x3 c : Int32} {n : Nat} (h : c ∈ [x0, x1, x2, x3].take n) (h0 : ¬ x0 = c) (h1 : ¬ x1 = c) (h2 : ¬ x2 = c) : x3 = c := by
  have q := List.mem_of_mem_take h
  simp only [List.mem_cons, List.not_mem_nil, or_false] at q
  rcases q with e | e | e | e
  · exact absurd e.symm h0
  · exact absurd e.symm h1
  · exact absurd e.symm h2
  · exact e.symm
theorem tk_len {x0 x1 x2 x3 : Int32} {n : Nat} (h : n ≤ 4) : ([x0, x1, x2, x3].take n).length = n := by simp; omega
theorem tk_at {ds : List Int32} {n i : Nat} (h : i < n) : (ds.take n).getD i 0 = ds.getD i 0 := by simp [List.getD_eq_getElem?_getD, List.getElem?_take, h]
theorem own_mapat (ds : List Int32) (i : Nat) (d : Value) (h : i < ds.length) : (ds.map Value.int).getD i d = .int (ds.getD i 0) := ch_at ds i d h
theorem own_pre {cs ds : List Int32} {n a k : Nat} (e : cs = ds.take n) (hn : cs.length = n) (ha : a ≤ n) (hk : k < a) : ((cs.drop 0).take a).getD k 0 = ds.getD k 0 := by
  rw [own_dt (n := a) (by omega) (own_dl (by omega)) (by rw [own_dl (by omega)]; exact hk), e, Nat.zero_add, tk_at (by omega)]
theorem own_suf {cs ds : List Int32} {n a k : Nat} (e : cs = ds.take n) (hn : cs.length = n) (hk : a + 1 + k < n) : ((cs.drop (a + 1)).take (cs.length - (a + 1))).getD k 0 = ds.getD (a + 1 + k) 0 := by
  rw [own_dt (n := cs.length - (a + 1)) (by omega) (own_dl (by omega)) (by rw [own_dl (by omega)]; omega), e, tk_at (by omega)]
theorem own_nSR {a0 : Array Value} {Z : State} {h : Heap} {r t b : Addr} {kb kc : ClassId} {z : Int32} {vs : List Value} {dv : Value} {cs : List Int32} {n : Nat} (w : (Jvm.Cond.instantiable "java/lang/String" n).before a0 Z = true) (S : Str Z h r t kb cs) (A : Arv Z h b kc (.object "java/lang/String") z vs dv) : r ≠ b ∧ t ≠ b := by
  obtain ⟨cb, ⟨A1, ⟨-, kA, hkA, compA, hkA2⟩, -⟩, -⟩ := A
  obtain ⟨⟨cell, k, e1, e2, e3, -, -⟩, -, -, ⟨ct, ⟨B1, ⟨-, kB, hkB, compB, hkB2⟩, -⟩, -⟩, -⟩ := S
  refine ⟨fun e => ?_, fun e => ?_⟩
  · subst e; cases e1.symm.trans A1
    obtain ⟨c, k', hc, hk', hkind, -⟩ := Cond.instantiable_spec w
    cases hc.symm.trans e2; cases hk'.symm.trans hkA
    have := hkind.symm.trans hkA2; cases this
  · subst e; cases B1.symm.trans A1; cases hkB.symm.trans hkA
    have := hkB2.symm.trans hkA2; injection this with _ e; cases e
def Q_pcheck (Z : State) (j : Int32) (z : Int32) (fm : Value) (h0 : Heap) (n0 : Nat) (vQ_ : Option Value) (hQ_ : Heap) (LQ_ : List Loc) : Prop := vQ_ = some (.int j) ∧ Fr n0 LQ_ ∧ hQ_ = h0
theorem rm_pcheck (l : Launch) (Z : State) (a0 : Array Value) (hw : HW a0 Z) (ws : List Jvm.Cond) (j : Int32) (z : Int32) (fm : Value) (h0 : Heap) (n0 : Nat) (Z0 : n0 ≤ h0.size) (hfm : fm.isRef = true) (hj0 : ¬ (j < (0 : Int32))) (hj1 : j < z) :
    CT l yn0 (Jvm.Cond.code yn0 jdk_41_method_11_code 3 (some .int) :: ws) (⟨0, 0, 0, 0⟩ : Room) #[(.int j), (.int z), fm] Z h0 (Q_pcheck Z j z fm h0 n0) := by
  refine MetFree.of_bodySF (plainFor_of_name pn_jdk_internal_util_Preconditions) hisR ?_
  intro p e s m args below meth cO s₁ Bd hml hP hK
  obtain ⟨rfl, hZ, hh⟩ := hP
  have hx := Bd.exec
  have hby := Bd.bytes
  have hown : s.vm.findClass "jdk/internal/util/Preconditions" = some m.cls := findClass_of_methodNamed Bd.named
  have hnm := (name_of_methodNamed Bd.named Bd.method).1
  have X0 : Stand p l e (⟨0, 0, 0, 0⟩ : Room) s m #[(.int j), (.int z), fm] below meth cO s₁ [] 0 0 := Stand.of_body Bd
  have e0 : s₁.heap = h0 := by rw [← hh, Bd.state]; rfl
  have N0 := Fr.nil n0
  have D_ : ∀ {i : Nat} {x}, decode jdk_41_method_11_code i = x → decode cO.code i = x := fun h => hb hby h
  have W0 : ∀ zQ, SS p e below s₁ m 0 #[.val (.int j), .val (.int z), .val fm] [] zQ → Steps p.tables e below (s₁.setTop (entryFrame m #[(.int j), (.int z), fm] 3)) zQ := fun tt kt => castTop (ef_pcheck m j z fm (XT.cat1 hfm)) kt
  have W101 : ∀ zQ, SS p e below s₁ m 17 #[.val (.int j), .val (.int z), .val fm] [(.int j)] zQ → Steps p.tables e below (s₁.setTop (entryFrame m #[(.int j), (.int z), fm] 3)) zQ := by
    intro tt kt
    refine W0 tt ?_
    refine XS.iloadN X0.here hx rfl (D_ d0_0) rfl ?_
    refine XS.ifNo X0.here hx rfl (D_ d0_1) rfl ((if0 _ _).trans (flt hj0).1) ?_
    refine XS.iloadN X0.here hx rfl (D_ d0_4) rfl ?_
    refine XS.iloadN X0.here hx rfl (D_ d0_5) rfl ?_
    refine XS.icmpYes X0.here hx rfl (pc0 := 6) (pc' := 16) rfl (D_ d0_6) rfl (tlt hj1).1 (by decide) (by decide) ?_
    refine XS.iloadN X0.here hx rfl (D_ d0_16) rfl ?_
    exact kt
  obtain ⟨fs, hr, hrun, hended, hW, hsame⟩ := X0.leave (v := some (.int j)) (fun h => by rw [Bd.returns] at h; cases h)
  refine ⟨_, _, W101 _ (retI X0 hx Bd.returns (D_ d0_17) hr), hrun, hended, _, _, rfl, ?_, ⟨_, rfl⟩, hW, hsame.mono (by decide) (by decide)⟩
  show Q_pcheck Z j z fm h0 n0 _ s₁.heap _
  rw [e0]
  exact ⟨rfl, N0, rfl⟩
def Q_scheck (Z : State) (j : Int32) (z : Int32) (fm : Value) (h0 : Heap) (n0 : Nat) (vQ_ : Option Value) (hQ_ : Heap) (LQ_ : List Loc) : Prop := vQ_ = none ∧ Fr n0 LQ_ ∧ hQ_ = h0
theorem rm_scheck (l : Launch) (Z : State) (a0 : Array Value) (hw : HW a0 Z) (ws : List Jvm.Cond) (j : Int32) (z : Int32) (fm : Value) (h0 : Heap) (n0 : Nat) (Z0 : n0 ≤ h0.size) (O0 : Old Z n0 h0) (S_fm : Sta Z Z.heap "jdk/internal/util/Preconditions" "SIOOBE_FORMATTER" "Ljava/util/function/BiFunction;" fm) (hfm : fm.isRef = true) (hj0 : ¬ (j < (0 : Int32))) (hj1 : j < z) :
    CT l yn1 (Jvm.Cond.code yn1 jdk_42_method_155_code 2 none :: ws) (⟨1, 0, 0, 14⟩ : Room) #[(.int j), (.int z)] Z h0 (Q_scheck Z j z fm h0 n0) := by
  refine MetFree.of_bodySF (plainFor_of_name pn_java_lang_String) hisR ?_
  intro p e s m args below meth cO s₁ Bd hml hP hK
  obtain ⟨rfl, hZ, hh⟩ := hP
  have hx := Bd.exec
  have hby := Bd.bytes
  have hown : s.vm.findClass "java/lang/String" = some m.cls := findClass_of_methodNamed Bd.named
  have hnm := (name_of_methodNamed Bd.named Bd.method).1
  have X0 : Stand p l e (⟨1, 0, 0, 14⟩ : Room) s m #[(.int j), (.int z)] below meth cO s₁ [] 0 0 := Stand.of_body Bd
  have e0 : s₁.heap = h0 := by rw [← hh, Bd.state]; rfl
  have N0 := Fr.nil n0
  have D_ : ∀ {i : Nat} {x}, decode jdk_42_method_155_code i = x → decode cO.code i = x := fun h => hb hby h
  have W0 : ∀ zQ, SS p e below s₁ m 0 #[.val (.int j), .val (.int z)] [] zQ → Steps p.tables e below (s₁.setTop (entryFrame m #[(.int j), (.int z)] 2)) zQ := fun tt kt => castTop (ef_scheck m j z) kt
  have F102 : Sta Z h0 "jdk/internal/util/Preconditions" "SIOOBE_FORMATTER" "Ljava/util/function/BiFunction;" fm := S_fm.ext O0.2
  obtain ⟨T101, X101, e101, st101⟩ := getS2 X0 hx hZ hown (host := "") (Or.inl (w91 hw)) Via.refl e0 F102 (g := (mkF m 2 #[.val (.int j), .val (.int z)] [(.int z), (.int j)])) rfl (D_ d1_2)
  obtain ⟨_, _, ⟨T103, L103, k103, n103⟩, -, X103, ⟨Lc103, hQ103, l103, y103, z103⟩, st103⟩ := Jvm.LawKit.callS X101 hx (y := yn0) hown (mvT hZ (w145 hw)) (mvT hZ (w146 hw)) (mvT hZ (w92 hw)) (mvT hZ (w147 hw)) (by decide) (backOf (W := 0) (rm_pcheck l Z a0 hw [] j z fm h0 n0 Z0 hfm hj0 hj1) hZ (w147 hw) (w92 hw) (by decide) (by decide)) (g := (mkF m 5 #[.val (.int j), .val (.int z)] [fm, (.int z), (.int j)])) rfl (by rw [hml]; rfl) (argsL := [(.int j), (.int z), fm]) (rest := []) (lenOf pd0 rfl) rfl (wq rfl) (D_ d1_5) (fun _ _ => ⟨rfl, e101, (nb rfl), (nb rfl)⟩)
  dsimp only [Pt.U, Pt.locs, Pt.cells, Pt.slots] at X103 l103 y103 z103 st103 hQ103
  subst l103 y103 z103
  obtain ⟨rfl, Nq103, eq103⟩ := hQ103
  have N103 := Fr.app N0 Nq103
  have W104 : ∀ zQ, SS p e below T103 m 9 #[.val (.int j), .val (.int z)] [] zQ → Steps p.tables e below (s₁.setTop (entryFrame m #[(.int j), (.int z)] 2)) zQ := by
    intro tt kt
    refine W0 tt ?_
    refine XS.iloadN X0.here hx rfl (D_ d1_0) rfl ?_
    refine XS.iloadN X0.here hx rfl (D_ d1_1) rfl ?_
    refine st101 _ ?_
    refine st103 _ ?_
    refine XS.pop X103.here hx rfl (D_ d1_8) rfl rfl ?_
    exact kt
  obtain ⟨fs, hr, hrun, hended, hW, hsame⟩ := X103.leave (v := none) (fun _ => rfl)
  refine ⟨_, _, W104 _ (X103.returnOut hx Bd.returns (D_ d1_9) hr), hrun, hended, _, _, rfl, ?_, ⟨_, rfl⟩, hW, hsame.mono (by decide) (by decide)⟩
  show Q_scheck Z j z fm h0 n0 _ T103.heap _
  rw [eq103]
  exact ⟨rfl, N103, rfl⟩
def Q_l1charAt (Z : State) (t : Addr) (i : Nat) (kb : ClassId) (cs : List Int32) (fm : Value) (h0 : Heap) (n0 : Nat) (vQ_ : Option Value) (hQ_ : Heap) (LQ_ : List Loc) : Prop := vQ_ = some (.int (cs.getD i 0)) ∧ Fr n0 LQ_ ∧ hQ_ = h0
theorem rm_l1charAt (l : Launch) (Z : State) (a0 : Array Value) (hw : HW a0 Z) (ws : List Jvm.Cond) (t : Addr) (i : Nat) (kb : ClassId) (cs : List Int32) (fm : Value) (h0 : Heap) (n0 : Nat) (Z0 : n0 ≤ h0.size) (O0 : Old Z n0 h0) (S_fm : Sta Z Z.heap "jdk/internal/util/Preconditions" "SIOOBE_FORMATTER" "Ljava/util/function/BiFunction;" fm) (hfm : fm.isRef = true) (A1 : Arv Z h0 t kb .byte (Int32.ofNat cs.length) (l1 cs) (.int (0 : Int32))) (hi : i < cs.length) (ok : OkS cs) (hl : lat cs = true) :
    CT l yn2 (Jvm.Cond.code yn2 jdk_43_method_2_code 2 (some .char) :: ws) (⟨2, 0, 0, 27⟩ : Room) #[(.ref t), (.int (Int32.ofNat i))] Z h0 (Q_l1charAt Z t i kb cs fm h0 n0) := by
  refine MetFree.of_bodySF (plainFor_of_name pn_java_lang_StringLatin1) hisR ?_
  intro p e s m args below meth cO s₁ Bd hml hP hK
  obtain ⟨rfl, hZ, hh⟩ := hP
  have hx := Bd.exec
  have hby := Bd.bytes
  have hown : s.vm.findClass "java/lang/StringLatin1" = some m.cls := findClass_of_methodNamed Bd.named
  have hnm := (name_of_methodNamed Bd.named Bd.method).1
  have X0 : Stand p l e (⟨2, 0, 0, 27⟩ : Room) s m #[(.ref t), (.int (Int32.ofNat i))] below meth cO s₁ [] 0 0 := Stand.of_body Bd
  have e0 : s₁.heap = h0 := by rw [← hh, Bd.state]; rfl
  have N0 := Fr.nil n0
  have D_ : ∀ {i : Nat} {x}, decode jdk_43_method_2_code i = x → decode cO.code i = x := fun h => hb hby h
  have W0 : ∀ zQ, SS p e below s₁ m 0 #[.val (.ref t), .val (.int (Int32.ofNat i))] [] zQ → Steps p.tables e below (s₁.setTop (entryFrame m #[(.ref t), (.int (Int32.ofNat i))] 2)) zQ := fun tt kt => castTop (ef_l1charAt m t (Int32.ofNat i)) kt
  obtain ⟨cl101, Ar101, -, S101, M101, -, -⟩ := id A1
  obtain ⟨_, _, ⟨T102, L102, k102, n102⟩, -, X102, ⟨Lc102, hQ102, l102, y102, z102⟩, st102⟩ := Jvm.LawKit.callS X0 hx (y := yn1) hown (mvT hZ (w142 hw)) (mvT hZ (w143 hw)) (mvT hZ (w8 hw)) (mvT hZ (w144 hw)) (by decide) (backOf (W := 0) (rm_scheck l Z a0 hw [] (Int32.ofNat i) (Int32.ofNat cs.length) fm h0 n0 Z0 O0 S_fm hfm (own_nneg (Nat.lt_trans hi (Nat.lt_trans ok.2 (by decide)))) (own_lt hi (Nat.lt_trans ok.2 (by decide)))) hZ (w144 hw) (w8 hw) (by decide) (by decide)) (g := (mkF m 3 #[.val (.ref t), .val (.int (Int32.ofNat i))] [(.int (Int32.ofNat cs.length)), (.int (Int32.ofNat i))])) rfl (by rw [hml]; rfl) (argsL := [(.int (Int32.ofNat i)), (.int (Int32.ofNat cs.length))]) (rest := []) (lenOf pd1 rfl) rfl (wq rfl) (D_ d2_3) (fun _ _ => ⟨rfl, e0, (nb rfl), (nb rfl)⟩)
  dsimp only [Pt.U, Pt.locs, Pt.cells, Pt.slots] at X102 l102 y102 z102 st102 hQ102
  subst l102 y102 z102
  obtain ⟨rfl, Nq102, eq102⟩ := hQ102
  have N102 := Fr.app N0 Nq102
  obtain ⟨cl103, Ar103, q103, S103, M103, H103, F103g⟩ := id A1
  have hin103 : ¬ ((Int32.ofNat i) < 0 ∨ cl103.slots.size ≤ ((Int32.ofNat i)).toNatClampNeg) := inb_of S103 ⟨own_nneg (Nat.lt_trans hi (Nat.lt_trans ok.2 (by decide))), own_lt hi (Nat.lt_trans ok.2 (by decide))⟩
  have hat103 : cl103.slots[((Int32.ofNat i)).toNatClampNeg]? = some (.int ((cs.getD i 0).toInt8.toInt32)) := Has.at H103 hin103 (by rw [own_cl (Nat.lt_trans hi (Nat.lt_trans ok.2 (by decide)))]; exact l1_at cs i _ hi)
  have W104 : ∀ zQ, SS p e below T102 m 14 #[.val (.ref t), .val (.int (Int32.ofNat i))] [(.int ((((cs.getD i 0).toInt8.toInt32) &&& (255 : Int32)).toUInt32.toUInt16.toUInt32.toInt32))] zQ → Steps p.tables e below (s₁.setTop (entryFrame m #[(.ref t), (.int (Int32.ofNat i))] 2)) zQ := by
    intro tt kt
    refine W0 tt ?_
    refine XS.iloadN X0.here hx rfl (D_ d2_0) rfl ?_
    refine XS.aloadN X0.here hx rfl (D_ d2_1) rfl rfl ?_
    refine X0.arraylength hx (by first | exact Ar101.1 | (rw [e0]; exact Ar101.1)) (State.isArrayOf_alike hZ.alike Ar101.2.1) (g := (mkF m 2 #[.val (.ref t), .val (.int (Int32.ofNat i))] [(.ref t), (.int (Int32.ofNat i))])) rfl rfl (D_ d2_2) _ ?_
    rw [len_of S101 M101]
    refine st102 _ ?_
    refine XS.aloadN X102.here hx rfl (D_ d2_6) rfl rfl ?_
    refine XS.iloadN X102.here hx rfl (D_ d2_7) rfl ?_
    refine X102.baloadBytes hx (j := (Int32.ofNat i)) (v := (.int ((cs.getD i 0).toInt8.toInt32))) (by first | exact Ar103.1 | (rw [eq102]; exact Ar103.1)) (State.isArrayOf_alike hZ.alike Ar103.2.1) Ar103.2.2 hin103 hat103 (g := (mkF m 8 #[.val (.ref t), .val (.int (Int32.ofNat i))] [(.int (Int32.ofNat i)), (.ref t)])) rfl rfl (D_ d2_8) _ ?_
    refine XS.sipush X102.here hx rfl (D_ d2_9) ?_
    refine XS.iand X102.here hx rfl (D_ d2_12) rfl ?_
    refine XS.i2c X102.here hx rfl (D_ d2_13) rfl ?_
    exact kt
  obtain ⟨fs, hr, hrun, hended, hW, hsame⟩ := X102.leave (v := some (.int (nar .char ((((cs.getD i 0).toInt8.toInt32) &&& (255 : Int32)).toUInt32.toUInt16.toUInt32.toInt32)))) (fun h => by rw [Bd.returns] at h; cases h)
  refine ⟨_, _, W104 _ (retN X102 hx (t := .char) Bd.returns (by simp) (D_ d2_14) hr), hrun, hended, _, _, rfl, ?_, ⟨_, rfl⟩, hW, hsame.mono (by decide) (by decide)⟩
  show Q_l1charAt Z t i kb cs fm h0 n0 _ T102.heap _
  rw [eq102]
  exact ⟨(congrArg (fun q => some (Value.int q)) (own_l1c (ok.at hi).1 (lat_at hl hi))), N102, rfl⟩
def Q_u16length (Z : State) (t : Addr) (N : Nat) (kb : ClassId) (vs : List Value) (h0 : Heap) (n0 : Nat) (vQ_ : Option Value) (hQ_ : Heap) (LQ_ : List Loc) : Prop := vQ_ = some (.int (Int32.ofNat N)) ∧ Fr n0 LQ_ ∧ hQ_ = h0
theorem rm_u16length (l : Launch) (Z : State) (a0 : Array Value) (hw : HW a0 Z) (ws : List Jvm.Cond) (t : Addr) (N : Nat) (kb : ClassId) (vs : List Value) (h0 : Heap) (n0 : Nat) (Z0 : n0 ≤ h0.size) (A1 : Arv Z h0 t kb .byte (Int32.ofNat (2 * N)) vs (.int (0 : Int32))) (hN : 2 * N < 2147483648) :
    CT l yn3 (Jvm.Cond.code yn3 jdk_52_method_6_code 1 (some .int) :: ws) (⟨0, 0, 0, 0⟩ : Room) #[(.ref t)] Z h0 (Q_u16length Z t N kb vs h0 n0) := by
  refine MetFree.of_bodySF (plainFor_of_name pn_java_lang_StringUTF16) hisR ?_
  intro p e s m args below meth cO s₁ Bd hml hP hK
  obtain ⟨rfl, hZ, hh⟩ := hP
  have hx := Bd.exec
  have hby := Bd.bytes
  have hown : s.vm.findClass "java/lang/StringUTF16" = some m.cls := findClass_of_methodNamed Bd.named
  have hnm := (name_of_methodNamed Bd.named Bd.method).1
  have X0 : Stand p l e (⟨0, 0, 0, 0⟩ : Room) s m #[(.ref t)] below meth cO s₁ [] 0 0 := Stand.of_body Bd
  have e0 : s₁.heap = h0 := by rw [← hh, Bd.state]; rfl
  have N0 := Fr.nil n0
  have D_ : ∀ {i : Nat} {x}, decode jdk_52_method_6_code i = x → decode cO.code i = x := fun h => hb hby h
  have W0 : ∀ zQ, SS p e below s₁ m 0 #[.val (.ref t)] [] zQ → Steps p.tables e below (s₁.setTop (entryFrame m #[(.ref t)] 1)) zQ := fun tt kt => castTop (ef_u16length m t) kt
  obtain ⟨cl101, Ar101, -, S101, M101, -, -⟩ := id A1
  have W102 : ∀ zQ, SS p e below s₁ m 4 #[.val (.ref t)] [(.int (Int32.ofNat N))] zQ → Steps p.tables e below (s₁.setTop (entryFrame m #[(.ref t)] 1)) zQ := by
    intro tt kt
    refine W0 tt ?_
    refine XS.aloadN X0.here hx rfl (D_ d3_0) rfl rfl ?_
    refine X0.arraylength hx (by first | exact Ar101.1 | (rw [e0]; exact Ar101.1)) (State.isArrayOf_alike hZ.alike Ar101.2.1) (g := (mkF m 1 #[.val (.ref t)] [(.ref t)])) rfl rfl (D_ d3_1) _ ?_
    rw [len_of S101 M101]
    refine XS.iconst X0.here hx rfl (D_ d3_2) ?_
    refine XS.ishr X0.here hx rfl (D_ d3_3) rfl ?_
    show SS p e below s₁ m 4 #[.val (.ref t)] [(.int ((Int32.ofNat (2 * N)) >>> ((1 : Int32) &&& 31)))] _
    rw [show ((Int32.ofNat (2 * N)) >>> ((1 : Int32) &&& 31)) = (Int32.ofNat N) from own_shr1 hN]
    exact kt
  obtain ⟨fs, hr, hrun, hended, hW, hsame⟩ := X0.leave (v := some (.int (Int32.ofNat N))) (fun h => by rw [Bd.returns] at h; cases h)
  refine ⟨_, _, W102 _ (retI X0 hx Bd.returns (D_ d3_4) hr), hrun, hended, _, _, rfl, ?_, ⟨_, rfl⟩, hW, hsame.mono (by decide) (by decide)⟩
  show Q_u16length Z t N kb vs h0 n0 _ s₁.heap _
  rw [e0]
  exact ⟨rfl, N0, rfl⟩
def Q_u16check (Z : State) (t : Addr) (i : Nat) (N : Nat) (kb : ClassId) (vs : List Value) (fm : Value) (h0 : Heap) (n0 : Nat) (vQ_ : Option Value) (hQ_ : Heap) (LQ_ : List Loc) : Prop := vQ_ = none ∧ Fr n0 LQ_ ∧ hQ_ = h0
theorem rm_u16check (l : Launch) (Z : State) (a0 : Array Value) (hw : HW a0 Z) (ws : List Jvm.Cond) (t : Addr) (i : Nat) (N : Nat) (kb : ClassId) (vs : List Value) (fm : Value) (h0 : Heap) (n0 : Nat) (Z0 : n0 ≤ h0.size) (O0 : Old Z n0 h0) (S_fm : Sta Z Z.heap "jdk/internal/util/Preconditions" "SIOOBE_FORMATTER" "Ljava/util/function/BiFunction;" fm) (hfm : fm.isRef = true) (A1 : Arv Z h0 t kb .byte (Int32.ofNat (2 * N)) vs (.int (0 : Int32))) (hN : 2 * N < 2147483648) (hi : i < N) :
    CT l yn4 (Jvm.Cond.code yn4 jdk_52_method_91_code 2 none :: ws) (⟨2, 0, 0, 27⟩ : Room) #[(.int (Int32.ofNat i)), (.ref t)] Z h0 (Q_u16check Z t i N kb vs fm h0 n0) := by
  refine MetFree.of_bodySF (plainFor_of_name pn_java_lang_StringUTF16) hisR ?_
  intro p e s m args below meth cO s₁ Bd hml hP hK
  obtain ⟨rfl, hZ, hh⟩ := hP
  have hx := Bd.exec
  have hby := Bd.bytes
  have hown : s.vm.findClass "java/lang/StringUTF16" = some m.cls := findClass_of_methodNamed Bd.named
  have hnm := (name_of_methodNamed Bd.named Bd.method).1
  have X0 : Stand p l e (⟨2, 0, 0, 27⟩ : Room) s m #[(.int (Int32.ofNat i)), (.ref t)] below meth cO s₁ [] 0 0 := Stand.of_body Bd
  have e0 : s₁.heap = h0 := by rw [← hh, Bd.state]; rfl
  have N0 := Fr.nil n0
  have D_ : ∀ {i : Nat} {x}, decode jdk_52_method_91_code i = x → decode cO.code i = x := fun h => hb hby h
  have W0 : ∀ zQ, SS p e below s₁ m 0 #[.val (.int (Int32.ofNat i)), .val (.ref t)] [] zQ → Steps p.tables e below (s₁.setTop (entryFrame m #[(.int (Int32.ofNat i)), (.ref t)] 2)) zQ := fun tt kt => castTop (ef_u16check m (Int32.ofNat i) t) kt
  obtain ⟨_, _, ⟨T101, L101, k101, n101⟩, -, X101, ⟨Lc101, hQ101, l101, y101, z101⟩, st101⟩ := Jvm.LawKit.callS X0 hx (y := yn3) hown (mvT hZ (w179 hw)) (mvT hZ (w180 hw)) (mvT hZ (w22 hw)) (mvT hZ (w181 hw)) (by decide) (backOf (W := 1) (rm_u16length l Z a0 hw [] t N kb vs h0 n0 Z0 A1 hN) hZ (w181 hw) (w22 hw) (by decide) (by decide)) (g := (mkF m 2 #[.val (.int (Int32.ofNat i)), .val (.ref t)] [(.ref t), (.int (Int32.ofNat i))])) rfl (by rw [hml]; rfl) (argsL := [(.ref t)]) (rest := [(.int (Int32.ofNat i))]) (lenOf pd2 rfl) rfl (wq rfl) (D_ d4_2) (fun _ _ => ⟨rfl, e0, (nb rfl), (nb rfl)⟩)
  dsimp only [Pt.U, Pt.locs, Pt.cells, Pt.slots] at X101 l101 y101 z101 st101 hQ101
  subst l101 y101 z101
  obtain ⟨rfl, Nq101, eq101⟩ := hQ101
  have N101 := Fr.app N0 Nq101
  obtain ⟨_, _, ⟨T102, L102, k102, n102⟩, -, X102, ⟨Lc102, hQ102, l102, y102, z102⟩, st102⟩ := Jvm.LawKit.callS X101 hx (y := yn1) hown (mvT hZ (w216 hw)) (mvT hZ (w143 hw)) (mvT hZ (w8 hw)) (mvT hZ (w144 hw)) (by decide) (backOf (W := 0) (rm_scheck l Z a0 hw [] (Int32.ofNat i) (Int32.ofNat N) fm h0 n0 Z0 O0 S_fm hfm (own_nneg (by omega)) (own_lt hi (by omega))) hZ (w144 hw) (w8 hw) (by decide) (by decide)) (g := (mkF m 5 #[.val (.int (Int32.ofNat i)), .val (.ref t)] [(.int (Int32.ofNat N)), (.int (Int32.ofNat i))])) rfl (by rw [hml]; rfl) (argsL := [(.int (Int32.ofNat i)), (.int (Int32.ofNat N))]) (rest := []) (lenOf pd1 rfl) rfl (wq rfl) (D_ d4_5) (fun _ _ => ⟨rfl, eq101, (nb rfl), (nb rfl)⟩)
  dsimp only [Pt.U, Pt.locs, Pt.cells, Pt.slots] at X102 l102 y102 z102 st102 hQ102
  subst l102 y102 z102
  obtain ⟨rfl, Nq102, eq102⟩ := hQ102
  have N102 := Fr.app N101 Nq102
  have W103 : ∀ zQ, SS p e below T102 m 8 #[.val (.int (Int32.ofNat i)), .val (.ref t)] [] zQ → Steps p.tables e below (s₁.setTop (entryFrame m #[(.int (Int32.ofNat i)), (.ref t)] 2)) zQ := by
    intro tt kt
    refine W0 tt ?_
    refine XS.iloadN X0.here hx rfl (D_ d4_0) rfl ?_
    refine XS.aloadN X0.here hx rfl (D_ d4_1) rfl rfl ?_
    refine st101 _ ?_
    refine st102 _ ?_
    exact kt
  obtain ⟨fs, hr, hrun, hended, hW, hsame⟩ := X102.leave (v := none) (fun _ => rfl)
  refine ⟨_, _, W103 _ (X102.returnOut hx Bd.returns (D_ d4_8) hr), hrun, hended, _, _, rfl, ?_, ⟨_, rfl⟩, hW, hsame.mono (by decide) (by decide)⟩
  show Q_u16check Z t i N kb vs fm h0 n0 _ T102.heap _
  rw [eq102]
  exact ⟨rfl, N102, rfl⟩
def Q_getChar (Z : State) (t : Addr) (i : Nat) (kb : ClassId) (cs : List Int32) (h0 : Heap) (n0 : Nat) (vQ_ : Option Value) (hQ_ : Heap) (LQ_ : List Loc) : Prop := vQ_ = some (.int (cs.getD i 0)) ∧ Fr n0 LQ_ ∧ hQ_ = h0
theorem rm_getChar (l : Launch) (Z : State) (a0 : Array Value) (hw : HW a0 Z) (ws : List Jvm.Cond) (t : Addr) (i : Nat) (kb : ClassId) (cs : List Int32) (h0 : Heap) (n0 : Nat) (Z0 : n0 ≤ h0.size) (O0 : Old Z n0 h0) (S_ad : Sta Z Z.heap "java/lang/StringUTF16" "$assertionsDisabled" "Z" (.int (1 : Int32))) (S_hi : Sta Z Z.heap "java/lang/StringUTF16" "HI_BYTE_SHIFT" "I" (.int (0 : Int32))) (S_lo : Sta Z Z.heap "java/lang/StringUTF16" "LO_BYTE_SHIFT" "I" (.int (8 : Int32))) (A1 : Arv Z h0 t kb .byte (Int32.ofNat (2 * cs.length)) (u16 cs) (.int (0 : Int32))) (hi : i < cs.length) (ok : OkS cs) :
    CT l yn5 (Jvm.Cond.code yn5 jdk_52_method_5_code 2 (some .char) :: ws) (⟨0, 0, 0, 0⟩ : Room) #[(.ref t), (.int (Int32.ofNat i))] Z h0 (Q_getChar Z t i kb cs h0 n0) := by
  refine MetFree.of_bodySF (plainFor_of_name pn_java_lang_StringUTF16) hisR ?_
  intro p e s m args below meth cO s₁ Bd hml hP hK
  obtain ⟨rfl, hZ, hh⟩ := hP
  have hx := Bd.exec
  have hby := Bd.bytes
  have hown : s.vm.findClass "java/lang/StringUTF16" = some m.cls := findClass_of_methodNamed Bd.named
  have hnm := (name_of_methodNamed Bd.named Bd.method).1
  have X0 : Stand p l e (⟨0, 0, 0, 0⟩ : Room) s m #[(.ref t), (.int (Int32.ofNat i))] below meth cO s₁ [] 0 0 := Stand.of_body Bd
  have e0 : s₁.heap = h0 := by rw [← hh, Bd.state]; rfl
  have N0 := Fr.nil n0
  have D_ : ∀ {i : Nat} {x}, decode jdk_52_method_5_code i = x → decode cO.code i = x := fun h => hb hby h
  have W0 : ∀ zQ, SS p e below s₁ m 0 #[.val (.ref t), .val (.int (Int32.ofNat i))] [] zQ → Steps p.tables e below (s₁.setTop (entryFrame m #[(.ref t), (.int (Int32.ofNat i))] 2)) zQ := fun tt kt => castTop (ef_getChar m t (Int32.ofNat i)) kt
  have hn : cs.length < 1048576 := ok.2
  have F102 : Sta Z h0 "java/lang/StringUTF16" "$assertionsDisabled" "Z" (.int (1 : Int32)) := S_ad.ext O0.2
  obtain ⟨T101, X101, e101, st101⟩ := getS2 X0 hx hZ hown (host := "") (Or.inl (w161 hw)) Via.refl e0 F102 (g := (mkF m 0 #[.val (.ref t), .val (.int (Int32.ofNat i))] [])) rfl (D_ d5_0)
  obtain ⟨cl103, Ar103, q103, S103, M103, H103, F103g⟩ := id A1
  have hin103 : ¬ ((Int32.ofNat (2 * i)) < 0 ∨ cl103.slots.size ≤ ((Int32.ofNat (2 * i))).toNatClampNeg) := inb_of S103 ⟨own_nneg (by omega), own_lt (by omega) (by omega)⟩
  have hat103 : cl103.slots[((Int32.ofNat (2 * i))).toNatClampNeg]? = some (.int ((cs.getD i 0 >>> ((0 : Int32) &&& 31)).toInt8.toInt32)) := Has.at H103 hin103 (by rw [own_cl (by omega)]; exact (u16_at cs i _ hi).1)
  have F105 : Sta Z h0 "java/lang/StringUTF16" "HI_BYTE_SHIFT" "I" (.int (0 : Int32)) := S_hi.ext O0.2
  obtain ⟨T104, X104, e104, st104⟩ := getS2 X101 hx hZ hown (host := "") (Or.inl (w162 hw)) Via.refl e101 F105 (g := (mkF m 42 #[.val (.ref t), .val (.int (Int32.ofNat (2 * i + 1)))] [(.int (((cs.getD i 0 >>> ((0 : Int32) &&& 31)).toInt8.toInt32) &&& (255 : Int32)))])) rfl (D_ d5_42)
  obtain ⟨cl106, Ar106, q106, S106, M106, H106, F106g⟩ := id A1
  have hin106 : ¬ ((Int32.ofNat (2 * i + 1)) < 0 ∨ cl106.slots.size ≤ ((Int32.ofNat (2 * i + 1))).toNatClampNeg) := inb_of S106 ⟨own_nneg (by omega), own_lt (by omega) (by omega)⟩
  have hat106 : cl106.slots[((Int32.ofNat (2 * i + 1))).toNatClampNeg]? = some (.int ((cs.getD i 0 >>> ((8 : Int32) &&& 31)).toInt8.toInt32)) := Has.at H106 hin106 (by rw [own_cl (by omega)]; exact (u16_at cs i _ hi).2)
  have F108 : Sta Z h0 "java/lang/StringUTF16" "LO_BYTE_SHIFT" "I" (.int (8 : Int32)) := S_lo.ext O0.2
  obtain ⟨T107, X107, e107, st107⟩ := getS2 X104 hx hZ hown (host := "") (Or.inl (w163 hw)) Via.refl e104 F108 (g := (mkF m 53 #[.val (.ref t), .val (.int (Int32.ofNat (2 * i + 1)))] [(.int (((cs.getD i 0 >>> ((8 : Int32) &&& 31)).toInt8.toInt32) &&& (255 : Int32))), (.int ((((cs.getD i 0 >>> ((0 : Int32) &&& 31)).toInt8.toInt32) &&& (255 : Int32)) <<< ((0 : Int32) &&& 31)))])) rfl (D_ d5_53)
  have W109 : ∀ zQ, SS p e below T107 m 59 #[.val (.ref t), .val (.int (Int32.ofNat (2 * i + 1)))] [(.int ((((((cs.getD i 0 >>> ((0 : Int32) &&& 31)).toInt8.toInt32) &&& (255 : Int32)) <<< ((0 : Int32) &&& 31)) ||| ((((cs.getD i 0 >>> ((8 : Int32) &&& 31)).toInt8.toInt32) &&& (255 : Int32)) <<< ((8 : Int32) &&& 31))).toUInt32.toUInt16.toUInt32.toInt32))] zQ → Steps p.tables e below (s₁.setTop (entryFrame m #[(.ref t), (.int (Int32.ofNat i))] 2)) zQ := by
    intro tt kt
    refine W0 tt ?_
    refine st101 _ ?_
    refine XS.ifYes X101.here hx rfl (pc0 := 3) (pc' := 28) rfl (D_ d5_3) rfl ((if0 _ _).trans (feq (by decide)).2) (by decide) (by decide) ?_
    refine XS.iloadN X101.here hx rfl (D_ d5_28) rfl ?_
    refine XS.iconst X101.here hx rfl (D_ d5_29) ?_
    refine XS.ishl X101.here hx rfl (D_ d5_30) rfl ?_
    show SS p e below T101 m 31 #[.val (.ref t), .val (.int (Int32.ofNat i))] [(.int ((Int32.ofNat i) <<< ((1 : Int32) &&& 31)))] _
    rw [show ((Int32.ofNat i) <<< ((1 : Int32) &&& 31)) = (Int32.ofNat (2 * i)) from own_shl1 (by omega)]
    refine XS.istoreN X101.here hx rfl (D_ d5_31) rfl (l' := #[.val (.ref t), .val (.int (Int32.ofNat (2 * i)))]) rfl ?_
    refine XS.aloadN X101.here hx rfl (D_ d5_32) rfl rfl ?_
    refine XS.iloadN X101.here hx rfl (D_ d5_33) rfl ?_
    refine XS.iinc X101.here hx rfl (D_ d5_34) rfl (l' := #[.val (.ref t), .val (.int ((Int32.ofNat (2 * i)) + (1 : Int32)))]) rfl ?_
    show SS p e below T101 m 37 #[.val (.ref t), .val (.int ((Int32.ofNat (2 * i)) + (1 : Int32)))] [(.int (Int32.ofNat (2 * i))), (.ref t)] _
    rw [show ((Int32.ofNat (2 * i)) + (1 : Int32)) = (Int32.ofNat (2 * i + 1)) from own_succ _]
    refine X101.baloadBytes hx (j := (Int32.ofNat (2 * i))) (v := (.int ((cs.getD i 0 >>> ((0 : Int32) &&& 31)).toInt8.toInt32))) (by first | exact Ar103.1 | (rw [e101]; exact Ar103.1)) (State.isArrayOf_alike hZ.alike Ar103.2.1) Ar103.2.2 hin103 hat103 (g := (mkF m 37 #[.val (.ref t), .val (.int (Int32.ofNat (2 * i + 1)))] [(.int (Int32.ofNat (2 * i))), (.ref t)])) rfl rfl (D_ d5_37) _ ?_
    refine XS.sipush X101.here hx rfl (D_ d5_38) ?_
    refine XS.iand X101.here hx rfl (D_ d5_41) rfl ?_
    refine st104 _ ?_
    refine XS.ishl X104.here hx rfl (D_ d5_45) rfl ?_
    refine XS.aloadN X104.here hx rfl (D_ d5_46) rfl rfl ?_
    refine XS.iloadN X104.here hx rfl (D_ d5_47) rfl ?_
    refine X104.baloadBytes hx (j := (Int32.ofNat (2 * i + 1))) (v := (.int ((cs.getD i 0 >>> ((8 : Int32) &&& 31)).toInt8.toInt32))) (by first | exact Ar106.1 | (rw [e104]; exact Ar106.1)) (State.isArrayOf_alike hZ.alike Ar106.2.1) Ar106.2.2 hin106 hat106 (g := (mkF m 48 #[.val (.ref t), .val (.int (Int32.ofNat (2 * i + 1)))] [(.int (Int32.ofNat (2 * i + 1))), (.ref t), (.int ((((cs.getD i 0 >>> ((0 : Int32) &&& 31)).toInt8.toInt32) &&& (255 : Int32)) <<< ((0 : Int32) &&& 31)))])) rfl rfl (D_ d5_48) _ ?_
    refine XS.sipush X104.here hx rfl (D_ d5_49) ?_
    refine XS.iand X104.here hx rfl (D_ d5_52) rfl ?_
    refine st107 _ ?_
    refine XS.ishl X107.here hx rfl (D_ d5_56) rfl ?_
    refine XS.ior X107.here hx rfl (D_ d5_57) rfl ?_
    refine XS.i2c X107.here hx rfl (D_ d5_58) rfl ?_
    exact kt
  obtain ⟨fs, hr, hrun, hended, hW, hsame⟩ := X107.leave (v := some (.int (nar .char ((((((cs.getD i 0 >>> ((0 : Int32) &&& 31)).toInt8.toInt32) &&& (255 : Int32)) <<< ((0 : Int32) &&& 31)) ||| ((((cs.getD i 0 >>> ((8 : Int32) &&& 31)).toInt8.toInt32) &&& (255 : Int32)) <<< ((8 : Int32) &&& 31))).toUInt32.toUInt16.toUInt32.toInt32)))) (fun h => by rw [Bd.returns] at h; cases h)
  refine ⟨_, _, W109 _ (retN X107 hx (t := .char) Bd.returns (by simp) (D_ d5_59) hr), hrun, hended, _, _, rfl, ?_, ⟨_, rfl⟩, hW, hsame.mono (by decide) (by decide)⟩
  show Q_getChar Z t i kb cs h0 n0 _ T107.heap _
  rw [e107]
  exact ⟨(congrArg (fun q => some (Value.int q)) (own_u16c (ok.at hi).1 (ok.at hi).2)), N0, rfl⟩
def Q_u16charAt (Z : State) (t : Addr) (i : Nat) (kb : ClassId) (cs : List Int32) (fm : Value) (h0 : Heap) (n0 : Nat) (vQ_ : Option Value) (hQ_ : Heap) (LQ_ : List Loc) : Prop := vQ_ = some (.int (cs.getD i 0)) ∧ Fr n0 LQ_ ∧ hQ_ = h0
theorem rm_u16charAt (l : Launch) (Z : State) (a0 : Array Value) (hw : HW a0 Z) (ws : List Jvm.Cond) (t : Addr) (i : Nat) (kb : ClassId) (cs : List Int32) (fm : Value) (h0 : Heap) (n0 : Nat) (Z0 : n0 ≤ h0.size) (O0 : Old Z n0 h0) (S_fm : Sta Z Z.heap "jdk/internal/util/Preconditions" "SIOOBE_FORMATTER" "Ljava/util/function/BiFunction;" fm) (hfm : fm.isRef = true) (S_ad : Sta Z Z.heap "java/lang/StringUTF16" "$assertionsDisabled" "Z" (.int (1 : Int32))) (S_hi : Sta Z Z.heap "java/lang/StringUTF16" "HI_BYTE_SHIFT" "I" (.int (0 : Int32))) (S_lo : Sta Z Z.heap "java/lang/StringUTF16" "LO_BYTE_SHIFT" "I" (.int (8 : Int32))) (A1 : Arv Z h0 t kb .byte (Int32.ofNat (2 * cs.length)) (u16 cs) (.int (0 : Int32))) (hi : i < cs.length) (ok : OkS cs) :
    CT l yn6 (Jvm.Cond.code yn6 jdk_52_method_83_code 2 (some .char) :: ws) (⟨3, 0, 0, 40⟩ : Room) #[(.ref t), (.int (Int32.ofNat i))] Z h0 (Q_u16charAt Z t i kb cs fm h0 n0) := by
  refine MetFree.of_bodySF (plainFor_of_name pn_java_lang_StringUTF16) hisR ?_
  intro p e s m args below meth cO s₁ Bd hml hP hK
  obtain ⟨rfl, hZ, hh⟩ := hP
  have hx := Bd.exec
  have hby := Bd.bytes
  have hown : s.vm.findClass "java/lang/StringUTF16" = some m.cls := findClass_of_methodNamed Bd.named
  have hnm := (name_of_methodNamed Bd.named Bd.method).1
  have X0 : Stand p l e (⟨3, 0, 0, 40⟩ : Room) s m #[(.ref t), (.int (Int32.ofNat i))] below meth cO s₁ [] 0 0 := Stand.of_body Bd
  have e0 : s₁.heap = h0 := by rw [← hh, Bd.state]; rfl
  have N0 := Fr.nil n0
  have D_ : ∀ {i : Nat} {x}, decode jdk_52_method_83_code i = x → decode cO.code i = x := fun h => hb hby h
  have W0 : ∀ zQ, SS p e below s₁ m 0 #[.val (.ref t), .val (.int (Int32.ofNat i))] [] zQ → Steps p.tables e below (s₁.setTop (entryFrame m #[(.ref t), (.int (Int32.ofNat i))] 2)) zQ := fun tt kt => castTop (ef_u16charAt m t (Int32.ofNat i)) kt
  have hn : cs.length < 1048576 := ok.2
  obtain ⟨_, _, ⟨T101, L101, k101, n101⟩, -, X101, ⟨Lc101, hQ101, l101, y101, z101⟩, st101⟩ := Jvm.LawKit.callS X0 hx (y := yn4) hown (mvT hZ (w213 hw)) (mvT hZ (w214 hw)) (mvT hZ (w22 hw)) (mvT hZ (w215 hw)) (by decide) (backOf (W := 0) (rm_u16check l Z a0 hw [] t i cs.length kb (u16 cs) fm h0 n0 Z0 O0 S_fm hfm A1 (by omega) hi) hZ (w215 hw) (w22 hw) (by decide) (by decide)) (g := (mkF m 2 #[.val (.ref t), .val (.int (Int32.ofNat i))] [(.ref t), (.int (Int32.ofNat i))])) rfl (by rw [hml]; rfl) (argsL := [(.int (Int32.ofNat i)), (.ref t)]) (rest := []) (lenOf pd3 rfl) rfl (wq rfl) (D_ d6_2) (fun _ _ => ⟨rfl, e0, (nb rfl), (nb rfl)⟩)
  dsimp only [Pt.U, Pt.locs, Pt.cells, Pt.slots] at X101 l101 y101 z101 st101 hQ101
  subst l101 y101 z101
  obtain ⟨rfl, Nq101, eq101⟩ := hQ101
  have N101 := Fr.app N0 Nq101
  obtain ⟨_, _, ⟨T102, L102, k102, n102⟩, -, X102, ⟨Lc102, hQ102, l102, y102, z102⟩, st102⟩ := Jvm.LawKit.callS X101 hx (y := yn5) hown (mvT hZ (w164 hw)) (mvT hZ (w165 hw)) (mvT hZ (w22 hw)) (mvT hZ (w166 hw)) (by decide) (backOf (W := 0) (rm_getChar l Z a0 hw [] t i kb cs h0 n0 Z0 O0 S_ad S_hi S_lo A1 hi ok) hZ (w166 hw) (w22 hw) (by decide) (by decide)) (g := (mkF m 7 #[.val (.ref t), .val (.int (Int32.ofNat i))] [(.int (Int32.ofNat i)), (.ref t)])) rfl (by rw [hml]; rfl) (argsL := [(.ref t), (.int (Int32.ofNat i))]) (rest := []) (lenOf pd4 rfl) rfl (wq rfl) (D_ d6_7) (fun _ _ => ⟨rfl, eq101, (nb rfl), (nb rfl)⟩)
  dsimp only [Pt.U, Pt.locs, Pt.cells, Pt.slots] at X102 l102 y102 z102 st102 hQ102
  subst l102 y102 z102
  obtain ⟨rfl, Nq102, eq102⟩ := hQ102
  have N102 := Fr.app N101 Nq102
  have W103 : ∀ zQ, SS p e below T102 m 10 #[.val (.ref t), .val (.int (Int32.ofNat i))] [(.int (cs.getD i 0))] zQ → Steps p.tables e below (s₁.setTop (entryFrame m #[(.ref t), (.int (Int32.ofNat i))] 2)) zQ := by
    intro tt kt
    refine W0 tt ?_
    refine XS.iloadN X0.here hx rfl (D_ d6_0) rfl ?_
    refine XS.aloadN X0.here hx rfl (D_ d6_1) rfl rfl ?_
    refine st101 _ ?_
    refine XS.aloadN X101.here hx rfl (D_ d6_5) rfl rfl ?_
    refine XS.iloadN X101.here hx rfl (D_ d6_6) rfl ?_
    refine st102 _ ?_
    exact kt
  obtain ⟨fs, hr, hrun, hended, hW, hsame⟩ := X102.leave (v := some (.int (nar .char (cs.getD i 0)))) (fun h => by rw [Bd.returns] at h; cases h)
  refine ⟨_, _, W103 _ (retN X102 hx (t := .char) Bd.returns (by simp) (D_ d6_10) hr), hrun, hended, _, _, rfl, ?_, ⟨_, rfl⟩, hW, hsame.mono (by decide) (by decide)⟩
  show Q_u16charAt Z t i kb cs fm h0 n0 _ T102.heap _
  rw [eq102]
  exact ⟨(congrArg (fun q => some (Value.int q)) (own_narc (ok.at hi).1 (ok.at hi).2)), N102, rfl⟩
def Q_isLatin1 (Z : State) (a : Addr) (w : Int32) (cS : Int32) (h0 : Heap) (n0 : Nat) (vQ_ : Option Value) (hQ_ : Heap) (LQ_ : List Loc) : Prop := vQ_ = some (.int (if w = (0 : Int32) then (1 : Int32) else (0 : Int32))) ∧ Fr n0 LQ_ ∧ hQ_ = h0
theorem rm_isLatin1 (l : Launch) (Z : State) (a0 : Array Value) (hw : HW a0 Z) (ws : List Jvm.Cond) (a : Addr) (w : Int32) (cS : Int32) (h0 : Heap) (n0 : Nat) (Z0 : n0 ≤ h0.size) (O0 : Old Z n0 h0) (S_cs : Sta Z Z.heap "java/lang/String" "COMPACT_STRINGS" "Z" (.int cS)) (hcS : ¬ (cS = (0 : Int32))) (F1 : Fld Z h0 a "java/lang/String" "coder" "B" (.int w)) :
    CT l yn7 (Jvm.Cond.code yn7 jdk_42_method_154_code 1 (some .boolean) :: ws) (⟨0, 0, 0, 0⟩ : Room) #[(.ref a)] Z h0 (Q_isLatin1 Z a w cS h0 n0) := by
  refine MetFree.of_bodySF (plainFor_of_name pn_java_lang_String) hisR ?_
  intro p e s m args below meth cO s₁ Bd hml hP hK
  obtain ⟨rfl, hZ, hh⟩ := hP
  have hx := Bd.exec
  have hby := Bd.bytes
  have hown : s.vm.findClass "java/lang/String" = some m.cls := findClass_of_methodNamed Bd.named
  have hnm := (name_of_methodNamed Bd.named Bd.method).1
  have X0 : Stand p l e (⟨0, 0, 0, 0⟩ : Room) s m #[(.ref a)] below meth cO s₁ [] 0 0 := Stand.of_body Bd
  have e0 : s₁.heap = h0 := by rw [← hh, Bd.state]; rfl
  have N0 := Fr.nil n0
  have D_ : ∀ {i : Nat} {x}, decode jdk_42_method_154_code i = x → decode cO.code i = x := fun h => hb hby h
  have W0 : ∀ zQ, SS p e below s₁ m 0 #[.val (.ref a)] [] zQ → Steps p.tables e below (s₁.setTop (entryFrame m #[(.ref a)] 1)) zQ := fun tt kt => castTop (ef_isLatin1 m a) kt
  have F102 : Sta Z h0 "java/lang/String" "COMPACT_STRINGS" "Z" (.int cS) := S_cs.ext O0.2
  obtain ⟨T101, X101, e101, st101⟩ := getS2 X0 hx hZ hown (host := "") (Or.inl (w19 hw)) Via.refl e0 F102 (g := (mkF m 0 #[.val (.ref a)] [])) rfl (D_ d7_0)
  obtain ⟨T103, X103, e103, st103⟩ := getF X101 hx hZ hown (host := "") (Or.inl (w31 hw)) Via.refl e101 F1 (g := (mkF m 7 #[.val (.ref a)] [(.ref a)])) rfl rfl (D_ d7_7)
  have W104 : ∀ zQ, SS p e below T103 m 10 #[.val (.ref a)] [(.int w)] zQ → Steps p.tables e below (s₁.setTop (entryFrame m #[(.ref a)] 1)) zQ := by
    intro tt kt
    refine W0 tt ?_
    refine st101 _ ?_
    refine XS.ifNo X101.here hx rfl (D_ d7_3) rfl ((if0 _ _).trans (feq hcS).1) ?_
    refine XS.aloadN X101.here hx rfl (D_ d7_6) rfl rfl ?_
    refine st103 _ ?_
    exact kt
  have W106 : ∀ zQ, SS p e below T103 m 18 #[.val (.ref a)] [(.int (if w = (0 : Int32) then (1 : Int32) else (0 : Int32)))] zQ → Steps p.tables e below (s₁.setTop (entryFrame m #[(.ref a)] 1)) zQ := by
    intro tt kt
    refine W104 tt ?_
    by_cases hj105 : w = (0 : Int32)
    ·
      refine XS.ifNo X103.here hx rfl (D_ d7_10) rfl ((if0 _ _).trans (teq hj105).2) ?_
      refine XS.iconst X103.here hx rfl (D_ d7_13) ?_
      refine XS.goto X103.here hx rfl (pc0 := 14) (pc' := 18) rfl (D_ d7_14) (by decide) (by decide) ?_
      exact castTop (by first | rfl | (simp only [if_pos hj105]; first | done | rfl)) kt
    ·
      refine XS.ifYes X103.here hx rfl (pc0 := 10) (pc' := 17) rfl (D_ d7_10) rfl ((if0 _ _).trans (feq hj105).2) (by decide) (by decide) ?_
      refine XS.iconst X103.here hx rfl (D_ d7_17) ?_
      exact castTop (by first | rfl | (simp only [if_neg hj105]; first | done | rfl)) kt
  obtain ⟨fs, hr, hrun, hended, hW, hsame⟩ := X103.leave (v := some (.int (nar .boolean (if w = (0 : Int32) then (1 : Int32) else (0 : Int32))))) (fun h => by rw [Bd.returns] at h; cases h)
  refine ⟨_, _, W106 _ (retN X103 hx (t := .boolean) Bd.returns (by simp) (D_ d7_18) hr), hrun, hended, _, _, rfl, ?_, ⟨_, rfl⟩, hW, hsame.mono (by decide) (by decide)⟩
  show Q_isLatin1 Z a w cS h0 n0 _ T103.heap _
  rw [e103]
  exact ⟨(congrArg (fun q => some (Value.int q)) own_bool), N0, rfl⟩
def Q_charAt (Z : State) (a : Addr) (i : Nat) (t : Addr) (kb : ClassId) (cs : List Int32) (cS : Int32) (fm : Value) (h0 : Heap) (n0 : Nat) (vQ_ : Option Value) (hQ_ : Heap) (LQ_ : List Loc) : Prop := vQ_ = some (.int (cs.getD i 0)) ∧ Fr n0 LQ_ ∧ hQ_ = h0
theorem rm_charAt (l : Launch) (Z : State) (a0 : Array Value) (hw : HW a0 Z) (ws : List Jvm.Cond) (a : Addr) (i : Nat) (t : Addr) (kb : ClassId) (cs : List Int32) (cS : Int32) (fm : Value) (h0 : Heap) (n0 : Nat) (Z0 : n0 ≤ h0.size) (O0 : Old Z n0 h0) (S_cs : Sta Z Z.heap "java/lang/String" "COMPACT_STRINGS" "Z" (.int cS)) (hcS : ¬ (cS = (0 : Int32))) (S_fm : Sta Z Z.heap "jdk/internal/util/Preconditions" "SIOOBE_FORMATTER" "Ljava/util/function/BiFunction;" fm) (hfm : fm.isRef = true) (S_ad : Sta Z Z.heap "java/lang/StringUTF16" "$assertionsDisabled" "Z" (.int (1 : Int32))) (S_hi : Sta Z Z.heap "java/lang/StringUTF16" "HI_BYTE_SHIFT" "I" (.int (0 : Int32))) (S_lo : Sta Z Z.heap "java/lang/StringUTF16" "LO_BYTE_SHIFT" "I" (.int (8 : Int32))) (hS : Str Z h0 a t kb cs) (hi : i < cs.length) :
    CT l yn8 (Jvm.Cond.code yn8 jdk_42_method_56_code 2 (some .char) :: ws) (⟨4, 0, 0, 53⟩ : Room) #[(.ref a), (.int (Int32.ofNat i))] Z h0 (Q_charAt Z a i t kb cs cS fm h0 n0) := by
  refine MetFree.of_bodySF (plainFor_of_name pn_java_lang_String) hisR ?_
  intro p e s m args below meth cO s₁ Bd hml hP hK
  obtain ⟨rfl, hZ, hh⟩ := hP
  have hx := Bd.exec
  have hby := Bd.bytes
  have hown : s.vm.findClass "java/lang/String" = some m.cls := findClass_of_methodNamed Bd.named
  have hnm := (name_of_methodNamed Bd.named Bd.method).1
  have X0 : Stand p l e (⟨4, 0, 0, 53⟩ : Room) s m #[(.ref a), (.int (Int32.ofNat i))] below meth cO s₁ [] 0 0 := Stand.of_body Bd
  have e0 : s₁.heap = h0 := by rw [← hh, Bd.state]; rfl
  have N0 := Fr.nil n0
  have D_ : ∀ {i : Nat} {x}, decode jdk_42_method_56_code i = x → decode cO.code i = x := fun h => hb hby h
  have W0 : ∀ zQ, SS p e below s₁ m 0 #[.val (.ref a), .val (.int (Int32.ofNat i))] [] zQ → Steps p.tables e below (s₁.setTop (entryFrame m #[(.ref a), (.int (Int32.ofNat i))] 2)) zQ := fun tt kt => castTop (ef_charAt m a (Int32.ofNat i)) kt
  obtain ⟨hE, hV, hC, hA, ok⟩ := hS
  obtain ⟨cq101, kq101, q101a, q101b, q101c⟩ := isOf hZ e0 hE
  obtain ⟨_, _, ⟨T101, L101, k101, n101⟩, -, X101, ⟨Lc101, hQ101, l101, y101, z101⟩, st101⟩ := X0.virtualBack hx (y := yn7) (z := yn7) hown (mvT hZ (w49 hw)) (mvT hZ (w50 hw)) (notFace_of_selects (args := #[]) (mvT hZ (w52 hw))) (mvT hZ (w52 hw)) (mvT hZ (w51 hw)) (by decide) (backOf (W := 0) (rm_isLatin1 l Z a0 hw [] a (cdr cs) cS h0 n0 Z0 O0 S_cs hcS hC) hZ (w53 hw) (w8 hw) (by decide) (by decide)) q101a q101c (g := (mkF m 1 #[.val (.ref a), .val (.int (Int32.ofNat i))] [(.ref a)])) rfl (by rw [hml]; rfl) (Steps.refl _) (argsL := []) (rest := []) (lenOf pd5 rfl) rfl (wq rfl) (D_ d8_1) (fun _ _ => ⟨rfl, e0, (nb rfl), (nb rfl)⟩)
  dsimp only [Pt.U, Pt.locs, Pt.cells, Pt.slots] at X101 l101 y101 z101 st101 hQ101
  subst l101 y101 z101
  obtain ⟨rfl, Nq101, eq101⟩ := hQ101
  have N101 := Fr.app N0 Nq101
  have W102 : ∀ zQ, SS p e below T101 m 4 #[.val (.ref a), .val (.int (Int32.ofNat i))] [(.int (if (cdr cs) = (0 : Int32) then (1 : Int32) else (0 : Int32)))] zQ → Steps p.tables e below (s₁.setTop (entryFrame m #[(.ref a), (.int (Int32.ofNat i))] 2)) zQ := by
    intro tt kt
    refine W0 tt ?_
    refine XS.aloadN X0.here hx rfl (D_ d8_0) rfl rfl ?_
    refine st101.trans ?_
    exact kt
  by_cases hc103 : (cdr cs) = (0 : Int32)
  ·
    have hl := cdr_lat hc103
    have hA104 : Arv Z h0 t kb .byte (Int32.ofNat cs.length) (l1 cs) (.int (0 : Int32)) := by have q := enc_lat hl; rw [← q.1, ← q.2.1]; exact hA
    obtain ⟨T105, X105, e105, st105⟩ := getF X101 hx hZ hown (host := "") (Or.inl (w33 hw)) Via.refl eq101 hV (g := (mkF m 8 #[.val (.ref a), .val (.int (Int32.ofNat i))] [(.ref a)])) rfl rfl (D_ d8_8)
    obtain ⟨_, _, ⟨T106, L106, k106, n106⟩, -, X106, ⟨Lc106, hQ106, l106, y106, z106⟩, st106⟩ := Jvm.LawKit.callS X105 hx (y := yn2) hown (mvT hZ (w139 hw)) (mvT hZ (w140 hw)) (mvT hZ (w66 hw)) (mvT hZ (w141 hw)) (by decide) (backOf (W := 0) (rm_l1charAt l Z a0 hw [] t i kb cs fm h0 n0 Z0 O0 S_fm hfm hA104 hi ok hl) hZ (w141 hw) (w66 hw) (by decide) (by decide)) (g := (mkF m 12 #[.val (.ref a), .val (.int (Int32.ofNat i))] [(.int (Int32.ofNat i)), (.ref t)])) rfl (by rw [hml]; rfl) (argsL := [(.ref t), (.int (Int32.ofNat i))]) (rest := []) (lenOf pd4 rfl) rfl (wq rfl) (D_ d8_12) (fun _ _ => ⟨rfl, e105, (nb rfl), (nb rfl)⟩)
    dsimp only [Pt.U, Pt.locs, Pt.cells, Pt.slots] at X106 l106 y106 z106 st106 hQ106
    subst l106 y106 z106
    obtain ⟨rfl, Nq106, eq106⟩ := hQ106
    have N106 := Fr.app N101 Nq106
    have W107 : ∀ zQ, SS p e below T106 m 15 #[.val (.ref a), .val (.int (Int32.ofNat i))] [(.int (cs.getD i 0))] zQ → Steps p.tables e below (s₁.setTop (entryFrame m #[(.ref a), (.int (Int32.ofNat i))] 2)) zQ := by
      intro tt kt
      refine W102 tt ?_
      rw [show (if (cdr cs) = (0 : Int32) then (1 : Int32) else (0 : Int32)) = (1 : Int32) from if_pos hc103]
      refine XS.ifNo X101.here hx rfl (D_ d8_4) rfl ((if0 _ _).trans (feq (by decide)).1) ?_
      refine XS.aloadN X101.here hx rfl (D_ d8_7) rfl rfl ?_
      refine st105 _ ?_
      refine XS.iloadN X105.here hx rfl (D_ d8_11) rfl ?_
      refine st106 _ ?_
      exact kt
    obtain ⟨fs, hr, hrun, hended, hW, hsame⟩ := X106.leave (v := some (.int (nar .char (cs.getD i 0)))) (fun h => by rw [Bd.returns] at h; cases h)
    refine ⟨_, _, W107 _ (retN X106 hx (t := .char) Bd.returns (by simp) (D_ d8_15) hr), hrun, hended, _, _, rfl, ?_, ⟨_, rfl⟩, hW, hsame.mono (by decide) (by decide)⟩
    show Q_charAt Z a i t kb cs cS fm h0 n0 _ T106.heap _
    rw [eq106]
    exact ⟨(congrArg (fun q => some (Value.int q)) (own_narc (ok.at hi).1 (ok.at hi).2)), N106, rfl⟩
  ·
    have hl := cdr_nlat hc103
    have hA108 : Arv Z h0 t kb .byte (Int32.ofNat (2 * cs.length)) (u16 cs) (.int (0 : Int32)) := by have q := enc_nlat hl; rw [← q.1, ← q.2.1]; exact hA
    obtain ⟨T109, X109, e109, st109⟩ := getF X101 hx hZ hown (host := "") (Or.inl (w33 hw)) Via.refl eq101 hV (g := (mkF m 17 #[.val (.ref a), .val (.int (Int32.ofNat i))] [(.ref a)])) rfl rfl (D_ d8_17)
    obtain ⟨_, _, ⟨T110, L110, k110, n110⟩, -, X110, ⟨Lc110, hQ110, l110, y110, z110⟩, st110⟩ := Jvm.LawKit.callS X109 hx (y := yn6) hown (mvT hZ (w210 hw)) (mvT hZ (w211 hw)) (mvT hZ (w22 hw)) (mvT hZ (w212 hw)) (by decide) (backOf (W := 0) (rm_u16charAt l Z a0 hw [] t i kb cs fm h0 n0 Z0 O0 S_fm hfm S_ad S_hi S_lo hA108 hi ok) hZ (w212 hw) (w22 hw) (by decide) (by decide)) (g := (mkF m 21 #[.val (.ref a), .val (.int (Int32.ofNat i))] [(.int (Int32.ofNat i)), (.ref t)])) rfl (by rw [hml]; rfl) (argsL := [(.ref t), (.int (Int32.ofNat i))]) (rest := []) (lenOf pd4 rfl) rfl (wq rfl) (D_ d8_21) (fun _ _ => ⟨rfl, e109, (nb rfl), (nb rfl)⟩)
    dsimp only [Pt.U, Pt.locs, Pt.cells, Pt.slots] at X110 l110 y110 z110 st110 hQ110
    subst l110 y110 z110
    obtain ⟨rfl, Nq110, eq110⟩ := hQ110
    have N110 := Fr.app N101 Nq110
    have W111 : ∀ zQ, SS p e below T110 m 24 #[.val (.ref a), .val (.int (Int32.ofNat i))] [(.int (cs.getD i 0))] zQ → Steps p.tables e below (s₁.setTop (entryFrame m #[(.ref a), (.int (Int32.ofNat i))] 2)) zQ := by
      intro tt kt
      refine W102 tt ?_
      rw [show (if (cdr cs) = (0 : Int32) then (1 : Int32) else (0 : Int32)) = (0 : Int32) from if_neg hc103]
      refine XS.ifYes X101.here hx rfl (pc0 := 4) (pc' := 16) rfl (D_ d8_4) rfl ((if0 _ _).trans (teq (by decide)).1) (by decide) (by decide) ?_
      refine XS.aloadN X101.here hx rfl (D_ d8_16) rfl rfl ?_
      refine st109 _ ?_
      refine XS.iloadN X109.here hx rfl (D_ d8_20) rfl ?_
      refine st110 _ ?_
      exact kt
    obtain ⟨fs, hr, hrun, hended, hW, hsame⟩ := X110.leave (v := some (.int (nar .char (cs.getD i 0)))) (fun h => by rw [Bd.returns] at h; cases h)
    refine ⟨_, _, W111 _ (retN X110 hx (t := .char) Bd.returns (by simp) (D_ d8_24) hr), hrun, hended, _, _, rfl, ?_, ⟨_, rfl⟩, hW, hsame.mono (by decide) (by decide)⟩
    show Q_charAt Z a i t kb cs cS fm h0 n0 _ T110.heap _
    rw [eq110]
    exact ⟨(congrArg (fun q => some (Value.int q)) (own_narc (ok.at hi).1 (ok.at hi).2)), N110, rfl⟩
def Q_coder (Z : State) (a : Addr) (w : Int32) (cS : Int32) (h0 : Heap) (n0 : Nat) (vQ_ : Option Value) (hQ_ : Heap) (LQ_ : List Loc) : Prop := vQ_ = some (.int w) ∧ Fr n0 LQ_ ∧ hQ_ = h0
theorem rm_coder (l : Launch) (Z : State) (a0 : Array Value) (hw : HW a0 Z) (ws : List Jvm.Cond) (a : Addr) (w : Int32) (cS : Int32) (h0 : Heap) (n0 : Nat) (Z0 : n0 ≤ h0.size) (O0 : Old Z n0 h0) (S_cs : Sta Z Z.heap "java/lang/String" "COMPACT_STRINGS" "Z" (.int cS)) (hcS : ¬ (cS = (0 : Int32))) (F1 : Fld Z h0 a "java/lang/String" "coder" "B" (.int w)) (hw8 : nar .byte w = w) :
    CT l yn9 (Jvm.Cond.code yn9 jdk_42_method_152_code 1 (some .byte) :: ws) (⟨0, 0, 0, 0⟩ : Room) #[(.ref a)] Z h0 (Q_coder Z a w cS h0 n0) := by
  refine MetFree.of_bodySF (plainFor_of_name pn_java_lang_String) hisR ?_
  intro p e s m args below meth cO s₁ Bd hml hP hK
  obtain ⟨rfl, hZ, hh⟩ := hP
  have hx := Bd.exec
  have hby := Bd.bytes
  have hown : s.vm.findClass "java/lang/String" = some m.cls := findClass_of_methodNamed Bd.named
  have hnm := (name_of_methodNamed Bd.named Bd.method).1
  have X0 : Stand p l e (⟨0, 0, 0, 0⟩ : Room) s m #[(.ref a)] below meth cO s₁ [] 0 0 := Stand.of_body Bd
  have e0 : s₁.heap = h0 := by rw [← hh, Bd.state]; rfl
  have N0 := Fr.nil n0
  have D_ : ∀ {i : Nat} {x}, decode jdk_42_method_152_code i = x → decode cO.code i = x := fun h => hb hby h
  have W0 : ∀ zQ, SS p e below s₁ m 0 #[.val (.ref a)] [] zQ → Steps p.tables e below (s₁.setTop (entryFrame m #[(.ref a)] 1)) zQ := fun tt kt => castTop (ef_coder m a) kt
  have F102 : Sta Z h0 "java/lang/String" "COMPACT_STRINGS" "Z" (.int cS) := S_cs.ext O0.2
  obtain ⟨T101, X101, e101, st101⟩ := getS2 X0 hx hZ hown (host := "") (Or.inl (w19 hw)) Via.refl e0 F102 (g := (mkF m 0 #[.val (.ref a)] [])) rfl (D_ d9_0)
  obtain ⟨T103, X103, e103, st103⟩ := getF X101 hx hZ hown (host := "") (Or.inl (w31 hw)) Via.refl e101 F1 (g := (mkF m 7 #[.val (.ref a)] [(.ref a)])) rfl rfl (D_ d9_7)
  have W104 : ∀ zQ, SS p e below T103 m 14 #[.val (.ref a)] [(.int w)] zQ → Steps p.tables e below (s₁.setTop (entryFrame m #[(.ref a)] 1)) zQ := by
    intro tt kt
    refine W0 tt ?_
    refine st101 _ ?_
    refine XS.ifNo X101.here hx rfl (D_ d9_3) rfl ((if0 _ _).trans (feq hcS).1) ?_
    refine XS.aloadN X101.here hx rfl (D_ d9_6) rfl rfl ?_
    refine st103 _ ?_
    refine XS.goto X103.here hx rfl (pc0 := 10) (pc' := 14) rfl (D_ d9_10) (by decide) (by decide) ?_
    exact kt
  obtain ⟨fs, hr, hrun, hended, hW, hsame⟩ := X103.leave (v := some (.int (nar .byte w))) (fun h => by rw [Bd.returns] at h; cases h)
  refine ⟨_, _, W104 _ (retN X103 hx (t := .byte) Bd.returns (by simp) (D_ d9_14) hr), hrun, hended, _, _, rfl, ?_, ⟨_, rfl⟩, hW, hsame.mono (by decide) (by decide)⟩
  show Q_coder Z a w cS h0 n0 _ T103.heap _
  rw [e103]
  exact ⟨(congrArg (fun q => some (Value.int q)) hw8), N0, rfl⟩
def Q_length (Z : State) (a : Addr) (t : Addr) (kb : ClassId) (cs : List Int32) (cS : Int32) (h0 : Heap) (n0 : Nat) (vQ_ : Option Value) (hQ_ : Heap) (LQ_ : List Loc) : Prop := vQ_ = some (.int (Int32.ofNat cs.length)) ∧ Fr n0 LQ_ ∧ hQ_ = h0
theorem rm_length (l : Launch) (Z : State) (a0 : Array Value) (hw : HW a0 Z) (ws : List Jvm.Cond) (a : Addr) (t : Addr) (kb : ClassId) (cs : List Int32) (cS : Int32) (h0 : Heap) (n0 : Nat) (Z0 : n0 ≤ h0.size) (O0 : Old Z n0 h0) (S_cs : Sta Z Z.heap "java/lang/String" "COMPACT_STRINGS" "Z" (.int cS)) (hcS : ¬ (cS = (0 : Int32))) (hS : Str Z h0 a t kb cs) :
    CT l yn10 (Jvm.Cond.code yn10 jdk_42_method_54_code 1 (some .int) :: ws) (⟨1, 0, 0, 13⟩ : Room) #[(.ref a)] Z h0 (Q_length Z a t kb cs cS h0 n0) := by
  refine MetFree.of_bodySF (plainFor_of_name pn_java_lang_String) hisR ?_
  intro p e s m args below meth cO s₁ Bd hml hP hK
  obtain ⟨rfl, hZ, hh⟩ := hP
  have hx := Bd.exec
  have hby := Bd.bytes
  have hown : s.vm.findClass "java/lang/String" = some m.cls := findClass_of_methodNamed Bd.named
  have hnm := (name_of_methodNamed Bd.named Bd.method).1
  have X0 : Stand p l e (⟨1, 0, 0, 13⟩ : Room) s m #[(.ref a)] below meth cO s₁ [] 0 0 := Stand.of_body Bd
  have e0 : s₁.heap = h0 := by rw [← hh, Bd.state]; rfl
  have N0 := Fr.nil n0
  have D_ : ∀ {i : Nat} {x}, decode jdk_42_method_54_code i = x → decode cO.code i = x := fun h => hb hby h
  have W0 : ∀ zQ, SS p e below s₁ m 0 #[.val (.ref a)] [] zQ → Steps p.tables e below (s₁.setTop (entryFrame m #[(.ref a)] 1)) zQ := fun tt kt => castTop (ef_length m a) kt
  obtain ⟨hE, hV, hC, hA, ok⟩ := hS
  obtain ⟨T101, X101, e101, st101⟩ := getF X0 hx hZ hown (host := "") (Or.inl (w33 hw)) Via.refl e0 hV (g := (mkF m 1 #[.val (.ref a)] [(.ref a)])) rfl rfl (D_ d10_1)
  obtain ⟨cl102, Ar102, -, S102, M102, -, -⟩ := id hA
  obtain ⟨cq103, kq103, q103a, q103b, q103c⟩ := isOf hZ e101 hE
  obtain ⟨_, _, ⟨T103, L103, k103, n103⟩, -, X103, ⟨Lc103, hQ103, l103, y103, z103⟩, st103⟩ := X101.virtualBack hx (y := yn9) (z := yn9) hown (mvT hZ (w59 hw)) (mvT hZ (w60 hw)) (notFace_of_selects (args := #[]) (mvT hZ (w62 hw))) (mvT hZ (w62 hw)) (mvT hZ (w61 hw)) (by decide) (backOf (W := 1) (rm_coder l Z a0 hw [] a (cdr cs) cS h0 n0 Z0 O0 S_cs hcS hC (own_narcdr cs)) hZ (w63 hw) (w8 hw) (by decide) (by decide)) q103a q103c (g := (mkF m 6 #[.val (.ref a)] [(.ref a), (.int (Int32.ofNat (blen cs)))])) rfl (by rw [hml]; rfl) (Steps.refl _) (argsL := []) (rest := [(.int (Int32.ofNat (blen cs)))]) (lenOf pd6 rfl) rfl (wq rfl) (D_ d10_6) (fun _ _ => ⟨rfl, e101, (nb rfl), (nb rfl)⟩)
  dsimp only [Pt.U, Pt.locs, Pt.cells, Pt.slots] at X103 l103 y103 z103 st103 hQ103
  subst l103 y103 z103
  obtain ⟨rfl, Nq103, eq103⟩ := hQ103
  have N103 := Fr.app N0 Nq103
  have W104 : ∀ zQ, SS p e below T103 m 10 #[.val (.ref a)] [(.int (Int32.ofNat cs.length))] zQ → Steps p.tables e below (s₁.setTop (entryFrame m #[(.ref a)] 1)) zQ := by
    intro tt kt
    refine W0 tt ?_
    refine XS.aloadN X0.here hx rfl (D_ d10_0) rfl rfl ?_
    refine st101 _ ?_
    refine X101.arraylength hx (by first | exact Ar102.1 | (rw [e101]; exact Ar102.1)) (State.isArrayOf_alike hZ.alike Ar102.2.1) (g := (mkF m 4 #[.val (.ref a)] [(.ref t)])) rfl rfl (D_ d10_4) _ ?_
    rw [len_of S102 M102]
    refine XS.aloadN X101.here hx rfl (D_ d10_5) rfl rfl ?_
    refine st103.trans ?_
    refine XS.ishr X103.here hx rfl (D_ d10_9) rfl ?_
    show SS p e below T103 m 10 #[.val (.ref a)] [(.int ((Int32.ofNat (blen cs)) >>> ((cdr cs) &&& 31)))] _
    rw [show ((Int32.ofNat (blen cs)) >>> ((cdr cs) &&& 31)) = (Int32.ofNat cs.length) from own_len ok.2]
    exact kt
  obtain ⟨fs, hr, hrun, hended, hW, hsame⟩ := X103.leave (v := some (.int (Int32.ofNat cs.length))) (fun h => by rw [Bd.returns] at h; cases h)
  refine ⟨_, _, W104 _ (retI X103 hx Bd.returns (D_ d10_10) hr), hrun, hended, _, _, rfl, ?_, ⟨_, rfl⟩, hW, hsame.mono (by decide) (by decide)⟩
  show Q_length Z a t kb cs cS h0 n0 _ T103.heap _
  rw [eq103]
  exact ⟨rfl, N103, rfl⟩
theorem lp_compr {p : Program} {l : Launch} {e : Env} {R : Room} {s : State} {m : MethodId} {args : Array Value} {below : List Frame} {meth : Method} {cO : Code} {cells slots : Nat} {Z : State} {a0 : Array Value} (hx : p.tables.exec = Jvm.exec) (hZ : Z.Warmed39 s.vm) (hw : HW a0 Z) (hby : cO.code = jdk_52_method_21_code) (hml : cO.maxLocals = 7) (hown : s.vm.findClass "java/lang/StringUTF16" = some m.cls) (hRf : 0 ≤ R.frames) (hRl : 0 ≤ R.locals) (hRc : cells ≤ R.cells) (hRs : slots ≤ R.slots) (hret : meth.sig.returnType = some .int) (src : Addr) (dst : Addr) (kc : ClassId) (kb : ClassId) (cs : List Int32) (n0 : Nat) (hne : src ≠ dst) (hg : n0 ≤ dst) (ok : OkS cs) :
    ∀ suf : List Int32, ∀ (pre : List Int32) (s6 : Slot) (T0 : State) (L0 : List Loc) (h0 : Heap) (X0 : Stand p l e R s m args below meth cO T0 L0 cells slots) (e0 : T0.heap = h0) (N0 : Fr n0 L0) (Z0 : n0 ≤ h0.size) (Vs : Arv Z h0 src kc .char (Int32.ofNat cs.length) (cs.map Value.int) (.int (0 : Int32))) (Vd : Arv Z h0 dst kb .byte (Int32.ofNat cs.length) (l1 pre) (.int (0 : Int32))) (hl : lat pre = true) (h6 : One s6) (hk : cs = pre ++ suf), ∃ (T' : State) (L' : List Loc) (h' : Heap), Stand p l e R s m args below meth cO T' L' cells slots ∧ T'.heap = h' ∧ Fr n0 L' ∧ Keep h0 h' [dst] ∧ Arv Z h' dst kb .byte (Int32.ofNat cs.length) (l1 (cs.take (fl cs))) (.int (0 : Int32)) ∧ ∀ fs, (∀ (f : JFrame) (acts : List Action), f.method = m → f.locked = none → f.entered = [] → (doReturn e (T'.setTop f) acts (some (.int (Int32.ofNat (fl cs))))).1 = T'.setFrames fs) → SS p e below T0 m 3 #[.val (.ref src), .val (.int (Int32.ofNat pre.length)), .val (.ref dst), .val (.int (Int32.ofNat pre.length)), .val (.int (Int32.ofNat cs.length)), .val (.int (Int32.ofNat pre.length)), s6] [] (T'.setFrames fs) := by
  have D_ : ∀ {i : Nat} {x}, decode jdk_52_method_21_code i = x → decode cO.code i = x := fun h => hb hby h
  intro suf
  induction suf with
  | nil =>
    intro pre s6 T0 L0 h0 X0 e0 N0 Z0 Vs Vd hl h6 hk
    have W0 : ∀ zQ, SS p e below T0 m 3 #[.val (.ref src), .val (.int (Int32.ofNat pre.length)), .val (.ref dst), .val (.int (Int32.ofNat pre.length)), .val (.int (Int32.ofNat cs.length)), .val (.int (Int32.ofNat pre.length)), s6] [] zQ → Steps p.tables e below (T0.setTop (mkF m 3 #[.val (.ref src), .val (.int (Int32.ofNat pre.length)), .val (.ref dst), .val (.int (Int32.ofNat pre.length)), .val (.int (Int32.ofNat cs.length)), .val (.int (Int32.ofNat pre.length)), s6] [])) zQ := fun tt kt => kt
    have hn : cs.length < 1048576 := ok.2
    have hfl : fl cs = pre.length := by rw [hk, fl_app _ hl]; rfl
    have hlen : cs.length = pre.length := by rw [hk]; simp
    have W101 : ∀ zQ, SS p e below T0 m 46 #[.val (.ref src), .val (.int (Int32.ofNat pre.length)), .val (.ref dst), .val (.int (Int32.ofNat pre.length)), .val (.int (Int32.ofNat cs.length)), .val (.int (Int32.ofNat pre.length)), s6] [(.int (Int32.ofNat cs.length))] zQ → Steps p.tables e below (T0.setTop (mkF m 3 #[.val (.ref src), .val (.int (Int32.ofNat pre.length)), .val (.ref dst), .val (.int (Int32.ofNat pre.length)), .val (.int (Int32.ofNat cs.length)), .val (.int (Int32.ofNat pre.length)), s6] [])) zQ := by
      intro tt kt
      refine W0 tt ?_
      refine XS.iload X0.here hx rfl (D_ d11_3) rfl ?_
      refine XS.iload X0.here hx rfl (D_ d11_5) rfl ?_
      refine XS.icmpYes X0.here hx rfl (pc0 := 7) (pc' := 44) rfl (D_ d11_7) rfl (flt (own_nlt (by omega) (by omega))).2.1 (by decide) (by decide) ?_
      refine XS.iload X0.here hx rfl (D_ d11_44) rfl ?_
      exact kt
    have hR102 : Arv Z h0 dst kb .byte (Int32.ofNat cs.length) (l1 (cs.take (fl cs))) (.int (0 : Int32)) := by rw [show cs.take (fl cs) = pre from by rw [hfl, hk]; exact List.take_left]; exact Vd
    exact ⟨T0, _, h0, X0, e0, N0, (Keep.refl h0 [dst]), hR102, fun fs hr => W101 _ (retI X0 hx hret (D_ d11_46) (by rw [show (Value.int (Int32.ofNat cs.length)) = (Value.int (Int32.ofNat (fl cs))) from (by rw [hfl, hlen])]; exact hr))⟩
  | cons cc r ih =>
    intro pre s6 T0 L0 h0 X0 e0 N0 Z0 Vs Vd hl h6 hk
    have W0 : ∀ zQ, SS p e below T0 m 3 #[.val (.ref src), .val (.int (Int32.ofNat pre.length)), .val (.ref dst), .val (.int (Int32.ofNat pre.length)), .val (.int (Int32.ofNat cs.length)), .val (.int (Int32.ofNat pre.length)), s6] [] zQ → Steps p.tables e below (T0.setTop (mkF m 3 #[.val (.ref src), .val (.int (Int32.ofNat pre.length)), .val (.ref dst), .val (.int (Int32.ofNat pre.length)), .val (.int (Int32.ofNat cs.length)), .val (.int (Int32.ofNat pre.length)), s6] [])) zQ := fun tt kt => kt
    have hn : cs.length < 1048576 := ok.2
    have hlt : pre.length < cs.length := by rw [hk]; simp
    have hcc : cs.getD pre.length 0 = cc := by rw [hk]; exact app_at pre r cc 0
    obtain ⟨cl103, Ar103, q103, S103, M103, H103, F103g⟩ := id Vs
    have hin103 : ¬ ((Int32.ofNat pre.length) < 0 ∨ cl103.slots.size ≤ ((Int32.ofNat pre.length)).toNatClampNeg) := inb_of S103 ⟨own_nneg (by omega), own_lt hlt (by omega)⟩
    have hat103 : cl103.slots[((Int32.ofNat pre.length)).toNatClampNeg]? = some (.int cc) := Has.at H103 hin103 (by rw [own_cl (by omega), ch_at _ _ _ hlt, hcc])
    have W104 : ∀ zQ, SS p e below T0 m 20 #[.val (.ref src), .val (.int (Int32.ofNat pre.length)), .val (.ref dst), .val (.int (Int32.ofNat pre.length)), .val (.int (Int32.ofNat cs.length)), .val (.int (Int32.ofNat pre.length)), .val (.int cc)] [(.int (255 : Int32)), (.int cc)] zQ → Steps p.tables e below (T0.setTop (mkF m 3 #[.val (.ref src), .val (.int (Int32.ofNat pre.length)), .val (.ref dst), .val (.int (Int32.ofNat pre.length)), .val (.int (Int32.ofNat cs.length)), .val (.int (Int32.ofNat pre.length)), s6] [])) zQ := by
      intro tt kt
      refine W0 tt ?_
      refine XS.iload X0.here hx rfl (D_ d11_3) rfl ?_
      refine XS.iload X0.here hx rfl (D_ d11_5) rfl ?_
      refine XS.icmpNo X0.here hx rfl (D_ d11_7) rfl (tlt (own_lt hlt (by omega))).2.1 ?_
      refine XS.aloadN X0.here hx rfl (D_ d11_10) rfl rfl ?_
      refine XS.iloadN X0.here hx rfl (D_ d11_11) rfl ?_
      refine X0.caload hx (j := (Int32.ofNat pre.length)) (v := (.int cc)) (by first | exact Ar103.1 | (rw [e0]; exact Ar103.1)) (State.isArrayOf_alike hZ.alike Ar103.2.1) Ar103.2.2 hin103 hat103 (g := (mkF m 12 #[.val (.ref src), .val (.int (Int32.ofNat pre.length)), .val (.ref dst), .val (.int (Int32.ofNat pre.length)), .val (.int (Int32.ofNat cs.length)), .val (.int (Int32.ofNat pre.length)), s6] [(.int (Int32.ofNat pre.length)), (.ref src)])) rfl rfl (D_ d11_12) _ ?_
      refine XS.istore X0.here hx rfl (D_ d11_13) rfl (l' := #[.val (.ref src), .val (.int (Int32.ofNat pre.length)), .val (.ref dst), .val (.int (Int32.ofNat pre.length)), .val (.int (Int32.ofNat cs.length)), .val (.int (Int32.ofNat pre.length)), .val (.int cc)]) (XS.store1 (o := s6) rfl h6 rfl) ?_
      refine XS.iload X0.here hx rfl (D_ d11_15) rfl ?_
      refine XS.sipush X0.here hx rfl (D_ d11_17) ?_
      exact kt
    by_cases hc105 : (255 : Int32) < cc
    ·
      have hfl : fl cs = pre.length := by rw [hk, fl_app _ hl]; show _ + (if (255 : Int32) < cc then 0 else fl r + 1) = _; rw [if_pos hc105]; rfl
      have W106 : ∀ zQ, SS p e below T0 m 25 #[.val (.ref src), .val (.int (Int32.ofNat pre.length)), .val (.ref dst), .val (.int (Int32.ofNat pre.length)), .val (.int (Int32.ofNat cs.length)), .val (.int (Int32.ofNat pre.length)), .val (.int cc)] [(.int (Int32.ofNat pre.length))] zQ → Steps p.tables e below (T0.setTop (mkF m 3 #[.val (.ref src), .val (.int (Int32.ofNat pre.length)), .val (.ref dst), .val (.int (Int32.ofNat pre.length)), .val (.int (Int32.ofNat cs.length)), .val (.int (Int32.ofNat pre.length)), s6] [])) zQ := by
        intro tt kt
        refine W104 tt ?_
        refine XS.icmpNo X0.here hx rfl (D_ d11_20) rfl (tlt hc105).2.2.2 ?_
        refine XS.iload X0.here hx rfl (D_ d11_23) rfl ?_
        exact kt
      have hR107 : Arv Z h0 dst kb .byte (Int32.ofNat cs.length) (l1 (cs.take (fl cs))) (.int (0 : Int32)) := by rw [show cs.take (fl cs) = pre from by rw [hfl, hk]; exact List.take_left]; exact Vd
      exact ⟨T0, _, h0, X0, e0, N0, (Keep.refl h0 [dst]), hR107, fun fs hr => W106 _ (retI X0 hx hret (D_ d11_25) (by rw [show (Value.int (Int32.ofNat pre.length)) = (Value.int (Int32.ofNat (fl cs))) from (by rw [hfl])]; exact hr))⟩
    ·
      obtain ⟨cl108, Ar108, q108, S108, M108, H108, F108g⟩ := id Vd
      have hin108 : ¬ ((Int32.ofNat pre.length) < 0 ∨ cl108.slots.size ≤ ((Int32.ofNat pre.length)).toNatClampNeg) := inb_of S108 ⟨own_nneg (by omega), own_lt hlt (by omega)⟩
      obtain ⟨T108, h108, X108, e108, Wr108, st108⟩ := stB X0 hx hZ e0 Ar108 (j := (Int32.ofNat pre.length)) hin108 (g := (mkF m 31 #[.val (.ref src), .val (.int (Int32.ofNat pre.length)), .val (.ref dst), .val (.int (Int32.ofNat pre.length)), .val (.int (Int32.ofNat cs.length)), .val (.int (Int32.ofNat pre.length)), .val (.int cc)] [(.int (cc.toInt8.toInt32)), (.int (Int32.ofNat pre.length)), (.ref dst)])) rfl rfl (D_ d11_31)
      have G108 : Arv Z h108 dst kb .byte (Int32.ofNat cs.length) ((l1 pre) ++ [(.int (nar .byte (cc.toInt8.toInt32)))]) (.int (0 : Int32)) := Arv.push Ar108 q108 S108 M108 H108 F108g (fits_nar_byte _) Wr108 (by rw [own_cl (by omega), l1_len])
      have K108 := Keep.of_wr Wr108
      have N108 := Fr.snoc X108 N0 hg
      have J108 : Arv Z h108 dst kb .byte (Int32.ofNat cs.length) (l1 (pre ++ [cc])) (.int (0 : Int32)) := by rw [← l1_snoc, ← own_narb]; exact G108
      have W109 : ∀ zQ, SS p e below T108 m 3 #[.val (.ref src), .val (.int (Int32.ofNat (pre ++ [cc]).length)), .val (.ref dst), .val (.int (Int32.ofNat (pre ++ [cc]).length)), .val (.int (Int32.ofNat cs.length)), .val (.int (Int32.ofNat (pre ++ [cc]).length)), .val (.int cc)] [] zQ → Steps p.tables e below (T0.setTop (mkF m 3 #[.val (.ref src), .val (.int (Int32.ofNat pre.length)), .val (.ref dst), .val (.int (Int32.ofNat pre.length)), .val (.int (Int32.ofNat cs.length)), .val (.int (Int32.ofNat pre.length)), s6] [])) zQ := by
        intro tt kt
        refine W104 tt ?_
        refine XS.icmpYes X0.here hx rfl (pc0 := 20) (pc' := 26) rfl (D_ d11_20) rfl (flt hc105).2.2.2 (by decide) (by decide) ?_
        refine XS.aloadN X0.here hx rfl (D_ d11_26) rfl rfl ?_
        refine XS.iloadN X0.here hx rfl (D_ d11_27) rfl ?_
        refine XS.iload X0.here hx rfl (D_ d11_28) rfl ?_
        refine XS.i2b X0.here hx rfl (D_ d11_30) rfl ?_
        refine st108 _ ?_
        refine XS.iinc X108.here hx rfl (D_ d11_32) rfl (l' := #[.val (.ref src), .val (.int ((Int32.ofNat pre.length) + (1 : Int32))), .val (.ref dst), .val (.int (Int32.ofNat pre.length)), .val (.int (Int32.ofNat cs.length)), .val (.int (Int32.ofNat pre.length)), .val (.int cc)]) rfl ?_
        refine XS.iinc X108.here hx rfl (D_ d11_35) rfl (l' := #[.val (.ref src), .val (.int ((Int32.ofNat pre.length) + (1 : Int32))), .val (.ref dst), .val (.int ((Int32.ofNat pre.length) + (1 : Int32))), .val (.int (Int32.ofNat cs.length)), .val (.int (Int32.ofNat pre.length)), .val (.int cc)]) rfl ?_
        refine XS.iinc X108.here hx rfl (D_ d11_38) rfl (l' := #[.val (.ref src), .val (.int ((Int32.ofNat pre.length) + (1 : Int32))), .val (.ref dst), .val (.int ((Int32.ofNat pre.length) + (1 : Int32))), .val (.int (Int32.ofNat cs.length)), .val (.int ((Int32.ofNat pre.length) + (1 : Int32))), .val (.int cc)]) rfl ?_
        show SS p e below T108 m 41 #[.val (.ref src), .val (.int ((Int32.ofNat pre.length) + (1 : Int32))), .val (.ref dst), .val (.int ((Int32.ofNat pre.length) + (1 : Int32))), .val (.int (Int32.ofNat cs.length)), .val (.int ((Int32.ofNat pre.length) + (1 : Int32))), .val (.int cc)] [] _
        rw [show ((Int32.ofNat pre.length) + (1 : Int32)) = (Int32.ofNat (pre ++ [cc]).length) from (by rw [own_succ]; simp)]
        refine XS.goto X108.here hx rfl (pc0 := 41) (pc' := 3) rfl (D_ d11_41) (by decide) (by decide) ?_
        exact kt
      have F111 : Arv Z h108 src kc .char (Int32.ofNat cs.length) (cs.map Value.int) (.int (0 : Int32)) := (Vs.keep K108 (ninS hne nin0))
      obtain ⟨T110, L110, h110, X110, e110, N110, K110, P110_0, st110⟩ := ih (pre ++ [cc]) (.val (.int cc)) T108 _ h108 X108 e108 N108 (Nat.le_trans Z0 K108.1) F111 J108 (lat_snoc hl hc105) (One.val rfl) (by rw [hk]; simp)
      exact ⟨T110, L110, h110, X110, e110, N110, (Keep.trans (Keep.trans (Keep.refl h0 [dst]) K108 (allS (Or.inl (List.mem_of_getElem? (i := 0) rfl)) all0)) K110 (allS (Or.inl (List.mem_of_getElem? (i := 0) rfl)) all0)), P110_0, fun tt kt => W109 _ (st110 _ kt)⟩
def Q_compress21 (Z : State) (src : Addr) (dst : Addr) (kc : ClassId) (kb : ClassId) (cs : List Int32) (h0 : Heap) (n0 : Nat) (vQ_ : Option Value) (hQ_ : Heap) (LQ_ : List Loc) : Prop := vQ_ = some (.int (Int32.ofNat (fl cs))) ∧ Fr n0 LQ_ ∧ Keep h0 hQ_ [dst] ∧ Arv Z hQ_ dst kb .byte (Int32.ofNat cs.length) (l1 (cs.take (fl cs))) (.int (0 : Int32))
theorem rm_compress21 (l : Launch) (Z : State) (a0 : Array Value) (hw : HW a0 Z) (ws : List Jvm.Cond) (src : Addr) (dst : Addr) (kc : ClassId) (kb : ClassId) (cs : List Int32) (h0 : Heap) (n0 : Nat) (Z0 : n0 ≤ h0.size) (Vs : Arv Z h0 src kc .char (Int32.ofNat cs.length) (cs.map Value.int) (.int (0 : Int32))) (Vd : Arv Z h0 dst kb .byte (Int32.ofNat cs.length) [] (.int (0 : Int32))) (hne : src ≠ dst) (hg : n0 ≤ dst) (ok : OkS cs) :
    CT l yn11 (Jvm.Cond.code yn11 jdk_52_method_21_code 7 (some .int) :: ws) (⟨0, 0, 0, 0⟩ : Room) #[(.ref src), (.int (0 : Int32)), (.ref dst), (.int (0 : Int32)), (.int (Int32.ofNat cs.length))] Z h0 (Q_compress21 Z src dst kc kb cs h0 n0) := by
  refine MetFree.of_bodySF (plainFor_of_name pn_java_lang_StringUTF16) hisR ?_
  intro p e s m args below meth cO s₁ Bd hml hP hK
  obtain ⟨rfl, hZ, hh⟩ := hP
  have hx := Bd.exec
  have hby := Bd.bytes
  have hown : s.vm.findClass "java/lang/StringUTF16" = some m.cls := findClass_of_methodNamed Bd.named
  have hnm := (name_of_methodNamed Bd.named Bd.method).1
  have X0 : Stand p l e (⟨0, 0, 0, 0⟩ : Room) s m #[(.ref src), (.int (0 : Int32)), (.ref dst), (.int (0 : Int32)), (.int (Int32.ofNat cs.length))] below meth cO s₁ [] 0 0 := Stand.of_body Bd
  have e0 : s₁.heap = h0 := by rw [← hh, Bd.state]; rfl
  have N0 := Fr.nil n0
  have D_ : ∀ {i : Nat} {x}, decode jdk_52_method_21_code i = x → decode cO.code i = x := fun h => hb hby h
  have W0 : ∀ zQ, SS p e below s₁ m 0 #[.val (.ref src), .val (.int (0 : Int32)), .val (.ref dst), .val (.int (0 : Int32)), .val (.int (Int32.ofNat cs.length)), .unset, .unset] [] zQ → Steps p.tables e below (s₁.setTop (entryFrame m #[(.ref src), (.int (0 : Int32)), (.ref dst), (.int (0 : Int32)), (.int (Int32.ofNat cs.length))] 7)) zQ := fun tt kt => castTop (ef_compress21 m src (0 : Int32) dst (0 : Int32) (Int32.ofNat cs.length)) kt
  have W101 : ∀ zQ, SS p e below s₁ m 3 #[.val (.ref src), .val (.int (0 : Int32)), .val (.ref dst), .val (.int (0 : Int32)), .val (.int (Int32.ofNat cs.length)), .val (.int (0 : Int32)), .unset] [] zQ → Steps p.tables e below (s₁.setTop (entryFrame m #[(.ref src), (.int (0 : Int32)), (.ref dst), (.int (0 : Int32)), (.int (Int32.ofNat cs.length))] 7)) zQ := by
    intro tt kt
    refine W0 tt ?_
    refine XS.iconst X0.here hx rfl (D_ d11_0) ?_
    refine XS.istore X0.here hx rfl (D_ d11_1) rfl (l' := #[.val (.ref src), .val (.int (0 : Int32)), .val (.ref dst), .val (.int (0 : Int32)), .val (.int (Int32.ofNat cs.length)), .val (.int (0 : Int32)), .unset]) rfl ?_
    exact kt
  obtain ⟨T102, L102, h102, X102, e102, Nl102, K102, P102_0, st102⟩ := lp_compr hx hZ hw hby hml hown (by decide) (by decide) (by decide) (by decide) Bd.returns src dst kc kb cs n0 hne hg ok cs [] .unset s₁ _ h0 X0 e0 N0 Z0 Vs Vd rfl One.u rfl
  obtain ⟨fs, hr, hrun, hended, hW, hsame⟩ := X102.leave (v := some (.int (Int32.ofNat (fl cs)))) (fun h => by rw [Bd.returns] at h; cases h)
  refine ⟨_, _, W101 _ (st102 _ hr), hrun, hended, _, _, rfl, ?_, ⟨_, rfl⟩, hW, hsame.mono (by decide) (by decide)⟩
  show Q_compress21 Z src dst kc kb cs h0 n0 _ T102.heap _
  rw [e102]
  exact ⟨rfl, Nl102, (Keep.trans (Keep.refl h0 [dst]) K102 (allS (Or.inl (List.mem_of_getElem? (i := 0) rfl)) all0)), P102_0⟩
def Q_coderOf (Z : State) (t : Addr) (kb : ClassId) (vs : List Value) (cs : List Int32) (h0 : Heap) (n0 : Nat) (vQ_ : Option Value) (hQ_ : Heap) (LQ_ : List Loc) : Prop := vQ_ = some (.int (cdr cs)) ∧ Fr n0 LQ_ ∧ hQ_ = h0
theorem rm_coderOf (l : Launch) (Z : State) (a0 : Array Value) (hw : HW a0 Z) (ws : List Jvm.Cond) (t : Addr) (kb : ClassId) (vs : List Value) (cs : List Int32) (h0 : Heap) (n0 : Nat) (Z0 : n0 ≤ h0.size) (A1 : Arv Z h0 t kb .byte (Int32.ofNat (blen cs)) vs (.int (0 : Int32))) (ok : OkS cs) :
    CT l yn12 (Jvm.Cond.code yn12 jdk_52_method_15_code 2 (some .byte) :: ws) (⟨0, 0, 0, 0⟩ : Room) #[(.ref t), (.int (Int32.ofNat cs.length))] Z h0 (Q_coderOf Z t kb vs cs h0 n0) := by
  refine MetFree.of_bodySF (plainFor_of_name pn_java_lang_StringUTF16) hisR ?_
  intro p e s m args below meth cO s₁ Bd hml hP hK
  obtain ⟨rfl, hZ, hh⟩ := hP
  have hx := Bd.exec
  have hby := Bd.bytes
  have hown : s.vm.findClass "java/lang/StringUTF16" = some m.cls := findClass_of_methodNamed Bd.named
  have hnm := (name_of_methodNamed Bd.named Bd.method).1
  have X0 : Stand p l e (⟨0, 0, 0, 0⟩ : Room) s m #[(.ref t), (.int (Int32.ofNat cs.length))] below meth cO s₁ [] 0 0 := Stand.of_body Bd
  have e0 : s₁.heap = h0 := by rw [← hh, Bd.state]; rfl
  have N0 := Fr.nil n0
  have D_ : ∀ {i : Nat} {x}, decode jdk_52_method_15_code i = x → decode cO.code i = x := fun h => hb hby h
  have W0 : ∀ zQ, SS p e below s₁ m 0 #[.val (.ref t), .val (.int (Int32.ofNat cs.length))] [] zQ → Steps p.tables e below (s₁.setTop (entryFrame m #[(.ref t), (.int (Int32.ofNat cs.length))] 2)) zQ := fun tt kt => castTop (ef_coderOf m t (Int32.ofNat cs.length)) kt
  obtain ⟨cl101, Ar101, -, S101, M101, -, -⟩ := id A1
  have W102 : ∀ zQ, SS p e below s₁ m 8 #[.val (.ref t), .val (.int (Int32.ofNat cs.length))] [(.int (((((Int32.ofNat cs.length) - (Int32.ofNat (blen cs))).toUInt32 >>> ((31 : Int32) &&& 31).toUInt32).toInt32).toInt8.toInt32))] zQ → Steps p.tables e below (s₁.setTop (entryFrame m #[(.ref t), (.int (Int32.ofNat cs.length))] 2)) zQ := by
    intro tt kt
    refine W0 tt ?_
    refine XS.iloadN X0.here hx rfl (D_ d12_0) rfl ?_
    refine XS.aloadN X0.here hx rfl (D_ d12_1) rfl rfl ?_
    refine X0.arraylength hx (by first | exact Ar101.1 | (rw [e0]; exact Ar101.1)) (State.isArrayOf_alike hZ.alike Ar101.2.1) (g := (mkF m 2 #[.val (.ref t), .val (.int (Int32.ofNat cs.length))] [(.ref t), (.int (Int32.ofNat cs.length))])) rfl rfl (D_ d12_2) _ ?_
    rw [len_of S101 M101]
    refine XS.isub X0.here hx rfl (D_ d12_3) rfl ?_
    refine XS.bipush X0.here hx rfl (D_ d12_4) ?_
    refine XS.iushr X0.here hx rfl (D_ d12_6) rfl ?_
    refine XS.i2b X0.here hx rfl (D_ d12_7) rfl ?_
    exact kt
  obtain ⟨fs, hr, hrun, hended, hW, hsame⟩ := X0.leave (v := some (.int (nar .byte (((((Int32.ofNat cs.length) - (Int32.ofNat (blen cs))).toUInt32 >>> ((31 : Int32) &&& 31).toUInt32).toInt32).toInt8.toInt32)))) (fun h => by rw [Bd.returns] at h; cases h)
  refine ⟨_, _, W102 _ (retN X0 hx (t := .byte) Bd.returns (by simp) (D_ d12_8) hr), hrun, hended, _, _, rfl, ?_, ⟨_, rfl⟩, hW, hsame.mono (by decide) (by decide)⟩
  show Q_coderOf Z t kb vs cs h0 n0 _ s₁.heap _
  rw [e0]
  exact ⟨(congrArg (fun q => some (Value.int q)) (own_cdr ok.2)), N0, rfl⟩
def Q_nbl (Z : State) (N : Nat) (h0 : Heap) (n0 : Nat) (vQ_ : Option Value) (hQ_ : Heap) (LQ_ : List Loc) : Prop := vQ_ = some (.int (Int32.ofNat (2 * N))) ∧ Fr n0 LQ_ ∧ hQ_ = h0
theorem rm_nbl (l : Launch) (Z : State) (a0 : Array Value) (hw : HW a0 Z) (ws : List Jvm.Cond) (N : Nat) (h0 : Heap) (n0 : Nat) (Z0 : n0 ≤ h0.size) (hN : 2 * N < 2147483646) :
    CT l yn13 (Jvm.Cond.code yn13 jdk_52_method_3_code 1 (some .int) :: ws) (⟨0, 0, 0, 0⟩ : Room) #[(.int (Int32.ofNat N))] Z h0 (Q_nbl Z N h0 n0) := by
  refine MetFree.of_bodySF (plainFor_of_name pn_java_lang_StringUTF16) hisR ?_
  intro p e s m args below meth cO s₁ Bd hml hP hK
  obtain ⟨rfl, hZ, hh⟩ := hP
  have hx := Bd.exec
  have hby := Bd.bytes
  have hown : s.vm.findClass "java/lang/StringUTF16" = some m.cls := findClass_of_methodNamed Bd.named
  have hnm := (name_of_methodNamed Bd.named Bd.method).1
  have X0 : Stand p l e (⟨0, 0, 0, 0⟩ : Room) s m #[(.int (Int32.ofNat N))] below meth cO s₁ [] 0 0 := Stand.of_body Bd
  have e0 : s₁.heap = h0 := by rw [← hh, Bd.state]; rfl
  have N0 := Fr.nil n0
  have D_ : ∀ {i : Nat} {x}, decode jdk_52_method_3_code i = x → decode cO.code i = x := fun h => hb hby h
  have W0 : ∀ zQ, SS p e below s₁ m 0 #[.val (.int (Int32.ofNat N))] [] zQ → Steps p.tables e below (s₁.setTop (entryFrame m #[(.int (Int32.ofNat N))] 1)) zQ := fun tt kt => castTop (ef_nbl m (Int32.ofNat N)) kt
  have W101 : ∀ zQ, SS p e below s₁ m 58 #[.val (.int (Int32.ofNat N))] [(.int (Int32.ofNat (2 * N)))] zQ → Steps p.tables e below (s₁.setTop (entryFrame m #[(.int (Int32.ofNat N))] 1)) zQ := by
    intro tt kt
    refine W0 tt ?_
    refine XS.iloadN X0.here hx rfl (D_ d13_0) rfl ?_
    refine XS.ifYes X0.here hx rfl (pc0 := 1) (pc' := 12) rfl (D_ d13_1) rfl ((if0 _ _).trans (flt (own_nneg (by omega))).2.1) (by decide) (by decide) ?_
    refine XS.iloadN X0.here hx rfl (D_ d13_12) rfl ?_
    refine X0.ldcInt hx hown (mvT hZ (w157 hw)) (g := (mkF m 13 #[.val (.int (Int32.ofNat N))] [(.int (Int32.ofNat N))])) rfl (D_ d13_13) _ ?_
    refine XS.icmpYes X0.here hx rfl (pc0 := 15) (pc' := 55) rfl (D_ d13_15) rfl (tlt (own_lt (n := 1073741823) (by omega) (by decide))).1 (by decide) (by decide) ?_
    refine XS.iloadN X0.here hx rfl (D_ d13_55) rfl ?_
    refine XS.iconst X0.here hx rfl (D_ d13_56) ?_
    refine XS.ishl X0.here hx rfl (D_ d13_57) rfl ?_
    show SS p e below s₁ m 58 #[.val (.int (Int32.ofNat N))] [(.int ((Int32.ofNat N) <<< ((1 : Int32) &&& 31)))] _
    rw [show ((Int32.ofNat N) <<< ((1 : Int32) &&& 31)) = (Int32.ofNat (2 * N)) from own_shl1 (by omega)]
    exact kt
  obtain ⟨fs, hr, hrun, hended, hW, hsame⟩ := X0.leave (v := some (.int (Int32.ofNat (2 * N)))) (fun h => by rw [Bd.returns] at h; cases h)
  refine ⟨_, _, W101 _ (retI X0 hx Bd.returns (D_ d13_58) hr), hrun, hended, _, _, rfl, ?_, ⟨_, rfl⟩, hW, hsame.mono (by decide) (by decide)⟩
  show Q_nbl Z N h0 n0 _ s₁.heap _
  rw [e0]
  exact ⟨rfl, N0, rfl⟩
def Q_nbf (Z : State) (N : Nat) (h0 : Heap) (n0 : Nat) (vQ_ : Option Value) (hQ_ : Heap) (LQ_ : List Loc) : Prop := ∃ t : Addr, ∃ kb : ClassId, vQ_ = some (.ref t) ∧ Fr n0 LQ_ ∧ Keep h0 hQ_ [] ∧ h0.size ≤ t ∧ Arv Z hQ_ t kb .byte (Int32.ofNat (2 * N)) [] (.int (0 : Int32))
theorem rm_nbf (l : Launch) (Z : State) (a0 : Array Value) (hw : HW a0 Z) (ws : List Jvm.Cond) (N : Nat) (h0 : Heap) (n0 : Nat) (Z0 : n0 ≤ h0.size) (hN : 2 * N ≤ 8) :
    CT l yn14 (Jvm.Cond.code yn14 jdk_52_method_2_code 1 (some (.array .byte)) :: ws) (⟨1, 1, 8, 12⟩ : Room) #[(.int (Int32.ofNat N))] Z h0 (Q_nbf Z N h0 n0) := by
  refine MetFree.of_bodySF (plainFor_of_name pn_java_lang_StringUTF16) hisR ?_
  intro p e s m args below meth cO s₁ Bd hml hP hK
  obtain ⟨rfl, hZ, hh⟩ := hP
  have hx := Bd.exec
  have hby := Bd.bytes
  have hown : s.vm.findClass "java/lang/StringUTF16" = some m.cls := findClass_of_methodNamed Bd.named
  have hnm := (name_of_methodNamed Bd.named Bd.method).1
  have X0 : Stand p l e (⟨1, 1, 8, 12⟩ : Room) s m #[(.int (Int32.ofNat N))] below meth cO s₁ [] 0 0 := Stand.of_body Bd
  have e0 : s₁.heap = h0 := by rw [← hh, Bd.state]; rfl
  have N0 := Fr.nil n0
  have D_ : ∀ {i : Nat} {x}, decode jdk_52_method_2_code i = x → decode cO.code i = x := fun h => hb hby h
  have W0 : ∀ zQ, SS p e below s₁ m 0 #[.val (.int (Int32.ofNat N))] [] zQ → Steps p.tables e below (s₁.setTop (entryFrame m #[(.int (Int32.ofNat N))] 1)) zQ := fun tt kt => castTop (ef_nbf m (Int32.ofNat N)) kt
  obtain ⟨_, _, ⟨T101, L101, k101, n101⟩, -, X101, ⟨Lc101, hQ101, l101, y101, z101⟩, st101⟩ := Jvm.LawKit.callS X0 hx (y := yn13) hown (mvT hZ (w154 hw)) (mvT hZ (w155 hw)) (mvT hZ (w22 hw)) (mvT hZ (w156 hw)) (by decide) (backOf (W := 0) (rm_nbl l Z a0 hw [] N h0 n0 Z0 (by omega)) hZ (w156 hw) (w22 hw) (by decide) (by decide)) (g := (mkF m 1 #[.val (.int (Int32.ofNat N))] [(.int (Int32.ofNat N))])) rfl (by rw [hml]; rfl) (argsL := [(.int (Int32.ofNat N))]) (rest := []) (lenOf pd7 rfl) rfl (wq rfl) (D_ d14_1) (fun _ _ => ⟨rfl, e0, (nb rfl), (nb rfl)⟩)
  dsimp only [Pt.U, Pt.locs, Pt.cells, Pt.slots] at X101 l101 y101 z101 st101 hQ101
  subst l101 y101 z101
  obtain ⟨rfl, Nq101, eq101⟩ := hQ101
  have N101 := Fr.app N0 Nq101
  obtain ⟨T102, h102, k102, X102, e102, E102, A102, st102⟩ := newP X101 hx hZ (aty := .byte) (w24 hw) eq101 (g := (mkF m 4 #[.val (.int (Int32.ofNat N))] [(.int (Int32.ofNat (2 * N)))])) rfl (D_ d14_4) (n := (Int32.ofNat (2 * N))) rfl (own_nneg (by omega)) (cap := 8) (by rw [own_cl (by omega)]; exact hN) (by decide) (by decide) (by decide)
  obtain ⟨b102, g102⟩ : ∃ z, z = h0.size := ⟨_, rfl⟩
  rw [← g102] at A102 st102
  have K102 := (Keep.refl h0 []).ext E102
  have G102 : Arv Z h102 b102 k102 .byte (Int32.ofNat (2 * N)) [] (.int (0 : Int32)) := Arv.new A102 (own_nneg (by omega))
  have W103 : ∀ zQ, SS p e below T102 m 6 #[.val (.int (Int32.ofNat N))] [(.ref b102)] zQ → Steps p.tables e below (s₁.setTop (entryFrame m #[(.int (Int32.ofNat N))] 1)) zQ := by
    intro tt kt
    refine W0 tt ?_
    refine XS.iloadN X0.here hx rfl (D_ d14_0) rfl ?_
    refine st101 _ ?_
    refine st102 _ ?_
    exact kt
  obtain ⟨fs, hr, hrun, hended, hW, hsame⟩ := X102.leave (v := some (.ref b102)) (fun h => by rw [Bd.returns] at h; cases h)
  refine ⟨_, _, W103 _ (own_retR X102 hx Bd.returns rfl rfl (D_ d14_6) hr), hrun, hended, _, _, rfl, ?_, ⟨_, rfl⟩, hW, hsame.mono (by decide) (by decide)⟩
  show Q_nbf Z N h0 n0 _ T102.heap _
  rw [e102]
  exact ⟨b102, k102, rfl, N101, (Keep.trans (Keep.refl h0 []) K102 all0), (Nat.le_of_eq g102.symm), G102⟩
def Q_putChar (Z : State) (t : Addr) (c : Int32) (i : Nat) (N : Nat) (kb : ClassId) (vs : List Value) (h0 : Heap) (n0 : Nat) (vQ_ : Option Value) (hQ_ : Heap) (LQ_ : List Loc) : Prop := vQ_ = none ∧ Fr n0 LQ_ ∧ Keep h0 hQ_ [t] ∧ Arv Z hQ_ t kb .byte (Int32.ofNat (2 * N)) (vs ++ [.int ((c >>> ((0 : Int32) &&& 31)).toInt8.toInt32), .int ((c >>> ((8 : Int32) &&& 31)).toInt8.toInt32)]) (.int (0 : Int32))
theorem rm_putChar (l : Launch) (Z : State) (a0 : Array Value) (hw : HW a0 Z) (ws : List Jvm.Cond) (t : Addr) (c : Int32) (i : Nat) (N : Nat) (kb : ClassId) (vs : List Value) (h0 : Heap) (n0 : Nat) (Z0 : n0 ≤ h0.size) (O0 : Old Z n0 h0) (S_ad : Sta Z Z.heap "java/lang/StringUTF16" "$assertionsDisabled" "Z" (.int (1 : Int32))) (S_hi : Sta Z Z.heap "java/lang/StringUTF16" "HI_BYTE_SHIFT" "I" (.int (0 : Int32))) (S_lo : Sta Z Z.heap "java/lang/StringUTF16" "LO_BYTE_SHIFT" "I" (.int (8 : Int32))) (A1 : Arv Z h0 t kb .byte (Int32.ofNat (2 * N)) vs (.int (0 : Int32))) (hvs : vs.length = 2 * i) (hi : i < N) (hN : 2 * N < 2147483646) (hg : n0 ≤ t) :
    CT l yn15 (Jvm.Cond.code yn15 jdk_52_method_4_code 3 none :: ws) (⟨0, 0, 0, 0⟩ : Room) #[(.ref t), (.int (Int32.ofNat i)), (.int c)] Z h0 (Q_putChar Z t c i N kb vs h0 n0) := by
  refine MetFree.of_bodySF (plainFor_of_name pn_java_lang_StringUTF16) hisR ?_
  intro p e s m args below meth cO s₁ Bd hml hP hK
  obtain ⟨rfl, hZ, hh⟩ := hP
  have hx := Bd.exec
  have hby := Bd.bytes
  have hown : s.vm.findClass "java/lang/StringUTF16" = some m.cls := findClass_of_methodNamed Bd.named
  have hnm := (name_of_methodNamed Bd.named Bd.method).1
  have X0 : Stand p l e (⟨0, 0, 0, 0⟩ : Room) s m #[(.ref t), (.int (Int32.ofNat i)), (.int c)] below meth cO s₁ [] 0 0 := Stand.of_body Bd
  have e0 : s₁.heap = h0 := by rw [← hh, Bd.state]; rfl
  have N0 := Fr.nil n0
  have D_ : ∀ {i : Nat} {x}, decode jdk_52_method_4_code i = x → decode cO.code i = x := fun h => hb hby h
  have W0 : ∀ zQ, SS p e below s₁ m 0 #[.val (.ref t), .val (.int (Int32.ofNat i)), .val (.int c)] [] zQ → Steps p.tables e below (s₁.setTop (entryFrame m #[(.ref t), (.int (Int32.ofNat i)), (.int c)] 3)) zQ := fun tt kt => castTop (ef_putChar m t (Int32.ofNat i) c) kt
  have F102 : Sta Z h0 "java/lang/StringUTF16" "$assertionsDisabled" "Z" (.int (1 : Int32)) := S_ad.ext O0.2
  obtain ⟨T101, X101, e101, st101⟩ := getS2 X0 hx hZ hown (host := "") (Or.inl (w161 hw)) Via.refl e0 F102 (g := (mkF m 0 #[.val (.ref t), .val (.int (Int32.ofNat i)), .val (.int c)] [])) rfl (D_ d15_0)
  have F104 : Sta Z h0 "java/lang/StringUTF16" "HI_BYTE_SHIFT" "I" (.int (0 : Int32)) := S_hi.ext O0.2
  obtain ⟨T103, X103, e103, st103⟩ := getS2 X101 hx hZ hown (host := "") (Or.inl (w162 hw)) Via.refl e101 F104 (g := (mkF m 38 #[.val (.ref t), .val (.int (Int32.ofNat (2 * i + 1))), .val (.int c)] [(.int c), (.int (Int32.ofNat (2 * i))), (.ref t)])) rfl (D_ d15_38)
  obtain ⟨cl105, Ar105, q105, S105, M105, H105, F105g⟩ := id A1
  have hin105 : ¬ ((Int32.ofNat (2 * i)) < 0 ∨ cl105.slots.size ≤ ((Int32.ofNat (2 * i))).toNatClampNeg) := inb_of S105 ⟨own_nneg (by omega), own_lt (by omega) (by omega)⟩
  obtain ⟨T105, h105, X105, e105, Wr105, st105⟩ := stB X103 hx hZ e103 Ar105 (j := (Int32.ofNat (2 * i))) hin105 (g := (mkF m 43 #[.val (.ref t), .val (.int (Int32.ofNat (2 * i + 1))), .val (.int c)] [(.int ((c >>> ((0 : Int32) &&& 31)).toInt8.toInt32)), (.int (Int32.ofNat (2 * i))), (.ref t)])) rfl rfl (D_ d15_43)
  have G105 : Arv Z h105 t kb .byte (Int32.ofNat (2 * N)) (vs ++ [(.int (nar .byte ((c >>> ((0 : Int32) &&& 31)).toInt8.toInt32)))]) (.int (0 : Int32)) := Arv.push Ar105 q105 S105 M105 H105 F105g (fits_nar_byte _) Wr105 (by rw [own_cl (by omega), hvs])
  have K105 := Keep.of_wr Wr105
  have N105 := Fr.snoc X105 N0 hg
  have J105 : Arv Z h105 t kb .byte (Int32.ofNat (2 * N)) (vs ++ [.int ((c >>> ((0 : Int32) &&& 31)).toInt8.toInt32)]) (.int (0 : Int32)) := by rw [← own_narb]; exact G105
  have O107 : Old Z n0 h105 := (O0.keep K105 (allS hg all0))
  have F108 : Sta Z h105 "java/lang/StringUTF16" "LO_BYTE_SHIFT" "I" (.int (8 : Int32)) := S_lo.ext O107.2
  obtain ⟨T106, X106, e106, st106⟩ := getS2 X105 hx hZ hown (host := "") (Or.inl (w163 hw)) Via.refl e105 F108 (g := (mkF m 47 #[.val (.ref t), .val (.int (Int32.ofNat (2 * i + 1))), .val (.int c)] [(.int c), (.int (Int32.ofNat (2 * i + 1))), (.ref t)])) rfl (D_ d15_47)
  obtain ⟨cl109, Ar109, q109, S109, M109, H109, F109g⟩ := id J105
  have hin109 : ¬ ((Int32.ofNat (2 * i + 1)) < 0 ∨ cl109.slots.size ≤ ((Int32.ofNat (2 * i + 1))).toNatClampNeg) := inb_of S109 ⟨own_nneg (by omega), own_lt (by omega) (by omega)⟩
  obtain ⟨T109, h109, X109, e109, Wr109, st109⟩ := stB X106 hx hZ e106 Ar109 (j := (Int32.ofNat (2 * i + 1))) hin109 (g := (mkF m 52 #[.val (.ref t), .val (.int (Int32.ofNat (2 * i + 1))), .val (.int c)] [(.int ((c >>> ((8 : Int32) &&& 31)).toInt8.toInt32)), (.int (Int32.ofNat (2 * i + 1))), (.ref t)])) rfl rfl (D_ d15_52)
  have G109 : Arv Z h109 t kb .byte (Int32.ofNat (2 * N)) ((vs ++ [.int ((c >>> ((0 : Int32) &&& 31)).toInt8.toInt32)]) ++ [(.int (nar .byte ((c >>> ((8 : Int32) &&& 31)).toInt8.toInt32)))]) (.int (0 : Int32)) := Arv.push Ar109 q109 S109 M109 H109 F109g (fits_nar_byte _) Wr109 (by rw [own_cl (by omega)]; simp [hvs])
  have K109 := Keep.of_wr Wr109
  have N109 := Fr.snoc X109 N105 hg
  have J109 : Arv Z h109 t kb .byte (Int32.ofNat (2 * N)) (vs ++ [.int ((c >>> ((0 : Int32) &&& 31)).toInt8.toInt32), .int ((c >>> ((8 : Int32) &&& 31)).toInt8.toInt32)]) (.int (0 : Int32)) := by rw [show vs ++ [Value.int ((c >>> ((0 : Int32) &&& 31)).toInt8.toInt32), Value.int ((c >>> ((8 : Int32) &&& 31)).toInt8.toInt32)] = (vs ++ [Value.int ((c >>> ((0 : Int32) &&& 31)).toInt8.toInt32)]) ++ [Value.int (nar .byte ((c >>> ((8 : Int32) &&& 31)).toInt8.toInt32))] from by rw [own_narb]; simp]; exact G109
  have W110 : ∀ zQ, SS p e below T109 m 53 #[.val (.ref t), .val (.int (Int32.ofNat (2 * i + 1))), .val (.int c)] [] zQ → Steps p.tables e below (s₁.setTop (entryFrame m #[(.ref t), (.int (Int32.ofNat i)), (.int c)] 3)) zQ := by
    intro tt kt
    refine W0 tt ?_
    refine st101 _ ?_
    refine XS.ifYes X101.here hx rfl (pc0 := 3) (pc' := 28) rfl (D_ d15_3) rfl ((if0 _ _).trans (feq (by decide)).2) (by decide) (by decide) ?_
    refine XS.iloadN X101.here hx rfl (D_ d15_28) rfl ?_
    refine XS.iconst X101.here hx rfl (D_ d15_29) ?_
    refine XS.ishl X101.here hx rfl (D_ d15_30) rfl ?_
    show SS p e below T101 m 31 #[.val (.ref t), .val (.int (Int32.ofNat i)), .val (.int c)] [(.int ((Int32.ofNat i) <<< ((1 : Int32) &&& 31)))] _
    rw [show ((Int32.ofNat i) <<< ((1 : Int32) &&& 31)) = (Int32.ofNat (2 * i)) from own_shl1 (by omega)]
    refine XS.istoreN X101.here hx rfl (D_ d15_31) rfl (l' := #[.val (.ref t), .val (.int (Int32.ofNat (2 * i))), .val (.int c)]) rfl ?_
    refine XS.aloadN X101.here hx rfl (D_ d15_32) rfl rfl ?_
    refine XS.iloadN X101.here hx rfl (D_ d15_33) rfl ?_
    refine XS.iinc X101.here hx rfl (D_ d15_34) rfl (l' := #[.val (.ref t), .val (.int ((Int32.ofNat (2 * i)) + (1 : Int32))), .val (.int c)]) rfl ?_
    show SS p e below T101 m 37 #[.val (.ref t), .val (.int ((Int32.ofNat (2 * i)) + (1 : Int32))), .val (.int c)] [(.int (Int32.ofNat (2 * i))), (.ref t)] _
    rw [show ((Int32.ofNat (2 * i)) + (1 : Int32)) = (Int32.ofNat (2 * i + 1)) from own_succ _]
    refine XS.iloadN X101.here hx rfl (D_ d15_37) rfl ?_
    refine st103 _ ?_
    refine XS.ishr X103.here hx rfl (D_ d15_41) rfl ?_
    refine XS.i2b X103.here hx rfl (D_ d15_42) rfl ?_
    refine st105 _ ?_
    refine XS.aloadN X105.here hx rfl (D_ d15_44) rfl rfl ?_
    refine XS.iloadN X105.here hx rfl (D_ d15_45) rfl ?_
    refine XS.iloadN X105.here hx rfl (D_ d15_46) rfl ?_
    refine st106 _ ?_
    refine XS.ishr X106.here hx rfl (D_ d15_50) rfl ?_
    refine XS.i2b X106.here hx rfl (D_ d15_51) rfl ?_
    refine st109 _ ?_
    exact kt
  obtain ⟨fs, hr, hrun, hended, hW, hsame⟩ := X109.leave (v := none) (fun _ => rfl)
  refine ⟨_, _, W110 _ (X109.returnOut hx Bd.returns (D_ d15_53) hr), hrun, hended, _, _, rfl, ?_, ⟨_, rfl⟩, hW, hsame.mono (by decide) (by decide)⟩
  show Q_putChar Z t c i N kb vs h0 n0 _ T109.heap _
  rw [e109]
  exact ⟨rfl, N109, (Keep.trans (Keep.trans (Keep.refl h0 [t]) K105 (allS (Or.inl (List.mem_of_getElem? (i := 0) rfl)) all0)) K109 (allS (Or.inl (List.mem_of_getElem? (i := 0) rfl)) all0)), J109⟩
theorem lp_toB {p : Program} {l : Launch} {e : Env} {R : Room} {s : State} {m : MethodId} {args : Array Value} {below : List Frame} {meth : Method} {cO : Code} {cells slots : Nat} {Z : State} {a0 : Array Value} (hx : p.tables.exec = Jvm.exec) (hZ : Z.Warmed39 s.vm) (hw : HW a0 Z) (hby : cO.code = jdk_52_method_14_code) (hml : cO.maxLocals = 5) (hown : s.vm.findClass "java/lang/StringUTF16" = some m.cls) (hRf : 1 ≤ R.frames) (hRl : 14 ≤ R.locals) (hRc : cells ≤ R.cells) (hRs : slots ≤ R.slots) (src : Addr) (t : Addr) (kc : ClassId) (kb : ClassId) (cs : List Int32) (n0 : Nat) (S_ad : Sta Z Z.heap "java/lang/StringUTF16" "$assertionsDisabled" "Z" (.int (1 : Int32))) (S_hi : Sta Z Z.heap "java/lang/StringUTF16" "HI_BYTE_SHIFT" "I" (.int (0 : Int32))) (S_lo : Sta Z Z.heap "java/lang/StringUTF16" "LO_BYTE_SHIFT" "I" (.int (8 : Int32))) (hne : src ≠ t) (hg : n0 ≤ t) (ok : OkS cs) :
    ∀ suf : List Int32, ∀ (pre : List Int32) (T0 : State) (L0 : List Loc) (h0 : Heap) (X0 : Stand p l e R s m args below meth cO T0 L0 cells slots) (e0 : T0.heap = h0) (N0 : Fr n0 L0) (Z0 : n0 ≤ h0.size) (O0 : Old Z n0 h0) (Vs : Arv Z h0 src kc .char (Int32.ofNat cs.length) (cs.map Value.int) (.int (0 : Int32))) (Vd : Arv Z h0 t kb .byte (Int32.ofNat (2 * cs.length)) (u16 pre) (.int (0 : Int32))) (hk : cs = pre ++ suf), ∃ (T' : State) (L' : List Loc) (h' : Heap), Stand p l e R s m args below meth cO T' L' cells slots ∧ T'.heap = h' ∧ Fr n0 L' ∧ Keep h0 h' [t] ∧ Arv Z h' t kb .byte (Int32.ofNat (2 * cs.length)) (u16 cs) (.int (0 : Int32)) ∧ ∀ zQ, SS p e below T' m 32 #[.val (.ref src), .val (.int (Int32.ofNat cs.length)), .val (.int (Int32.ofNat cs.length)), .val (.ref t), .val (.int (Int32.ofNat cs.length))] [] zQ → SS p e below T0 m 8 #[.val (.ref src), .val (.int (Int32.ofNat pre.length)), .val (.int (Int32.ofNat cs.length)), .val (.ref t), .val (.int (Int32.ofNat pre.length))] [] zQ := by
  have D_ : ∀ {i : Nat} {x}, decode jdk_52_method_14_code i = x → decode cO.code i = x := fun h => hb hby h
  intro suf
  induction suf with
  | nil =>
    intro pre T0 L0 h0 X0 e0 N0 Z0 O0 Vs Vd hk
    have W0 : ∀ zQ, SS p e below T0 m 8 #[.val (.ref src), .val (.int (Int32.ofNat pre.length)), .val (.int (Int32.ofNat cs.length)), .val (.ref t), .val (.int (Int32.ofNat pre.length))] [] zQ → Steps p.tables e below (T0.setTop (mkF m 8 #[.val (.ref src), .val (.int (Int32.ofNat pre.length)), .val (.int (Int32.ofNat cs.length)), .val (.ref t), .val (.int (Int32.ofNat pre.length))] [])) zQ := fun tt kt => kt
    have hn : cs.length < 1048576 := ok.2
    have hp : pre = cs := by simpa using hk.symm
    have Vd' : Arv Z h0 t kb .byte (Int32.ofNat (2 * cs.length)) (u16 cs) (.int (0 : Int32)) := by rw [← hp] at Vd ⊢; exact Vd
    have W101 : ∀ zQ, SS p e below T0 m 32 #[.val (.ref src), .val (.int (Int32.ofNat cs.length)), .val (.int (Int32.ofNat cs.length)), .val (.ref t), .val (.int (Int32.ofNat cs.length))] [] zQ → Steps p.tables e below (T0.setTop (mkF m 8 #[.val (.ref src), .val (.int (Int32.ofNat pre.length)), .val (.int (Int32.ofNat cs.length)), .val (.ref t), .val (.int (Int32.ofNat pre.length))] [])) zQ := by
      intro tt kt
      refine W0 tt ?_
      rw [show (Int32.ofNat pre.length) = (Int32.ofNat cs.length) from (by rw [hp])]
      refine XS.iload X0.here hx rfl (D_ d16_8) rfl ?_
      refine XS.iloadN X0.here hx rfl (D_ d16_10) rfl ?_
      refine XS.icmpYes X0.here hx rfl (pc0 := 11) (pc' := 32) rfl (D_ d16_11) rfl (flt Int32.lt_irrefl).2.1 (by decide) (by decide) ?_
      exact kt
    exact ⟨T0, _, h0, X0, e0, N0, (Keep.refl h0 [t]), Vd', fun tt kt => W101 _ kt⟩
  | cons cc r ih =>
    intro pre T0 L0 h0 X0 e0 N0 Z0 O0 Vs Vd hk
    have W0 : ∀ zQ, SS p e below T0 m 8 #[.val (.ref src), .val (.int (Int32.ofNat pre.length)), .val (.int (Int32.ofNat cs.length)), .val (.ref t), .val (.int (Int32.ofNat pre.length))] [] zQ → Steps p.tables e below (T0.setTop (mkF m 8 #[.val (.ref src), .val (.int (Int32.ofNat pre.length)), .val (.int (Int32.ofNat cs.length)), .val (.ref t), .val (.int (Int32.ofNat pre.length))] [])) zQ := fun tt kt => kt
    have hn : cs.length < 1048576 := ok.2
    have hlt : pre.length < cs.length := by rw [hk]; simp
    have hcc : cs.getD pre.length 0 = cc := by rw [hk]; exact app_at pre r cc 0
    obtain ⟨cl102, Ar102, q102, S102, M102, H102, F102g⟩ := id Vs
    have hin102 : ¬ ((Int32.ofNat pre.length) < 0 ∨ cl102.slots.size ≤ ((Int32.ofNat pre.length)).toNatClampNeg) := inb_of S102 ⟨own_nneg (by omega), own_lt hlt (by omega)⟩
    have hat102 : cl102.slots[((Int32.ofNat pre.length)).toNatClampNeg]? = some (.int cc) := Has.at H102 hin102 (by rw [own_cl (by omega), ch_at _ _ _ hlt, hcc])
    obtain ⟨_, _, ⟨T103, L103, k103, n103⟩, -, X103, ⟨Lc103, hQ103, l103, y103, z103⟩, st103⟩ := Jvm.LawKit.callS X0 hx (y := yn15) hown (mvT hZ (w158 hw)) (mvT hZ (w159 hw)) (mvT hZ (w22 hw)) (mvT hZ (w160 hw)) (by decide) (backOf (W := 0) (rm_putChar l Z a0 hw [] t cc pre.length cs.length kb (u16 pre) h0 n0 Z0 O0 S_ad S_hi S_lo Vd (u16_len pre) hlt (by omega) hg) hZ (w160 hw) (w22 hw) (Nat.le_trans (by decide) hRf) (Nat.le_trans (by decide) hRl)) (g := (mkF m 20 #[.val (.ref src), .val (.int (Int32.ofNat pre.length)), .val (.int (Int32.ofNat cs.length)), .val (.ref t), .val (.int (Int32.ofNat pre.length))] [(.int cc), (.int (Int32.ofNat pre.length)), (.ref t)])) rfl (by rw [hml]; rfl) (argsL := [(.ref t), (.int (Int32.ofNat pre.length)), (.int cc)]) (rest := []) (lenOf pd8 rfl) rfl (wq rfl) (D_ d16_20) (fun _ _ => ⟨rfl, e0, hRc, hRs⟩)
    dsimp only [Pt.U, Pt.locs, Pt.cells, Pt.slots] at X103 l103 y103 z103 st103 hQ103
    subst l103 y103 z103
    obtain ⟨rfl, Nq103, K103, P103_0⟩ := hQ103
    have N103 := Fr.app N0 Nq103
    have W104 : ∀ zQ, SS p e below T103 m 8 #[.val (.ref src), .val (.int (Int32.ofNat (pre ++ [cc]).length)), .val (.int (Int32.ofNat cs.length)), .val (.ref t), .val (.int (Int32.ofNat (pre ++ [cc]).length))] [] zQ → Steps p.tables e below (T0.setTop (mkF m 8 #[.val (.ref src), .val (.int (Int32.ofNat pre.length)), .val (.int (Int32.ofNat cs.length)), .val (.ref t), .val (.int (Int32.ofNat pre.length))] [])) zQ := by
      intro tt kt
      refine W0 tt ?_
      refine XS.iload X0.here hx rfl (D_ d16_8) rfl ?_
      refine XS.iloadN X0.here hx rfl (D_ d16_10) rfl ?_
      refine XS.icmpNo X0.here hx rfl (D_ d16_11) rfl (tlt (own_lt hlt (by omega))).2.1 ?_
      refine XS.aloadN X0.here hx rfl (D_ d16_14) rfl rfl ?_
      refine XS.iload X0.here hx rfl (D_ d16_15) rfl ?_
      refine XS.aloadN X0.here hx rfl (D_ d16_17) rfl rfl ?_
      refine XS.iloadN X0.here hx rfl (D_ d16_18) rfl ?_
      refine X0.caload hx (j := (Int32.ofNat pre.length)) (v := (.int cc)) (by first | exact Ar102.1 | (rw [e0]; exact Ar102.1)) (State.isArrayOf_alike hZ.alike Ar102.2.1) Ar102.2.2 hin102 hat102 (g := (mkF m 19 #[.val (.ref src), .val (.int (Int32.ofNat pre.length)), .val (.int (Int32.ofNat cs.length)), .val (.ref t), .val (.int (Int32.ofNat pre.length))] [(.int (Int32.ofNat pre.length)), (.ref src), (.int (Int32.ofNat pre.length)), (.ref t)])) rfl rfl (D_ d16_19) _ ?_
      refine st103 _ ?_
      refine XS.iinc X103.here hx rfl (D_ d16_23) rfl (l' := #[.val (.ref src), .val (.int ((Int32.ofNat pre.length) + (1 : Int32))), .val (.int (Int32.ofNat cs.length)), .val (.ref t), .val (.int (Int32.ofNat pre.length))]) rfl ?_
      refine XS.iinc X103.here hx rfl (D_ d16_26) rfl (l' := #[.val (.ref src), .val (.int ((Int32.ofNat pre.length) + (1 : Int32))), .val (.int (Int32.ofNat cs.length)), .val (.ref t), .val (.int ((Int32.ofNat pre.length) + (1 : Int32)))]) rfl ?_
      show SS p e below T103 m 29 #[.val (.ref src), .val (.int ((Int32.ofNat pre.length) + (1 : Int32))), .val (.int (Int32.ofNat cs.length)), .val (.ref t), .val (.int ((Int32.ofNat pre.length) + (1 : Int32)))] [] _
      rw [show ((Int32.ofNat pre.length) + (1 : Int32)) = (Int32.ofNat (pre ++ [cc]).length) from (by rw [own_succ]; simp)]
      refine XS.goto X103.here hx rfl (pc0 := 29) (pc' := 8) rfl (D_ d16_29) (by decide) (by decide) ?_
      exact kt
    have O106 : Old Z n0 T103.heap := (O0.keep K103 (allS hg all0))
    have F107 : Arv Z T103.heap src kc .char (Int32.ofNat cs.length) (cs.map Value.int) (.int (0 : Int32)) := (Vs.keep K103 (ninS hne nin0))
    obtain ⟨T105, L105, h105, X105, e105, N105, K105, P105_0, st105⟩ := ih (pre ++ [cc]) T103 _ T103.heap X103 rfl N103 (Nat.le_trans Z0 K103.1) O106 F107 (by rw [u16_app]; exact P103_0) (by rw [hk]; simp)
    exact ⟨T105, L105, h105, X105, e105, N105, (Keep.trans (Keep.trans (Keep.refl h0 [t]) K103 (allS (Or.inl (List.mem_of_getElem? (i := 0) rfl)) all0)) K105 (allS (Or.inl (List.mem_of_getElem? (i := 0) rfl)) all0)), P105_0, fun tt kt => W104 _ (st105 _ kt)⟩
def Q_toBytes (Z : State) (src : Addr) (kc : ClassId) (cs : List Int32) (h0 : Heap) (n0 : Nat) (vQ_ : Option Value) (hQ_ : Heap) (LQ_ : List Loc) : Prop := ∃ t : Addr, ∃ kb : ClassId, vQ_ = some (.ref t) ∧ Fr n0 LQ_ ∧ Keep h0 hQ_ [] ∧ h0.size ≤ t ∧ Arv Z hQ_ t kb .byte (Int32.ofNat (2 * cs.length)) (u16 cs) (.int (0 : Int32))
theorem rm_toBytes (l : Launch) (Z : State) (a0 : Array Value) (hw : HW a0 Z) (ws : List Jvm.Cond) (src : Addr) (kc : ClassId) (cs : List Int32) (h0 : Heap) (n0 : Nat) (Z0 : n0 ≤ h0.size) (O0 : Old Z n0 h0) (S_ad : Sta Z Z.heap "java/lang/StringUTF16" "$assertionsDisabled" "Z" (.int (1 : Int32))) (S_hi : Sta Z Z.heap "java/lang/StringUTF16" "HI_BYTE_SHIFT" "I" (.int (0 : Int32))) (S_lo : Sta Z Z.heap "java/lang/StringUTF16" "LO_BYTE_SHIFT" "I" (.int (8 : Int32))) (Vs : Arv Z h0 src kc .char (Int32.ofNat cs.length) (cs.map Value.int) (.int (0 : Int32))) (ok : OkS cs) (hcap : cs.length ≤ 4) :
    CT l yn16 (Jvm.Cond.code yn16 jdk_52_method_14_code 5 (some (.array .byte)) :: ws) (⟨2, 1, 8, 24⟩ : Room) #[(.ref src), (.int (0 : Int32)), (.int (Int32.ofNat cs.length))] Z h0 (Q_toBytes Z src kc cs h0 n0) := by
  refine MetFree.of_bodySF (plainFor_of_name pn_java_lang_StringUTF16) hisR ?_
  intro p e s m args below meth cO s₁ Bd hml hP hK
  obtain ⟨rfl, hZ, hh⟩ := hP
  have hx := Bd.exec
  have hby := Bd.bytes
  have hown : s.vm.findClass "java/lang/StringUTF16" = some m.cls := findClass_of_methodNamed Bd.named
  have hnm := (name_of_methodNamed Bd.named Bd.method).1
  have X0 : Stand p l e (⟨2, 1, 8, 24⟩ : Room) s m #[(.ref src), (.int (0 : Int32)), (.int (Int32.ofNat cs.length))] below meth cO s₁ [] 0 0 := Stand.of_body Bd
  have e0 : s₁.heap = h0 := by rw [← hh, Bd.state]; rfl
  have N0 := Fr.nil n0
  have D_ : ∀ {i : Nat} {x}, decode jdk_52_method_14_code i = x → decode cO.code i = x := fun h => hb hby h
  have W0 : ∀ zQ, SS p e below s₁ m 0 #[.val (.ref src), .val (.int (0 : Int32)), .val (.int (Int32.ofNat cs.length)), .unset, .unset] [] zQ → Steps p.tables e below (s₁.setTop (entryFrame m #[(.ref src), (.int (0 : Int32)), (.int (Int32.ofNat cs.length))] 5)) zQ := fun tt kt => castTop (ef_toBytes m src (0 : Int32) (Int32.ofNat cs.length)) kt
  obtain ⟨_, _, ⟨T101, L101, k101, n101⟩, -, X101, ⟨Lc101, hQ101, l101, y101, z101⟩, st101⟩ := Jvm.LawKit.callS X0 hx (y := yn14) hown (mvT hZ (w151 hw)) (mvT hZ (w152 hw)) (mvT hZ (w22 hw)) (mvT hZ (w153 hw)) (by decide) (backOf (W := 0) (rm_nbf l Z a0 hw [] cs.length h0 n0 Z0 (by omega)) hZ (w153 hw) (w22 hw) (by decide) (by decide)) (g := (mkF m 1 #[.val (.ref src), .val (.int (0 : Int32)), .val (.int (Int32.ofNat cs.length)), .unset, .unset] [(.int (Int32.ofNat cs.length))])) rfl (by rw [hml]; rfl) (argsL := [(.int (Int32.ofNat cs.length))]) (rest := []) (lenOf pd9 rfl) rfl (wq rfl) (D_ d16_1) (fun _ _ => ⟨rfl, e0, (nb rfl), (nb rfl)⟩)
  dsimp only [Pt.U, Pt.locs, Pt.cells, Pt.slots] at X101 l101 y101 z101 st101 hQ101
  subst l101 y101 z101
  obtain ⟨t_102, kb_103, rfl, Nq101, K101, P101_0, P101_1⟩ := hQ101
  have N101 := Fr.app N0 Nq101
  have O105 : Old Z n0 T101.heap := (O0.keep K101 all0)
  have F106 : Arv Z T101.heap src kc .char (Int32.ofNat cs.length) (cs.map Value.int) (.int (0 : Int32)) := (Vs.keep K101 nin0)
  obtain ⟨T104, L104, h104, X104, e104, Nl104, K104, P104_0, st104⟩ := lp_toB hx hZ hw hby hml hown (by decide) (by decide) (by decide) (by decide) src t_102 kc kb_103 cs n0 S_ad S_hi S_lo (Nat.ne_of_lt (Nat.lt_of_lt_of_le Vs.lt P101_0)) (Nat.le_trans Z0 P101_0) ok cs [] T101 _ T101.heap X101 rfl N101 (Nat.le_trans Z0 K101.1) O105 F106 P101_1 rfl
  have W107 : ∀ zQ, SS p e below T104 m 33 #[.val (.ref src), .val (.int (Int32.ofNat cs.length)), .val (.int (Int32.ofNat cs.length)), .val (.ref t_102), .val (.int (Int32.ofNat cs.length))] [(.ref t_102)] zQ → Steps p.tables e below (s₁.setTop (entryFrame m #[(.ref src), (.int (0 : Int32)), (.int (Int32.ofNat cs.length))] 5)) zQ := by
    intro tt kt
    refine W0 tt ?_
    refine XS.iloadN X0.here hx rfl (D_ d16_0) rfl ?_
    refine st101 _ ?_
    refine XS.astoreN X101.here hx rfl (D_ d16_4) rfl rfl (l' := #[.val (.ref src), .val (.int (0 : Int32)), .val (.int (Int32.ofNat cs.length)), .val (.ref t_102), .unset]) rfl ?_
    refine XS.iconst X101.here hx rfl (D_ d16_5) ?_
    refine XS.istore X101.here hx rfl (D_ d16_6) rfl (l' := #[.val (.ref src), .val (.int (0 : Int32)), .val (.int (Int32.ofNat cs.length)), .val (.ref t_102), .val (.int (0 : Int32))]) rfl ?_
    refine st104 _ ?_
    refine XS.aloadN X104.here hx rfl (D_ d16_32) rfl rfl ?_
    exact kt
  obtain ⟨fs, hr, hrun, hended, hW, hsame⟩ := X104.leave (v := some (.ref t_102)) (fun h => by rw [Bd.returns] at h; cases h)
  refine ⟨_, _, W107 _ (own_retR X104 hx Bd.returns rfl rfl (D_ d16_33) hr), hrun, hended, _, _, rfl, ?_, ⟨_, rfl⟩, hW, hsame.mono (by decide) (by decide)⟩
  show Q_toBytes Z src kc cs h0 n0 _ T104.heap _
  rw [e104]
  exact ⟨t_102, kb_103, rfl, Nl104, (Keep.trans (Keep.trans (Keep.refl h0 []) K101 all0) K104 (allS (Or.inr P101_0) all0)), P101_0, P104_0⟩
def Q_compress16 (Z : State) (src : Addr) (kc : ClassId) (cs : List Int32) (h0 : Heap) (n0 : Nat) (vQ_ : Option Value) (hQ_ : Heap) (LQ_ : List Loc) : Prop := ∃ t : Addr, ∃ kb : ClassId, vQ_ = some (.ref t) ∧ Fr n0 LQ_ ∧ Keep h0 hQ_ [] ∧ h0.size ≤ t ∧ Arv Z hQ_ t kb .byte (Int32.ofNat (blen cs)) (enc cs) (.int (0 : Int32))
theorem rm_compress16 (l : Launch) (Z : State) (a0 : Array Value) (hw : HW a0 Z) (ws : List Jvm.Cond) (src : Addr) (kc : ClassId) (cs : List Int32) (h0 : Heap) (n0 : Nat) (Z0 : n0 ≤ h0.size) (O0 : Old Z n0 h0) (S_ad : Sta Z Z.heap "java/lang/StringUTF16" "$assertionsDisabled" "Z" (.int (1 : Int32))) (S_hi : Sta Z Z.heap "java/lang/StringUTF16" "HI_BYTE_SHIFT" "I" (.int (0 : Int32))) (S_lo : Sta Z Z.heap "java/lang/StringUTF16" "LO_BYTE_SHIFT" "I" (.int (8 : Int32))) (Vs : Arv Z h0 src kc .char (Int32.ofNat cs.length) (cs.map Value.int) (.int (0 : Int32))) (ok : OkS cs) (hcap : cs.length ≤ 4) :
    CT l yn17 (Jvm.Cond.code yn17 jdk_52_method_16_code 6 (some (.array .byte)) :: ws) (⟨3, 2, 12, 40⟩ : Room) #[(.ref src), (.int (0 : Int32)), (.int (Int32.ofNat cs.length))] Z h0 (Q_compress16 Z src kc cs h0 n0) := by
  refine MetFree.of_bodySF (plainFor_of_name pn_java_lang_StringUTF16) hisR ?_
  intro p e s m args below meth cO s₁ Bd hml hP hK
  obtain ⟨rfl, hZ, hh⟩ := hP
  have hx := Bd.exec
  have hby := Bd.bytes
  have hown : s.vm.findClass "java/lang/StringUTF16" = some m.cls := findClass_of_methodNamed Bd.named
  have hnm := (name_of_methodNamed Bd.named Bd.method).1
  have X0 : Stand p l e (⟨3, 2, 12, 40⟩ : Room) s m #[(.ref src), (.int (0 : Int32)), (.int (Int32.ofNat cs.length))] below meth cO s₁ [] 0 0 := Stand.of_body Bd
  have e0 : s₁.heap = h0 := by rw [← hh, Bd.state]; rfl
  have N0 := Fr.nil n0
  have D_ : ∀ {i : Nat} {x}, decode jdk_52_method_16_code i = x → decode cO.code i = x := fun h => hb hby h
  have W0 : ∀ zQ, SS p e below s₁ m 0 #[.val (.ref src), .val (.int (0 : Int32)), .val (.int (Int32.ofNat cs.length)), .unset, .unset, .unset] [] zQ → Steps p.tables e below (s₁.setTop (entryFrame m #[(.ref src), (.int (0 : Int32)), (.int (Int32.ofNat cs.length))] 6)) zQ := fun tt kt => castTop (ef_compress16 m src (0 : Int32) (Int32.ofNat cs.length)) kt
  have hn : cs.length < 1048576 := ok.2
  obtain ⟨T101, h101, k101, X101, e101, E101, A101, st101⟩ := newP X0 hx hZ (aty := .byte) (w24 hw) e0 (g := (mkF m 1 #[.val (.ref src), .val (.int (0 : Int32)), .val (.int (Int32.ofNat cs.length)), .unset, .unset, .unset] [(.int (Int32.ofNat cs.length))])) rfl (D_ d17_1) (n := (Int32.ofNat cs.length)) rfl (own_nneg (by omega)) (cap := 4) (by rw [own_cl (by omega)]; exact hcap) (by decide) (by decide) (by decide)
  obtain ⟨b101, g101⟩ : ∃ z, z = h0.size := ⟨_, rfl⟩
  rw [← g101] at A101 st101
  have K101 := (Keep.refl h0 []).ext E101
  have G101 : Arv Z h101 b101 k101 .byte (Int32.ofNat cs.length) [] (.int (0 : Int32)) := Arv.new A101 (own_nneg (by omega))
  have F102 : Arv Z h101 src kc .char (Int32.ofNat cs.length) (cs.map Value.int) (.int (0 : Int32)) := (Vs.keep K101 nin0)
  obtain ⟨_, _, ⟨T103, L103, k103, n103⟩, -, X103, ⟨Lc103, hQ103, l103, y103, z103⟩, st103⟩ := Jvm.LawKit.callS X101 hx (y := yn11) hown (mvT hZ (w25 hw)) (mvT hZ (w26 hw)) (mvT hZ (w22 hw)) (mvT hZ (w27 hw)) (by decide) (backOf (W := 0) (rm_compress21 l Z a0 hw [] src b101 kc k101 cs h101 n0 (Nat.le_trans Z0 K101.1) F102 G101 (Nat.ne_of_lt (Nat.lt_of_lt_of_le Vs.lt (Nat.le_of_eq g101.symm))) (Nat.le_trans Z0 (Nat.le_of_eq g101.symm)) ok) hZ (w27 hw) (w22 hw) (by decide) (by decide)) (g := (mkF m 9 #[.val (.ref src), .val (.int (0 : Int32)), .val (.int (Int32.ofNat cs.length)), .val (.ref b101), .unset, .unset] [(.int (Int32.ofNat cs.length)), (.int (0 : Int32)), (.ref b101), (.int (0 : Int32)), (.ref src)])) rfl (by rw [hml]; rfl) (argsL := [(.ref src), (.int (0 : Int32)), (.ref b101), (.int (0 : Int32)), (.int (Int32.ofNat cs.length))]) (rest := []) (lenOf pd10 rfl) rfl (wq rfl) (D_ d17_9) (fun _ _ => ⟨rfl, e101, (nb rfl), (nb rfl)⟩)
  dsimp only [Pt.U, Pt.locs, Pt.cells, Pt.slots] at X103 l103 y103 z103 st103 hQ103
  subst l103 y103 z103
  obtain ⟨rfl, Nq103, K103, P103_0⟩ := hQ103
  have N103 := Fr.app N0 Nq103
  have W104 : ∀ zQ, SS p e below T103 m 17 #[.val (.ref src), .val (.int (0 : Int32)), .val (.int (Int32.ofNat cs.length)), .val (.ref b101), .val (.int (Int32.ofNat (fl cs))), .unset] [(.int (Int32.ofNat cs.length)), (.int (Int32.ofNat (fl cs)))] zQ → Steps p.tables e below (s₁.setTop (entryFrame m #[(.ref src), (.int (0 : Int32)), (.int (Int32.ofNat cs.length))] 6)) zQ := by
    intro tt kt
    refine W0 tt ?_
    refine XS.iloadN X0.here hx rfl (D_ d17_0) rfl ?_
    refine st101 _ ?_
    refine XS.astoreN X101.here hx rfl (D_ d17_3) rfl rfl (l' := #[.val (.ref src), .val (.int (0 : Int32)), .val (.int (Int32.ofNat cs.length)), .val (.ref b101), .unset, .unset]) rfl ?_
    refine XS.aloadN X101.here hx rfl (D_ d17_4) rfl rfl ?_
    refine XS.iloadN X101.here hx rfl (D_ d17_5) rfl ?_
    refine XS.aloadN X101.here hx rfl (D_ d17_6) rfl rfl ?_
    refine XS.iconst X101.here hx rfl (D_ d17_7) ?_
    refine XS.iloadN X101.here hx rfl (D_ d17_8) rfl ?_
    refine st103 _ ?_
    refine XS.istore X103.here hx rfl (D_ d17_12) rfl (l' := #[.val (.ref src), .val (.int (0 : Int32)), .val (.int (Int32.ofNat cs.length)), .val (.ref b101), .val (.int (Int32.ofNat (fl cs))), .unset]) rfl ?_
    refine XS.iload X103.here hx rfl (D_ d17_14) rfl ?_
    refine XS.iloadN X103.here hx rfl (D_ d17_16) rfl ?_
    exact kt
  by_cases hc105 : (Int32.ofNat (fl cs)) = (Int32.ofNat cs.length)
  ·
    have hl : lat cs = true := fl_ne (by have := fl_le cs; have q := congrArg Int32.toInt hc105; rw [own_i (by omega), own_i (by omega)] at q; omega)
    have W106 : ∀ zQ, SS p e below T103 m 58 #[.val (.ref src), .val (.int (0 : Int32)), .val (.int (Int32.ofNat cs.length)), .val (.ref b101), .val (.int (Int32.ofNat (fl cs))), .unset] [(.ref b101)] zQ → Steps p.tables e below (s₁.setTop (entryFrame m #[(.ref src), (.int (0 : Int32)), (.int (Int32.ofNat cs.length))] 6)) zQ := by
      intro tt kt
      refine W104 tt ?_
      refine XS.icmpYes X103.here hx rfl (pc0 := 17) (pc' := 57) rfl (D_ d17_17) rfl (teq hc105).1 (by decide) (by decide) ?_
      refine XS.aloadN X103.here hx rfl (D_ d17_57) rfl rfl ?_
      exact kt
    have hR107 : Arv Z T103.heap b101 k101 .byte (Int32.ofNat (blen cs)) (enc cs) (.int (0 : Int32)) := by have q := enc_lat hl; rw [q.1, q.2.1]; rw [show cs.take (fl cs) = cs from by rw [fl_lat hl]; simp] at P103_0; exact P103_0
    obtain ⟨fs, hr, hrun, hended, hW, hsame⟩ := X103.leave (v := some (.ref b101)) (fun h => by rw [Bd.returns] at h; cases h)
    refine ⟨_, _, W106 _ (own_retR X103 hx Bd.returns rfl rfl (D_ d17_58) hr), hrun, hended, _, _, rfl, ?_, ⟨_, rfl⟩, hW, hsame.mono (by decide) (by decide)⟩
    show Q_compress16 Z src kc cs h0 n0 _ T103.heap _
    exact ⟨b101, k101, rfl, N103, (Keep.trans (Keep.trans (Keep.refl h0 []) K101 all0) K103 (allS (Or.inr (Nat.le_of_eq g101.symm)) all0)), (Nat.le_of_eq g101.symm), hR107⟩
  ·
    have hl : ¬ lat cs = true := fun q => hc105 (by rw [fl_lat q])
    have F108 : Arv Z T103.heap src kc .char (Int32.ofNat cs.length) (cs.map Value.int) (.int (0 : Int32)) := (F102.keep K103 (ninS (Nat.ne_of_lt (Nat.lt_of_lt_of_le Vs.lt (Nat.le_of_eq g101.symm))) nin0))
    have O109 : Old Z n0 T103.heap := ((O0.keep K101 all0).keep K103 (allS (Nat.le_trans Z0 (Nat.le_of_eq g101.symm)) all0))
    have z111 : n0 ≤ T103.heap.size := (Nat.le_trans Z0 (Nat.le_trans K101.1 K103.1))
    obtain ⟨_, _, ⟨T110, L110, k110, n110⟩, -, X110, ⟨Lc110, hQ110, l110, y110, z110⟩, st110⟩ := Jvm.LawKit.callS X103 hx (y := yn16) hown (mvT hZ (w148 hw)) (mvT hZ (w149 hw)) (mvT hZ (w22 hw)) (mvT hZ (w150 hw)) (by decide) (backOf (W := 0) (rm_toBytes l Z a0 hw [] src kc cs T103.heap n0 z111 O109 S_ad S_hi S_lo F108 ok hcap) hZ (w150 hw) (w22 hw) (by decide) (by decide)) (g := (mkF m 23 #[.val (.ref src), .val (.int (0 : Int32)), .val (.int (Int32.ofNat cs.length)), .val (.ref b101), .val (.int (Int32.ofNat (fl cs))), .unset] [(.int (Int32.ofNat cs.length)), (.int (0 : Int32)), (.ref src)])) rfl (by rw [hml]; rfl) (argsL := [(.ref src), (.int (0 : Int32)), (.int (Int32.ofNat cs.length))]) (rest := []) (lenOf pd11 rfl) rfl (wq rfl) (D_ d17_23) (fun _ _ => ⟨rfl, rfl, (nb rfl), (nb rfl)⟩)
    dsimp only [Pt.U, Pt.locs, Pt.cells, Pt.slots] at X110 l110 y110 z110 st110 hQ110
    subst l110 y110 z110
    obtain ⟨t_112, kb_113, rfl, Nq110, K110, P110_0, P110_1⟩ := hQ110
    have N110 := Fr.app N103 Nq110
    have O114 : Old Z n0 T110.heap := (O109.keep K110 all0)
    obtain ⟨_, _, ⟨T115, L115, k115, n115⟩, -, X115, ⟨Lc115, hQ115, l115, y115, z115⟩, st115⟩ := Jvm.LawKit.callS X110 hx (y := yn5) hown (mvT hZ (w164 hw)) (mvT hZ (w165 hw)) (mvT hZ (w22 hw)) (mvT hZ (w166 hw)) (by decide) (backOf (W := 0) (rm_getChar l Z a0 hw [] t_112 (fl cs) kb_113 cs T110.heap n0 (Nat.le_trans z111 K110.1) O114 S_ad S_hi S_lo P110_1 (fl_nlat hl).1 ok) hZ (w166 hw) (w22 hw) (by decide) (by decide)) (g := (mkF m 32 #[.val (.ref src), .val (.int (0 : Int32)), .val (.int (Int32.ofNat cs.length)), .val (.ref b101), .val (.int (Int32.ofNat (fl cs))), .val (.ref t_112)] [(.int (Int32.ofNat (fl cs))), (.ref t_112)])) rfl (by rw [hml]; rfl) (argsL := [(.ref t_112), (.int (Int32.ofNat (fl cs)))]) (rest := []) (lenOf pd4 rfl) rfl (wq rfl) (D_ d17_32) (fun _ _ => ⟨rfl, rfl, (nb rfl), (nb rfl)⟩)
    dsimp only [Pt.U, Pt.locs, Pt.cells, Pt.slots] at X115 l115 y115 z115 st115 hQ115
    subst l115 y115 z115
    obtain ⟨rfl, Nq115, eq115⟩ := hQ115
    have N115 := Fr.app N110 Nq115
    have W116 : ∀ zQ, SS p e below T115 m 56 #[.val (.ref src), .val (.int (0 : Int32)), .val (.int (Int32.ofNat cs.length)), .val (.ref b101), .val (.int (Int32.ofNat (fl cs))), .val (.ref t_112)] [(.ref t_112)] zQ → Steps p.tables e below (s₁.setTop (entryFrame m #[(.ref src), (.int (0 : Int32)), (.int (Int32.ofNat cs.length))] 6)) zQ := by
      intro tt kt
      refine W104 tt ?_
      refine XS.icmpNo X103.here hx rfl (D_ d17_17) rfl (feq hc105).1 ?_
      refine XS.aloadN X103.here hx rfl (D_ d17_20) rfl rfl ?_
      refine XS.iloadN X103.here hx rfl (D_ d17_21) rfl ?_
      refine XS.iloadN X103.here hx rfl (D_ d17_22) rfl ?_
      refine st110 _ ?_
      refine XS.astore X110.here hx rfl (D_ d17_26) rfl rfl (l' := #[.val (.ref src), .val (.int (0 : Int32)), .val (.int (Int32.ofNat cs.length)), .val (.ref b101), .val (.int (Int32.ofNat (fl cs))), .val (.ref t_112)]) rfl ?_
      refine XS.aload X110.here hx rfl (D_ d17_28) rfl rfl ?_
      refine XS.iload X110.here hx rfl (D_ d17_30) rfl ?_
      refine st115 _ ?_
      refine XS.sipush X115.here hx rfl (D_ d17_35) ?_
      refine XS.icmpYes X115.here hx rfl (pc0 := 38) (pc' := 54) rfl (D_ d17_38) rfl (tlt (fl_nlat hl).2).2.2.1 (by decide) (by decide) ?_
      refine XS.aload X115.here hx rfl (D_ d17_54) rfl rfl ?_
      exact kt
    have hR117 : Arv Z T110.heap t_112 kb_113 .byte (Int32.ofNat (blen cs)) (enc cs) (.int (0 : Int32)) := by have q := enc_nlat hl; rw [q.1, q.2.1]; exact P110_1
    obtain ⟨fs, hr, hrun, hended, hW, hsame⟩ := X115.leave (v := some (.ref t_112)) (fun h => by rw [Bd.returns] at h; cases h)
    refine ⟨_, _, W116 _ (own_retR X115 hx Bd.returns rfl rfl (D_ d17_56) hr), hrun, hended, _, _, rfl, ?_, ⟨_, rfl⟩, hW, hsame.mono (by decide) (by decide)⟩
    show Q_compress16 Z src kc cs h0 n0 _ T115.heap _
    rw [eq115]
    exact ⟨t_112, kb_113, rfl, N115, (Keep.trans (Keep.trans (Keep.trans (Keep.refl h0 []) K101 all0) K103 (allS (Or.inr (Nat.le_of_eq g101.symm)) all0)) K110 all0), (Nat.le_trans (Nat.le_trans K101.1 K103.1) P110_0), hR117⟩
def Q_sinitV (Z : State) (a : Addr) (src : Addr) (kc : ClassId) (cs : List Int32) (cS : Int32) (h0 : Heap) (n0 : Nat) (vQ_ : Option Value) (hQ_ : Heap) (LQ_ : List Loc) : Prop := ∃ t : Addr, ∃ kb : ClassId, vQ_ = none ∧ Fr n0 LQ_ ∧ Keep h0 hQ_ [a] ∧ h0.size ≤ t ∧ Str Z hQ_ a t kb cs
theorem rm_sinitV (l : Launch) (Z : State) (a0 : Array Value) (hw : HW a0 Z) (ws : List Jvm.Cond) (a : Addr) (src : Addr) (kc : ClassId) (cs : List Int32) (cS : Int32) (h0 : Heap) (n0 : Nat) (Z0 : n0 ≤ h0.size) (O0 : Old Z n0 h0) (S_cs : Sta Z Z.heap "java/lang/String" "COMPACT_STRINGS" "Z" (.int cS)) (hcS : ¬ (cS = (0 : Int32))) (S_ad : Sta Z Z.heap "java/lang/StringUTF16" "$assertionsDisabled" "Z" (.int (1 : Int32))) (S_hi : Sta Z Z.heap "java/lang/StringUTF16" "HI_BYTE_SHIFT" "I" (.int (0 : Int32))) (S_lo : Sta Z Z.heap "java/lang/StringUTF16" "LO_BYTE_SHIFT" "I" (.int (8 : Int32))) (E1 : Exa Z h0 a "java/lang/String") (F1 : Fld Z h0 a "java/lang/String" "value" "[B" .null) (F2 : Fld Z h0 a "java/lang/String" "coder" "B" (.int (0 : Int32))) (hg : n0 ≤ a) (Vs : Arv Z h0 src kc .char (Int32.ofNat cs.length) (cs.map Value.int) (.int (0 : Int32))) (ok : OkS cs) (hcap : cs.length ≤ 4) (hpos : 0 < cs.length) (hne : a ≠ src) :
    CT l yn18 (Jvm.Cond.code yn18 jdk_42_method_149_code 6 none :: ws) (⟨4, 2, 12, 57⟩ : Room) #[(.ref a), (.ref src), (.int (0 : Int32)), (.int (Int32.ofNat cs.length)), .null] Z h0 (Q_sinitV Z a src kc cs cS h0 n0) := by
  refine MetFree.of_bodySF (plainFor_of_name pn_java_lang_String) hisR ?_
  intro p e s m args below meth cO s₁ Bd hml hP hK
  obtain ⟨rfl, hZ, hh⟩ := hP
  have hx := Bd.exec
  have hby := Bd.bytes
  have hown : s.vm.findClass "java/lang/String" = some m.cls := findClass_of_methodNamed Bd.named
  have hnm := (name_of_methodNamed Bd.named Bd.method).1
  have X0 : Stand p l e (⟨4, 2, 12, 57⟩ : Room) s m #[(.ref a), (.ref src), (.int (0 : Int32)), (.int (Int32.ofNat cs.length)), .null] below meth cO s₁ [] 0 0 := Stand.of_body Bd
  have e0 : s₁.heap = h0 := by rw [← hh, Bd.state]; rfl
  have N0 := Fr.nil n0
  have D_ : ∀ {i : Nat} {x}, decode jdk_42_method_149_code i = x → decode cO.code i = x := fun h => hb hby h
  have W0 : ∀ zQ, SS p e below s₁ m 0 #[.val (.ref a), .val (.ref src), .val (.int (0 : Int32)), .val (.int (Int32.ofNat cs.length)), .val .null, .unset] [] zQ → Steps p.tables e below (s₁.setTop (entryFrame m #[(.ref a), (.ref src), (.int (0 : Int32)), (.int (Int32.ofNat cs.length)), .null] 6)) zQ := fun tt kt => castTop (ef_sinitV m a src (0 : Int32) (Int32.ofNat cs.length)) kt
  have hn : cs.length < 1048576 := ok.2
  obtain ⟨T101, X101, e101, st101⟩ := initO X0 hx hZ hown (w16 hw) (w17 hw) (w18 hw) e0 (g := (mkF m 1 #[.val (.ref a), .val (.ref src), .val (.int (0 : Int32)), .val (.int (Int32.ofNat cs.length)), .val .null, .unset] [(.ref a)])) rfl (by rw [hml]; rfl) rfl (D_ d18_1) (by decide) (W := 0) (by show 2 * 0 + _ ≤ _; exact Nat.le_of_eq rfl) (by decide)
  have F103 : Sta Z h0 "java/lang/String" "COMPACT_STRINGS" "Z" (.int cS) := S_cs.ext O0.2
  obtain ⟨T102, X102, e102, st102⟩ := getS2 X101 hx hZ hown (host := "") (Or.inl (w19 hw)) Via.refl e101 F103 (g := (mkF m 27 #[.val (.ref a), .val (.ref src), .val (.int (0 : Int32)), .val (.int (Int32.ofNat cs.length)), .val .null, .unset] [])) rfl (D_ d18_27)
  obtain ⟨_, _, ⟨T104, L104, k104, n104⟩, -, X104, ⟨Lc104, hQ104, l104, y104, z104⟩, st104⟩ := Jvm.LawKit.callS X102 hx (y := yn17) hown (mvT hZ (w20 hw)) (mvT hZ (w21 hw)) (mvT hZ (w22 hw)) (mvT hZ (w23 hw)) (by decide) (backOf (W := 0) (rm_compress16 l Z a0 hw [] src kc cs h0 n0 Z0 O0 S_ad S_hi S_lo Vs ok hcap) hZ (w23 hw) (w22 hw) (by decide) (by decide)) (g := (mkF m 36 #[.val (.ref a), .val (.ref src), .val (.int (0 : Int32)), .val (.int (Int32.ofNat cs.length)), .val .null, .unset] [(.int (Int32.ofNat cs.length)), (.int (0 : Int32)), (.ref src)])) rfl (by rw [hml]; rfl) (argsL := [(.ref src), (.int (0 : Int32)), (.int (Int32.ofNat cs.length))]) (rest := []) (lenOf pd11 rfl) rfl (wq rfl) (D_ d18_36) (fun _ _ => ⟨rfl, e102, (nb rfl), (nb rfl)⟩)
  dsimp only [Pt.U, Pt.locs, Pt.cells, Pt.slots] at X104 l104 y104 z104 st104 hQ104
  subst l104 y104 z104
  obtain ⟨t_105, kb_106, rfl, Nq104, K104, P104_0, P104_1⟩ := hQ104
  have N104 := Fr.app N0 Nq104
  obtain ⟨_, _, ⟨T107, L107, k107, n107⟩, -, X107, ⟨Lc107, hQ107, l107, y107, z107⟩, st107⟩ := Jvm.LawKit.callS X104 hx (y := yn12) hown (mvT hZ (w28 hw)) (mvT hZ (w29 hw)) (mvT hZ (w22 hw)) (mvT hZ (w30 hw)) (by decide) (backOf (W := 1) (rm_coderOf l Z a0 hw [] t_105 kb_106 (enc cs) cs T104.heap n0 (Nat.le_trans Z0 K104.1) P104_1 ok) hZ (w30 hw) (w22 hw) (by decide) (by decide)) (g := (mkF m 45 #[.val (.ref a), .val (.ref src), .val (.int (0 : Int32)), .val (.int (Int32.ofNat cs.length)), .val .null, .val (.ref t_105)] [(.int (Int32.ofNat cs.length)), (.ref t_105), (.ref a)])) rfl (by rw [hml]; rfl) (argsL := [(.ref t_105), (.int (Int32.ofNat cs.length))]) (rest := [(.ref a)]) (lenOf pd12 rfl) rfl (wq rfl) (D_ d18_45) (fun _ _ => ⟨rfl, rfl, (nb rfl), (nb rfl)⟩)
  dsimp only [Pt.U, Pt.locs, Pt.cells, Pt.slots] at X107 l107 y107 z107 st107 hQ107
  subst l107 y107 z107
  obtain ⟨rfl, Nq107, eq107⟩ := hQ107
  have N107 := Fr.app N104 Nq107
  have F108 : Exa Z T104.heap a "java/lang/String" := (E1.keep K104)
  have F109 : Fld Z T104.heap a "java/lang/String" "coder" "B" (.int (0 : Int32)) := (F2.keep K104 nin0)
  obtain ⟨T110, h110, X110, e110, Wr110, st110⟩ := putFN X107 hx hZ hown (w31 hw) Via.refl eq107 F109 F108 (Or.inr ⟨(w32 hw), rfl, hnm⟩) (w7 hw) (ty := .byte) (v' := (.int (cdr cs))) (by decide) (show narrow .byte (.int (cdr cs)) = .int (cdr cs) from congrArg Value.int (own_narcdr cs)) (own_fitcdr cs) (g := (mkF m 48 #[.val (.ref a), .val (.ref src), .val (.int (0 : Int32)), .val (.int (Int32.ofNat cs.length)), .val .null, .val (.ref t_105)] [(.int (cdr cs)), (.ref a)])) rfl rfl (D_ d18_48)
  have K110 := Keep.of_wr Wr110
  have G110 := F109.same Wr110
  have N110 := Fr.snoc X110 N107 hg
  have F111 : Exa Z h110 a "java/lang/String" := (F108.keep K110)
  have F112 : Fld Z h110 a "java/lang/String" "value" "[B" .null := (Fld.other Wr110 (F1.keep K104 nin0) (Or.inr (slot_ne (Or.inr (w34 hw)) (Or.inr (w32 hw)) (by decide) (t := (.array .byte)) (t' := .byte) (by decide) (by decide))))
  obtain ⟨T113, h113, X113, e113, Wr113, st113⟩ := putF X110 hx hZ hown (host := "") (Or.inl (w33 hw)) Via.refl e110 F112 F111 (Or.inr ⟨(w34 hw), rfl, hnm⟩) (w7 hw) (ty := (.array .byte)) (by decide) rfl rfl (g := (mkF m 54 #[.val (.ref a), .val (.ref src), .val (.int (0 : Int32)), .val (.int (Int32.ofNat cs.length)), .val .null, .val (.ref t_105)] [(.ref t_105), (.ref a)])) rfl rfl (D_ d18_54)
  have K113 := Keep.of_wr Wr113
  have G113 := F112.same Wr113
  have N113 := Fr.snoc X113 N110 hg
  have W114 : ∀ zQ, SS p e below T113 m 57 #[.val (.ref a), .val (.ref src), .val (.int (0 : Int32)), .val (.int (Int32.ofNat cs.length)), .val .null, .val (.ref t_105)] [] zQ → Steps p.tables e below (s₁.setTop (entryFrame m #[(.ref a), (.ref src), (.int (0 : Int32)), (.int (Int32.ofNat cs.length)), .null] 6)) zQ := by
    intro tt kt
    refine W0 tt ?_
    refine XS.aloadN X0.here hx rfl (D_ d18_0) rfl rfl ?_
    refine st101 _ ?_
    refine XS.iloadN X101.here hx rfl (D_ d18_4) rfl ?_
    refine XS.ifYes X101.here hx rfl (pc0 := 5) (pc' := 27) rfl (D_ d18_5) rfl ((if0 _ _).trans (feq (fun q => by have := congrArg Int32.toInt q; rw [own_i (by omega)] at this; have z : (0 : Int32).toInt = 0 := rfl; omega)).2) (by decide) (by decide) ?_
    refine st102 _ ?_
    refine XS.ifNo X102.here hx rfl (D_ d18_30) rfl ((if0 _ _).trans (feq hcS).1) ?_
    refine XS.aloadN X102.here hx rfl (D_ d18_33) rfl rfl ?_
    refine XS.iloadN X102.here hx rfl (D_ d18_34) rfl ?_
    refine XS.iloadN X102.here hx rfl (D_ d18_35) rfl ?_
    refine st104 _ ?_
    refine XS.astore X104.here hx rfl (D_ d18_39) rfl rfl (l' := #[.val (.ref a), .val (.ref src), .val (.int (0 : Int32)), .val (.int (Int32.ofNat cs.length)), .val .null, .val (.ref t_105)]) rfl ?_
    refine XS.aloadN X104.here hx rfl (D_ d18_41) rfl rfl ?_
    refine XS.aload X104.here hx rfl (D_ d18_42) rfl rfl ?_
    refine XS.iloadN X104.here hx rfl (D_ d18_44) rfl ?_
    refine st107 _ ?_
    refine st110 _ ?_
    refine XS.aloadN X110.here hx rfl (D_ d18_51) rfl rfl ?_
    refine XS.aload X110.here hx rfl (D_ d18_52) rfl rfl ?_
    refine st113 _ ?_
    exact kt
  have F115 : Exa Z h113 a "java/lang/String" := (F111.keep K113)
  have F116 : Fld Z h113 a "java/lang/String" "coder" "B" (.int (cdr cs)) := (Fld.other Wr113 G110 (Or.inr (slot_ne (Or.inr (w32 hw)) (Or.inr (w34 hw)) (by decide) (t := .byte) (t' := (.array .byte)) (by decide) (by decide))))
  have F117 : Arv Z h113 t_105 kb_106 .byte (Int32.ofNat (blen cs)) (enc cs) (.int (0 : Int32)) := ((P104_1.keep K110 (ninS (Ne.symm (Nat.ne_of_lt (Nat.lt_of_lt_of_le E1.lt P104_0))) nin0)).keep K113 (ninS (Ne.symm (Nat.ne_of_lt (Nat.lt_of_lt_of_le E1.lt P104_0))) nin0))
  obtain ⟨fs, hr, hrun, hended, hW, hsame⟩ := X113.leave (v := none) (fun _ => rfl)
  refine ⟨_, _, W114 _ (X113.returnOut hx Bd.returns (D_ d18_57) hr), hrun, hended, _, _, rfl, ?_, ⟨_, rfl⟩, hW, hsame.mono (by decide) (by decide)⟩
  show Q_sinitV Z a src kc cs cS h0 n0 _ T113.heap _
  rw [e113]
  exact ⟨t_105, kb_106, rfl, N113, (Keep.trans (Keep.trans (Keep.trans (Keep.refl h0 [a]) K104 all0) K110 (allS (Or.inl (List.mem_of_getElem? (i := 0) rfl)) all0)) K113 (allS (Or.inl (List.mem_of_getElem? (i := 0) rfl)) all0)), P104_0, ⟨F115, G113, F116, F117, ok⟩⟩
def Q_sinit (Z : State) (a : Addr) (src : Addr) (kc : ClassId) (cs : List Int32) (cS : Int32) (h0 : Heap) (n0 : Nat) (vQ_ : Option Value) (hQ_ : Heap) (LQ_ : List Loc) : Prop := ∃ t : Addr, ∃ kb : ClassId, vQ_ = none ∧ Fr n0 LQ_ ∧ Keep h0 hQ_ [a] ∧ h0.size ≤ t ∧ Str Z hQ_ a t kb cs
theorem rm_sinit (l : Launch) (Z : State) (a0 : Array Value) (hw : HW a0 Z) (ws : List Jvm.Cond) (a : Addr) (src : Addr) (kc : ClassId) (cs : List Int32) (cS : Int32) (h0 : Heap) (n0 : Nat) (Z0 : n0 ≤ h0.size) (O0 : Old Z n0 h0) (S_cs : Sta Z Z.heap "java/lang/String" "COMPACT_STRINGS" "Z" (.int cS)) (hcS : ¬ (cS = (0 : Int32))) (S_ad : Sta Z Z.heap "java/lang/StringUTF16" "$assertionsDisabled" "Z" (.int (1 : Int32))) (S_hi : Sta Z Z.heap "java/lang/StringUTF16" "HI_BYTE_SHIFT" "I" (.int (0 : Int32))) (S_lo : Sta Z Z.heap "java/lang/StringUTF16" "LO_BYTE_SHIFT" "I" (.int (8 : Int32))) (E1 : Exa Z h0 a "java/lang/String") (F1 : Fld Z h0 a "java/lang/String" "value" "[B" .null) (F2 : Fld Z h0 a "java/lang/String" "coder" "B" (.int (0 : Int32))) (hg : n0 ≤ a) (Vs : Arv Z h0 src kc .char (Int32.ofNat cs.length) (cs.map Value.int) (.int (0 : Int32))) (ok : OkS cs) (hcap : cs.length ≤ 4) (hpos : 0 < cs.length) (hne : a ≠ src) :
    CT l yn19 (Jvm.Cond.code yn19 jdk_42_method_3_code 2 none :: ws) (⟨5, 2, 12, 74⟩ : Room) #[(.ref a), (.ref src)] Z h0 (Q_sinit Z a src kc cs cS h0 n0) := by
  refine MetFree.of_bodySF (plainFor_of_name pn_java_lang_String) hisR ?_
  intro p e s m args below meth cO s₁ Bd hml hP hK
  obtain ⟨rfl, hZ, hh⟩ := hP
  have hx := Bd.exec
  have hby := Bd.bytes
  have hown : s.vm.findClass "java/lang/String" = some m.cls := findClass_of_methodNamed Bd.named
  have hnm := (name_of_methodNamed Bd.named Bd.method).1
  have X0 : Stand p l e (⟨5, 2, 12, 74⟩ : Room) s m #[(.ref a), (.ref src)] below meth cO s₁ [] 0 0 := Stand.of_body Bd
  have e0 : s₁.heap = h0 := by rw [← hh, Bd.state]; rfl
  have N0 := Fr.nil n0
  have D_ : ∀ {i : Nat} {x}, decode jdk_42_method_3_code i = x → decode cO.code i = x := fun h => hb hby h
  have W0 : ∀ zQ, SS p e below s₁ m 0 #[.val (.ref a), .val (.ref src)] [] zQ → Steps p.tables e below (s₁.setTop (entryFrame m #[(.ref a), (.ref src)] 2)) zQ := fun tt kt => castTop (ef_sinit m a src) kt
  obtain ⟨cl101, Ar101, -, S101, M101, -, -⟩ := id Vs
  obtain ⟨_, _, ⟨T102, L102, k102, n102⟩, -, X102, ⟨Lc102, hQ102, l102, y102, z102⟩, st102⟩ := X0.specialBack hx (y := yn18) rfl hown (mvT hZ (w12 hw)) (mvT hZ (w13 hw)) (mvT hZ (w15 hw)) (by decide) (backOf (W := 0) (rm_sinitV l Z a0 hw [] a src kc cs cS h0 n0 Z0 O0 S_cs hcS S_ad S_hi S_lo E1 F1 F2 hg Vs ok hcap hpos hne) hZ (w15 hw) (w8 hw) (by decide) (by decide)) (g := (mkF m 6 #[.val (.ref a), .val (.ref src)] [.null, (.int (Int32.ofNat cs.length)), (.int (0 : Int32)), (.ref src), (.ref a)])) rfl (by rw [hml]; rfl) (Steps.refl _) (a := a) (argsL := [(.ref src), (.int (0 : Int32)), (.int (Int32.ofNat cs.length)), .null]) (rest := []) (lenOf pd13 rfl) rfl (wq rfl) (D_ d19_6) (fun _ _ => ⟨rfl, e0, (nb rfl), (nb rfl)⟩)
  dsimp only [Pt.U, Pt.locs, Pt.cells, Pt.slots] at X102 l102 y102 z102 st102 hQ102
  subst l102 y102 z102
  obtain ⟨t_103, kb_104, rfl, Nq102, K102, P102_0, P102_1⟩ := hQ102
  have N102 := Fr.app N0 Nq102
  have W105 : ∀ zQ, SS p e below T102 m 9 #[.val (.ref a), .val (.ref src)] [] zQ → Steps p.tables e below (s₁.setTop (entryFrame m #[(.ref a), (.ref src)] 2)) zQ := by
    intro tt kt
    refine W0 tt ?_
    refine XS.aloadN X0.here hx rfl (D_ d19_0) rfl rfl ?_
    refine XS.aloadN X0.here hx rfl (D_ d19_1) rfl rfl ?_
    refine XS.iconst X0.here hx rfl (D_ d19_2) ?_
    refine XS.aloadN X0.here hx rfl (D_ d19_3) rfl rfl ?_
    refine X0.arraylength hx (by first | exact Ar101.1 | (rw [e0]; exact Ar101.1)) (State.isArrayOf_alike hZ.alike Ar101.2.1) (g := (mkF m 4 #[.val (.ref a), .val (.ref src)] [(.ref src), (.int (0 : Int32)), (.ref src), (.ref a)])) rfl rfl (D_ d19_4) _ ?_
    rw [len_of S101 M101]
    refine XS.aconstNull X0.here hx rfl (D_ d19_5) ?_
    refine st102.trans ?_
    exact kt
  obtain ⟨fs, hr, hrun, hended, hW, hsame⟩ := X102.leave (v := none) (fun _ => rfl)
  refine ⟨_, _, W105 _ (X102.returnOut hx Bd.returns (D_ d19_9) hr), hrun, hended, _, _, rfl, ?_, ⟨_, rfl⟩, hW, hsame.mono (by decide) (by decide)⟩
  show Q_sinit Z a src kc cs cS h0 n0 _ T102.heap _
  exact ⟨t_103, kb_104, rfl, N102, (Keep.trans (Keep.refl h0 [a]) K102 (allS (Or.inl (List.mem_of_getElem? (i := 0) rfl)) all0)), P102_0, P102_1⟩
def Q_pcheckFT (Z : State) (j : Int32) (k : Int32) (z : Int32) (fm : Value) (h0 : Heap) (n0 : Nat) (vQ_ : Option Value) (hQ_ : Heap) (LQ_ : List Loc) : Prop := vQ_ = some (.int j) ∧ Fr n0 LQ_ ∧ hQ_ = h0
theorem rm_pcheckFT (l : Launch) (Z : State) (a0 : Array Value) (hw : HW a0 Z) (ws : List Jvm.Cond) (j : Int32) (k : Int32) (z : Int32) (fm : Value) (h0 : Heap) (n0 : Nat) (Z0 : n0 ≤ h0.size) (hfm : fm.isRef = true) (hj0 : ¬ (j < (0 : Int32))) (hj1 : ¬ (k < j)) (hj2 : ¬ (z < k)) :
    CT l yn20 (Jvm.Cond.code yn20 jdk_41_method_12_code 4 (some .int) :: ws) (⟨0, 0, 0, 0⟩ : Room) #[(.int j), (.int k), (.int z), fm] Z h0 (Q_pcheckFT Z j k z fm h0 n0) := by
  refine MetFree.of_bodySF (plainFor_of_name pn_jdk_internal_util_Preconditions) hisR ?_
  intro p e s m args below meth cO s₁ Bd hml hP hK
  obtain ⟨rfl, hZ, hh⟩ := hP
  have hx := Bd.exec
  have hby := Bd.bytes
  have hown : s.vm.findClass "jdk/internal/util/Preconditions" = some m.cls := findClass_of_methodNamed Bd.named
  have hnm := (name_of_methodNamed Bd.named Bd.method).1
  have X0 : Stand p l e (⟨0, 0, 0, 0⟩ : Room) s m #[(.int j), (.int k), (.int z), fm] below meth cO s₁ [] 0 0 := Stand.of_body Bd
  have e0 : s₁.heap = h0 := by rw [← hh, Bd.state]; rfl
  have N0 := Fr.nil n0
  have D_ : ∀ {i : Nat} {x}, decode jdk_41_method_12_code i = x → decode cO.code i = x := fun h => hb hby h
  have W0 : ∀ zQ, SS p e below s₁ m 0 #[.val (.int j), .val (.int k), .val (.int z), .val fm] [] zQ → Steps p.tables e below (s₁.setTop (entryFrame m #[(.int j), (.int k), (.int z), fm] 4)) zQ := fun tt kt => castTop (ef_pcheckFT m j k z fm (XT.cat1 hfm)) kt
  have W101 : ∀ zQ, SS p e below s₁ m 23 #[.val (.int j), .val (.int k), .val (.int z), .val fm] [(.int j)] zQ → Steps p.tables e below (s₁.setTop (entryFrame m #[(.int j), (.int k), (.int z), fm] 4)) zQ := by
    intro tt kt
    refine W0 tt ?_
    refine XS.iloadN X0.here hx rfl (D_ d20_0) rfl ?_
    refine XS.ifNo X0.here hx rfl (D_ d20_1) rfl ((if0 _ _).trans (flt hj0).1) ?_
    refine XS.iloadN X0.here hx rfl (D_ d20_4) rfl ?_
    refine XS.iloadN X0.here hx rfl (D_ d20_5) rfl ?_
    refine XS.icmpNo X0.here hx rfl (D_ d20_6) rfl (flt hj1).2.2.1 ?_
    refine XS.iloadN X0.here hx rfl (D_ d20_9) rfl ?_
    refine XS.iloadN X0.here hx rfl (D_ d20_10) rfl ?_
    refine XS.icmpYes X0.here hx rfl (pc0 := 11) (pc' := 22) rfl (D_ d20_11) rfl (flt hj2).2.2.2 (by decide) (by decide) ?_
    refine XS.iloadN X0.here hx rfl (D_ d20_22) rfl ?_
    exact kt
  obtain ⟨fs, hr, hrun, hended, hW, hsame⟩ := X0.leave (v := some (.int j)) (fun h => by rw [Bd.returns] at h; cases h)
  refine ⟨_, _, W101 _ (retI X0 hx Bd.returns (D_ d20_23) hr), hrun, hended, _, _, rfl, ?_, ⟨_, rfl⟩, hW, hsame.mono (by decide) (by decide)⟩
  show Q_pcheckFT Z j k z fm h0 n0 _ s₁.heap _
  rw [e0]
  exact ⟨rfl, N0, rfl⟩
def Q_scheckBE (Z : State) (j : Int32) (k : Int32) (z : Int32) (fm : Value) (h0 : Heap) (n0 : Nat) (vQ_ : Option Value) (hQ_ : Heap) (LQ_ : List Loc) : Prop := vQ_ = none ∧ Fr n0 LQ_ ∧ hQ_ = h0
theorem rm_scheckBE (l : Launch) (Z : State) (a0 : Array Value) (hw : HW a0 Z) (ws : List Jvm.Cond) (j : Int32) (k : Int32) (z : Int32) (fm : Value) (h0 : Heap) (n0 : Nat) (Z0 : n0 ≤ h0.size) (O0 : Old Z n0 h0) (S_fm : Sta Z Z.heap "jdk/internal/util/Preconditions" "SIOOBE_FORMATTER" "Ljava/util/function/BiFunction;" fm) (hfm : fm.isRef = true) (hj0 : ¬ (j < (0 : Int32))) (hj1 : ¬ (k < j)) (hj2 : ¬ (z < k)) :
    CT l yn21 (Jvm.Cond.code yn21 jdk_42_method_158_code 3 none :: ws) (⟨1, 0, 0, 15⟩ : Room) #[(.int j), (.int k), (.int z)] Z h0 (Q_scheckBE Z j k z fm h0 n0) := by
  refine MetFree.of_bodySF (plainFor_of_name pn_java_lang_String) hisR ?_
  intro p e s m args below meth cO s₁ Bd hml hP hK
  obtain ⟨rfl, hZ, hh⟩ := hP
  have hx := Bd.exec
  have hby := Bd.bytes
  have hown : s.vm.findClass "java/lang/String" = some m.cls := findClass_of_methodNamed Bd.named
  have hnm := (name_of_methodNamed Bd.named Bd.method).1
  have X0 : Stand p l e (⟨1, 0, 0, 15⟩ : Room) s m #[(.int j), (.int k), (.int z)] below meth cO s₁ [] 0 0 := Stand.of_body Bd
  have e0 : s₁.heap = h0 := by rw [← hh, Bd.state]; rfl
  have N0 := Fr.nil n0
  have D_ : ∀ {i : Nat} {x}, decode jdk_42_method_158_code i = x → decode cO.code i = x := fun h => hb hby h
  have W0 : ∀ zQ, SS p e below s₁ m 0 #[.val (.int j), .val (.int k), .val (.int z)] [] zQ → Steps p.tables e below (s₁.setTop (entryFrame m #[(.int j), (.int k), (.int z)] 3)) zQ := fun tt kt => castTop (ef_scheckBE m j k z) kt
  have F102 : Sta Z h0 "jdk/internal/util/Preconditions" "SIOOBE_FORMATTER" "Ljava/util/function/BiFunction;" fm := S_fm.ext O0.2
  obtain ⟨T101, X101, e101, st101⟩ := getS2 X0 hx hZ hown (host := "") (Or.inl (w91 hw)) Via.refl e0 F102 (g := (mkF m 3 #[.val (.int j), .val (.int k), .val (.int z)] [(.int z), (.int k), (.int j)])) rfl (D_ d21_3)
  obtain ⟨_, _, ⟨T103, L103, k103, n103⟩, -, X103, ⟨Lc103, hQ103, l103, y103, z103⟩, st103⟩ := Jvm.LawKit.callS X101 hx (y := yn20) hown (mvT hZ (w93 hw)) (mvT hZ (w94 hw)) (mvT hZ (w92 hw)) (mvT hZ (w95 hw)) (by decide) (backOf (W := 0) (rm_pcheckFT l Z a0 hw [] j k z fm h0 n0 Z0 hfm hj0 hj1 hj2) hZ (w95 hw) (w92 hw) (by decide) (by decide)) (g := (mkF m 6 #[.val (.int j), .val (.int k), .val (.int z)] [fm, (.int z), (.int k), (.int j)])) rfl (by rw [hml]; rfl) (argsL := [(.int j), (.int k), (.int z), fm]) (rest := []) (lenOf pd14 rfl) rfl (wq rfl) (D_ d21_6) (fun _ _ => ⟨rfl, e101, (nb rfl), (nb rfl)⟩)
  dsimp only [Pt.U, Pt.locs, Pt.cells, Pt.slots] at X103 l103 y103 z103 st103 hQ103
  subst l103 y103 z103
  obtain ⟨rfl, Nq103, eq103⟩ := hQ103
  have N103 := Fr.app N0 Nq103
  have W104 : ∀ zQ, SS p e below T103 m 10 #[.val (.int j), .val (.int k), .val (.int z)] [] zQ → Steps p.tables e below (s₁.setTop (entryFrame m #[(.int j), (.int k), (.int z)] 3)) zQ := by
    intro tt kt
    refine W0 tt ?_
    refine XS.iloadN X0.here hx rfl (D_ d21_0) rfl ?_
    refine XS.iloadN X0.here hx rfl (D_ d21_1) rfl ?_
    refine XS.iloadN X0.here hx rfl (D_ d21_2) rfl ?_
    refine st101 _ ?_
    refine st103 _ ?_
    refine XS.pop X103.here hx rfl (D_ d21_9) rfl rfl ?_
    exact kt
  obtain ⟨fs, hr, hrun, hended, hW, hsame⟩ := X103.leave (v := none) (fun _ => rfl)
  refine ⟨_, _, W104 _ (X103.returnOut hx Bd.returns (D_ d21_10) hr), hrun, hended, _, _, rfl, ?_, ⟨_, rfl⟩, hW, hsame.mono (by decide) (by decide)⟩
  show Q_scheckBE Z j k z fm h0 n0 _ T103.heap _
  rw [eq103]
  exact ⟨rfl, N103, rfl⟩
def Q_pcheckFIS (Z : State) (fm : Value) (i : Nat) (n : Nat) (N : Nat) (h0 : Heap) (n0 : Nat) (vQ_ : Option Value) (hQ_ : Heap) (LQ_ : List Loc) : Prop := vQ_ = some (.int (Int32.ofNat i)) ∧ Fr n0 LQ_ ∧ hQ_ = h0
theorem rm_pcheckFIS (l : Launch) (Z : State) (a0 : Array Value) (hw : HW a0 Z) (ws : List Jvm.Cond) (fm : Value) (i : Nat) (n : Nat) (N : Nat) (h0 : Heap) (n0 : Nat) (Z0 : n0 ≤ h0.size) (hfm : fm.isRef = true) (hin : i + n ≤ N) (hN : N < 2147483648) :
    CT l yn22 (Jvm.Cond.code yn22 jdk_41_method_13_code 4 (some .int) :: ws) (⟨0, 0, 0, 0⟩ : Room) #[(.int (Int32.ofNat i)), (.int (Int32.ofNat n)), (.int (Int32.ofNat N)), fm] Z h0 (Q_pcheckFIS Z fm i n N h0 n0) := by
  refine MetFree.of_bodySF (plainFor_of_name pn_jdk_internal_util_Preconditions) hisR ?_
  intro p e s m args below meth cO s₁ Bd hml hP hK
  obtain ⟨rfl, hZ, hh⟩ := hP
  have hx := Bd.exec
  have hby := Bd.bytes
  have hown : s.vm.findClass "jdk/internal/util/Preconditions" = some m.cls := findClass_of_methodNamed Bd.named
  have hnm := (name_of_methodNamed Bd.named Bd.method).1
  have X0 : Stand p l e (⟨0, 0, 0, 0⟩ : Room) s m #[(.int (Int32.ofNat i)), (.int (Int32.ofNat n)), (.int (Int32.ofNat N)), fm] below meth cO s₁ [] 0 0 := Stand.of_body Bd
  have e0 : s₁.heap = h0 := by rw [← hh, Bd.state]; rfl
  have N0 := Fr.nil n0
  have D_ : ∀ {i : Nat} {x}, decode jdk_41_method_13_code i = x → decode cO.code i = x := fun h => hb hby h
  have W0 : ∀ zQ, SS p e below s₁ m 0 #[.val (.int (Int32.ofNat i)), .val (.int (Int32.ofNat n)), .val (.int (Int32.ofNat N)), .val fm] [] zQ → Steps p.tables e below (s₁.setTop (entryFrame m #[(.int (Int32.ofNat i)), (.int (Int32.ofNat n)), (.int (Int32.ofNat N)), fm] 4)) zQ := fun tt kt => castTop (ef_pcheckFIS m (Int32.ofNat i) (Int32.ofNat n) (Int32.ofNat N) fm (XT.cat1 hfm)) kt
  have W101 : ∀ zQ, SS p e below s₁ m 24 #[.val (.int (Int32.ofNat i)), .val (.int (Int32.ofNat n)), .val (.int (Int32.ofNat N)), .val fm] [(.int (Int32.ofNat i))] zQ → Steps p.tables e below (s₁.setTop (entryFrame m #[(.int (Int32.ofNat i)), (.int (Int32.ofNat n)), (.int (Int32.ofNat N)), fm] 4)) zQ := by
    intro tt kt
    refine W0 tt ?_
    refine XS.iloadN X0.here hx rfl (D_ d22_0) rfl ?_
    refine XS.iloadN X0.here hx rfl (D_ d22_1) rfl ?_
    refine XS.ior X0.here hx rfl (D_ d22_2) rfl ?_
    refine XS.iloadN X0.here hx rfl (D_ d22_3) rfl ?_
    refine XS.ior X0.here hx rfl (D_ d22_4) rfl ?_
    refine XS.ifNo X0.here hx rfl (D_ d22_5) rfl ((if0 _ _).trans (flt (own_or3 (by omega) (by omega) (by omega))).1) ?_
    refine XS.iloadN X0.here hx rfl (D_ d22_8) rfl ?_
    refine XS.iloadN X0.here hx rfl (D_ d22_9) rfl ?_
    refine XS.iloadN X0.here hx rfl (D_ d22_10) rfl ?_
    refine XS.isub X0.here hx rfl (D_ d22_11) rfl ?_
    show SS p e below s₁ m 12 #[.val (.int (Int32.ofNat i)), .val (.int (Int32.ofNat n)), .val (.int (Int32.ofNat N)), .val fm] [(.int ((Int32.ofNat N) - (Int32.ofNat i))), (.int (Int32.ofNat n))] _
    rw [show ((Int32.ofNat N) - (Int32.ofNat i)) = (Int32.ofNat (N - i)) from own_sub (by omega) (by omega)]
    refine XS.icmpYes X0.here hx rfl (pc0 := 12) (pc' := 23) rfl (D_ d22_12) rfl (flt (own_nlt (by omega) (by omega))).2.2.2 (by decide) (by decide) ?_
    refine XS.iloadN X0.here hx rfl (D_ d22_23) rfl ?_
    exact kt
  obtain ⟨fs, hr, hrun, hended, hW, hsame⟩ := X0.leave (v := some (.int (Int32.ofNat i))) (fun h => by rw [Bd.returns] at h; cases h)
  refine ⟨_, _, W101 _ (retI X0 hx Bd.returns (D_ d22_24) hr), hrun, hended, _, _, rfl, ?_, ⟨_, rfl⟩, hW, hsame.mono (by decide) (by decide)⟩
  show Q_pcheckFIS Z fm i n N h0 n0 _ s₁.heap _
  rw [e0]
  exact ⟨rfl, N0, rfl⟩
def Q_scheckOC (Z : State) (i : Nat) (n : Nat) (N : Nat) (fm : Value) (h0 : Heap) (n0 : Nat) (vQ_ : Option Value) (hQ_ : Heap) (LQ_ : List Loc) : Prop := vQ_ = some (.int (Int32.ofNat i)) ∧ Fr n0 LQ_ ∧ hQ_ = h0
theorem rm_scheckOC (l : Launch) (Z : State) (a0 : Array Value) (hw : HW a0 Z) (ws : List Jvm.Cond) (i : Nat) (n : Nat) (N : Nat) (fm : Value) (h0 : Heap) (n0 : Nat) (Z0 : n0 ≤ h0.size) (O0 : Old Z n0 h0) (S_fm : Sta Z Z.heap "jdk/internal/util/Preconditions" "SIOOBE_FORMATTER" "Ljava/util/function/BiFunction;" fm) (hfm : fm.isRef = true) (hin : i + n ≤ N) (hN : N < 2147483648) :
    CT l yn23 (Jvm.Cond.code yn23 jdk_42_method_157_code 3 (some .int) :: ws) (⟨1, 0, 0, 15⟩ : Room) #[(.int (Int32.ofNat i)), (.int (Int32.ofNat n)), (.int (Int32.ofNat N))] Z h0 (Q_scheckOC Z i n N fm h0 n0) := by
  refine MetFree.of_bodySF (plainFor_of_name pn_java_lang_String) hisR ?_
  intro p e s m args below meth cO s₁ Bd hml hP hK
  obtain ⟨rfl, hZ, hh⟩ := hP
  have hx := Bd.exec
  have hby := Bd.bytes
  have hown : s.vm.findClass "java/lang/String" = some m.cls := findClass_of_methodNamed Bd.named
  have hnm := (name_of_methodNamed Bd.named Bd.method).1
  have X0 : Stand p l e (⟨1, 0, 0, 15⟩ : Room) s m #[(.int (Int32.ofNat i)), (.int (Int32.ofNat n)), (.int (Int32.ofNat N))] below meth cO s₁ [] 0 0 := Stand.of_body Bd
  have e0 : s₁.heap = h0 := by rw [← hh, Bd.state]; rfl
  have N0 := Fr.nil n0
  have D_ : ∀ {i : Nat} {x}, decode jdk_42_method_157_code i = x → decode cO.code i = x := fun h => hb hby h
  have W0 : ∀ zQ, SS p e below s₁ m 0 #[.val (.int (Int32.ofNat i)), .val (.int (Int32.ofNat n)), .val (.int (Int32.ofNat N))] [] zQ → Steps p.tables e below (s₁.setTop (entryFrame m #[(.int (Int32.ofNat i)), (.int (Int32.ofNat n)), (.int (Int32.ofNat N))] 3)) zQ := fun tt kt => castTop (ef_scheckOC m (Int32.ofNat i) (Int32.ofNat n) (Int32.ofNat N)) kt
  have F102 : Sta Z h0 "jdk/internal/util/Preconditions" "SIOOBE_FORMATTER" "Ljava/util/function/BiFunction;" fm := S_fm.ext O0.2
  obtain ⟨T101, X101, e101, st101⟩ := getS2 X0 hx hZ hown (host := "") (Or.inl (w91 hw)) Via.refl e0 F102 (g := (mkF m 3 #[.val (.int (Int32.ofNat i)), .val (.int (Int32.ofNat n)), .val (.int (Int32.ofNat N))] [(.int (Int32.ofNat N)), (.int (Int32.ofNat n)), (.int (Int32.ofNat i))])) rfl (D_ d23_3)
  obtain ⟨_, _, ⟨T103, L103, k103, n103⟩, -, X103, ⟨Lc103, hQ103, l103, y103, z103⟩, st103⟩ := Jvm.LawKit.callS X101 hx (y := yn22) hown (mvT hZ (w203 hw)) (mvT hZ (w204 hw)) (mvT hZ (w92 hw)) (mvT hZ (w205 hw)) (by decide) (backOf (W := 0) (rm_pcheckFIS l Z a0 hw [] fm i n N h0 n0 Z0 hfm hin hN) hZ (w205 hw) (w92 hw) (by decide) (by decide)) (g := (mkF m 6 #[.val (.int (Int32.ofNat i)), .val (.int (Int32.ofNat n)), .val (.int (Int32.ofNat N))] [fm, (.int (Int32.ofNat N)), (.int (Int32.ofNat n)), (.int (Int32.ofNat i))])) rfl (by rw [hml]; rfl) (argsL := [(.int (Int32.ofNat i)), (.int (Int32.ofNat n)), (.int (Int32.ofNat N)), fm]) (rest := []) (lenOf pd14 rfl) rfl (wq rfl) (D_ d23_6) (fun _ _ => ⟨rfl, e101, (nb rfl), (nb rfl)⟩)
  dsimp only [Pt.U, Pt.locs, Pt.cells, Pt.slots] at X103 l103 y103 z103 st103 hQ103
  subst l103 y103 z103
  obtain ⟨rfl, Nq103, eq103⟩ := hQ103
  have N103 := Fr.app N0 Nq103
  have W104 : ∀ zQ, SS p e below T103 m 9 #[.val (.int (Int32.ofNat i)), .val (.int (Int32.ofNat n)), .val (.int (Int32.ofNat N))] [(.int (Int32.ofNat i))] zQ → Steps p.tables e below (s₁.setTop (entryFrame m #[(.int (Int32.ofNat i)), (.int (Int32.ofNat n)), (.int (Int32.ofNat N))] 3)) zQ := by
    intro tt kt
    refine W0 tt ?_
    refine XS.iloadN X0.here hx rfl (D_ d23_0) rfl ?_
    refine XS.iloadN X0.here hx rfl (D_ d23_1) rfl ?_
    refine XS.iloadN X0.here hx rfl (D_ d23_2) rfl ?_
    refine st101 _ ?_
    refine st103 _ ?_
    exact kt
  obtain ⟨fs, hr, hrun, hended, hW, hsame⟩ := X103.leave (v := some (.int (Int32.ofNat i))) (fun h => by rw [Bd.returns] at h; cases h)
  refine ⟨_, _, W104 _ (retI X103 hx Bd.returns (D_ d23_9) hr), hrun, hended, _, _, rfl, ?_, ⟨_, rfl⟩, hW, hsame.mono (by decide) (by decide)⟩
  show Q_scheckOC Z i n N fm h0 n0 _ T103.heap _
  rw [eq103]
  exact ⟨rfl, N103, rfl⟩
def Q_u16checkOC (Z : State) (t : Addr) (i : Nat) (n : Nat) (N : Nat) (kb : ClassId) (vs : List Value) (fm : Value) (h0 : Heap) (n0 : Nat) (vQ_ : Option Value) (hQ_ : Heap) (LQ_ : List Loc) : Prop := vQ_ = none ∧ Fr n0 LQ_ ∧ hQ_ = h0
theorem rm_u16checkOC (l : Launch) (Z : State) (a0 : Array Value) (hw : HW a0 Z) (ws : List Jvm.Cond) (t : Addr) (i : Nat) (n : Nat) (N : Nat) (kb : ClassId) (vs : List Value) (fm : Value) (h0 : Heap) (n0 : Nat) (Z0 : n0 ≤ h0.size) (O0 : Old Z n0 h0) (S_fm : Sta Z Z.heap "jdk/internal/util/Preconditions" "SIOOBE_FORMATTER" "Ljava/util/function/BiFunction;" fm) (hfm : fm.isRef = true) (A1 : Arv Z h0 t kb .byte (Int32.ofNat (2 * N)) vs (.int (0 : Int32))) (hin : i + n ≤ N) (hN : 2 * N < 2147483648) :
    CT l yn24 (Jvm.Cond.code yn24 jdk_52_method_94_code 3 none :: ws) (⟨2, 0, 0, 29⟩ : Room) #[(.int (Int32.ofNat i)), (.int (Int32.ofNat n)), (.ref t)] Z h0 (Q_u16checkOC Z t i n N kb vs fm h0 n0) := by
  refine MetFree.of_bodySF (plainFor_of_name pn_java_lang_StringUTF16) hisR ?_
  intro p e s m args below meth cO s₁ Bd hml hP hK
  obtain ⟨rfl, hZ, hh⟩ := hP
  have hx := Bd.exec
  have hby := Bd.bytes
  have hown : s.vm.findClass "java/lang/StringUTF16" = some m.cls := findClass_of_methodNamed Bd.named
  have hnm := (name_of_methodNamed Bd.named Bd.method).1
  have X0 : Stand p l e (⟨2, 0, 0, 29⟩ : Room) s m #[(.int (Int32.ofNat i)), (.int (Int32.ofNat n)), (.ref t)] below meth cO s₁ [] 0 0 := Stand.of_body Bd
  have e0 : s₁.heap = h0 := by rw [← hh, Bd.state]; rfl
  have N0 := Fr.nil n0
  have D_ : ∀ {i : Nat} {x}, decode jdk_52_method_94_code i = x → decode cO.code i = x := fun h => hb hby h
  have W0 : ∀ zQ, SS p e below s₁ m 0 #[.val (.int (Int32.ofNat i)), .val (.int (Int32.ofNat n)), .val (.ref t)] [] zQ → Steps p.tables e below (s₁.setTop (entryFrame m #[(.int (Int32.ofNat i)), (.int (Int32.ofNat n)), (.ref t)] 3)) zQ := fun tt kt => castTop (ef_u16checkOC m (Int32.ofNat i) (Int32.ofNat n) t) kt
  obtain ⟨_, _, ⟨T101, L101, k101, n101⟩, -, X101, ⟨Lc101, hQ101, l101, y101, z101⟩, st101⟩ := Jvm.LawKit.callS X0 hx (y := yn3) hown (mvT hZ (w179 hw)) (mvT hZ (w180 hw)) (mvT hZ (w22 hw)) (mvT hZ (w181 hw)) (by decide) (backOf (W := 2) (rm_u16length l Z a0 hw [] t N kb vs h0 n0 Z0 A1 hN) hZ (w181 hw) (w22 hw) (by decide) (by decide)) (g := (mkF m 3 #[.val (.int (Int32.ofNat i)), .val (.int (Int32.ofNat n)), .val (.ref t)] [(.ref t), (.int (Int32.ofNat n)), (.int (Int32.ofNat i))])) rfl (by rw [hml]; rfl) (argsL := [(.ref t)]) (rest := [(.int (Int32.ofNat n)), (.int (Int32.ofNat i))]) (lenOf pd2 rfl) rfl (wq rfl) (D_ d24_3) (fun _ _ => ⟨rfl, e0, (nb rfl), (nb rfl)⟩)
  dsimp only [Pt.U, Pt.locs, Pt.cells, Pt.slots] at X101 l101 y101 z101 st101 hQ101
  subst l101 y101 z101
  obtain ⟨rfl, Nq101, eq101⟩ := hQ101
  have N101 := Fr.app N0 Nq101
  obtain ⟨_, _, ⟨T102, L102, k102, n102⟩, -, X102, ⟨Lc102, hQ102, l102, y102, z102⟩, st102⟩ := Jvm.LawKit.callS X101 hx (y := yn23) hown (mvT hZ (w200 hw)) (mvT hZ (w201 hw)) (mvT hZ (w8 hw)) (mvT hZ (w202 hw)) (by decide) (backOf (W := 0) (rm_scheckOC l Z a0 hw [] i n N fm h0 n0 Z0 O0 S_fm hfm hin (by omega)) hZ (w202 hw) (w8 hw) (by decide) (by decide)) (g := (mkF m 6 #[.val (.int (Int32.ofNat i)), .val (.int (Int32.ofNat n)), .val (.ref t)] [(.int (Int32.ofNat N)), (.int (Int32.ofNat n)), (.int (Int32.ofNat i))])) rfl (by rw [hml]; rfl) (argsL := [(.int (Int32.ofNat i)), (.int (Int32.ofNat n)), (.int (Int32.ofNat N))]) (rest := []) (lenOf pd15 rfl) rfl (wq rfl) (D_ d24_6) (fun _ _ => ⟨rfl, eq101, (nb rfl), (nb rfl)⟩)
  dsimp only [Pt.U, Pt.locs, Pt.cells, Pt.slots] at X102 l102 y102 z102 st102 hQ102
  subst l102 y102 z102
  obtain ⟨rfl, Nq102, eq102⟩ := hQ102
  have N102 := Fr.app N101 Nq102
  have W103 : ∀ zQ, SS p e below T102 m 10 #[.val (.int (Int32.ofNat i)), .val (.int (Int32.ofNat n)), .val (.ref t)] [] zQ → Steps p.tables e below (s₁.setTop (entryFrame m #[(.int (Int32.ofNat i)), (.int (Int32.ofNat n)), (.ref t)] 3)) zQ := by
    intro tt kt
    refine W0 tt ?_
    refine XS.iloadN X0.here hx rfl (D_ d24_0) rfl ?_
    refine XS.iloadN X0.here hx rfl (D_ d24_1) rfl ?_
    refine XS.aloadN X0.here hx rfl (D_ d24_2) rfl rfl ?_
    refine st101 _ ?_
    refine st102 _ ?_
    refine XS.pop X102.here hx rfl (D_ d24_9) rfl rfl ?_
    exact kt
  obtain ⟨fs, hr, hrun, hended, hW, hsame⟩ := X102.leave (v := none) (fun _ => rfl)
  refine ⟨_, _, W103 _ (X102.returnOut hx Bd.returns (D_ d24_10) hr), hrun, hended, _, _, rfl, ?_, ⟨_, rfl⟩, hW, hsame.mono (by decide) (by decide)⟩
  show Q_u16checkOC Z t i n N kb vs fm h0 n0 _ T102.heap _
  rw [eq102]
  exact ⟨rfl, N102, rfl⟩
def Q_checkLength (Z : State) (j : Int32) (k : Int32) (h0 : Heap) (n0 : Nat) (vQ_ : Option Value) (hQ_ : Heap) (LQ_ : List Loc) : Prop := vQ_ = none ∧ Fr n0 LQ_ ∧ hQ_ = h0
theorem rm_checkLength (l : Launch) (Z : State) (a0 : Array Value) (hw : HW a0 Z) (ws : List Jvm.Cond) (j : Int32) (k : Int32) (h0 : Heap) (n0 : Nat) (Z0 : n0 ≤ h0.size) (hj : ¬ (k < j)) :
    CT l yn25 (Jvm.Cond.code yn25 jdk_65_method_131_code 2 none :: ws) (⟨0, 0, 0, 0⟩ : Room) #[(.int j), (.int k)] Z h0 (Q_checkLength Z j k h0 n0) := by
  refine MetFree.of_bodySF (plainFor_of_name pn_java_util_Arrays) hisR ?_
  intro p e s m args below meth cO s₁ Bd hml hP hK
  obtain ⟨rfl, hZ, hh⟩ := hP
  have hx := Bd.exec
  have hby := Bd.bytes
  have hown : s.vm.findClass "java/util/Arrays" = some m.cls := findClass_of_methodNamed Bd.named
  have hnm := (name_of_methodNamed Bd.named Bd.method).1
  have X0 : Stand p l e (⟨0, 0, 0, 0⟩ : Room) s m #[(.int j), (.int k)] below meth cO s₁ [] 0 0 := Stand.of_body Bd
  have e0 : s₁.heap = h0 := by rw [← hh, Bd.state]; rfl
  have N0 := Fr.nil n0
  have D_ : ∀ {i : Nat} {x}, decode jdk_65_method_131_code i = x → decode cO.code i = x := fun h => hb hby h
  have W0 : ∀ zQ, SS p e below s₁ m 0 #[.val (.int j), .val (.int k)] [] zQ → Steps p.tables e below (s₁.setTop (entryFrame m #[(.int j), (.int k)] 2)) zQ := fun tt kt => castTop (ef_checkLength m j k) kt
  have W101 : ∀ zQ, SS p e below s₁ m 37 #[.val (.int j), .val (.int k)] [] zQ → Steps p.tables e below (s₁.setTop (entryFrame m #[(.int j), (.int k)] 2)) zQ := by
    intro tt kt
    refine W0 tt ?_
    refine XS.iloadN X0.here hx rfl (D_ d25_0) rfl ?_
    refine XS.iloadN X0.here hx rfl (D_ d25_1) rfl ?_
    refine XS.icmpYes X0.here hx rfl (pc0 := 2) (pc' := 37) rfl (D_ d25_2) rfl (flt hj).2.1 (by decide) (by decide) ?_
    exact kt
  obtain ⟨fs, hr, hrun, hended, hW, hsame⟩ := X0.leave (v := none) (fun _ => rfl)
  refine ⟨_, _, W101 _ (X0.returnOut hx Bd.returns (D_ d25_37) hr), hrun, hended, _, _, rfl, ?_, ⟨_, rfl⟩, hW, hsame.mono (by decide) (by decide)⟩
  show Q_checkLength Z j k h0 n0 _ s₁.heap _
  rw [e0]
  exact ⟨rfl, N0, rfl⟩
def Q_mini (Z : State) (j : Int32) (k : Int32) (h0 : Heap) (n0 : Nat) (vQ_ : Option Value) (hQ_ : Heap) (LQ_ : List Loc) : Prop := vQ_ = some (.int (if k < j then k else j)) ∧ Fr n0 LQ_ ∧ hQ_ = h0
theorem rm_mini (l : Launch) (Z : State) (a0 : Array Value) (hw : HW a0 Z) (ws : List Jvm.Cond) (j : Int32) (k : Int32) (h0 : Heap) (n0 : Nat) (Z0 : n0 ≤ h0.size)  :
    CT l yn26 (Jvm.Cond.code yn26 jdk_29_method_69_code 2 (some .int) :: ws) (⟨0, 0, 0, 0⟩ : Room) #[(.int j), (.int k)] Z h0 (Q_mini Z j k h0 n0) := by
  refine MetFree.of_bodySF (Jvm.Free.JP.mathPlain rfl (by decide +kernel)) hisR ?_
  intro p e s m args below meth cO s₁ Bd hml hP hK
  obtain ⟨rfl, hZ, hh⟩ := hP
  have hx := Bd.exec
  have hby := Bd.bytes
  have hown : s.vm.findClass "java/lang/Math" = some m.cls := findClass_of_methodNamed Bd.named
  have hnm := (name_of_methodNamed Bd.named Bd.method).1
  have X0 : Stand p l e (⟨0, 0, 0, 0⟩ : Room) s m #[(.int j), (.int k)] below meth cO s₁ [] 0 0 := Stand.of_body Bd
  have e0 : s₁.heap = h0 := by rw [← hh, Bd.state]; rfl
  have N0 := Fr.nil n0
  have D_ : ∀ {i : Nat} {x}, decode jdk_29_method_69_code i = x → decode cO.code i = x := fun h => hb hby h
  have W0 : ∀ zQ, SS p e below s₁ m 0 #[.val (.int j), .val (.int k)] [] zQ → Steps p.tables e below (s₁.setTop (entryFrame m #[(.int j), (.int k)] 2)) zQ := fun tt kt => castTop (ef_mini m j k) kt
  have W101 : ∀ zQ, SS p e below s₁ m 2 #[.val (.int j), .val (.int k)] [(.int k), (.int j)] zQ → Steps p.tables e below (s₁.setTop (entryFrame m #[(.int j), (.int k)] 2)) zQ := by
    intro tt kt
    refine W0 tt ?_
    refine XS.iloadN X0.here hx rfl (D_ d26_0) rfl ?_
    refine XS.iloadN X0.here hx rfl (D_ d26_1) rfl ?_
    exact kt
  have W103 : ∀ zQ, SS p e below s₁ m 10 #[.val (.int j), .val (.int k)] [(.int (if k < j then k else j))] zQ → Steps p.tables e below (s₁.setTop (entryFrame m #[(.int j), (.int k)] 2)) zQ := by
    intro tt kt
    refine W101 tt ?_
    by_cases hj102 : k < j
    ·
      refine XS.icmpYes X0.here hx rfl (pc0 := 2) (pc' := 9) rfl (D_ d26_2) rfl (tlt hj102).2.2.1 (by decide) (by decide) ?_
      refine XS.iloadN X0.here hx rfl (D_ d26_9) rfl ?_
      exact castTop (by first | rfl | (simp only [if_pos hj102]; first | done | rfl)) kt
    ·
      refine XS.icmpNo X0.here hx rfl (D_ d26_2) rfl (flt hj102).2.2.1 ?_
      refine XS.iloadN X0.here hx rfl (D_ d26_5) rfl ?_
      refine XS.goto X0.here hx rfl (pc0 := 6) (pc' := 10) rfl (D_ d26_6) (by decide) (by decide) ?_
      exact castTop (by first | rfl | (simp only [if_neg hj102]; first | done | rfl)) kt
  obtain ⟨fs, hr, hrun, hended, hW, hsame⟩ := X0.leave (v := some (.int (if k < j then k else j))) (fun h => by rw [Bd.returns] at h; cases h)
  refine ⟨_, _, W103 _ (retI X0 hx Bd.returns (D_ d26_10) hr), hrun, hended, _, _, rfl, ?_, ⟨_, rfl⟩, hW, hsame.mono (by decide) (by decide)⟩
  show Q_mini Z j k h0 n0 _ s₁.heap _
  rw [e0]
  exact ⟨rfl, N0, rfl⟩
def Q_corb (Z : State) (t : Addr) (f : Nat) (gq : Nat) (N : Nat) (kb : ClassId) (vs : List Value) (h0 : Heap) (n0 : Nat) (vQ_ : Option Value) (hQ_ : Heap) (LQ_ : List Loc) : Prop := ∃ r : Addr, ∃ kr : ClassId, vQ_ = some (.ref r) ∧ Fr n0 LQ_ ∧ Keep h0 hQ_ [] ∧ h0.size ≤ r ∧ Arv Z hQ_ r kr .byte (Int32.ofNat (gq - f)) ((vs.drop f).take (gq - f)) (.int (0 : Int32))
theorem rm_corb (l : Launch) (Z : State) (a0 : Array Value) (hw : HW a0 Z) (ws : List Jvm.Cond) (t : Addr) (f : Nat) (gq : Nat) (N : Nat) (kb : ClassId) (vs : List Value) (h0 : Heap) (n0 : Nat) (Z0 : n0 ≤ h0.size) (A1 : Arv Z h0 t kb .byte (Int32.ofNat N) vs (.int (0 : Int32))) (hvs : vs.length = N) (hfg : f ≤ gq) (hgN : gq ≤ N) (hN : N < 2147483648) (hcap : gq - f ≤ 8) :
    CT l yn27 (Jvm.Cond.code yn27 jdk_65_method_133_code 5 (some (.array .byte)) :: ws) (⟨1, 1, 8, 64⟩ : Room) #[(.ref t), (.int (Int32.ofNat f)), (.int (Int32.ofNat gq))] Z h0 (Q_corb Z t f gq N kb vs h0 n0) := by
  refine MetFree.of_bodySF (plainFor_of_name pn_java_util_Arrays) hisR ?_
  intro p e s m args below meth cO s₁ Bd hml hP hK
  obtain ⟨rfl, hZ, hh⟩ := hP
  have hx := Bd.exec
  have hby := Bd.bytes
  have hown : s.vm.findClass "java/util/Arrays" = some m.cls := findClass_of_methodNamed Bd.named
  have hnm := (name_of_methodNamed Bd.named Bd.method).1
  have X0 : Stand p l e (⟨1, 1, 8, 64⟩ : Room) s m #[(.ref t), (.int (Int32.ofNat f)), (.int (Int32.ofNat gq))] below meth cO s₁ [] 0 0 := Stand.of_body Bd
  have e0 : s₁.heap = h0 := by rw [← hh, Bd.state]; rfl
  have N0 := Fr.nil n0
  have D_ : ∀ {i : Nat} {x}, decode jdk_65_method_133_code i = x → decode cO.code i = x := fun h => hb hby h
  have W0 : ∀ zQ, SS p e below s₁ m 0 #[.val (.ref t), .val (.int (Int32.ofNat f)), .val (.int (Int32.ofNat gq)), .unset, .unset] [] zQ → Steps p.tables e below (s₁.setTop (entryFrame m #[(.ref t), (.int (Int32.ofNat f)), (.int (Int32.ofNat gq))] 5)) zQ := fun tt kt => castTop (ef_corb m t (Int32.ofNat f) (Int32.ofNat gq)) kt
  obtain ⟨_, _, ⟨T101, L101, k101, n101⟩, -, X101, ⟨Lc101, hQ101, l101, y101, z101⟩, st101⟩ := Jvm.LawKit.callS X0 hx (y := yn25) hown (mvT hZ (w123 hw)) (mvT hZ (w124 hw)) (mvT hZ (w118 hw)) (mvT hZ (w125 hw)) (by decide) (backOf (W := 0) (rm_checkLength l Z a0 hw [] (Int32.ofNat f) (Int32.ofNat gq) h0 n0 Z0 (own_nlt hfg (by omega))) hZ (w125 hw) (w118 hw) (by decide) (by decide)) (g := (mkF m 2 #[.val (.ref t), .val (.int (Int32.ofNat f)), .val (.int (Int32.ofNat gq)), .unset, .unset] [(.int (Int32.ofNat gq)), (.int (Int32.ofNat f))])) rfl (by rw [hml]; rfl) (argsL := [(.int (Int32.ofNat f)), (.int (Int32.ofNat gq))]) (rest := []) (lenOf pd1 rfl) rfl (wq rfl) (D_ d27_2) (fun _ _ => ⟨rfl, e0, (nb rfl), (nb rfl)⟩)
  dsimp only [Pt.U, Pt.locs, Pt.cells, Pt.slots] at X101 l101 y101 z101 st101 hQ101
  subst l101 y101 z101
  obtain ⟨rfl, Nq101, eq101⟩ := hQ101
  have N101 := Fr.app N0 Nq101
  obtain ⟨T102, h102, k102, X102, e102, E102, A102, st102⟩ := newP X101 hx hZ (aty := .byte) (w24 hw) eq101 (g := (mkF m 10 #[.val (.ref t), .val (.int (Int32.ofNat f)), .val (.int (Int32.ofNat gq)), .val (.int (Int32.ofNat (gq - f))), .unset] [(.int (Int32.ofNat (gq - f)))])) rfl (D_ d27_10) (n := (Int32.ofNat (gq - f))) rfl (own_nneg (by omega)) (cap := 8) (by rw [own_cl (by omega)]; exact hcap) (by decide) (by decide) (by decide)
  obtain ⟨b102, g102⟩ : ∃ z, z = h0.size := ⟨_, rfl⟩
  rw [← g102] at A102 st102
  have K102 := (Keep.refl h0 []).ext E102
  have G102 : Arv Z h102 b102 k102 .byte (Int32.ofNat (gq - f)) [] (.int (0 : Int32)) := Arv.new A102 (own_nneg (by omega))
  have J103 : Arv Z h102 b102 k102 .byte (Int32.ofNat (gq - f)) (List.replicate (gq - f) (.int (0 : Int32))) (.int (0 : Int32)) := Arv.pad G102 (fun i => by simpa using pad_rep [] (.int (0 : Int32)) (gq - f) i)
  have F104 : Arv Z h102 t kb .byte (Int32.ofNat N) vs (.int (0 : Int32)) := (A1.keep K102 nin0)
  obtain ⟨cl105, Ar105, -, S105, M105, -, -⟩ := id F104
  obtain ⟨_, _, ⟨T106, L106, k106, n106⟩, -, X106, ⟨Lc106, hQ106, l106, y106, z106⟩, st106⟩ := Jvm.LawKit.callS X102 hx (y := yn26) hown (mvT hZ (w126 hw)) (mvT hZ (w76 hw)) (mvT hZ (w73 hw)) (mvT hZ (w77 hw)) (by decide) (backOf (W := 4) (rm_mini l Z a0 hw [] (Int32.ofNat (N - f)) (Int32.ofNat (gq - f)) h102 n0 (Nat.le_trans Z0 K102.1) ) hZ (w77 hw) (w73 hw) (by decide) (by decide)) (g := (mkF m 24 #[.val (.ref t), .val (.int (Int32.ofNat f)), .val (.int (Int32.ofNat gq)), .val (.int (Int32.ofNat (gq - f))), .val (.ref b102)] [(.int (Int32.ofNat (gq - f))), (.int (Int32.ofNat (N - f))), (.int (0 : Int32)), (.ref b102), (.int (Int32.ofNat f)), (.ref t)])) rfl (by rw [hml]; rfl) (argsL := [(.int (Int32.ofNat (N - f))), (.int (Int32.ofNat (gq - f)))]) (rest := [(.int (0 : Int32)), (.ref b102), (.int (Int32.ofNat f)), (.ref t)]) (lenOf pd16 rfl) rfl (wq rfl) (D_ d27_24) (fun _ _ => ⟨rfl, e102, (nb rfl), (nb rfl)⟩)
  dsimp only [Pt.U, Pt.locs, Pt.cells, Pt.slots] at X106 l106 y106 z106 st106 hQ106
  subst l106 y106 z106
  obtain ⟨rfl, Nq106, eq106⟩ := hQ106
  have N106 := Fr.app N101 Nq106
  obtain ⟨T107, h107, Lp107, X107, e107, N107, K107, V107, st107⟩ := cpA X106 hx hZ hown (w127 hw) (w130 hw) (w128 hw) (w129 hw) eq106 F104 J103 (Or.inl ⟨rfl, rfl⟩) (own_nneg (by omega)) (by decide) (own_nneg (by omega)) (by rw [own_cl (by omega), own_cl (by omega), own_cl (by omega)]; omega) (by rw [own_cl (by omega)]; show 0 + (gq - f) ≤ gq - f; omega) (us := ((vs.drop f).take (gq - f))) (by rw [own_cl (by omega), own_cl (by omega)]; exact own_slice vs f (gq - f) _ (by omega)) (by rw [own_cl (by omega)]; simp) N106 (Nat.le_trans Z0 (Nat.le_of_eq g102.symm)) (g := (mkF m 27 #[.val (.ref t), .val (.int (Int32.ofNat f)), .val (.int (Int32.ofNat gq)), .val (.int (Int32.ofNat (gq - f))), .val (.ref b102)] [(.int (Int32.ofNat (gq - f))), (.int (0 : Int32)), (.ref b102), (.int (Int32.ofNat f)), (.ref t)])) rfl (by rw [hml]; rfl) rfl (D_ d27_27) (by decide) (W := 0) (by show 2 * 0 + _ ≤ _; exact Nat.le_of_eq rfl) (by decide)
  have J108 : Arv Z h107 b102 k102 .byte (Int32.ofNat (gq - f)) ((vs.drop f).take (gq - f)) (.int (0 : Int32)) := by have q := V107; rw [own_cl (by omega), show (0 : Int32).toNatClampNeg = 0 from rfl, own_fill ((vs.drop f).take (gq - f)) (gq - f) (by rw [List.length_take, List.length_drop]; omega)] at q; exact q
  have W109 : ∀ zQ, SS p e below T107 m 32 #[.val (.ref t), .val (.int (Int32.ofNat f)), .val (.int (Int32.ofNat gq)), .val (.int (Int32.ofNat (gq - f))), .val (.ref b102)] [(.ref b102)] zQ → Steps p.tables e below (s₁.setTop (entryFrame m #[(.ref t), (.int (Int32.ofNat f)), (.int (Int32.ofNat gq))] 5)) zQ := by
    intro tt kt
    refine W0 tt ?_
    refine XS.iloadN X0.here hx rfl (D_ d27_0) rfl ?_
    refine XS.iloadN X0.here hx rfl (D_ d27_1) rfl ?_
    refine st101 _ ?_
    refine XS.iloadN X101.here hx rfl (D_ d27_5) rfl ?_
    refine XS.iloadN X101.here hx rfl (D_ d27_6) rfl ?_
    refine XS.isub X101.here hx rfl (D_ d27_7) rfl ?_
    show SS p e below T101 m 8 #[.val (.ref t), .val (.int (Int32.ofNat f)), .val (.int (Int32.ofNat gq)), .unset, .unset] [(.int ((Int32.ofNat gq) - (Int32.ofNat f)))] _
    rw [show ((Int32.ofNat gq) - (Int32.ofNat f)) = (Int32.ofNat (gq - f)) from own_sub (by omega) (by omega)]
    refine XS.istoreN X101.here hx rfl (D_ d27_8) rfl (l' := #[.val (.ref t), .val (.int (Int32.ofNat f)), .val (.int (Int32.ofNat gq)), .val (.int (Int32.ofNat (gq - f))), .unset]) rfl ?_
    refine XS.iloadN X101.here hx rfl (D_ d27_9) rfl ?_
    refine st102 _ ?_
    refine XS.astore X102.here hx rfl (D_ d27_12) rfl rfl (l' := #[.val (.ref t), .val (.int (Int32.ofNat f)), .val (.int (Int32.ofNat gq)), .val (.int (Int32.ofNat (gq - f))), .val (.ref b102)]) rfl ?_
    refine XS.aloadN X102.here hx rfl (D_ d27_14) rfl rfl ?_
    refine XS.iloadN X102.here hx rfl (D_ d27_15) rfl ?_
    refine XS.aload X102.here hx rfl (D_ d27_16) rfl rfl ?_
    refine XS.iconst X102.here hx rfl (D_ d27_18) ?_
    refine XS.aloadN X102.here hx rfl (D_ d27_19) rfl rfl ?_
    refine X102.arraylength hx (by first | exact Ar105.1 | (rw [e102]; exact Ar105.1)) (State.isArrayOf_alike hZ.alike Ar105.2.1) (g := (mkF m 20 #[.val (.ref t), .val (.int (Int32.ofNat f)), .val (.int (Int32.ofNat gq)), .val (.int (Int32.ofNat (gq - f))), .val (.ref b102)] [(.ref t), (.int (0 : Int32)), (.ref b102), (.int (Int32.ofNat f)), (.ref t)])) rfl rfl (D_ d27_20) _ ?_
    rw [len_of S105 M105]
    refine XS.iloadN X102.here hx rfl (D_ d27_21) rfl ?_
    refine XS.isub X102.here hx rfl (D_ d27_22) rfl ?_
    show SS p e below T102 m 23 #[.val (.ref t), .val (.int (Int32.ofNat f)), .val (.int (Int32.ofNat gq)), .val (.int (Int32.ofNat (gq - f))), .val (.ref b102)] [(.int ((Int32.ofNat N) - (Int32.ofNat f))), (.int (0 : Int32)), (.ref b102), (.int (Int32.ofNat f)), (.ref t)] _
    rw [show ((Int32.ofNat N) - (Int32.ofNat f)) = (Int32.ofNat (N - f)) from own_sub (by omega) (by omega)]
    refine XS.iloadN X102.here hx rfl (D_ d27_23) rfl ?_
    refine st106 _ ?_
    show SS p e below T106 m 27 #[.val (.ref t), .val (.int (Int32.ofNat f)), .val (.int (Int32.ofNat gq)), .val (.int (Int32.ofNat (gq - f))), .val (.ref b102)] [(.int (if (Int32.ofNat (gq - f)) < (Int32.ofNat (N - f)) then (Int32.ofNat (gq - f)) else (Int32.ofNat (N - f)))), (.int (0 : Int32)), (.ref b102), (.int (Int32.ofNat f)), (.ref t)] _
    rw [show (if (Int32.ofNat (gq - f)) < (Int32.ofNat (N - f)) then (Int32.ofNat (gq - f)) else (Int32.ofNat (N - f))) = (Int32.ofNat (gq - f)) from own_min (by omega) (by omega)]
    refine st107 _ ?_
    refine XS.aload X107.here hx rfl (D_ d27_30) rfl rfl ?_
    exact kt
  obtain ⟨fs, hr, hrun, hended, hW, hsame⟩ := X107.leave (v := some (.ref b102)) (fun h => by rw [Bd.returns] at h; cases h)
  refine ⟨_, _, W109 _ (own_retR X107 hx Bd.returns rfl rfl (D_ d27_32) hr), hrun, hended, _, _, rfl, ?_, ⟨_, rfl⟩, hW, hsame.mono (by decide) (by decide)⟩
  show Q_corb Z t f gq N kb vs h0 n0 _ T107.heap _
  rw [e107]
  exact ⟨b102, k102, rfl, N107, (Keep.trans (Keep.trans (Keep.refl h0 []) K102 all0) K107 (allS (Or.inr (Nat.le_of_eq g102.symm)) all0)), (Nat.le_of_eq g102.symm), J108⟩
def Q_cor (Z : State) (t : Addr) (f : Nat) (gq : Nat) (N : Nat) (kb : ClassId) (vs : List Value) (h0 : Heap) (n0 : Nat) (vQ_ : Option Value) (hQ_ : Heap) (LQ_ : List Loc) : Prop := ∃ r : Addr, ∃ kr : ClassId, vQ_ = some (.ref r) ∧ Fr n0 LQ_ ∧ Keep h0 hQ_ [] ∧ h0.size ≤ r ∧ Arv Z hQ_ r kr .byte (Int32.ofNat (gq - f)) ((vs.drop f).take (gq - f)) (.int (0 : Int32))
theorem rm_cor (l : Launch) (Z : State) (a0 : Array Value) (hw : HW a0 Z) (ws : List Jvm.Cond) (t : Addr) (f : Nat) (gq : Nat) (N : Nat) (kb : ClassId) (vs : List Value) (h0 : Heap) (n0 : Nat) (Z0 : n0 ≤ h0.size) (A1 : Arv Z h0 t kb .byte (Int32.ofNat N) vs (.int (0 : Int32))) (hvs : vs.length = N) (hfg : f ≤ gq) (hgN : gq ≤ N) (hN : N < 2147483648) (hcap : gq - f ≤ 8) (hw0 : f = 0 → gq ≠ N) :
    CT l yn28 (Jvm.Cond.code yn28 jdk_65_method_132_code 3 (some (.array .byte)) :: ws) (⟨2, 1, 8, 80⟩ : Room) #[(.ref t), (.int (Int32.ofNat f)), (.int (Int32.ofNat gq))] Z h0 (Q_cor Z t f gq N kb vs h0 n0) := by
  refine MetFree.of_bodySF (plainFor_of_name pn_java_util_Arrays) hisR ?_
  intro p e s m args below meth cO s₁ Bd hml hP hK
  obtain ⟨rfl, hZ, hh⟩ := hP
  have hx := Bd.exec
  have hby := Bd.bytes
  have hown : s.vm.findClass "java/util/Arrays" = some m.cls := findClass_of_methodNamed Bd.named
  have hnm := (name_of_methodNamed Bd.named Bd.method).1
  have X0 : Stand p l e (⟨2, 1, 8, 80⟩ : Room) s m #[(.ref t), (.int (Int32.ofNat f)), (.int (Int32.ofNat gq))] below meth cO s₁ [] 0 0 := Stand.of_body Bd
  have e0 : s₁.heap = h0 := by rw [← hh, Bd.state]; rfl
  have N0 := Fr.nil n0
  have D_ : ∀ {i : Nat} {x}, decode jdk_65_method_132_code i = x → decode cO.code i = x := fun h => hb hby h
  have W0 : ∀ zQ, SS p e below s₁ m 0 #[.val (.ref t), .val (.int (Int32.ofNat f)), .val (.int (Int32.ofNat gq))] [] zQ → Steps p.tables e below (s₁.setTop (entryFrame m #[(.ref t), (.int (Int32.ofNat f)), (.int (Int32.ofNat gq))] 3)) zQ := fun tt kt => castTop (ef_cor m t (Int32.ofNat f) (Int32.ofNat gq)) kt
  have W101 : ∀ zQ, SS p e below s₁ m 1 #[.val (.ref t), .val (.int (Int32.ofNat f)), .val (.int (Int32.ofNat gq))] [(.int (Int32.ofNat f))] zQ → Steps p.tables e below (s₁.setTop (entryFrame m #[(.ref t), (.int (Int32.ofNat f)), (.int (Int32.ofNat gq))] 3)) zQ := by
    intro tt kt
    refine W0 tt ?_
    refine XS.iloadN X0.here hx rfl (D_ d28_0) rfl ?_
    exact kt
  by_cases hc102 : (Int32.ofNat f) = (0 : Int32)
  ·
    obtain ⟨cl103, Ar103, -, S103, M103, -, -⟩ := id A1
    obtain ⟨_, _, ⟨T104, L104, k104, n104⟩, -, X104, ⟨Lc104, hQ104, l104, y104, z104⟩, st104⟩ := Jvm.LawKit.callS X0 hx (y := yn27) hown (mvT hZ (w120 hw)) (mvT hZ (w121 hw)) (mvT hZ (w118 hw)) (mvT hZ (w122 hw)) (by decide) (backOf (W := 0) (rm_corb l Z a0 hw [] t f gq N kb vs h0 n0 Z0 A1 hvs hfg hgN hN hcap) hZ (w122 hw) (w118 hw) (by decide) (by decide)) (g := (mkF m 13 #[.val (.ref t), .val (.int (Int32.ofNat f)), .val (.int (Int32.ofNat gq))] [(.int (Int32.ofNat gq)), (.int (Int32.ofNat f)), (.ref t)])) rfl (by rw [hml]; rfl) (argsL := [(.ref t), (.int (Int32.ofNat f)), (.int (Int32.ofNat gq))]) (rest := []) (lenOf pd17 rfl) rfl (wq rfl) (D_ d28_13) (fun _ _ => ⟨rfl, e0, (nb rfl), (nb rfl)⟩)
    dsimp only [Pt.U, Pt.locs, Pt.cells, Pt.slots] at X104 l104 y104 z104 st104 hQ104
    subst l104 y104 z104
    obtain ⟨r_105, kr_106, rfl, Nq104, K104, P104_0, P104_1⟩ := hQ104
    have N104 := Fr.app N0 Nq104
    have W107 : ∀ zQ, SS p e below T104 m 16 #[.val (.ref t), .val (.int (Int32.ofNat f)), .val (.int (Int32.ofNat gq))] [(.ref r_105)] zQ → Steps p.tables e below (s₁.setTop (entryFrame m #[(.ref t), (.int (Int32.ofNat f)), (.int (Int32.ofNat gq))] 3)) zQ := by
      intro tt kt
      refine W101 tt ?_
      refine XS.ifNo X0.here hx rfl (D_ d28_1) rfl ((if0 _ _).trans (teq hc102).2) ?_
      refine XS.iloadN X0.here hx rfl (D_ d28_4) rfl ?_
      refine XS.aloadN X0.here hx rfl (D_ d28_5) rfl rfl ?_
      refine X0.arraylength hx (by first | exact Ar103.1 | (rw [e0]; exact Ar103.1)) (State.isArrayOf_alike hZ.alike Ar103.2.1) (g := (mkF m 6 #[.val (.ref t), .val (.int (Int32.ofNat f)), .val (.int (Int32.ofNat gq))] [(.ref t), (.int (Int32.ofNat gq))])) rfl rfl (D_ d28_6) _ ?_
      rw [len_of S103 M103]
      refine XS.icmpNo X0.here hx rfl (D_ d28_7) rfl (feq (own_neq (hw0 (own_zero (by omega) hc102)) (by omega) (by omega))).1 ?_
      refine XS.aloadN X0.here hx rfl (D_ d28_10) rfl rfl ?_
      refine XS.iloadN X0.here hx rfl (D_ d28_11) rfl ?_
      refine XS.iloadN X0.here hx rfl (D_ d28_12) rfl ?_
      refine st104 _ ?_
      exact kt
    obtain ⟨fs, hr, hrun, hended, hW, hsame⟩ := X104.leave (v := some (.ref r_105)) (fun h => by rw [Bd.returns] at h; cases h)
    refine ⟨_, _, W107 _ (own_retR X104 hx Bd.returns rfl rfl (D_ d28_16) hr), hrun, hended, _, _, rfl, ?_, ⟨_, rfl⟩, hW, hsame.mono (by decide) (by decide)⟩
    show Q_cor Z t f gq N kb vs h0 n0 _ T104.heap _
    exact ⟨r_105, kr_106, rfl, N104, (Keep.trans (Keep.refl h0 []) K104 all0), P104_0, P104_1⟩
  ·
    obtain ⟨_, _, ⟨T108, L108, k108, n108⟩, -, X108, ⟨Lc108, hQ108, l108, y108, z108⟩, st108⟩ := Jvm.LawKit.callS X0 hx (y := yn27) hown (mvT hZ (w120 hw)) (mvT hZ (w121 hw)) (mvT hZ (w118 hw)) (mvT hZ (w122 hw)) (by decide) (backOf (W := 0) (rm_corb l Z a0 hw [] t f gq N kb vs h0 n0 Z0 A1 hvs hfg hgN hN hcap) hZ (w122 hw) (w118 hw) (by decide) (by decide)) (g := (mkF m 13 #[.val (.ref t), .val (.int (Int32.ofNat f)), .val (.int (Int32.ofNat gq))] [(.int (Int32.ofNat gq)), (.int (Int32.ofNat f)), (.ref t)])) rfl (by rw [hml]; rfl) (argsL := [(.ref t), (.int (Int32.ofNat f)), (.int (Int32.ofNat gq))]) (rest := []) (lenOf pd17 rfl) rfl (wq rfl) (D_ d28_13) (fun _ _ => ⟨rfl, e0, (nb rfl), (nb rfl)⟩)
    dsimp only [Pt.U, Pt.locs, Pt.cells, Pt.slots] at X108 l108 y108 z108 st108 hQ108
    subst l108 y108 z108
    obtain ⟨r_109, kr_110, rfl, Nq108, K108, P108_0, P108_1⟩ := hQ108
    have N108 := Fr.app N0 Nq108
    have W111 : ∀ zQ, SS p e below T108 m 16 #[.val (.ref t), .val (.int (Int32.ofNat f)), .val (.int (Int32.ofNat gq))] [(.ref r_109)] zQ → Steps p.tables e below (s₁.setTop (entryFrame m #[(.ref t), (.int (Int32.ofNat f)), (.int (Int32.ofNat gq))] 3)) zQ := by
      intro tt kt
      refine W101 tt ?_
      refine XS.ifYes X0.here hx rfl (pc0 := 1) (pc' := 10) rfl (D_ d28_1) rfl ((if0 _ _).trans (feq hc102).2) (by decide) (by decide) ?_
      refine XS.aloadN X0.here hx rfl (D_ d28_10) rfl rfl ?_
      refine XS.iloadN X0.here hx rfl (D_ d28_11) rfl ?_
      refine XS.iloadN X0.here hx rfl (D_ d28_12) rfl ?_
      refine st108 _ ?_
      exact kt
    obtain ⟨fs, hr, hrun, hended, hW, hsame⟩ := X108.leave (v := some (.ref r_109)) (fun h => by rw [Bd.returns] at h; cases h)
    refine ⟨_, _, W111 _ (own_retR X108 hx Bd.returns rfl rfl (D_ d28_16) hr), hrun, hended, _, _, rfl, ?_, ⟨_, rfl⟩, hW, hsame.mono (by decide) (by decide)⟩
    show Q_cor Z t f gq N kb vs h0 n0 _ T108.heap _
    exact ⟨r_109, kr_110, rfl, N108, (Keep.trans (Keep.refl h0 []) K108 all0), P108_0, P108_1⟩
def Q_sinitB (Z : State) (a : Addr) (t : Addr) (w : Int32) (h0 : Heap) (n0 : Nat) (vQ_ : Option Value) (hQ_ : Heap) (LQ_ : List Loc) : Prop := vQ_ = none ∧ Fr n0 LQ_ ∧ Keep h0 hQ_ [a] ∧ Exa Z hQ_ a "java/lang/String" ∧ Fld Z hQ_ a "java/lang/String" "value" "[B" (.ref t) ∧ Fld Z hQ_ a "java/lang/String" "coder" "B" (.int w)
theorem rm_sinitB (l : Launch) (Z : State) (a0 : Array Value) (hw : HW a0 Z) (ws : List Jvm.Cond) (a : Addr) (t : Addr) (w : Int32) (h0 : Heap) (n0 : Nat) (Z0 : n0 ≤ h0.size) (E1 : Exa Z h0 a "java/lang/String") (F1 : Fld Z h0 a "java/lang/String" "value" "[B" .null) (F2 : Fld Z h0 a "java/lang/String" "coder" "B" (.int (0 : Int32))) (hg : n0 ≤ a) (hw8 : nar .byte w = w) (hwf : fits .byte (.int w) = true) :
    CT l yn29 (Jvm.Cond.code yn29 jdk_42_method_151_code 3 none :: ws) (⟨1, 0, 0, 12⟩ : Room) #[(.ref a), (.ref t), (.int w)] Z h0 (Q_sinitB Z a t w h0 n0) := by
  refine MetFree.of_bodySF (plainFor_of_name pn_java_lang_String) hisR ?_
  intro p e s m args below meth cO s₁ Bd hml hP hK
  obtain ⟨rfl, hZ, hh⟩ := hP
  have hx := Bd.exec
  have hby := Bd.bytes
  have hown : s.vm.findClass "java/lang/String" = some m.cls := findClass_of_methodNamed Bd.named
  have hnm := (name_of_methodNamed Bd.named Bd.method).1
  have X0 : Stand p l e (⟨1, 0, 0, 12⟩ : Room) s m #[(.ref a), (.ref t), (.int w)] below meth cO s₁ [] 0 0 := Stand.of_body Bd
  have e0 : s₁.heap = h0 := by rw [← hh, Bd.state]; rfl
  have N0 := Fr.nil n0
  have D_ : ∀ {i : Nat} {x}, decode jdk_42_method_151_code i = x → decode cO.code i = x := fun h => hb hby h
  have W0 : ∀ zQ, SS p e below s₁ m 0 #[.val (.ref a), .val (.ref t), .val (.int w)] [] zQ → Steps p.tables e below (s₁.setTop (entryFrame m #[(.ref a), (.ref t), (.int w)] 3)) zQ := fun tt kt => castTop (ef_sinitB m a t w) kt
  obtain ⟨T101, X101, e101, st101⟩ := initO X0 hx hZ hown (w16 hw) (w17 hw) (w18 hw) e0 (g := (mkF m 1 #[.val (.ref a), .val (.ref t), .val (.int w)] [(.ref a)])) rfl (by rw [hml]; rfl) rfl (D_ d29_1) (by decide) (W := 0) (by show 2 * 0 + _ ≤ _; exact Nat.le_of_eq rfl) (by decide)
  obtain ⟨T102, h102, X102, e102, Wr102, st102⟩ := putF X101 hx hZ hown (host := "") (Or.inl (w33 hw)) Via.refl e101 F1 E1 (Or.inr ⟨(w34 hw), rfl, hnm⟩) (w7 hw) (ty := (.array .byte)) (by decide) rfl rfl (g := (mkF m 6 #[.val (.ref a), .val (.ref t), .val (.int w)] [(.ref t), (.ref a)])) rfl rfl (D_ d29_6)
  have K102 := Keep.of_wr Wr102
  have G102 := F1.same Wr102
  have N102 := Fr.snoc X102 N0 hg
  have F103 : Exa Z h102 a "java/lang/String" := (E1.keep K102)
  have F104 : Fld Z h102 a "java/lang/String" "coder" "B" (.int (0 : Int32)) := (Fld.other Wr102 F2 (Or.inr (slot_ne (Or.inr (w32 hw)) (Or.inr (w34 hw)) (by decide) (t := .byte) (t' := (.array .byte)) (by decide) (by decide))))
  obtain ⟨T105, h105, X105, e105, Wr105, st105⟩ := putFN X102 hx hZ hown (w31 hw) Via.refl e102 F104 F103 (Or.inr ⟨(w32 hw), rfl, hnm⟩) (w7 hw) (ty := .byte) (v' := (.int w)) (by decide) (show narrow .byte (.int w) = .int w from congrArg Value.int hw8) hwf (g := (mkF m 11 #[.val (.ref a), .val (.ref t), .val (.int w)] [(.int w), (.ref a)])) rfl rfl (D_ d29_11)
  have K105 := Keep.of_wr Wr105
  have G105 := F104.same Wr105
  have N105 := Fr.snoc X105 N102 hg
  have W106 : ∀ zQ, SS p e below T105 m 14 #[.val (.ref a), .val (.ref t), .val (.int w)] [] zQ → Steps p.tables e below (s₁.setTop (entryFrame m #[(.ref a), (.ref t), (.int w)] 3)) zQ := by
    intro tt kt
    refine W0 tt ?_
    refine XS.aloadN X0.here hx rfl (D_ d29_0) rfl rfl ?_
    refine st101 _ ?_
    refine XS.aloadN X101.here hx rfl (D_ d29_4) rfl rfl ?_
    refine XS.aloadN X101.here hx rfl (D_ d29_5) rfl rfl ?_
    refine st102 _ ?_
    refine XS.aloadN X102.here hx rfl (D_ d29_9) rfl rfl ?_
    refine XS.iloadN X102.here hx rfl (D_ d29_10) rfl ?_
    refine st105 _ ?_
    exact kt
  have F107 : Exa Z h105 a "java/lang/String" := (F103.keep K105)
  have F108 : Fld Z h105 a "java/lang/String" "value" "[B" (.ref t) := (Fld.other Wr105 G102 (Or.inr (slot_ne (Or.inr (w34 hw)) (Or.inr (w32 hw)) (by decide) (t := (.array .byte)) (t' := .byte) (by decide) (by decide))))
  obtain ⟨fs, hr, hrun, hended, hW, hsame⟩ := X105.leave (v := none) (fun _ => rfl)
  refine ⟨_, _, W106 _ (X105.returnOut hx Bd.returns (D_ d29_14) hr), hrun, hended, _, _, rfl, ?_, ⟨_, rfl⟩, hW, hsame.mono (by decide) (by decide)⟩
  show Q_sinitB Z a t w h0 n0 _ T105.heap _
  rw [e105]
  exact ⟨rfl, N105, (Keep.trans (Keep.trans (Keep.refl h0 [a]) K102 (allS (Or.inl (List.mem_of_getElem? (i := 0) rfl)) all0)) K105 (allS (Or.inl (List.mem_of_getElem? (i := 0) rfl)) all0)), F107, F108, G105⟩
theorem lp_compr2 {p : Program} {l : Launch} {e : Env} {R : Room} {s : State} {m : MethodId} {args : Array Value} {below : List Frame} {meth : Method} {cO : Code} {cells slots : Nat} {Z : State} {a0 : Array Value} (hx : p.tables.exec = Jvm.exec) (hZ : Z.Warmed39 s.vm) (hw : HW a0 Z) (hby : cO.code = jdk_52_method_22_code) (hml : cO.maxLocals = 7) (hown : s.vm.findClass "java/lang/StringUTF16" = some m.cls) (hRf : 1 ≤ R.frames) (hRl : 13 ≤ R.locals) (hRc : cells ≤ R.cells) (hRs : slots ≤ R.slots) (hret : meth.sig.returnType = some .int) (t : Addr) (dst : Addr) (kb : ClassId) (kd : ClassId) (cs : List Int32) (bg : Nat) (n : Nat) (ds : List Int32) (n0 : Nat) (S_ad : Sta Z Z.heap "java/lang/StringUTF16" "$assertionsDisabled" "Z" (.int (1 : Int32))) (S_hi : Sta Z Z.heap "java/lang/StringUTF16" "HI_BYTE_SHIFT" "I" (.int (0 : Int32))) (S_lo : Sta Z Z.heap "java/lang/StringUTF16" "LO_BYTE_SHIFT" "I" (.int (8 : Int32))) (hne : t ≠ dst) (hg : n0 ≤ dst) (ok : OkS cs) (hds : ds = (cs.drop bg).take n) (hdl : ((cs.drop bg).take n).length = n) (hbn : bg + n ≤ cs.length) :
    ∀ suf : List Int32, ∀ (pre : List Int32) (s6 : Slot) (T0 : State) (L0 : List Loc) (h0 : Heap) (X0 : Stand p l e R s m args below meth cO T0 L0 cells slots) (e0 : T0.heap = h0) (N0 : Fr n0 L0) (Z0 : n0 ≤ h0.size) (O0 : Old Z n0 h0) (Vs : Arv Z h0 t kb .byte (Int32.ofNat (2 * cs.length)) (u16 cs) (.int (0 : Int32))) (Vd : Arv Z h0 dst kd .byte (Int32.ofNat n) (l1 pre) (.int (0 : Int32))) (hl : lat pre = true) (h6 : One s6) (hk : ds = pre ++ suf), ∃ (T' : State) (L' : List Loc) (h' : Heap), Stand p l e R s m args below meth cO T' L' cells slots ∧ T'.heap = h' ∧ Fr n0 L' ∧ Keep h0 h' [dst] ∧ Arv Z h' dst kd .byte (Int32.ofNat n) (l1 (ds.take (fl ds))) (.int (0 : Int32)) ∧ ∀ fs, (∀ (f : JFrame) (acts : List Action), f.method = m → f.locked = none → f.entered = [] → (doReturn e (T'.setTop f) acts (some (.int (Int32.ofNat (fl ds))))).1 = T'.setFrames fs) → SS p e below T0 m 10 #[.val (.ref t), .val (.int (Int32.ofNat (bg + pre.length))), .val (.ref dst), .val (.int (Int32.ofNat pre.length)), .val (.int (Int32.ofNat n)), .val (.int (Int32.ofNat pre.length)), s6] [] (T'.setFrames fs) := by
  have D_ : ∀ {i : Nat} {x}, decode jdk_52_method_22_code i = x → decode cO.code i = x := fun h => hb hby h
  intro suf
  induction suf with
  | nil =>
    intro pre s6 T0 L0 h0 X0 e0 N0 Z0 O0 Vs Vd hl h6 hk
    have W0 : ∀ zQ, SS p e below T0 m 10 #[.val (.ref t), .val (.int (Int32.ofNat (bg + pre.length))), .val (.ref dst), .val (.int (Int32.ofNat pre.length)), .val (.int (Int32.ofNat n)), .val (.int (Int32.ofNat pre.length)), s6] [] zQ → Steps p.tables e below (T0.setTop (mkF m 10 #[.val (.ref t), .val (.int (Int32.ofNat (bg + pre.length))), .val (.ref dst), .val (.int (Int32.ofNat pre.length)), .val (.int (Int32.ofNat n)), .val (.int (Int32.ofNat pre.length)), s6] [])) zQ := fun tt kt => kt
    have hn9 : cs.length < 1048576 := ok.2
    have hfl : fl ds = pre.length := by rw [hk, fl_app _ hl]; rfl
    have hlen : n = pre.length := by have := congrArg List.length hk; rw [hds, hdl] at this; simpa using this
    have W101 : ∀ zQ, SS p e below T0 m 55 #[.val (.ref t), .val (.int (Int32.ofNat (bg + pre.length))), .val (.ref dst), .val (.int (Int32.ofNat pre.length)), .val (.int (Int32.ofNat n)), .val (.int (Int32.ofNat pre.length)), s6] [(.int (Int32.ofNat n))] zQ → Steps p.tables e below (T0.setTop (mkF m 10 #[.val (.ref t), .val (.int (Int32.ofNat (bg + pre.length))), .val (.ref dst), .val (.int (Int32.ofNat pre.length)), .val (.int (Int32.ofNat n)), .val (.int (Int32.ofNat pre.length)), s6] [])) zQ := by
      intro tt kt
      refine W0 tt ?_
      refine XS.iload X0.here hx rfl (D_ d30_10) rfl ?_
      refine XS.iload X0.here hx rfl (D_ d30_12) rfl ?_
      refine XS.icmpYes X0.here hx rfl (pc0 := 14) (pc' := 53) rfl (D_ d30_14) rfl (flt (own_nlt (by omega) (by omega))).2.1 (by decide) (by decide) ?_
      refine XS.iload X0.here hx rfl (D_ d30_53) rfl ?_
      exact kt
    have hR102 : Arv Z h0 dst kd .byte (Int32.ofNat n) (l1 (ds.take (fl ds))) (.int (0 : Int32)) := by rw [show ds.take (fl ds) = pre from by rw [hfl, hk]; exact List.take_left]; exact Vd
    exact ⟨T0, _, h0, X0, e0, N0, (Keep.refl h0 [dst]), hR102, fun fs hr => W101 _ (retI X0 hx hret (D_ d30_55) (by rw [show (Value.int (Int32.ofNat n)) = (Value.int (Int32.ofNat (fl ds))) from (by rw [hfl, hlen])]; exact hr))⟩
  | cons cc r ih =>
    intro pre s6 T0 L0 h0 X0 e0 N0 Z0 O0 Vs Vd hl h6 hk
    have W0 : ∀ zQ, SS p e below T0 m 10 #[.val (.ref t), .val (.int (Int32.ofNat (bg + pre.length))), .val (.ref dst), .val (.int (Int32.ofNat pre.length)), .val (.int (Int32.ofNat n)), .val (.int (Int32.ofNat pre.length)), s6] [] zQ → Steps p.tables e below (T0.setTop (mkF m 10 #[.val (.ref t), .val (.int (Int32.ofNat (bg + pre.length))), .val (.ref dst), .val (.int (Int32.ofNat pre.length)), .val (.int (Int32.ofNat n)), .val (.int (Int32.ofNat pre.length)), s6] [])) zQ := fun tt kt => kt
    have hn9 : cs.length < 1048576 := ok.2
    have hlt : pre.length < ds.length := by rw [hk]; simp
    have hcc : cs.getD (bg + pre.length) 0 = cc := by rw [← own_dt (by omega) hdl (by rw [← hds]; exact hlt), ← hds, hk]; exact app_at pre r cc 0
    have hdl' : ds.length = n := by rw [hds]; exact hdl
    obtain ⟨_, _, ⟨T103, L103, k103, n103⟩, -, X103, ⟨Lc103, hQ103, l103, y103, z103⟩, st103⟩ := Jvm.LawKit.callS X0 hx (y := yn5) hown (mvT hZ (w164 hw)) (mvT hZ (w165 hw)) (mvT hZ (w22 hw)) (mvT hZ (w166 hw)) (by decide) (backOf (W := 0) (rm_getChar l Z a0 hw [] t (bg + pre.length) kb cs h0 n0 Z0 O0 S_ad S_hi S_lo Vs (by omega) ok) hZ (w166 hw) (w22 hw) (Nat.le_trans (by decide) hRf) (Nat.le_trans (by decide) hRl)) (g := (mkF m 19 #[.val (.ref t), .val (.int (Int32.ofNat (bg + pre.length))), .val (.ref dst), .val (.int (Int32.ofNat pre.length)), .val (.int (Int32.ofNat n)), .val (.int (Int32.ofNat pre.length)), s6] [(.int (Int32.ofNat (bg + pre.length))), (.ref t)])) rfl (by rw [hml]; rfl) (argsL := [(.ref t), (.int (Int32.ofNat (bg + pre.length)))]) (rest := []) (lenOf pd4 rfl) rfl (wq rfl) (D_ d30_19) (fun _ _ => ⟨rfl, e0, hRc, hRs⟩)
    dsimp only [Pt.U, Pt.locs, Pt.cells, Pt.slots] at X103 l103 y103 z103 st103 hQ103
    subst l103 y103 z103
    obtain ⟨rfl, Nq103, eq103⟩ := hQ103
    have N103 := Fr.app N0 Nq103
    have W104 : ∀ zQ, SS p e below T103 m 29 #[.val (.ref t), .val (.int (Int32.ofNat (bg + pre.length))), .val (.ref dst), .val (.int (Int32.ofNat pre.length)), .val (.int (Int32.ofNat n)), .val (.int (Int32.ofNat pre.length)), .val (.int cc)] [(.int (255 : Int32)), (.int cc)] zQ → Steps p.tables e below (T0.setTop (mkF m 10 #[.val (.ref t), .val (.int (Int32.ofNat (bg + pre.length))), .val (.ref dst), .val (.int (Int32.ofNat pre.length)), .val (.int (Int32.ofNat n)), .val (.int (Int32.ofNat pre.length)), s6] [])) zQ := by
      intro tt kt
      refine W0 tt ?_
      refine XS.iload X0.here hx rfl (D_ d30_10) rfl ?_
      refine XS.iload X0.here hx rfl (D_ d30_12) rfl ?_
      refine XS.icmpNo X0.here hx rfl (D_ d30_14) rfl (tlt (own_lt (by omega) (by omega))).2.1 ?_
      refine XS.aloadN X0.here hx rfl (D_ d30_17) rfl rfl ?_
      refine XS.iloadN X0.here hx rfl (D_ d30_18) rfl ?_
      refine st103 _ ?_
      show SS p e below T103 m 22 #[.val (.ref t), .val (.int (Int32.ofNat (bg + pre.length))), .val (.ref dst), .val (.int (Int32.ofNat pre.length)), .val (.int (Int32.ofNat n)), .val (.int (Int32.ofNat pre.length)), s6] [(.int (cs.getD (bg + pre.length) 0))] _
      rw [show (cs.getD (bg + pre.length) 0) = cc from hcc]
      refine XS.istore X103.here hx rfl (D_ d30_22) rfl (l' := #[.val (.ref t), .val (.int (Int32.ofNat (bg + pre.length))), .val (.ref dst), .val (.int (Int32.ofNat pre.length)), .val (.int (Int32.ofNat n)), .val (.int (Int32.ofNat pre.length)), .val (.int cc)]) (XS.store1 (o := s6) rfl h6 rfl) ?_
      refine XS.iload X103.here hx rfl (D_ d30_24) rfl ?_
      refine XS.sipush X103.here hx rfl (D_ d30_26) ?_
      exact kt
    by_cases hc105 : (255 : Int32) < cc
    ·
      have hfl : fl ds = pre.length := by rw [hk, fl_app _ hl]; show _ + (if (255 : Int32) < cc then 0 else fl r + 1) = _; rw [if_pos hc105]; rfl
      have W106 : ∀ zQ, SS p e below T103 m 34 #[.val (.ref t), .val (.int (Int32.ofNat (bg + pre.length))), .val (.ref dst), .val (.int (Int32.ofNat pre.length)), .val (.int (Int32.ofNat n)), .val (.int (Int32.ofNat pre.length)), .val (.int cc)] [(.int (Int32.ofNat pre.length))] zQ → Steps p.tables e below (T0.setTop (mkF m 10 #[.val (.ref t), .val (.int (Int32.ofNat (bg + pre.length))), .val (.ref dst), .val (.int (Int32.ofNat pre.length)), .val (.int (Int32.ofNat n)), .val (.int (Int32.ofNat pre.length)), s6] [])) zQ := by
        intro tt kt
        refine W104 tt ?_
        refine XS.icmpNo X103.here hx rfl (D_ d30_29) rfl (tlt hc105).2.2.2 ?_
        refine XS.iload X103.here hx rfl (D_ d30_32) rfl ?_
        exact kt
      have hR107 : Arv Z h0 dst kd .byte (Int32.ofNat n) (l1 (ds.take (fl ds))) (.int (0 : Int32)) := by rw [show ds.take (fl ds) = pre from by rw [hfl, hk]; exact List.take_left]; exact Vd
      exact ⟨T103, _, h0, X103, eq103, N103, (Keep.refl h0 [dst]), hR107, fun fs hr => W106 _ (retI X103 hx hret (D_ d30_34) (by rw [show (Value.int (Int32.ofNat pre.length)) = (Value.int (Int32.ofNat (fl ds))) from (by rw [hfl])]; exact hr))⟩
    ·
      obtain ⟨cl108, Ar108, q108, S108, M108, H108, F108g⟩ := id Vd
      have hin108 : ¬ ((Int32.ofNat pre.length) < 0 ∨ cl108.slots.size ≤ ((Int32.ofNat pre.length)).toNatClampNeg) := inb_of S108 ⟨own_nneg (by omega), own_lt (by omega) (by omega)⟩
      obtain ⟨T108, h108, X108, e108, Wr108, st108⟩ := stB X103 hx hZ eq103 Ar108 (j := (Int32.ofNat pre.length)) hin108 (g := (mkF m 40 #[.val (.ref t), .val (.int (Int32.ofNat (bg + pre.length))), .val (.ref dst), .val (.int (Int32.ofNat pre.length)), .val (.int (Int32.ofNat n)), .val (.int (Int32.ofNat pre.length)), .val (.int cc)] [(.int (cc.toInt8.toInt32)), (.int (Int32.ofNat pre.length)), (.ref dst)])) rfl rfl (D_ d30_40)
      have G108 : Arv Z h108 dst kd .byte (Int32.ofNat n) ((l1 pre) ++ [(.int (nar .byte (cc.toInt8.toInt32)))]) (.int (0 : Int32)) := Arv.push Ar108 q108 S108 M108 H108 F108g (fits_nar_byte _) Wr108 (by rw [own_cl (by omega), l1_len])
      have K108 := Keep.of_wr Wr108
      have N108 := Fr.snoc X108 N103 hg
      have J108 : Arv Z h108 dst kd .byte (Int32.ofNat n) (l1 (pre ++ [cc])) (.int (0 : Int32)) := by rw [← l1_snoc, ← own_narb]; exact G108
      have W109 : ∀ zQ, SS p e below T108 m 10 #[.val (.ref t), .val (.int (Int32.ofNat (bg + (pre ++ [cc]).length))), .val (.ref dst), .val (.int (Int32.ofNat (pre ++ [cc]).length)), .val (.int (Int32.ofNat n)), .val (.int (Int32.ofNat (pre ++ [cc]).length)), .val (.int cc)] [] zQ → Steps p.tables e below (T0.setTop (mkF m 10 #[.val (.ref t), .val (.int (Int32.ofNat (bg + pre.length))), .val (.ref dst), .val (.int (Int32.ofNat pre.length)), .val (.int (Int32.ofNat n)), .val (.int (Int32.ofNat pre.length)), s6] [])) zQ := by
        intro tt kt
        refine W104 tt ?_
        refine XS.icmpYes X103.here hx rfl (pc0 := 29) (pc' := 35) rfl (D_ d30_29) rfl (flt hc105).2.2.2 (by decide) (by decide) ?_
        refine XS.aloadN X103.here hx rfl (D_ d30_35) rfl rfl ?_
        refine XS.iloadN X103.here hx rfl (D_ d30_36) rfl ?_
        refine XS.iload X103.here hx rfl (D_ d30_37) rfl ?_
        refine XS.i2b X103.here hx rfl (D_ d30_39) rfl ?_
        refine st108 _ ?_
        refine XS.iinc X108.here hx rfl (D_ d30_41) rfl (l' := #[.val (.ref t), .val (.int ((Int32.ofNat (bg + pre.length)) + (1 : Int32))), .val (.ref dst), .val (.int (Int32.ofNat pre.length)), .val (.int (Int32.ofNat n)), .val (.int (Int32.ofNat pre.length)), .val (.int cc)]) rfl ?_
        show SS p e below T108 m 44 #[.val (.ref t), .val (.int ((Int32.ofNat (bg + pre.length)) + (1 : Int32))), .val (.ref dst), .val (.int (Int32.ofNat pre.length)), .val (.int (Int32.ofNat n)), .val (.int (Int32.ofNat pre.length)), .val (.int cc)] [] _
        rw [show ((Int32.ofNat (bg + pre.length)) + (1 : Int32)) = (Int32.ofNat (bg + (pre ++ [cc]).length)) from (by rw [own_succ]; simp [Nat.add_assoc])]
        refine XS.iinc X108.here hx rfl (D_ d30_44) rfl (l' := #[.val (.ref t), .val (.int (Int32.ofNat (bg + (pre ++ [cc]).length))), .val (.ref dst), .val (.int ((Int32.ofNat pre.length) + (1 : Int32))), .val (.int (Int32.ofNat n)), .val (.int (Int32.ofNat pre.length)), .val (.int cc)]) rfl ?_
        refine XS.iinc X108.here hx rfl (D_ d30_47) rfl (l' := #[.val (.ref t), .val (.int (Int32.ofNat (bg + (pre ++ [cc]).length))), .val (.ref dst), .val (.int ((Int32.ofNat pre.length) + (1 : Int32))), .val (.int (Int32.ofNat n)), .val (.int ((Int32.ofNat pre.length) + (1 : Int32))), .val (.int cc)]) rfl ?_
        show SS p e below T108 m 50 #[.val (.ref t), .val (.int (Int32.ofNat (bg + (pre ++ [cc]).length))), .val (.ref dst), .val (.int ((Int32.ofNat pre.length) + (1 : Int32))), .val (.int (Int32.ofNat n)), .val (.int ((Int32.ofNat pre.length) + (1 : Int32))), .val (.int cc)] [] _
        rw [show ((Int32.ofNat pre.length) + (1 : Int32)) = (Int32.ofNat (pre ++ [cc]).length) from (by rw [own_succ]; simp)]
        refine XS.goto X108.here hx rfl (pc0 := 50) (pc' := 10) rfl (D_ d30_50) (by decide) (by decide) ?_
        exact kt
      have O111 : Old Z n0 h108 := (O0.keep K108 (allS hg all0))
      have F112 : Arv Z h108 t kb .byte (Int32.ofNat (2 * cs.length)) (u16 cs) (.int (0 : Int32)) := (Vs.keep K108 (ninS hne nin0))
      obtain ⟨T110, L110, h110, X110, e110, N110, K110, P110_0, st110⟩ := ih (pre ++ [cc]) (.val (.int cc)) T108 _ h108 X108 e108 N108 (Nat.le_trans Z0 K108.1) O111 F112 J108 (lat_snoc hl hc105) (One.val rfl) (by rw [hk]; simp)
      exact ⟨T110, L110, h110, X110, e110, N110, (Keep.trans (Keep.trans (Keep.refl h0 [dst]) K108 (allS (Or.inl (List.mem_of_getElem? (i := 0) rfl)) all0)) K110 (allS (Or.inl (List.mem_of_getElem? (i := 0) rfl)) all0)), P110_0, fun tt kt => W109 _ (st110 _ kt)⟩
def Q_compress22 (Z : State) (t : Addr) (dst : Addr) (bg : Nat) (n : Nat) (kb : ClassId) (kd : ClassId) (cs : List Int32) (fm : Value) (h0 : Heap) (n0 : Nat) (vQ_ : Option Value) (hQ_ : Heap) (LQ_ : List Loc) : Prop := vQ_ = some (.int (Int32.ofNat (fl ((cs.drop bg).take n)))) ∧ Fr n0 LQ_ ∧ Keep h0 hQ_ [dst] ∧ Arv Z hQ_ dst kd .byte (Int32.ofNat n) (l1 (((cs.drop bg).take n).take (fl ((cs.drop bg).take n)))) (.int (0 : Int32))
theorem rm_compress22 (l : Launch) (Z : State) (a0 : Array Value) (hw : HW a0 Z) (ws : List Jvm.Cond) (t : Addr) (dst : Addr) (bg : Nat) (n : Nat) (kb : ClassId) (kd : ClassId) (cs : List Int32) (fm : Value) (h0 : Heap) (n0 : Nat) (Z0 : n0 ≤ h0.size) (O0 : Old Z n0 h0) (S_fm : Sta Z Z.heap "jdk/internal/util/Preconditions" "SIOOBE_FORMATTER" "Ljava/util/function/BiFunction;" fm) (hfm : fm.isRef = true) (S_ad : Sta Z Z.heap "java/lang/StringUTF16" "$assertionsDisabled" "Z" (.int (1 : Int32))) (S_hi : Sta Z Z.heap "java/lang/StringUTF16" "HI_BYTE_SHIFT" "I" (.int (0 : Int32))) (S_lo : Sta Z Z.heap "java/lang/StringUTF16" "LO_BYTE_SHIFT" "I" (.int (8 : Int32))) (Vs : Arv Z h0 t kb .byte (Int32.ofNat (2 * cs.length)) (u16 cs) (.int (0 : Int32))) (Vd : Arv Z h0 dst kd .byte (Int32.ofNat n) [] (.int (0 : Int32))) (hne : t ≠ dst) (hg : n0 ≤ dst) (ok : OkS cs) (hbn : bg + n ≤ cs.length) :
    CT l yn30 (Jvm.Cond.code yn30 jdk_52_method_22_code 7 (some .int) :: ws) (⟨3, 0, 0, 43⟩ : Room) #[(.ref t), (.int (Int32.ofNat bg)), (.ref dst), (.int (0 : Int32)), (.int (Int32.ofNat n))] Z h0 (Q_compress22 Z t dst bg n kb kd cs fm h0 n0) := by
  refine MetFree.of_bodySF (plainFor_of_name pn_java_lang_StringUTF16) hisR ?_
  intro p e s m args below meth cO s₁ Bd hml hP hK
  obtain ⟨rfl, hZ, hh⟩ := hP
  have hx := Bd.exec
  have hby := Bd.bytes
  have hown : s.vm.findClass "java/lang/StringUTF16" = some m.cls := findClass_of_methodNamed Bd.named
  have hnm := (name_of_methodNamed Bd.named Bd.method).1
  have X0 : Stand p l e (⟨3, 0, 0, 43⟩ : Room) s m #[(.ref t), (.int (Int32.ofNat bg)), (.ref dst), (.int (0 : Int32)), (.int (Int32.ofNat n))] below meth cO s₁ [] 0 0 := Stand.of_body Bd
  have e0 : s₁.heap = h0 := by rw [← hh, Bd.state]; rfl
  have N0 := Fr.nil n0
  have D_ : ∀ {i : Nat} {x}, decode jdk_52_method_22_code i = x → decode cO.code i = x := fun h => hb hby h
  have W0 : ∀ zQ, SS p e below s₁ m 0 #[.val (.ref t), .val (.int (Int32.ofNat bg)), .val (.ref dst), .val (.int (0 : Int32)), .val (.int (Int32.ofNat n)), .unset, .unset] [] zQ → Steps p.tables e below (s₁.setTop (entryFrame m #[(.ref t), (.int (Int32.ofNat bg)), (.ref dst), (.int (0 : Int32)), (.int (Int32.ofNat n))] 7)) zQ := fun tt kt => castTop (ef_compress22 m t (Int32.ofNat bg) dst (0 : Int32) (Int32.ofNat n)) kt
  have hn9 : cs.length < 1048576 := ok.2
  obtain ⟨_, _, ⟨T101, L101, k101, n101⟩, -, X101, ⟨Lc101, hQ101, l101, y101, z101⟩, st101⟩ := Jvm.LawKit.callS X0 hx (y := yn24) hown (mvT hZ (w197 hw)) (mvT hZ (w198 hw)) (mvT hZ (w22 hw)) (mvT hZ (w199 hw)) (by decide) (backOf (W := 0) (rm_u16checkOC l Z a0 hw [] t bg n cs.length kb (u16 cs) fm h0 n0 Z0 O0 S_fm hfm Vs hbn (by omega)) hZ (w199 hw) (w22 hw) (by decide) (by decide)) (g := (mkF m 4 #[.val (.ref t), .val (.int (Int32.ofNat bg)), .val (.ref dst), .val (.int (0 : Int32)), .val (.int (Int32.ofNat n)), .unset, .unset] [(.ref t), (.int (Int32.ofNat n)), (.int (Int32.ofNat bg))])) rfl (by rw [hml]; rfl) (argsL := [(.int (Int32.ofNat bg)), (.int (Int32.ofNat n)), (.ref t)]) (rest := []) (lenOf pd18 rfl) rfl (wq rfl) (D_ d30_4) (fun _ _ => ⟨rfl, e0, (nb rfl), (nb rfl)⟩)
  dsimp only [Pt.U, Pt.locs, Pt.cells, Pt.slots] at X101 l101 y101 z101 st101 hQ101
  subst l101 y101 z101
  obtain ⟨rfl, Nq101, eq101⟩ := hQ101
  have N101 := Fr.app N0 Nq101
  have hdl : ((cs.drop bg).take n).length = n := by simp; omega
  have W102 : ∀ zQ, SS p e below T101 m 10 #[.val (.ref t), .val (.int (Int32.ofNat bg)), .val (.ref dst), .val (.int (0 : Int32)), .val (.int (Int32.ofNat n)), .val (.int (0 : Int32)), .unset] [] zQ → Steps p.tables e below (s₁.setTop (entryFrame m #[(.ref t), (.int (Int32.ofNat bg)), (.ref dst), (.int (0 : Int32)), (.int (Int32.ofNat n))] 7)) zQ := by
    intro tt kt
    refine W0 tt ?_
    refine XS.iloadN X0.here hx rfl (D_ d30_0) rfl ?_
    refine XS.iload X0.here hx rfl (D_ d30_1) rfl ?_
    refine XS.aloadN X0.here hx rfl (D_ d30_3) rfl rfl ?_
    refine st101 _ ?_
    refine XS.iconst X101.here hx rfl (D_ d30_7) ?_
    refine XS.istore X101.here hx rfl (D_ d30_8) rfl (l' := #[.val (.ref t), .val (.int (Int32.ofNat bg)), .val (.ref dst), .val (.int (0 : Int32)), .val (.int (Int32.ofNat n)), .val (.int (0 : Int32)), .unset]) rfl ?_
    exact kt
  obtain ⟨T103, L103, h103, X103, e103, Nl103, K103, P103_0, st103⟩ := lp_compr2 hx hZ hw hby hml hown (by decide) (by decide) (by decide) (by decide) Bd.returns t dst kb kd cs bg n ((cs.drop bg).take n) n0 S_ad S_hi S_lo hne hg ok rfl hdl hbn ((cs.drop bg).take n) [] .unset T101 _ h0 X101 eq101 N101 Z0 O0 Vs Vd rfl One.u rfl
  obtain ⟨fs, hr, hrun, hended, hW, hsame⟩ := X103.leave (v := some (.int (Int32.ofNat (fl ((cs.drop bg).take n))))) (fun h => by rw [Bd.returns] at h; cases h)
  refine ⟨_, _, W102 _ (st103 _ hr), hrun, hended, _, _, rfl, ?_, ⟨_, rfl⟩, hW, hsame.mono (by decide) (by decide)⟩
  show Q_compress22 Z t dst bg n kb kd cs fm h0 n0 _ T103.heap _
  rw [e103]
  exact ⟨rfl, Nl103, (Keep.trans (Keep.refl h0 [dst]) K103 (allS (Or.inl (List.mem_of_getElem? (i := 0) rfl)) all0)), P103_0⟩
def Q_compress17 (Z : State) (t : Addr) (bg : Nat) (n : Nat) (kb : ClassId) (cs : List Int32) (fm : Value) (h0 : Heap) (n0 : Nat) (vQ_ : Option Value) (hQ_ : Heap) (LQ_ : List Loc) : Prop := ∃ r : Addr, ∃ kr : ClassId, vQ_ = some (.ref r) ∧ Fr n0 LQ_ ∧ Keep h0 hQ_ [] ∧ h0.size ≤ r ∧ Arv Z hQ_ r kr .byte (Int32.ofNat (blen ((cs.drop bg).take n))) (enc ((cs.drop bg).take n)) (.int (0 : Int32))
theorem rm_compress17 (l : Launch) (Z : State) (a0 : Array Value) (hw : HW a0 Z) (ws : List Jvm.Cond) (t : Addr) (bg : Nat) (n : Nat) (kb : ClassId) (cs : List Int32) (fm : Value) (h0 : Heap) (n0 : Nat) (Z0 : n0 ≤ h0.size) (O0 : Old Z n0 h0) (S_fm : Sta Z Z.heap "jdk/internal/util/Preconditions" "SIOOBE_FORMATTER" "Ljava/util/function/BiFunction;" fm) (hfm : fm.isRef = true) (S_ad : Sta Z Z.heap "java/lang/StringUTF16" "$assertionsDisabled" "Z" (.int (1 : Int32))) (S_hi : Sta Z Z.heap "java/lang/StringUTF16" "HI_BYTE_SHIFT" "I" (.int (0 : Int32))) (S_lo : Sta Z Z.heap "java/lang/StringUTF16" "LO_BYTE_SHIFT" "I" (.int (8 : Int32))) (Vs : Arv Z h0 t kb .byte (Int32.ofNat (2 * cs.length)) (u16 cs) (.int (0 : Int32))) (hn0 : 0 < n) (hbn : bg + n ≤ cs.length) (hnn : n < cs.length) (ok : OkS cs) (hcap : cs.length ≤ 4) :
    CT l yn31 (Jvm.Cond.code yn31 jdk_52_method_17_code 6 (some (.array .byte)) :: ws) (⟨4, 2, 12, 94⟩ : Room) #[(.ref t), (.int (Int32.ofNat bg)), (.int (Int32.ofNat n))] Z h0 (Q_compress17 Z t bg n kb cs fm h0 n0) := by
  refine MetFree.of_bodySF (plainFor_of_name pn_java_lang_StringUTF16) hisR ?_
  intro p e s m args below meth cO s₁ Bd hml hP hK
  obtain ⟨rfl, hZ, hh⟩ := hP
  have hx := Bd.exec
  have hby := Bd.bytes
  have hown : s.vm.findClass "java/lang/StringUTF16" = some m.cls := findClass_of_methodNamed Bd.named
  have hnm := (name_of_methodNamed Bd.named Bd.method).1
  have X0 : Stand p l e (⟨4, 2, 12, 94⟩ : Room) s m #[(.ref t), (.int (Int32.ofNat bg)), (.int (Int32.ofNat n))] below meth cO s₁ [] 0 0 := Stand.of_body Bd
  have e0 : s₁.heap = h0 := by rw [← hh, Bd.state]; rfl
  have N0 := Fr.nil n0
  have D_ : ∀ {i : Nat} {x}, decode jdk_52_method_17_code i = x → decode cO.code i = x := fun h => hb hby h
  have W0 : ∀ zQ, SS p e below s₁ m 0 #[.val (.ref t), .val (.int (Int32.ofNat bg)), .val (.int (Int32.ofNat n)), .unset, .unset, .unset] [] zQ → Steps p.tables e below (s₁.setTop (entryFrame m #[(.ref t), (.int (Int32.ofNat bg)), (.int (Int32.ofNat n))] 6)) zQ := fun tt kt => castTop (ef_compress17 m t (Int32.ofNat bg) (Int32.ofNat n)) kt
  have hn9 : cs.length < 1048576 := ok.2
  have hdl : ((cs.drop bg).take n).length = n := by simp; omega
  obtain ⟨T101, h101, k101, X101, e101, E101, A101, st101⟩ := newP X0 hx hZ (aty := .byte) (w24 hw) e0 (g := (mkF m 1 #[.val (.ref t), .val (.int (Int32.ofNat bg)), .val (.int (Int32.ofNat n)), .unset, .unset, .unset] [(.int (Int32.ofNat n))])) rfl (D_ d31_1) (n := (Int32.ofNat n)) rfl (own_nneg (by omega)) (cap := 4) (by rw [own_cl (by omega)]; omega) (by decide) (by decide) (by decide)
  obtain ⟨b101, g101⟩ : ∃ z, z = h0.size := ⟨_, rfl⟩
  rw [← g101] at A101 st101
  have K101 := (Keep.refl h0 []).ext E101
  have G101 : Arv Z h101 b101 k101 .byte (Int32.ofNat n) [] (.int (0 : Int32)) := Arv.new A101 (own_nneg (by omega))
  have F102 : Arv Z h101 t kb .byte (Int32.ofNat (2 * cs.length)) (u16 cs) (.int (0 : Int32)) := (Vs.keep K101 nin0)
  have O103 : Old Z n0 h101 := (O0.keep K101 all0)
  obtain ⟨_, _, ⟨T104, L104, k104, n104⟩, -, X104, ⟨Lc104, hQ104, l104, y104, z104⟩, st104⟩ := Jvm.LawKit.callS X101 hx (y := yn30) hown (mvT hZ (w194 hw)) (mvT hZ (w195 hw)) (mvT hZ (w22 hw)) (mvT hZ (w196 hw)) (by decide) (backOf (W := 0) (rm_compress22 l Z a0 hw [] t b101 bg n kb k101 cs fm h101 n0 (Nat.le_trans Z0 K101.1) O103 S_fm hfm S_ad S_hi S_lo F102 G101 (Nat.ne_of_lt (Nat.lt_of_lt_of_le Vs.lt (Nat.le_of_eq g101.symm))) (Nat.le_trans Z0 (Nat.le_of_eq g101.symm)) ok hbn) hZ (w196 hw) (w22 hw) (by decide) (by decide)) (g := (mkF m 9 #[.val (.ref t), .val (.int (Int32.ofNat bg)), .val (.int (Int32.ofNat n)), .val (.ref b101), .unset, .unset] [(.int (Int32.ofNat n)), (.int (0 : Int32)), (.ref b101), (.int (Int32.ofNat bg)), (.ref t)])) rfl (by rw [hml]; rfl) (argsL := [(.ref t), (.int (Int32.ofNat bg)), (.ref b101), (.int (0 : Int32)), (.int (Int32.ofNat n))]) (rest := []) (lenOf pd19 rfl) rfl (wq rfl) (D_ d31_9) (fun _ _ => ⟨rfl, e101, (nb rfl), (nb rfl)⟩)
  dsimp only [Pt.U, Pt.locs, Pt.cells, Pt.slots] at X104 l104 y104 z104 st104 hQ104
  subst l104 y104 z104
  obtain ⟨rfl, Nq104, K104, P104_0⟩ := hQ104
  have N104 := Fr.app N0 Nq104
  have W105 : ∀ zQ, SS p e below T104 m 17 #[.val (.ref t), .val (.int (Int32.ofNat bg)), .val (.int (Int32.ofNat n)), .val (.ref b101), .val (.int (Int32.ofNat (fl ((cs.drop bg).take n)))), .unset] [(.int (Int32.ofNat n)), (.int (Int32.ofNat (fl ((cs.drop bg).take n))))] zQ → Steps p.tables e below (s₁.setTop (entryFrame m #[(.ref t), (.int (Int32.ofNat bg)), (.int (Int32.ofNat n))] 6)) zQ := by
    intro tt kt
    refine W0 tt ?_
    refine XS.iloadN X0.here hx rfl (D_ d31_0) rfl ?_
    refine st101 _ ?_
    refine XS.astoreN X101.here hx rfl (D_ d31_3) rfl rfl (l' := #[.val (.ref t), .val (.int (Int32.ofNat bg)), .val (.int (Int32.ofNat n)), .val (.ref b101), .unset, .unset]) rfl ?_
    refine XS.aloadN X101.here hx rfl (D_ d31_4) rfl rfl ?_
    refine XS.iloadN X101.here hx rfl (D_ d31_5) rfl ?_
    refine XS.aloadN X101.here hx rfl (D_ d31_6) rfl rfl ?_
    refine XS.iconst X101.here hx rfl (D_ d31_7) ?_
    refine XS.iloadN X101.here hx rfl (D_ d31_8) rfl ?_
    refine st104 _ ?_
    refine XS.istore X104.here hx rfl (D_ d31_12) rfl (l' := #[.val (.ref t), .val (.int (Int32.ofNat bg)), .val (.int (Int32.ofNat n)), .val (.ref b101), .val (.int (Int32.ofNat (fl ((cs.drop bg).take n)))), .unset]) rfl ?_
    refine XS.iload X104.here hx rfl (D_ d31_14) rfl ?_
    refine XS.iloadN X104.here hx rfl (D_ d31_16) rfl ?_
    exact kt
  by_cases hc106 : (Int32.ofNat (fl ((cs.drop bg).take n))) = (Int32.ofNat n)
  ·
    have hl : lat ((cs.drop bg).take n) = true := fl_ne (by have := fl_le ((cs.drop bg).take n); have q := congrArg Int32.toInt hc106; rw [own_i (by omega), own_i (by omega)] at q; omega)
    have W107 : ∀ zQ, SS p e below T104 m 65 #[.val (.ref t), .val (.int (Int32.ofNat bg)), .val (.int (Int32.ofNat n)), .val (.ref b101), .val (.int (Int32.ofNat (fl ((cs.drop bg).take n)))), .unset] [(.ref b101)] zQ → Steps p.tables e below (s₁.setTop (entryFrame m #[(.ref t), (.int (Int32.ofNat bg)), (.int (Int32.ofNat n))] 6)) zQ := by
      intro tt kt
      refine W105 tt ?_
      refine XS.icmpYes X104.here hx rfl (pc0 := 17) (pc' := 64) rfl (D_ d31_17) rfl (teq hc106).1 (by decide) (by decide) ?_
      refine XS.aloadN X104.here hx rfl (D_ d31_64) rfl rfl ?_
      exact kt
    have hR108 : Arv Z T104.heap b101 k101 .byte (Int32.ofNat (blen ((cs.drop bg).take n))) (enc ((cs.drop bg).take n)) (.int (0 : Int32)) := by have q := enc_lat hl; rw [q.1, q.2.1, hdl]; rw [show ((cs.drop bg).take n).take (fl ((cs.drop bg).take n)) = ((cs.drop bg).take n) from by rw [fl_lat hl]; exact List.take_of_length_le (Nat.le_refl _)] at P104_0; exact P104_0
    obtain ⟨fs, hr, hrun, hended, hW, hsame⟩ := X104.leave (v := some (.ref b101)) (fun h => by rw [Bd.returns] at h; cases h)
    refine ⟨_, _, W107 _ (own_retR X104 hx Bd.returns rfl rfl (D_ d31_65) hr), hrun, hended, _, _, rfl, ?_, ⟨_, rfl⟩, hW, hsame.mono (by decide) (by decide)⟩
    show Q_compress17 Z t bg n kb cs fm h0 n0 _ T104.heap _
    exact ⟨b101, k101, rfl, N104, (Keep.trans (Keep.trans (Keep.refl h0 []) K101 all0) K104 (allS (Or.inr (Nat.le_of_eq g101.symm)) all0)), (Nat.le_of_eq g101.symm), hR108⟩
  ·
    have hl : ¬ lat ((cs.drop bg).take n) = true := fun q => hc106 (by rw [fl_lat q, hdl])
    have z110 : n0 ≤ T104.heap.size := (Nat.le_trans Z0 (Nat.le_trans K101.1 K104.1))
    obtain ⟨_, _, ⟨T109, L109, k109, n109⟩, -, X109, ⟨Lc109, hQ109, l109, y109, z109⟩, st109⟩ := Jvm.LawKit.callS X104 hx (y := yn13) hown (mvT hZ (w154 hw)) (mvT hZ (w155 hw)) (mvT hZ (w22 hw)) (mvT hZ (w156 hw)) (by decide) (backOf (W := 2) (rm_nbl l Z a0 hw [] (bg + n) T104.heap n0 z110 (by omega)) hZ (w156 hw) (w22 hw) (by decide) (by decide)) (g := (mkF m 27 #[.val (.ref t), .val (.int (Int32.ofNat bg)), .val (.int (Int32.ofNat n)), .val (.ref b101), .val (.int (Int32.ofNat (fl ((cs.drop bg).take n)))), .unset] [(.int (Int32.ofNat (bg + n))), (.int (Int32.ofNat (2 * bg))), (.ref t)])) rfl (by rw [hml]; rfl) (argsL := [(.int (Int32.ofNat (bg + n)))]) (rest := [(.int (Int32.ofNat (2 * bg))), (.ref t)]) (lenOf pd7 rfl) rfl (wq rfl) (D_ d31_27) (fun _ _ => ⟨rfl, rfl, (nb rfl), (nb rfl)⟩)
    dsimp only [Pt.U, Pt.locs, Pt.cells, Pt.slots] at X109 l109 y109 z109 st109 hQ109
    subst l109 y109 z109
    obtain ⟨rfl, Nq109, eq109⟩ := hQ109
    have N109 := Fr.app N104 Nq109
    have F111 : Arv Z T104.heap t kb .byte (Int32.ofNat (2 * cs.length)) (u16 cs) (.int (0 : Int32)) := (F102.keep K104 (ninS (Nat.ne_of_lt (Nat.lt_of_lt_of_le Vs.lt (Nat.le_of_eq g101.symm))) nin0))
    obtain ⟨_, _, ⟨T112, L112, k112, n112⟩, -, X112, ⟨Lc112, hQ112, l112, y112, z112⟩, st112⟩ := Jvm.LawKit.callS X109 hx (y := yn28) hown (mvT hZ (w206 hw)) (mvT hZ (w117 hw)) (mvT hZ (w118 hw)) (mvT hZ (w119 hw)) (by decide) (backOf (W := 0) (rm_cor l Z a0 hw [] t (2 * bg) (2 * (bg + n)) (2 * cs.length) kb (u16 cs) T104.heap n0 z110 F111 (u16_len cs) (by omega) (by omega) (by omega) (by omega) (by omega)) hZ (w119 hw) (w118 hw) (by decide) (by decide)) (g := (mkF m 30 #[.val (.ref t), .val (.int (Int32.ofNat bg)), .val (.int (Int32.ofNat n)), .val (.ref b101), .val (.int (Int32.ofNat (fl ((cs.drop bg).take n)))), .unset] [(.int (Int32.ofNat (2 * (bg + n)))), (.int (Int32.ofNat (2 * bg))), (.ref t)])) rfl (by rw [hml]; rfl) (argsL := [(.ref t), (.int (Int32.ofNat (2 * bg))), (.int (Int32.ofNat (2 * (bg + n))))]) (rest := []) (lenOf pd17 rfl) rfl (wq rfl) (D_ d31_30) (fun _ _ => ⟨rfl, eq109, (nb rfl), (nb rfl)⟩)
    dsimp only [Pt.U, Pt.locs, Pt.cells, Pt.slots] at X112 l112 y112 z112 st112 hQ112
    subst l112 y112 z112
    obtain ⟨r_113, kr_114, rfl, Nq112, K112, P112_0, P112_1⟩ := hQ112
    have N112 := Fr.app N109 Nq112
    have J115 : Arv Z T112.heap r_113 kr_114 .byte (Int32.ofNat (2 * ((cs.drop bg).take n).length)) (u16 ((cs.drop bg).take n)) (.int (0 : Int32)) := by rw [hdl, ← own_u16s cs bg n]; rw [show 2 * (bg + n) - 2 * bg = 2 * n from by omega] at P112_1; exact P112_1
    have O116 : Old Z n0 T112.heap := ((O103.keep K104 (allS (Nat.le_trans Z0 (Nat.le_of_eq g101.symm)) all0)).keep K112 all0)
    obtain ⟨_, _, ⟨T117, L117, k117, n117⟩, -, X117, ⟨Lc117, hQ117, l117, y117, z117⟩, st117⟩ := Jvm.LawKit.callS X112 hx (y := yn5) hown (mvT hZ (w164 hw)) (mvT hZ (w165 hw)) (mvT hZ (w22 hw)) (mvT hZ (w166 hw)) (by decide) (backOf (W := 0) (rm_getChar l Z a0 hw [] r_113 (fl ((cs.drop bg).take n)) kr_114 ((cs.drop bg).take n) T112.heap n0 (Nat.le_trans z110 K112.1) O116 S_ad S_hi S_lo J115 (fl_nlat hl).1 (own_okdt ok)) hZ (w166 hw) (w22 hw) (by decide) (by decide)) (g := (mkF m 39 #[.val (.ref t), .val (.int (Int32.ofNat bg)), .val (.int (Int32.ofNat n)), .val (.ref b101), .val (.int (Int32.ofNat (fl ((cs.drop bg).take n)))), .val (.ref r_113)] [(.int (Int32.ofNat (fl ((cs.drop bg).take n)))), (.ref r_113)])) rfl (by rw [hml]; rfl) (argsL := [(.ref r_113), (.int (Int32.ofNat (fl ((cs.drop bg).take n))))]) (rest := []) (lenOf pd4 rfl) rfl (wq rfl) (D_ d31_39) (fun _ _ => ⟨rfl, rfl, (nb rfl), (nb rfl)⟩)
    dsimp only [Pt.U, Pt.locs, Pt.cells, Pt.slots] at X117 l117 y117 z117 st117 hQ117
    subst l117 y117 z117
    obtain ⟨rfl, Nq117, eq117⟩ := hQ117
    have N117 := Fr.app N112 Nq117
    have W118 : ∀ zQ, SS p e below T117 m 63 #[.val (.ref t), .val (.int (Int32.ofNat bg)), .val (.int (Int32.ofNat n)), .val (.ref b101), .val (.int (Int32.ofNat (fl ((cs.drop bg).take n)))), .val (.ref r_113)] [(.ref r_113)] zQ → Steps p.tables e below (s₁.setTop (entryFrame m #[(.ref t), (.int (Int32.ofNat bg)), (.int (Int32.ofNat n))] 6)) zQ := by
      intro tt kt
      refine W105 tt ?_
      refine XS.icmpNo X104.here hx rfl (D_ d31_17) rfl (feq hc106).1 ?_
      refine XS.aloadN X104.here hx rfl (D_ d31_20) rfl rfl ?_
      refine XS.iloadN X104.here hx rfl (D_ d31_21) rfl ?_
      refine XS.iconst X104.here hx rfl (D_ d31_22) ?_
      refine XS.ishl X104.here hx rfl (D_ d31_23) rfl ?_
      show SS p e below T104 m 24 #[.val (.ref t), .val (.int (Int32.ofNat bg)), .val (.int (Int32.ofNat n)), .val (.ref b101), .val (.int (Int32.ofNat (fl ((cs.drop bg).take n)))), .unset] [(.int ((Int32.ofNat bg) <<< ((1 : Int32) &&& 31))), (.ref t)] _
      rw [show ((Int32.ofNat bg) <<< ((1 : Int32) &&& 31)) = (Int32.ofNat (2 * bg)) from own_shl1 (by omega)]
      refine XS.iloadN X104.here hx rfl (D_ d31_24) rfl ?_
      refine XS.iloadN X104.here hx rfl (D_ d31_25) rfl ?_
      refine XS.iadd X104.here hx rfl (D_ d31_26) rfl ?_
      show SS p e below T104 m 27 #[.val (.ref t), .val (.int (Int32.ofNat bg)), .val (.int (Int32.ofNat n)), .val (.ref b101), .val (.int (Int32.ofNat (fl ((cs.drop bg).take n)))), .unset] [(.int ((Int32.ofNat bg) + (Int32.ofNat n))), (.int (Int32.ofNat (2 * bg))), (.ref t)] _
      rw [show ((Int32.ofNat bg) + (Int32.ofNat n)) = (Int32.ofNat (bg + n)) from (Int32.ofNat_add bg n).symm]
      refine st109 _ ?_
      refine st112 _ ?_
      refine XS.astore X112.here hx rfl (D_ d31_33) rfl rfl (l' := #[.val (.ref t), .val (.int (Int32.ofNat bg)), .val (.int (Int32.ofNat n)), .val (.ref b101), .val (.int (Int32.ofNat (fl ((cs.drop bg).take n)))), .val (.ref r_113)]) rfl ?_
      refine XS.aload X112.here hx rfl (D_ d31_35) rfl rfl ?_
      refine XS.iload X112.here hx rfl (D_ d31_37) rfl ?_
      refine st117 _ ?_
      refine XS.sipush X117.here hx rfl (D_ d31_42) ?_
      refine XS.icmpYes X117.here hx rfl (pc0 := 45) (pc' := 61) rfl (D_ d31_45) rfl (tlt (fl_nlat hl).2).2.2.1 (by decide) (by decide) ?_
      refine XS.aload X117.here hx rfl (D_ d31_61) rfl rfl ?_
      exact kt
    have hR119 : Arv Z T112.heap r_113 kr_114 .byte (Int32.ofNat (blen ((cs.drop bg).take n))) (enc ((cs.drop bg).take n)) (.int (0 : Int32)) := by have q := enc_nlat hl; rw [q.1, q.2.1]; exact J115
    obtain ⟨fs, hr, hrun, hended, hW, hsame⟩ := X117.leave (v := some (.ref r_113)) (fun h => by rw [Bd.returns] at h; cases h)
    refine ⟨_, _, W118 _ (own_retR X117 hx Bd.returns rfl rfl (D_ d31_63) hr), hrun, hended, _, _, rfl, ?_, ⟨_, rfl⟩, hW, hsame.mono (by decide) (by decide)⟩
    show Q_compress17 Z t bg n kb cs fm h0 n0 _ T117.heap _
    rw [eq117]
    exact ⟨r_113, kr_114, rfl, N117, (Keep.trans (Keep.trans (Keep.trans (Keep.refl h0 []) K101 all0) K104 (allS (Or.inr (Nat.le_of_eq g101.symm)) all0)) K112 all0), (Nat.le_trans (Nat.le_trans K101.1 K104.1) P112_0), hR119⟩
theorem lp_ixl {p : Program} {l : Launch} {e : Env} {R : Room} {s : State} {m : MethodId} {args : Array Value} {below : List Frame} {meth : Method} {cO : Code} {cells slots : Nat} {Z : State} {a0 : Array Value} (hx : p.tables.exec = Jvm.exec) (hZ : Z.Warmed39 s.vm) (hw : HW a0 Z) (hby : cO.code = jdk_43_method_23_code) (hml : cO.maxLocals = 6) (hown : s.vm.findClass "java/lang/StringLatin1" = some m.cls) (hRf : 0 ≤ R.frames) (hRl : 0 ≤ R.locals) (hRc : cells ≤ R.cells) (hRs : slots ≤ R.slots) (hret : meth.sig.returnType = some .int) (t : Addr) (x : Int32) (kb : ClassId) (cs : List Int32) (n0 : Nat) (ok : OkS cs) (hm : x ∈ cs) (hl : lat cs = true) :
    ∀ suf : List Int32, ∀ (pre : List Int32) (T0 : State) (L0 : List Loc) (h0 : Heap) (X0 : Stand p l e R s m args below meth cO T0 L0 cells slots) (e0 : T0.heap = h0) (N0 : Fr n0 L0) (Z0 : n0 ≤ h0.size) (V1 : Arv Z h0 t kb .byte (Int32.ofNat cs.length) (l1 cs) (.int (0 : Int32))) (hnp : x ∉ pre) (hk : cs = pre ++ suf), ∃ (T' : State) (L' : List Loc) (h' : Heap), Stand p l e R s m args below meth cO T' L' cells slots ∧ T'.heap = h' ∧ Fr n0 L' ∧ h' = h0 ∧ ∀ fs, (∀ (f : JFrame) (acts : List Action), f.method = m → f.locked = none → f.entered = [] → (doReturn e (T'.setTop f) acts (some (.int (Int32.ofNat (fi x cs))))).1 = T'.setFrames fs) → SS p e below T0 m 7 #[.val (.ref t), .val (.int x), .val (.int (0 : Int32)), .val (.int (Int32.ofNat cs.length)), .val (.int (x.toInt8.toInt32)), .val (.int (Int32.ofNat pre.length))] [] (T'.setFrames fs) := by
  have D_ : ∀ {i : Nat} {x}, decode jdk_43_method_23_code i = x → decode cO.code i = x := fun h => hb hby h
  intro suf
  induction suf with
  | nil =>
    intro pre T0 L0 h0 X0 e0 N0 Z0 V1 hnp hk
    have W0 : ∀ zQ, SS p e below T0 m 7 #[.val (.ref t), .val (.int x), .val (.int (0 : Int32)), .val (.int (Int32.ofNat cs.length)), .val (.int (x.toInt8.toInt32)), .val (.int (Int32.ofNat pre.length))] [] zQ → Steps p.tables e below (T0.setTop (mkF m 7 #[.val (.ref t), .val (.int x), .val (.int (0 : Int32)), .val (.int (Int32.ofNat cs.length)), .val (.int (x.toInt8.toInt32)), .val (.int (Int32.ofNat pre.length))] [])) zQ := fun tt kt => kt
    have hn9 : cs.length < 1048576 := ok.2
    have hl0 : cs.length = pre.length := by rw [hk]; simp
    have W101 : ∀ zQ, SS p e below T0 m 32 #[.val (.ref t), .val (.int x), .val (.int (0 : Int32)), .val (.int (Int32.ofNat cs.length)), .val (.int (x.toInt8.toInt32)), .val (.int (Int32.ofNat pre.length))] [(.int (-1 : Int32))] zQ → Steps p.tables e below (T0.setTop (mkF m 7 #[.val (.ref t), .val (.int x), .val (.int (0 : Int32)), .val (.int (Int32.ofNat cs.length)), .val (.int (x.toInt8.toInt32)), .val (.int (Int32.ofNat pre.length))] [])) zQ := by
      intro tt kt
      refine W0 tt ?_
      refine XS.iload X0.here hx rfl (D_ d32_7) rfl ?_
      refine XS.iloadN X0.here hx rfl (D_ d32_9) rfl ?_
      refine XS.icmpYes X0.here hx rfl (pc0 := 10) (pc' := 31) rfl (D_ d32_10) rfl (flt (own_nlt (by omega) (by omega))).2.1 (by decide) (by decide) ?_
      refine XS.iconst X0.here hx rfl (D_ d32_31) ?_
      exact kt
    exact ⟨T0, _, h0, X0, e0, N0, rfl, fun fs hr => W101 _ (retI X0 hx hret (D_ d32_32) (by rw [show (Value.int (-1 : Int32)) = (Value.int (Int32.ofNat (fi x cs))) from (absurd (by rw [hk] at hm; simpa using hm) hnp)]; exact hr))⟩
  | cons cc r ih =>
    intro pre T0 L0 h0 X0 e0 N0 Z0 V1 hnp hk
    have W0 : ∀ zQ, SS p e below T0 m 7 #[.val (.ref t), .val (.int x), .val (.int (0 : Int32)), .val (.int (Int32.ofNat cs.length)), .val (.int (x.toInt8.toInt32)), .val (.int (Int32.ofNat pre.length))] [] zQ → Steps p.tables e below (T0.setTop (mkF m 7 #[.val (.ref t), .val (.int x), .val (.int (0 : Int32)), .val (.int (Int32.ofNat cs.length)), .val (.int (x.toInt8.toInt32)), .val (.int (Int32.ofNat pre.length))] [])) zQ := fun tt kt => kt
    have hn9 : cs.length < 1048576 := ok.2
    have hlt : pre.length < cs.length := by rw [hk]; simp
    have hcc : cs.getD pre.length 0 = cc := by rw [hk]; exact app_at pre r cc 0
    obtain ⟨cl102, Ar102, q102, S102, M102, H102, F102g⟩ := id V1
    have hin102 : ¬ ((Int32.ofNat pre.length) < 0 ∨ cl102.slots.size ≤ ((Int32.ofNat pre.length)).toNatClampNeg) := inb_of S102 ⟨own_nneg (by omega), own_lt hlt (by omega)⟩
    have hat102 : cl102.slots[((Int32.ofNat pre.length)).toNatClampNeg]? = some (.int (cc.toInt8.toInt32)) := Has.at H102 hin102 (by rw [own_cl (by omega), l1_at cs _ _ hlt, hcc])
    have W103 : ∀ zQ, SS p e below T0 m 19 #[.val (.ref t), .val (.int x), .val (.int (0 : Int32)), .val (.int (Int32.ofNat cs.length)), .val (.int (x.toInt8.toInt32)), .val (.int (Int32.ofNat pre.length))] [(.int (x.toInt8.toInt32)), (.int (cc.toInt8.toInt32))] zQ → Steps p.tables e below (T0.setTop (mkF m 7 #[.val (.ref t), .val (.int x), .val (.int (0 : Int32)), .val (.int (Int32.ofNat cs.length)), .val (.int (x.toInt8.toInt32)), .val (.int (Int32.ofNat pre.length))] [])) zQ := by
      intro tt kt
      refine W0 tt ?_
      refine XS.iload X0.here hx rfl (D_ d32_7) rfl ?_
      refine XS.iloadN X0.here hx rfl (D_ d32_9) rfl ?_
      refine XS.icmpNo X0.here hx rfl (D_ d32_10) rfl (tlt (own_lt hlt (by omega))).2.1 ?_
      refine XS.aloadN X0.here hx rfl (D_ d32_13) rfl rfl ?_
      refine XS.iload X0.here hx rfl (D_ d32_14) rfl ?_
      refine X0.baloadBytes hx (j := (Int32.ofNat pre.length)) (v := (.int (cc.toInt8.toInt32))) (by first | exact Ar102.1 | (rw [e0]; exact Ar102.1)) (State.isArrayOf_alike hZ.alike Ar102.2.1) Ar102.2.2 hin102 hat102 (g := (mkF m 16 #[.val (.ref t), .val (.int x), .val (.int (0 : Int32)), .val (.int (Int32.ofNat cs.length)), .val (.int (x.toInt8.toInt32)), .val (.int (Int32.ofNat pre.length))] [(.int (Int32.ofNat pre.length)), (.ref t)])) rfl rfl (D_ d32_16) _ ?_
      refine XS.iload X0.here hx rfl (D_ d32_17) rfl ?_
      exact kt
    by_cases hc104 : (cc.toInt8.toInt32) = (x.toInt8.toInt32)
    ·
      have hcx : cc = x := by have q := own_b8 (ok.at hlt).1 (lat_at hl hlt) (ok.1 x hm).1 (lat_mem hl hm) (by rw [hcc]; exact hc104); rw [hcc] at q; exact q
      have W105 : ∀ zQ, SS p e below T0 m 24 #[.val (.ref t), .val (.int x), .val (.int (0 : Int32)), .val (.int (Int32.ofNat cs.length)), .val (.int (x.toInt8.toInt32)), .val (.int (Int32.ofNat pre.length))] [(.int (Int32.ofNat pre.length))] zQ → Steps p.tables e below (T0.setTop (mkF m 7 #[.val (.ref t), .val (.int x), .val (.int (0 : Int32)), .val (.int (Int32.ofNat cs.length)), .val (.int (x.toInt8.toInt32)), .val (.int (Int32.ofNat pre.length))] [])) zQ := by
        intro tt kt
        refine W103 tt ?_
        refine XS.icmpNo X0.here hx rfl (D_ d32_19) rfl (teq hc104).2 ?_
        refine XS.iload X0.here hx rfl (D_ d32_22) rfl ?_
        exact kt
      exact ⟨T0, _, h0, X0, e0, N0, rfl, fun fs hr => W105 _ (retI X0 hx hret (D_ d32_24) (by rw [show (Value.int (Int32.ofNat pre.length)) = (Value.int (Int32.ofNat (fi x cs))) from (congrArg Value.int (own_hit hk hnp hcx))]; exact hr))⟩
    ·
      have hcx : ¬ cc = x := fun q => hc104 (by rw [q])
      have W106 : ∀ zQ, SS p e below T0 m 7 #[.val (.ref t), .val (.int x), .val (.int (0 : Int32)), .val (.int (Int32.ofNat cs.length)), .val (.int (x.toInt8.toInt32)), .val (.int (Int32.ofNat (pre ++ [cc]).length))] [] zQ → Steps p.tables e below (T0.setTop (mkF m 7 #[.val (.ref t), .val (.int x), .val (.int (0 : Int32)), .val (.int (Int32.ofNat cs.length)), .val (.int (x.toInt8.toInt32)), .val (.int (Int32.ofNat pre.length))] [])) zQ := by
        intro tt kt
        refine W103 tt ?_
        refine XS.icmpYes X0.here hx rfl (pc0 := 19) (pc' := 25) rfl (D_ d32_19) rfl (feq hc104).2 (by decide) (by decide) ?_
        refine XS.iinc X0.here hx rfl (D_ d32_25) rfl (l' := #[.val (.ref t), .val (.int x), .val (.int (0 : Int32)), .val (.int (Int32.ofNat cs.length)), .val (.int (x.toInt8.toInt32)), .val (.int ((Int32.ofNat pre.length) + (1 : Int32)))]) rfl ?_
        show SS p e below T0 m 28 #[.val (.ref t), .val (.int x), .val (.int (0 : Int32)), .val (.int (Int32.ofNat cs.length)), .val (.int (x.toInt8.toInt32)), .val (.int ((Int32.ofNat pre.length) + (1 : Int32)))] [] _
        rw [show ((Int32.ofNat pre.length) + (1 : Int32)) = (Int32.ofNat (pre ++ [cc]).length) from (by rw [own_succ]; simp)]
        refine XS.goto X0.here hx rfl (pc0 := 28) (pc' := 7) rfl (D_ d32_28) (by decide) (by decide) ?_
        exact kt
      obtain ⟨T107, L107, h107, X107, e107, N107, K107, st107⟩ := ih (pre ++ [cc]) T0 _ h0 X0 e0 N0 Z0 V1 (own_miss hnp hcx) (by rw [hk]; simp)
      exact ⟨T107, L107, h107, X107, e107, N107, K107, fun tt kt => W106 _ (st107 _ kt)⟩
def Q_l1ixc (Z : State) (t : Addr) (x : Int32) (kb : ClassId) (cs : List Int32) (h0 : Heap) (n0 : Nat) (vQ_ : Option Value) (hQ_ : Heap) (LQ_ : List Loc) : Prop := vQ_ = some (.int (Int32.ofNat (fi x cs))) ∧ Fr n0 LQ_ ∧ hQ_ = h0
theorem rm_l1ixc (l : Launch) (Z : State) (a0 : Array Value) (hw : HW a0 Z) (ws : List Jvm.Cond) (t : Addr) (x : Int32) (kb : ClassId) (cs : List Int32) (h0 : Heap) (n0 : Nat) (Z0 : n0 ≤ h0.size) (V1 : Arv Z h0 t kb .byte (Int32.ofNat cs.length) (l1 cs) (.int (0 : Int32))) (ok : OkS cs) (hm : x ∈ cs) (hl : lat cs = true) :
    CT l yn32 (Jvm.Cond.code yn32 jdk_43_method_23_code 6 (some .int) :: ws) (⟨0, 0, 0, 0⟩ : Room) #[(.ref t), (.int x), (.int (0 : Int32)), (.int (Int32.ofNat cs.length))] Z h0 (Q_l1ixc Z t x kb cs h0 n0) := by
  refine MetFree.of_bodySF (plainFor_of_name pn_java_lang_StringLatin1) hisR ?_
  intro p e s m args below meth cO s₁ Bd hml hP hK
  obtain ⟨rfl, hZ, hh⟩ := hP
  have hx := Bd.exec
  have hby := Bd.bytes
  have hown : s.vm.findClass "java/lang/StringLatin1" = some m.cls := findClass_of_methodNamed Bd.named
  have hnm := (name_of_methodNamed Bd.named Bd.method).1
  have X0 : Stand p l e (⟨0, 0, 0, 0⟩ : Room) s m #[(.ref t), (.int x), (.int (0 : Int32)), (.int (Int32.ofNat cs.length))] below meth cO s₁ [] 0 0 := Stand.of_body Bd
  have e0 : s₁.heap = h0 := by rw [← hh, Bd.state]; rfl
  have N0 := Fr.nil n0
  have D_ : ∀ {i : Nat} {x}, decode jdk_43_method_23_code i = x → decode cO.code i = x := fun h => hb hby h
  have W0 : ∀ zQ, SS p e below s₁ m 0 #[.val (.ref t), .val (.int x), .val (.int (0 : Int32)), .val (.int (Int32.ofNat cs.length)), .unset, .unset] [] zQ → Steps p.tables e below (s₁.setTop (entryFrame m #[(.ref t), (.int x), (.int (0 : Int32)), (.int (Int32.ofNat cs.length))] 6)) zQ := fun tt kt => castTop (ef_l1ixc m t x (0 : Int32) (Int32.ofNat cs.length)) kt
  have W101 : ∀ zQ, SS p e below s₁ m 7 #[.val (.ref t), .val (.int x), .val (.int (0 : Int32)), .val (.int (Int32.ofNat cs.length)), .val (.int (x.toInt8.toInt32)), .val (.int (0 : Int32))] [] zQ → Steps p.tables e below (s₁.setTop (entryFrame m #[(.ref t), (.int x), (.int (0 : Int32)), (.int (Int32.ofNat cs.length))] 6)) zQ := by
    intro tt kt
    refine W0 tt ?_
    refine XS.iloadN X0.here hx rfl (D_ d32_0) rfl ?_
    refine XS.i2b X0.here hx rfl (D_ d32_1) rfl ?_
    refine XS.istore X0.here hx rfl (D_ d32_2) rfl (l' := #[.val (.ref t), .val (.int x), .val (.int (0 : Int32)), .val (.int (Int32.ofNat cs.length)), .val (.int (x.toInt8.toInt32)), .unset]) rfl ?_
    refine XS.iloadN X0.here hx rfl (D_ d32_4) rfl ?_
    refine XS.istore X0.here hx rfl (D_ d32_5) rfl (l' := #[.val (.ref t), .val (.int x), .val (.int (0 : Int32)), .val (.int (Int32.ofNat cs.length)), .val (.int (x.toInt8.toInt32)), .val (.int (0 : Int32))]) rfl ?_
    exact kt
  obtain ⟨T102, L102, h102, X102, e102, Nl102, K102, st102⟩ := lp_ixl hx hZ hw hby hml hown (by decide) (by decide) (by decide) (by decide) Bd.returns t x kb cs n0 ok hm hl cs [] s₁ _ h0 X0 e0 N0 Z0 V1 (fun q => nomatch q) rfl
  obtain ⟨fs, hr, hrun, hended, hW, hsame⟩ := X102.leave (v := some (.int (Int32.ofNat (fi x cs)))) (fun h => by rw [Bd.returns] at h; cases h)
  refine ⟨_, _, W101 _ (st102 _ hr), hrun, hended, _, _, rfl, ?_, ⟨_, rfl⟩, hW, hsame.mono (by decide) (by decide)⟩
  show Q_l1ixc Z t x kb cs h0 n0 _ T102.heap _
  rw [(e102.trans K102)]
  exact ⟨rfl, Nl102, rfl⟩
def Q_canEncodeI (Z : State) (c : Int32) (h0 : Heap) (n0 : Nat) (vQ_ : Option Value) (hQ_ : Heap) (LQ_ : List Loc) : Prop := vQ_ = some (.int (1 : Int32)) ∧ Fr n0 LQ_ ∧ hQ_ = h0
theorem rm_canEncodeI (l : Launch) (Z : State) (a0 : Array Value) (hw : HW a0 Z) (ws : List Jvm.Cond) (c : Int32) (h0 : Heap) (n0 : Nat) (Z0 : n0 ≤ h0.size) (hc0 : ¬ (c < (0 : Int32))) (hc1 : ¬ ((255 : Int32) < c)) :
    CT l yn33 (Jvm.Cond.code yn33 jdk_43_method_4_code 1 (some .boolean) :: ws) (⟨0, 0, 0, 0⟩ : Room) #[(.int c)] Z h0 (Q_canEncodeI Z c h0 n0) := by
  refine MetFree.of_bodySF (plainFor_of_name pn_java_lang_StringLatin1) hisR ?_
  intro p e s m args below meth cO s₁ Bd hml hP hK
  obtain ⟨rfl, hZ, hh⟩ := hP
  have hx := Bd.exec
  have hby := Bd.bytes
  have hown : s.vm.findClass "java/lang/StringLatin1" = some m.cls := findClass_of_methodNamed Bd.named
  have hnm := (name_of_methodNamed Bd.named Bd.method).1
  have X0 : Stand p l e (⟨0, 0, 0, 0⟩ : Room) s m #[(.int c)] below meth cO s₁ [] 0 0 := Stand.of_body Bd
  have e0 : s₁.heap = h0 := by rw [← hh, Bd.state]; rfl
  have N0 := Fr.nil n0
  have D_ : ∀ {i : Nat} {x}, decode jdk_43_method_4_code i = x → decode cO.code i = x := fun h => hb hby h
  have W0 : ∀ zQ, SS p e below s₁ m 0 #[.val (.int c)] [] zQ → Steps p.tables e below (s₁.setTop (entryFrame m #[(.int c)] 1)) zQ := fun tt kt => castTop (ef_canEncodeI m c) kt
  have W101 : ∀ zQ, SS p e below s₁ m 16 #[.val (.int c)] [(.int (1 : Int32))] zQ → Steps p.tables e below (s₁.setTop (entryFrame m #[(.int c)] 1)) zQ := by
    intro tt kt
    refine W0 tt ?_
    refine XS.iloadN X0.here hx rfl (D_ d33_0) rfl ?_
    refine XS.ifNo X0.here hx rfl (D_ d33_1) rfl ((if0 _ _).trans (flt hc0).1) ?_
    refine XS.iloadN X0.here hx rfl (D_ d33_4) rfl ?_
    refine XS.sipush X0.here hx rfl (D_ d33_5) ?_
    refine XS.icmpNo X0.here hx rfl (D_ d33_8) rfl (flt hc1).2.2.1 ?_
    refine XS.iconst X0.here hx rfl (D_ d33_11) ?_
    refine XS.goto X0.here hx rfl (pc0 := 12) (pc' := 16) rfl (D_ d33_12) (by decide) (by decide) ?_
    exact kt
  obtain ⟨fs, hr, hrun, hended, hW, hsame⟩ := X0.leave (v := some (.int (nar .boolean (1 : Int32)))) (fun h => by rw [Bd.returns] at h; cases h)
  refine ⟨_, _, W101 _ (retN X0 hx (t := .boolean) Bd.returns (by simp) (D_ d33_16) hr), hrun, hended, _, _, rfl, ?_, ⟨_, rfl⟩, hW, hsame.mono (by decide) (by decide)⟩
  show Q_canEncodeI Z c h0 n0 _ s₁.heap _
  rw [e0]
  exact ⟨rfl, N0, rfl⟩
def Q_maxi (Z : State)  (h0 : Heap) (n0 : Nat) (vQ_ : Option Value) (hQ_ : Heap) (LQ_ : List Loc) : Prop := vQ_ = some (.int (0 : Int32)) ∧ Fr n0 LQ_ ∧ hQ_ = h0
theorem rm_maxi (l : Launch) (Z : State) (a0 : Array Value) (hw : HW a0 Z) (ws : List Jvm.Cond)  (h0 : Heap) (n0 : Nat) (Z0 : n0 ≤ h0.size)  :
    CT l yn34 (Jvm.Cond.code yn34 jdk_29_method_65_code 2 (some .int) :: ws) (⟨0, 0, 0, 0⟩ : Room) #[(.int (0 : Int32)), (.int (0 : Int32))] Z h0 (Q_maxi Z  h0 n0) := by
  refine MetFree.of_bodySF (Jvm.Free.JP.mathPlain rfl (by decide +kernel)) hisR ?_
  intro p e s m args below meth cO s₁ Bd hml hP hK
  obtain ⟨rfl, hZ, hh⟩ := hP
  have hx := Bd.exec
  have hby := Bd.bytes
  have hown : s.vm.findClass "java/lang/Math" = some m.cls := findClass_of_methodNamed Bd.named
  have hnm := (name_of_methodNamed Bd.named Bd.method).1
  have X0 : Stand p l e (⟨0, 0, 0, 0⟩ : Room) s m #[(.int (0 : Int32)), (.int (0 : Int32))] below meth cO s₁ [] 0 0 := Stand.of_body Bd
  have e0 : s₁.heap = h0 := by rw [← hh, Bd.state]; rfl
  have N0 := Fr.nil n0
  have D_ : ∀ {i : Nat} {x}, decode jdk_29_method_65_code i = x → decode cO.code i = x := fun h => hb hby h
  have W0 : ∀ zQ, SS p e below s₁ m 0 #[.val (.int (0 : Int32)), .val (.int (0 : Int32))] [] zQ → Steps p.tables e below (s₁.setTop (entryFrame m #[(.int (0 : Int32)), (.int (0 : Int32))] 2)) zQ := fun tt kt => castTop (ef_maxi m (0 : Int32) (0 : Int32)) kt
  have W101 : ∀ zQ, SS p e below s₁ m 10 #[.val (.int (0 : Int32)), .val (.int (0 : Int32))] [(.int (0 : Int32))] zQ → Steps p.tables e below (s₁.setTop (entryFrame m #[(.int (0 : Int32)), (.int (0 : Int32))] 2)) zQ := by
    intro tt kt
    refine W0 tt ?_
    refine XS.iloadN X0.here hx rfl (D_ d34_0) rfl ?_
    refine XS.iloadN X0.here hx rfl (D_ d34_1) rfl ?_
    refine XS.icmpNo X0.here hx rfl (D_ d34_2) rfl (flt (by decide)).1 ?_
    refine XS.iloadN X0.here hx rfl (D_ d34_5) rfl ?_
    refine XS.goto X0.here hx rfl (pc0 := 6) (pc' := 10) rfl (D_ d34_6) (by decide) (by decide) ?_
    exact kt
  obtain ⟨fs, hr, hrun, hended, hW, hsame⟩ := X0.leave (v := some (.int (0 : Int32))) (fun h => by rw [Bd.returns] at h; cases h)
  refine ⟨_, _, W101 _ (retI X0 hx Bd.returns (D_ d34_10) hr), hrun, hended, _, _, rfl, ?_, ⟨_, rfl⟩, hW, hsame.mono (by decide) (by decide)⟩
  show Q_maxi Z  h0 n0 _ s₁.heap _
  rw [e0]
  exact ⟨rfl, N0, rfl⟩
def Q_l1ix (Z : State) (t : Addr) (x : Int32) (kb : ClassId) (cs : List Int32) (h0 : Heap) (n0 : Nat) (vQ_ : Option Value) (hQ_ : Heap) (LQ_ : List Loc) : Prop := vQ_ = some (.int (Int32.ofNat (fi x cs))) ∧ Fr n0 LQ_ ∧ hQ_ = h0
theorem rm_l1ix (l : Launch) (Z : State) (a0 : Array Value) (hw : HW a0 Z) (ws : List Jvm.Cond) (t : Addr) (x : Int32) (kb : ClassId) (cs : List Int32) (h0 : Heap) (n0 : Nat) (Z0 : n0 ≤ h0.size) (V1 : Arv Z h0 t kb .byte (Int32.ofNat cs.length) (l1 cs) (.int (0 : Int32))) (ok : OkS cs) (hm : x ∈ cs) (hl : lat cs = true) :
    CT l yn35 (Jvm.Cond.code yn35 jdk_43_method_22_code 4 (some .int) :: ws) (⟨1, 0, 0, 17⟩ : Room) #[(.ref t), (.int x), (.int (0 : Int32)), (.int (Int32.ofNat cs.length))] Z h0 (Q_l1ix Z t x kb cs h0 n0) := by
  refine MetFree.of_bodySF (plainFor_of_name pn_java_lang_StringLatin1) hisR ?_
  intro p e s m args below meth cO s₁ Bd hml hP hK
  obtain ⟨rfl, hZ, hh⟩ := hP
  have hx := Bd.exec
  have hby := Bd.bytes
  have hown : s.vm.findClass "java/lang/StringLatin1" = some m.cls := findClass_of_methodNamed Bd.named
  have hnm := (name_of_methodNamed Bd.named Bd.method).1
  have X0 : Stand p l e (⟨1, 0, 0, 17⟩ : Room) s m #[(.ref t), (.int x), (.int (0 : Int32)), (.int (Int32.ofNat cs.length))] below meth cO s₁ [] 0 0 := Stand.of_body Bd
  have e0 : s₁.heap = h0 := by rw [← hh, Bd.state]; rfl
  have N0 := Fr.nil n0
  have D_ : ∀ {i : Nat} {x}, decode jdk_43_method_22_code i = x → decode cO.code i = x := fun h => hb hby h
  have W0 : ∀ zQ, SS p e below s₁ m 0 #[.val (.ref t), .val (.int x), .val (.int (0 : Int32)), .val (.int (Int32.ofNat cs.length))] [] zQ → Steps p.tables e below (s₁.setTop (entryFrame m #[(.ref t), (.int x), (.int (0 : Int32)), (.int (Int32.ofNat cs.length))] 4)) zQ := fun tt kt => castTop (ef_l1ix m t x (0 : Int32) (Int32.ofNat cs.length)) kt
  have hn9 : cs.length < 1048576 := ok.2
  have hp9 := fi_lt hm
  obtain ⟨_, _, ⟨T101, L101, k101, n101⟩, -, X101, ⟨Lc101, hQ101, l101, y101, z101⟩, st101⟩ := Jvm.LawKit.callS X0 hx (y := yn33) hown (mvT hZ (w68 hw)) (mvT hZ (w69 hw)) (mvT hZ (w66 hw)) (mvT hZ (w70 hw)) (by decide) (backOf (W := 0) (rm_canEncodeI l Z a0 hw [] x h0 n0 Z0 (ok.1 x hm).1 (lat_mem hl hm)) hZ (w70 hw) (w66 hw) (by decide) (by decide)) (g := (mkF m 1 #[.val (.ref t), .val (.int x), .val (.int (0 : Int32)), .val (.int (Int32.ofNat cs.length))] [(.int x)])) rfl (by rw [hml]; rfl) (argsL := [(.int x)]) (rest := []) (lenOf pd20 rfl) rfl (wq rfl) (D_ d35_1) (fun _ _ => ⟨rfl, e0, (nb rfl), (nb rfl)⟩)
  dsimp only [Pt.U, Pt.locs, Pt.cells, Pt.slots] at X101 l101 y101 z101 st101 hQ101
  subst l101 y101 z101
  obtain ⟨rfl, Nq101, eq101⟩ := hQ101
  have N101 := Fr.app N0 Nq101
  obtain ⟨_, _, ⟨T102, L102, k102, n102⟩, -, X102, ⟨Lc102, hQ102, l102, y102, z102⟩, st102⟩ := Jvm.LawKit.callS X101 hx (y := yn34) hown (mvT hZ (w71 hw)) (mvT hZ (w72 hw)) (mvT hZ (w73 hw)) (mvT hZ (w74 hw)) (by decide) (backOf (W := 0) (rm_maxi l Z a0 hw []  h0 n0 Z0 ) hZ (w74 hw) (w73 hw) (by decide) (by decide)) (g := (mkF m 11 #[.val (.ref t), .val (.int x), .val (.int (0 : Int32)), .val (.int (Int32.ofNat cs.length))] [(.int (0 : Int32)), (.int (0 : Int32))])) rfl (by rw [hml]; rfl) (argsL := [(.int (0 : Int32)), (.int (0 : Int32))]) (rest := []) (lenOf pd16 rfl) rfl (wq rfl) (D_ d35_11) (fun _ _ => ⟨rfl, eq101, (nb rfl), (nb rfl)⟩)
  dsimp only [Pt.U, Pt.locs, Pt.cells, Pt.slots] at X102 l102 y102 z102 st102 hQ102
  subst l102 y102 z102
  obtain ⟨rfl, Nq102, eq102⟩ := hQ102
  have N102 := Fr.app N101 Nq102
  obtain ⟨cl103, Ar103, -, S103, M103, -, -⟩ := id V1
  obtain ⟨_, _, ⟨T104, L104, k104, n104⟩, -, X104, ⟨Lc104, hQ104, l104, y104, z104⟩, st104⟩ := Jvm.LawKit.callS X102 hx (y := yn26) hown (mvT hZ (w75 hw)) (mvT hZ (w76 hw)) (mvT hZ (w73 hw)) (mvT hZ (w77 hw)) (by decide) (backOf (W := 0) (rm_mini l Z a0 hw [] (Int32.ofNat cs.length) (Int32.ofNat cs.length) h0 n0 Z0 ) hZ (w77 hw) (w73 hw) (by decide) (by decide)) (g := (mkF m 18 #[.val (.ref t), .val (.int x), .val (.int (0 : Int32)), .val (.int (Int32.ofNat cs.length))] [(.int (Int32.ofNat cs.length)), (.int (Int32.ofNat cs.length))])) rfl (by rw [hml]; rfl) (argsL := [(.int (Int32.ofNat cs.length)), (.int (Int32.ofNat cs.length))]) (rest := []) (lenOf pd16 rfl) rfl (wq rfl) (D_ d35_18) (fun _ _ => ⟨rfl, eq102, (nb rfl), (nb rfl)⟩)
  dsimp only [Pt.U, Pt.locs, Pt.cells, Pt.slots] at X104 l104 y104 z104 st104 hQ104
  subst l104 y104 z104
  obtain ⟨rfl, Nq104, eq104⟩ := hQ104
  have N104 := Fr.app N102 Nq104
  obtain ⟨_, _, ⟨T105, L105, k105, n105⟩, -, X105, ⟨Lc105, hQ105, l105, y105, z105⟩, st105⟩ := Jvm.LawKit.callS X104 hx (y := yn32) hown (mvT hZ (w78 hw)) (mvT hZ (w79 hw)) (mvT hZ (w66 hw)) (mvT hZ (w80 hw)) (by decide) (backOf (W := 0) (rm_l1ixc l Z a0 hw [] t x kb cs h0 n0 Z0 V1 ok hm hl) hZ (w80 hw) (w66 hw) (by decide) (by decide)) (g := (mkF m 33 #[.val (.ref t), .val (.int x), .val (.int (0 : Int32)), .val (.int (Int32.ofNat cs.length))] [(.int (Int32.ofNat cs.length)), (.int (0 : Int32)), (.int x), (.ref t)])) rfl (by rw [hml]; rfl) (argsL := [(.ref t), (.int x), (.int (0 : Int32)), (.int (Int32.ofNat cs.length))]) (rest := []) (lenOf pd21 rfl) rfl (wq rfl) (D_ d35_33) (fun _ _ => ⟨rfl, eq104, (nb rfl), (nb rfl)⟩)
  dsimp only [Pt.U, Pt.locs, Pt.cells, Pt.slots] at X105 l105 y105 z105 st105 hQ105
  subst l105 y105 z105
  obtain ⟨rfl, Nq105, eq105⟩ := hQ105
  have N105 := Fr.app N104 Nq105
  have W106 : ∀ zQ, SS p e below T105 m 36 #[.val (.ref t), .val (.int x), .val (.int (0 : Int32)), .val (.int (Int32.ofNat cs.length))] [(.int (Int32.ofNat (fi x cs)))] zQ → Steps p.tables e below (s₁.setTop (entryFrame m #[(.ref t), (.int x), (.int (0 : Int32)), (.int (Int32.ofNat cs.length))] 4)) zQ := by
    intro tt kt
    refine W0 tt ?_
    refine XS.iloadN X0.here hx rfl (D_ d35_0) rfl ?_
    refine st101 _ ?_
    refine XS.ifYes X101.here hx rfl (pc0 := 4) (pc' := 9) rfl (D_ d35_4) rfl ((if0 _ _).trans (feq (by decide)).2) (by decide) (by decide) ?_
    refine XS.iloadN X101.here hx rfl (D_ d35_9) rfl ?_
    refine XS.iconst X101.here hx rfl (D_ d35_10) ?_
    refine st102 _ ?_
    refine XS.istoreN X102.here hx rfl (D_ d35_14) rfl (l' := #[.val (.ref t), .val (.int x), .val (.int (0 : Int32)), .val (.int (Int32.ofNat cs.length))]) rfl ?_
    refine XS.iloadN X102.here hx rfl (D_ d35_15) rfl ?_
    refine XS.aloadN X102.here hx rfl (D_ d35_16) rfl rfl ?_
    refine X102.arraylength hx (by first | exact Ar103.1 | (rw [eq102]; exact Ar103.1)) (State.isArrayOf_alike hZ.alike Ar103.2.1) (g := (mkF m 17 #[.val (.ref t), .val (.int x), .val (.int (0 : Int32)), .val (.int (Int32.ofNat cs.length))] [(.ref t), (.int (Int32.ofNat cs.length))])) rfl rfl (D_ d35_17) _ ?_
    rw [len_of S103 M103]
    refine st104 _ ?_
    show SS p e below T104 m 21 #[.val (.ref t), .val (.int x), .val (.int (0 : Int32)), .val (.int (Int32.ofNat cs.length))] [(.int (if (Int32.ofNat cs.length) < (Int32.ofNat cs.length) then (Int32.ofNat cs.length) else (Int32.ofNat cs.length)))] _
    rw [show (if (Int32.ofNat cs.length) < (Int32.ofNat cs.length) then (Int32.ofNat cs.length) else (Int32.ofNat cs.length)) = (Int32.ofNat cs.length) from (ite_self _)]
    refine XS.istoreN X104.here hx rfl (D_ d35_21) rfl (l' := #[.val (.ref t), .val (.int x), .val (.int (0 : Int32)), .val (.int (Int32.ofNat cs.length))]) rfl ?_
    refine XS.iloadN X104.here hx rfl (D_ d35_22) rfl ?_
    refine XS.iloadN X104.here hx rfl (D_ d35_23) rfl ?_
    refine XS.icmpYes X104.here hx rfl (pc0 := 24) (pc' := 29) rfl (D_ d35_24) rfl (tlt (own_pos0 (by omega) (by omega))).1 (by decide) (by decide) ?_
    refine XS.aloadN X104.here hx rfl (D_ d35_29) rfl rfl ?_
    refine XS.iloadN X104.here hx rfl (D_ d35_30) rfl ?_
    refine XS.iloadN X104.here hx rfl (D_ d35_31) rfl ?_
    refine XS.iloadN X104.here hx rfl (D_ d35_32) rfl ?_
    refine st105 _ ?_
    exact kt
  obtain ⟨fs, hr, hrun, hended, hW, hsame⟩ := X105.leave (v := some (.int (Int32.ofNat (fi x cs)))) (fun h => by rw [Bd.returns] at h; cases h)
  refine ⟨_, _, W106 _ (retI X105 hx Bd.returns (D_ d35_36) hr), hrun, hended, _, _, rfl, ?_, ⟨_, rfl⟩, hW, hsame.mono (by decide) (by decide)⟩
  show Q_l1ix Z t x kb cs h0 n0 _ T105.heap _
  rw [eq105]
  exact ⟨rfl, N105, rfl⟩
theorem lp_ixu {p : Program} {l : Launch} {e : Env} {R : Room} {s : State} {m : MethodId} {args : Array Value} {below : List Frame} {meth : Method} {cO : Code} {cells slots : Nat} {Z : State} {a0 : Array Value} (hx : p.tables.exec = Jvm.exec) (hZ : Z.Warmed39 s.vm) (hw : HW a0 Z) (hby : cO.code = jdk_52_method_48_code) (hml : cO.maxLocals = 5) (hown : s.vm.findClass "java/lang/StringUTF16" = some m.cls) (hRf : 1 ≤ R.frames) (hRl : 13 ≤ R.locals) (hRc : cells ≤ R.cells) (hRs : slots ≤ R.slots) (hret : meth.sig.returnType = some .int) (t : Addr) (x : Int32) (kb : ClassId) (cs : List Int32) (n0 : Nat) (S_ad : Sta Z Z.heap "java/lang/StringUTF16" "$assertionsDisabled" "Z" (.int (1 : Int32))) (S_hi : Sta Z Z.heap "java/lang/StringUTF16" "HI_BYTE_SHIFT" "I" (.int (0 : Int32))) (S_lo : Sta Z Z.heap "java/lang/StringUTF16" "LO_BYTE_SHIFT" "I" (.int (8 : Int32))) (ok : OkS cs) (hm : x ∈ cs) :
    ∀ suf : List Int32, ∀ (pre : List Int32) (T0 : State) (L0 : List Loc) (h0 : Heap) (X0 : Stand p l e R s m args below meth cO T0 L0 cells slots) (e0 : T0.heap = h0) (N0 : Fr n0 L0) (Z0 : n0 ≤ h0.size) (O0 : Old Z n0 h0) (V1 : Arv Z h0 t kb .byte (Int32.ofNat (2 * cs.length)) (u16 cs) (.int (0 : Int32))) (hnp : x ∉ pre) (hk : cs = pre ++ suf), ∃ (T' : State) (L' : List Loc) (h' : Heap), Stand p l e R s m args below meth cO T' L' cells slots ∧ T'.heap = h' ∧ Fr n0 L' ∧ h' = h0 ∧ ∀ fs, (∀ (f : JFrame) (acts : List Action), f.method = m → f.locked = none → f.entered = [] → (doReturn e (T'.setTop f) acts (some (.int (Int32.ofNat (fi x cs))))).1 = T'.setFrames fs) → SS p e below T0 m 3 #[.val (.ref t), .val (.int x), .val (.int (0 : Int32)), .val (.int (Int32.ofNat cs.length)), .val (.int (Int32.ofNat pre.length))] [] (T'.setFrames fs) := by
  have D_ : ∀ {i : Nat} {x}, decode jdk_52_method_48_code i = x → decode cO.code i = x := fun h => hb hby h
  intro suf
  induction suf with
  | nil =>
    intro pre T0 L0 h0 X0 e0 N0 Z0 O0 V1 hnp hk
    have W0 : ∀ zQ, SS p e below T0 m 3 #[.val (.ref t), .val (.int x), .val (.int (0 : Int32)), .val (.int (Int32.ofNat cs.length)), .val (.int (Int32.ofNat pre.length))] [] zQ → Steps p.tables e below (T0.setTop (mkF m 3 #[.val (.ref t), .val (.int x), .val (.int (0 : Int32)), .val (.int (Int32.ofNat cs.length)), .val (.int (Int32.ofNat pre.length))] [])) zQ := fun tt kt => kt
    have hn9 : cs.length < 1048576 := ok.2
    have hl0 : cs.length = pre.length := by rw [hk]; simp
    have W101 : ∀ zQ, SS p e below T0 m 29 #[.val (.ref t), .val (.int x), .val (.int (0 : Int32)), .val (.int (Int32.ofNat cs.length)), .val (.int (Int32.ofNat pre.length))] [(.int (-1 : Int32))] zQ → Steps p.tables e below (T0.setTop (mkF m 3 #[.val (.ref t), .val (.int x), .val (.int (0 : Int32)), .val (.int (Int32.ofNat cs.length)), .val (.int (Int32.ofNat pre.length))] [])) zQ := by
      intro tt kt
      refine W0 tt ?_
      refine XS.iload X0.here hx rfl (D_ d36_3) rfl ?_
      refine XS.iloadN X0.here hx rfl (D_ d36_5) rfl ?_
      refine XS.icmpYes X0.here hx rfl (pc0 := 6) (pc' := 28) rfl (D_ d36_6) rfl (flt (own_nlt (by omega) (by omega))).2.1 (by decide) (by decide) ?_
      refine XS.iconst X0.here hx rfl (D_ d36_28) ?_
      exact kt
    exact ⟨T0, _, h0, X0, e0, N0, rfl, fun fs hr => W101 _ (retI X0 hx hret (D_ d36_29) (by rw [show (Value.int (-1 : Int32)) = (Value.int (Int32.ofNat (fi x cs))) from (absurd (by rw [hk] at hm; simpa using hm) hnp)]; exact hr))⟩
  | cons cc r ih =>
    intro pre T0 L0 h0 X0 e0 N0 Z0 O0 V1 hnp hk
    have W0 : ∀ zQ, SS p e below T0 m 3 #[.val (.ref t), .val (.int x), .val (.int (0 : Int32)), .val (.int (Int32.ofNat cs.length)), .val (.int (Int32.ofNat pre.length))] [] zQ → Steps p.tables e below (T0.setTop (mkF m 3 #[.val (.ref t), .val (.int x), .val (.int (0 : Int32)), .val (.int (Int32.ofNat cs.length)), .val (.int (Int32.ofNat pre.length))] [])) zQ := fun tt kt => kt
    have hn9 : cs.length < 1048576 := ok.2
    have hlt : pre.length < cs.length := by rw [hk]; simp
    have hcc : cs.getD pre.length 0 = cc := by rw [hk]; exact app_at pre r cc 0
    obtain ⟨_, _, ⟨T102, L102, k102, n102⟩, -, X102, ⟨Lc102, hQ102, l102, y102, z102⟩, st102⟩ := Jvm.LawKit.callS X0 hx (y := yn5) hown (mvT hZ (w164 hw)) (mvT hZ (w165 hw)) (mvT hZ (w22 hw)) (mvT hZ (w166 hw)) (by decide) (backOf (W := 0) (rm_getChar l Z a0 hw [] t pre.length kb cs h0 n0 Z0 O0 S_ad S_hi S_lo V1 hlt ok) hZ (w166 hw) (w22 hw) (Nat.le_trans (by decide) hRf) (Nat.le_trans (by decide) hRl)) (g := (mkF m 12 #[.val (.ref t), .val (.int x), .val (.int (0 : Int32)), .val (.int (Int32.ofNat cs.length)), .val (.int (Int32.ofNat pre.length))] [(.int (Int32.ofNat pre.length)), (.ref t)])) rfl (by rw [hml]; rfl) (argsL := [(.ref t), (.int (Int32.ofNat pre.length))]) (rest := []) (lenOf pd4 rfl) rfl (wq rfl) (D_ d36_12) (fun _ _ => ⟨rfl, e0, hRc, hRs⟩)
    dsimp only [Pt.U, Pt.locs, Pt.cells, Pt.slots] at X102 l102 y102 z102 st102 hQ102
    subst l102 y102 z102
    obtain ⟨rfl, Nq102, eq102⟩ := hQ102
    have N102 := Fr.app N0 Nq102
    have W103 : ∀ zQ, SS p e below T102 m 16 #[.val (.ref t), .val (.int x), .val (.int (0 : Int32)), .val (.int (Int32.ofNat cs.length)), .val (.int (Int32.ofNat pre.length))] [(.int x), (.int cc)] zQ → Steps p.tables e below (T0.setTop (mkF m 3 #[.val (.ref t), .val (.int x), .val (.int (0 : Int32)), .val (.int (Int32.ofNat cs.length)), .val (.int (Int32.ofNat pre.length))] [])) zQ := by
      intro tt kt
      refine W0 tt ?_
      refine XS.iload X0.here hx rfl (D_ d36_3) rfl ?_
      refine XS.iloadN X0.here hx rfl (D_ d36_5) rfl ?_
      refine XS.icmpNo X0.here hx rfl (D_ d36_6) rfl (tlt (own_lt hlt (by omega))).2.1 ?_
      refine XS.aloadN X0.here hx rfl (D_ d36_9) rfl rfl ?_
      refine XS.iload X0.here hx rfl (D_ d36_10) rfl ?_
      refine st102 _ ?_
      show SS p e below T102 m 15 #[.val (.ref t), .val (.int x), .val (.int (0 : Int32)), .val (.int (Int32.ofNat cs.length)), .val (.int (Int32.ofNat pre.length))] [(.int (cs.getD pre.length 0))] _
      rw [show (cs.getD pre.length 0) = cc from hcc]
      refine XS.iloadN X102.here hx rfl (D_ d36_15) rfl ?_
      exact kt
    by_cases hc104 : cc = x
    ·
      have hcx := hc104
      have W105 : ∀ zQ, SS p e below T102 m 21 #[.val (.ref t), .val (.int x), .val (.int (0 : Int32)), .val (.int (Int32.ofNat cs.length)), .val (.int (Int32.ofNat pre.length))] [(.int (Int32.ofNat pre.length))] zQ → Steps p.tables e below (T0.setTop (mkF m 3 #[.val (.ref t), .val (.int x), .val (.int (0 : Int32)), .val (.int (Int32.ofNat cs.length)), .val (.int (Int32.ofNat pre.length))] [])) zQ := by
        intro tt kt
        refine W103 tt ?_
        refine XS.icmpNo X102.here hx rfl (D_ d36_16) rfl (teq hc104).2 ?_
        refine XS.iload X102.here hx rfl (D_ d36_19) rfl ?_
        exact kt
      exact ⟨T102, _, h0, X102, eq102, N102, rfl, fun fs hr => W105 _ (retI X102 hx hret (D_ d36_21) (by rw [show (Value.int (Int32.ofNat pre.length)) = (Value.int (Int32.ofNat (fi x cs))) from (congrArg Value.int (own_hit hk hnp hcx))]; exact hr))⟩
    ·
      have hcx := hc104
      have W106 : ∀ zQ, SS p e below T102 m 3 #[.val (.ref t), .val (.int x), .val (.int (0 : Int32)), .val (.int (Int32.ofNat cs.length)), .val (.int (Int32.ofNat (pre ++ [cc]).length))] [] zQ → Steps p.tables e below (T0.setTop (mkF m 3 #[.val (.ref t), .val (.int x), .val (.int (0 : Int32)), .val (.int (Int32.ofNat cs.length)), .val (.int (Int32.ofNat pre.length))] [])) zQ := by
        intro tt kt
        refine W103 tt ?_
        refine XS.icmpYes X102.here hx rfl (pc0 := 16) (pc' := 22) rfl (D_ d36_16) rfl (feq hc104).2 (by decide) (by decide) ?_
        refine XS.iinc X102.here hx rfl (D_ d36_22) rfl (l' := #[.val (.ref t), .val (.int x), .val (.int (0 : Int32)), .val (.int (Int32.ofNat cs.length)), .val (.int ((Int32.ofNat pre.length) + (1 : Int32)))]) rfl ?_
        show SS p e below T102 m 25 #[.val (.ref t), .val (.int x), .val (.int (0 : Int32)), .val (.int (Int32.ofNat cs.length)), .val (.int ((Int32.ofNat pre.length) + (1 : Int32)))] [] _
        rw [show ((Int32.ofNat pre.length) + (1 : Int32)) = (Int32.ofNat (pre ++ [cc]).length) from (by rw [own_succ]; simp)]
        refine XS.goto X102.here hx rfl (pc0 := 25) (pc' := 3) rfl (D_ d36_25) (by decide) (by decide) ?_
        exact kt
      obtain ⟨T107, L107, h107, X107, e107, N107, K107, st107⟩ := ih (pre ++ [cc]) T102 _ h0 X102 eq102 N102 Z0 O0 V1 (own_miss hnp hcx) (by rw [hk]; simp)
      exact ⟨T107, L107, h107, X107, e107, N107, K107, fun tt kt => W106 _ (st107 _ kt)⟩
def Q_u16ixc (Z : State) (t : Addr) (x : Int32) (kb : ClassId) (cs : List Int32) (h0 : Heap) (n0 : Nat) (vQ_ : Option Value) (hQ_ : Heap) (LQ_ : List Loc) : Prop := vQ_ = some (.int (Int32.ofNat (fi x cs))) ∧ Fr n0 LQ_ ∧ hQ_ = h0
theorem rm_u16ixc (l : Launch) (Z : State) (a0 : Array Value) (hw : HW a0 Z) (ws : List Jvm.Cond) (t : Addr) (x : Int32) (kb : ClassId) (cs : List Int32) (h0 : Heap) (n0 : Nat) (Z0 : n0 ≤ h0.size) (O0 : Old Z n0 h0) (S_ad : Sta Z Z.heap "java/lang/StringUTF16" "$assertionsDisabled" "Z" (.int (1 : Int32))) (S_hi : Sta Z Z.heap "java/lang/StringUTF16" "HI_BYTE_SHIFT" "I" (.int (0 : Int32))) (S_lo : Sta Z Z.heap "java/lang/StringUTF16" "LO_BYTE_SHIFT" "I" (.int (8 : Int32))) (V1 : Arv Z h0 t kb .byte (Int32.ofNat (2 * cs.length)) (u16 cs) (.int (0 : Int32))) (ok : OkS cs) (hm : x ∈ cs) :
    CT l yn36 (Jvm.Cond.code yn36 jdk_52_method_48_code 5 (some .int) :: ws) (⟨1, 0, 0, 13⟩ : Room) #[(.ref t), (.int x), (.int (0 : Int32)), (.int (Int32.ofNat cs.length))] Z h0 (Q_u16ixc Z t x kb cs h0 n0) := by
  refine MetFree.of_bodySF (plainFor_of_name pn_java_lang_StringUTF16) hisR ?_
  intro p e s m args below meth cO s₁ Bd hml hP hK
  obtain ⟨rfl, hZ, hh⟩ := hP
  have hx := Bd.exec
  have hby := Bd.bytes
  have hown : s.vm.findClass "java/lang/StringUTF16" = some m.cls := findClass_of_methodNamed Bd.named
  have hnm := (name_of_methodNamed Bd.named Bd.method).1
  have X0 : Stand p l e (⟨1, 0, 0, 13⟩ : Room) s m #[(.ref t), (.int x), (.int (0 : Int32)), (.int (Int32.ofNat cs.length))] below meth cO s₁ [] 0 0 := Stand.of_body Bd
  have e0 : s₁.heap = h0 := by rw [← hh, Bd.state]; rfl
  have N0 := Fr.nil n0
  have D_ : ∀ {i : Nat} {x}, decode jdk_52_method_48_code i = x → decode cO.code i = x := fun h => hb hby h
  have W0 : ∀ zQ, SS p e below s₁ m 0 #[.val (.ref t), .val (.int x), .val (.int (0 : Int32)), .val (.int (Int32.ofNat cs.length)), .unset] [] zQ → Steps p.tables e below (s₁.setTop (entryFrame m #[(.ref t), (.int x), (.int (0 : Int32)), (.int (Int32.ofNat cs.length))] 5)) zQ := fun tt kt => castTop (ef_u16ixc m t x (0 : Int32) (Int32.ofNat cs.length)) kt
  have W101 : ∀ zQ, SS p e below s₁ m 3 #[.val (.ref t), .val (.int x), .val (.int (0 : Int32)), .val (.int (Int32.ofNat cs.length)), .val (.int (0 : Int32))] [] zQ → Steps p.tables e below (s₁.setTop (entryFrame m #[(.ref t), (.int x), (.int (0 : Int32)), (.int (Int32.ofNat cs.length))] 5)) zQ := by
    intro tt kt
    refine W0 tt ?_
    refine XS.iloadN X0.here hx rfl (D_ d36_0) rfl ?_
    refine XS.istore X0.here hx rfl (D_ d36_1) rfl (l' := #[.val (.ref t), .val (.int x), .val (.int (0 : Int32)), .val (.int (Int32.ofNat cs.length)), .val (.int (0 : Int32))]) rfl ?_
    exact kt
  obtain ⟨T102, L102, h102, X102, e102, Nl102, K102, st102⟩ := lp_ixu hx hZ hw hby hml hown (by decide) (by decide) (by decide) (by decide) Bd.returns t x kb cs n0 S_ad S_hi S_lo ok hm cs [] s₁ _ h0 X0 e0 N0 Z0 O0 V1 (fun q => nomatch q) rfl
  obtain ⟨fs, hr, hrun, hended, hW, hsame⟩ := X102.leave (v := some (.int (Int32.ofNat (fi x cs)))) (fun h => by rw [Bd.returns] at h; cases h)
  refine ⟨_, _, W101 _ (st102 _ hr), hrun, hended, _, _, rfl, ?_, ⟨_, rfl⟩, hW, hsame.mono (by decide) (by decide)⟩
  show Q_u16ixc Z t x kb cs h0 n0 _ T102.heap _
  rw [(e102.trans K102)]
  exact ⟨rfl, Nl102, rfl⟩
def Q_u16checkBE (Z : State) (t : Addr) (N : Nat) (kb : ClassId) (vs : List Value) (fm : Value) (h0 : Heap) (n0 : Nat) (vQ_ : Option Value) (hQ_ : Heap) (LQ_ : List Loc) : Prop := vQ_ = none ∧ Fr n0 LQ_ ∧ hQ_ = h0
theorem rm_u16checkBE (l : Launch) (Z : State) (a0 : Array Value) (hw : HW a0 Z) (ws : List Jvm.Cond) (t : Addr) (N : Nat) (kb : ClassId) (vs : List Value) (fm : Value) (h0 : Heap) (n0 : Nat) (Z0 : n0 ≤ h0.size) (O0 : Old Z n0 h0) (S_fm : Sta Z Z.heap "jdk/internal/util/Preconditions" "SIOOBE_FORMATTER" "Ljava/util/function/BiFunction;" fm) (hfm : fm.isRef = true) (A1 : Arv Z h0 t kb .byte (Int32.ofNat (2 * N)) vs (.int (0 : Int32))) (hN : 2 * N < 2147483648) :
    CT l yn37 (Jvm.Cond.code yn37 jdk_52_method_93_code 3 none :: ws) (⟨2, 0, 0, 29⟩ : Room) #[(.int (0 : Int32)), (.int (Int32.ofNat N)), (.ref t)] Z h0 (Q_u16checkBE Z t N kb vs fm h0 n0) := by
  refine MetFree.of_bodySF (plainFor_of_name pn_java_lang_StringUTF16) hisR ?_
  intro p e s m args below meth cO s₁ Bd hml hP hK
  obtain ⟨rfl, hZ, hh⟩ := hP
  have hx := Bd.exec
  have hby := Bd.bytes
  have hown : s.vm.findClass "java/lang/StringUTF16" = some m.cls := findClass_of_methodNamed Bd.named
  have hnm := (name_of_methodNamed Bd.named Bd.method).1
  have X0 : Stand p l e (⟨2, 0, 0, 29⟩ : Room) s m #[(.int (0 : Int32)), (.int (Int32.ofNat N)), (.ref t)] below meth cO s₁ [] 0 0 := Stand.of_body Bd
  have e0 : s₁.heap = h0 := by rw [← hh, Bd.state]; rfl
  have N0 := Fr.nil n0
  have D_ : ∀ {i : Nat} {x}, decode jdk_52_method_93_code i = x → decode cO.code i = x := fun h => hb hby h
  have W0 : ∀ zQ, SS p e below s₁ m 0 #[.val (.int (0 : Int32)), .val (.int (Int32.ofNat N)), .val (.ref t)] [] zQ → Steps p.tables e below (s₁.setTop (entryFrame m #[(.int (0 : Int32)), (.int (Int32.ofNat N)), (.ref t)] 3)) zQ := fun tt kt => castTop (ef_u16checkBE m (0 : Int32) (Int32.ofNat N) t) kt
  obtain ⟨_, _, ⟨T101, L101, k101, n101⟩, -, X101, ⟨Lc101, hQ101, l101, y101, z101⟩, st101⟩ := Jvm.LawKit.callS X0 hx (y := yn3) hown (mvT hZ (w179 hw)) (mvT hZ (w180 hw)) (mvT hZ (w22 hw)) (mvT hZ (w181 hw)) (by decide) (backOf (W := 2) (rm_u16length l Z a0 hw [] t N kb vs h0 n0 Z0 A1 hN) hZ (w181 hw) (w22 hw) (by decide) (by decide)) (g := (mkF m 3 #[.val (.int (0 : Int32)), .val (.int (Int32.ofNat N)), .val (.ref t)] [(.ref t), (.int (Int32.ofNat N)), (.int (0 : Int32))])) rfl (by rw [hml]; rfl) (argsL := [(.ref t)]) (rest := [(.int (Int32.ofNat N)), (.int (0 : Int32))]) (lenOf pd2 rfl) rfl (wq rfl) (D_ d37_3) (fun _ _ => ⟨rfl, e0, (nb rfl), (nb rfl)⟩)
  dsimp only [Pt.U, Pt.locs, Pt.cells, Pt.slots] at X101 l101 y101 z101 st101 hQ101
  subst l101 y101 z101
  obtain ⟨rfl, Nq101, eq101⟩ := hQ101
  have N101 := Fr.app N0 Nq101
  obtain ⟨_, _, ⟨T102, L102, k102, n102⟩, -, X102, ⟨Lc102, hQ102, l102, y102, z102⟩, st102⟩ := Jvm.LawKit.callS X101 hx (y := yn21) hown (mvT hZ (w182 hw)) (mvT hZ (w89 hw)) (mvT hZ (w8 hw)) (mvT hZ (w90 hw)) (by decide) (backOf (W := 0) (rm_scheckBE l Z a0 hw [] (0 : Int32) (Int32.ofNat N) (Int32.ofNat N) fm h0 n0 Z0 O0 S_fm hfm (by decide) (own_nneg (by omega)) (own_nlt (Nat.le_refl _) (by omega))) hZ (w90 hw) (w8 hw) (by decide) (by decide)) (g := (mkF m 6 #[.val (.int (0 : Int32)), .val (.int (Int32.ofNat N)), .val (.ref t)] [(.int (Int32.ofNat N)), (.int (Int32.ofNat N)), (.int (0 : Int32))])) rfl (by rw [hml]; rfl) (argsL := [(.int (0 : Int32)), (.int (Int32.ofNat N)), (.int (Int32.ofNat N))]) (rest := []) (lenOf pd22 rfl) rfl (wq rfl) (D_ d37_6) (fun _ _ => ⟨rfl, eq101, (nb rfl), (nb rfl)⟩)
  dsimp only [Pt.U, Pt.locs, Pt.cells, Pt.slots] at X102 l102 y102 z102 st102 hQ102
  subst l102 y102 z102
  obtain ⟨rfl, Nq102, eq102⟩ := hQ102
  have N102 := Fr.app N101 Nq102
  have W103 : ∀ zQ, SS p e below T102 m 9 #[.val (.int (0 : Int32)), .val (.int (Int32.ofNat N)), .val (.ref t)] [] zQ → Steps p.tables e below (s₁.setTop (entryFrame m #[(.int (0 : Int32)), (.int (Int32.ofNat N)), (.ref t)] 3)) zQ := by
    intro tt kt
    refine W0 tt ?_
    refine XS.iloadN X0.here hx rfl (D_ d37_0) rfl ?_
    refine XS.iloadN X0.here hx rfl (D_ d37_1) rfl ?_
    refine XS.aloadN X0.here hx rfl (D_ d37_2) rfl rfl ?_
    refine st101 _ ?_
    refine st102 _ ?_
    exact kt
  obtain ⟨fs, hr, hrun, hended, hW, hsame⟩ := X102.leave (v := none) (fun _ => rfl)
  refine ⟨_, _, W103 _ (X102.returnOut hx Bd.returns (D_ d37_9) hr), hrun, hended, _, _, rfl, ?_, ⟨_, rfl⟩, hW, hsame.mono (by decide) (by decide)⟩
  show Q_u16checkBE Z t N kb vs fm h0 n0 _ T102.heap _
  rw [eq102]
  exact ⟨rfl, N102, rfl⟩
def Q_u16ixd (Z : State) (t : Addr) (x : Int32) (kb : ClassId) (cs : List Int32) (fm : Value) (h0 : Heap) (n0 : Nat) (vQ_ : Option Value) (hQ_ : Heap) (LQ_ : List Loc) : Prop := vQ_ = some (.int (Int32.ofNat (fi x cs))) ∧ Fr n0 LQ_ ∧ hQ_ = h0
theorem rm_u16ixd (l : Launch) (Z : State) (a0 : Array Value) (hw : HW a0 Z) (ws : List Jvm.Cond) (t : Addr) (x : Int32) (kb : ClassId) (cs : List Int32) (fm : Value) (h0 : Heap) (n0 : Nat) (Z0 : n0 ≤ h0.size) (O0 : Old Z n0 h0) (S_fm : Sta Z Z.heap "jdk/internal/util/Preconditions" "SIOOBE_FORMATTER" "Ljava/util/function/BiFunction;" fm) (hfm : fm.isRef = true) (S_ad : Sta Z Z.heap "java/lang/StringUTF16" "$assertionsDisabled" "Z" (.int (1 : Int32))) (S_hi : Sta Z Z.heap "java/lang/StringUTF16" "HI_BYTE_SHIFT" "I" (.int (0 : Int32))) (S_lo : Sta Z Z.heap "java/lang/StringUTF16" "LO_BYTE_SHIFT" "I" (.int (8 : Int32))) (V1 : Arv Z h0 t kb .byte (Int32.ofNat (2 * cs.length)) (u16 cs) (.int (0 : Int32))) (ok : OkS cs) (hm : x ∈ cs) :
    CT l yn38 (Jvm.Cond.code yn38 jdk_52_method_47_code 4 (some .int) :: ws) (⟨3, 0, 0, 43⟩ : Room) #[(.ref t), (.int x), (.int (0 : Int32)), (.int (Int32.ofNat cs.length))] Z h0 (Q_u16ixd Z t x kb cs fm h0 n0) := by
  refine MetFree.of_bodySF (plainFor_of_name pn_java_lang_StringUTF16) hisR ?_
  intro p e s m args below meth cO s₁ Bd hml hP hK
  obtain ⟨rfl, hZ, hh⟩ := hP
  have hx := Bd.exec
  have hby := Bd.bytes
  have hown : s.vm.findClass "java/lang/StringUTF16" = some m.cls := findClass_of_methodNamed Bd.named
  have hnm := (name_of_methodNamed Bd.named Bd.method).1
  have X0 : Stand p l e (⟨3, 0, 0, 43⟩ : Room) s m #[(.ref t), (.int x), (.int (0 : Int32)), (.int (Int32.ofNat cs.length))] below meth cO s₁ [] 0 0 := Stand.of_body Bd
  have e0 : s₁.heap = h0 := by rw [← hh, Bd.state]; rfl
  have N0 := Fr.nil n0
  have D_ : ∀ {i : Nat} {x}, decode jdk_52_method_47_code i = x → decode cO.code i = x := fun h => hb hby h
  have W0 : ∀ zQ, SS p e below s₁ m 0 #[.val (.ref t), .val (.int x), .val (.int (0 : Int32)), .val (.int (Int32.ofNat cs.length))] [] zQ → Steps p.tables e below (s₁.setTop (entryFrame m #[(.ref t), (.int x), (.int (0 : Int32)), (.int (Int32.ofNat cs.length))] 4)) zQ := fun tt kt => castTop (ef_u16ixd m t x (0 : Int32) (Int32.ofNat cs.length)) kt
  have hn9 : cs.length < 1048576 := ok.2
  have hp9 := fi_lt hm
  obtain ⟨_, _, ⟨T101, L101, k101, n101⟩, -, X101, ⟨Lc101, hQ101, l101, y101, z101⟩, st101⟩ := Jvm.LawKit.callS X0 hx (y := yn37) hown (mvT hZ (w176 hw)) (mvT hZ (w177 hw)) (mvT hZ (w22 hw)) (mvT hZ (w178 hw)) (by decide) (backOf (W := 0) (rm_u16checkBE l Z a0 hw [] t cs.length kb (u16 cs) fm h0 n0 Z0 O0 S_fm hfm V1 (by omega)) hZ (w178 hw) (w22 hw) (by decide) (by decide)) (g := (mkF m 3 #[.val (.ref t), .val (.int x), .val (.int (0 : Int32)), .val (.int (Int32.ofNat cs.length))] [(.ref t), (.int (Int32.ofNat cs.length)), (.int (0 : Int32))])) rfl (by rw [hml]; rfl) (argsL := [(.int (0 : Int32)), (.int (Int32.ofNat cs.length)), (.ref t)]) (rest := []) (lenOf pd18 rfl) rfl (wq rfl) (D_ d38_3) (fun _ _ => ⟨rfl, e0, (nb rfl), (nb rfl)⟩)
  dsimp only [Pt.U, Pt.locs, Pt.cells, Pt.slots] at X101 l101 y101 z101 st101 hQ101
  subst l101 y101 z101
  obtain ⟨rfl, Nq101, eq101⟩ := hQ101
  have N101 := Fr.app N0 Nq101
  obtain ⟨_, _, ⟨T102, L102, k102, n102⟩, -, X102, ⟨Lc102, hQ102, l102, y102, z102⟩, st102⟩ := Jvm.LawKit.callS X101 hx (y := yn36) hown (mvT hZ (w183 hw)) (mvT hZ (w184 hw)) (mvT hZ (w22 hw)) (mvT hZ (w185 hw)) (by decide) (backOf (W := 0) (rm_u16ixc l Z a0 hw [] t x kb cs h0 n0 Z0 O0 S_ad S_hi S_lo V1 ok hm) hZ (w185 hw) (w22 hw) (by decide) (by decide)) (g := (mkF m 10 #[.val (.ref t), .val (.int x), .val (.int (0 : Int32)), .val (.int (Int32.ofNat cs.length))] [(.int (Int32.ofNat cs.length)), (.int (0 : Int32)), (.int x), (.ref t)])) rfl (by rw [hml]; rfl) (argsL := [(.ref t), (.int x), (.int (0 : Int32)), (.int (Int32.ofNat cs.length))]) (rest := []) (lenOf pd21 rfl) rfl (wq rfl) (D_ d38_10) (fun _ _ => ⟨rfl, eq101, (nb rfl), (nb rfl)⟩)
  dsimp only [Pt.U, Pt.locs, Pt.cells, Pt.slots] at X102 l102 y102 z102 st102 hQ102
  subst l102 y102 z102
  obtain ⟨rfl, Nq102, eq102⟩ := hQ102
  have N102 := Fr.app N101 Nq102
  have W103 : ∀ zQ, SS p e below T102 m 13 #[.val (.ref t), .val (.int x), .val (.int (0 : Int32)), .val (.int (Int32.ofNat cs.length))] [(.int (Int32.ofNat (fi x cs)))] zQ → Steps p.tables e below (s₁.setTop (entryFrame m #[(.ref t), (.int x), (.int (0 : Int32)), (.int (Int32.ofNat cs.length))] 4)) zQ := by
    intro tt kt
    refine W0 tt ?_
    refine XS.iloadN X0.here hx rfl (D_ d38_0) rfl ?_
    refine XS.iloadN X0.here hx rfl (D_ d38_1) rfl ?_
    refine XS.aloadN X0.here hx rfl (D_ d38_2) rfl rfl ?_
    refine st101 _ ?_
    refine XS.aloadN X101.here hx rfl (D_ d38_6) rfl rfl ?_
    refine XS.iloadN X101.here hx rfl (D_ d38_7) rfl ?_
    refine XS.iloadN X101.here hx rfl (D_ d38_8) rfl ?_
    refine XS.iloadN X101.here hx rfl (D_ d38_9) rfl ?_
    refine st102 _ ?_
    exact kt
  obtain ⟨fs, hr, hrun, hended, hW, hsame⟩ := X102.leave (v := some (.int (Int32.ofNat (fi x cs)))) (fun h => by rw [Bd.returns] at h; cases h)
  refine ⟨_, _, W103 _ (retI X102 hx Bd.returns (D_ d38_13) hr), hrun, hended, _, _, rfl, ?_, ⟨_, rfl⟩, hW, hsame.mono (by decide) (by decide)⟩
  show Q_u16ixd Z t x kb cs fm h0 n0 _ T102.heap _
  rw [eq102]
  exact ⟨rfl, N102, rfl⟩
def Q_u16ix (Z : State) (t : Addr) (x : Int32) (kb : ClassId) (cs : List Int32) (fm : Value) (h0 : Heap) (n0 : Nat) (vQ_ : Option Value) (hQ_ : Heap) (LQ_ : List Loc) : Prop := vQ_ = some (.int (Int32.ofNat (fi x cs))) ∧ Fr n0 LQ_ ∧ hQ_ = h0
theorem rm_u16ix (l : Launch) (Z : State) (a0 : Array Value) (hw : HW a0 Z) (ws : List Jvm.Cond) (t : Addr) (x : Int32) (kb : ClassId) (cs : List Int32) (fm : Value) (h0 : Heap) (n0 : Nat) (Z0 : n0 ≤ h0.size) (O0 : Old Z n0 h0) (S_fm : Sta Z Z.heap "jdk/internal/util/Preconditions" "SIOOBE_FORMATTER" "Ljava/util/function/BiFunction;" fm) (hfm : fm.isRef = true) (S_ad : Sta Z Z.heap "java/lang/StringUTF16" "$assertionsDisabled" "Z" (.int (1 : Int32))) (S_hi : Sta Z Z.heap "java/lang/StringUTF16" "HI_BYTE_SHIFT" "I" (.int (0 : Int32))) (S_lo : Sta Z Z.heap "java/lang/StringUTF16" "LO_BYTE_SHIFT" "I" (.int (8 : Int32))) (V1 : Arv Z h0 t kb .byte (Int32.ofNat (2 * cs.length)) (u16 cs) (.int (0 : Int32))) (ok : OkS cs) (hm : x ∈ cs) :
    CT l yn39 (Jvm.Cond.code yn39 jdk_52_method_40_code 4 (some .int) :: ws) (⟨4, 0, 0, 58⟩ : Room) #[(.ref t), (.int x), (.int (0 : Int32)), (.int (Int32.ofNat cs.length))] Z h0 (Q_u16ix Z t x kb cs fm h0 n0) := by
  refine MetFree.of_bodySF (plainFor_of_name pn_java_lang_StringUTF16) hisR ?_
  intro p e s m args below meth cO s₁ Bd hml hP hK
  obtain ⟨rfl, hZ, hh⟩ := hP
  have hx := Bd.exec
  have hby := Bd.bytes
  have hown : s.vm.findClass "java/lang/StringUTF16" = some m.cls := findClass_of_methodNamed Bd.named
  have hnm := (name_of_methodNamed Bd.named Bd.method).1
  have X0 : Stand p l e (⟨4, 0, 0, 58⟩ : Room) s m #[(.ref t), (.int x), (.int (0 : Int32)), (.int (Int32.ofNat cs.length))] below meth cO s₁ [] 0 0 := Stand.of_body Bd
  have e0 : s₁.heap = h0 := by rw [← hh, Bd.state]; rfl
  have N0 := Fr.nil n0
  have D_ : ∀ {i : Nat} {x}, decode jdk_52_method_40_code i = x → decode cO.code i = x := fun h => hb hby h
  have W0 : ∀ zQ, SS p e below s₁ m 0 #[.val (.ref t), .val (.int x), .val (.int (0 : Int32)), .val (.int (Int32.ofNat cs.length))] [] zQ → Steps p.tables e below (s₁.setTop (entryFrame m #[(.ref t), (.int x), (.int (0 : Int32)), (.int (Int32.ofNat cs.length))] 4)) zQ := fun tt kt => castTop (ef_u16ix m t x (0 : Int32) (Int32.ofNat cs.length)) kt
  have hn9 : cs.length < 1048576 := ok.2
  have hp9 := fi_lt hm
  obtain ⟨_, _, ⟨T101, L101, k101, n101⟩, -, X101, ⟨Lc101, hQ101, l101, y101, z101⟩, st101⟩ := Jvm.LawKit.callS X0 hx (y := yn34) hown (mvT hZ (w170 hw)) (mvT hZ (w72 hw)) (mvT hZ (w73 hw)) (mvT hZ (w74 hw)) (by decide) (backOf (W := 0) (rm_maxi l Z a0 hw []  h0 n0 Z0 ) hZ (w74 hw) (w73 hw) (by decide) (by decide)) (g := (mkF m 2 #[.val (.ref t), .val (.int x), .val (.int (0 : Int32)), .val (.int (Int32.ofNat cs.length))] [(.int (0 : Int32)), (.int (0 : Int32))])) rfl (by rw [hml]; rfl) (argsL := [(.int (0 : Int32)), (.int (0 : Int32))]) (rest := []) (lenOf pd16 rfl) rfl (wq rfl) (D_ d39_2) (fun _ _ => ⟨rfl, e0, (nb rfl), (nb rfl)⟩)
  dsimp only [Pt.U, Pt.locs, Pt.cells, Pt.slots] at X101 l101 y101 z101 st101 hQ101
  subst l101 y101 z101
  obtain ⟨rfl, Nq101, eq101⟩ := hQ101
  have N101 := Fr.app N0 Nq101
  obtain ⟨cl102, Ar102, -, S102, M102, -, -⟩ := id V1
  obtain ⟨_, _, ⟨T103, L103, k103, n103⟩, -, X103, ⟨Lc103, hQ103, l103, y103, z103⟩, st103⟩ := Jvm.LawKit.callS X101 hx (y := yn26) hown (mvT hZ (w171 hw)) (mvT hZ (w76 hw)) (mvT hZ (w73 hw)) (mvT hZ (w77 hw)) (by decide) (backOf (W := 0) (rm_mini l Z a0 hw [] (Int32.ofNat cs.length) (Int32.ofNat cs.length) h0 n0 Z0 ) hZ (w77 hw) (w73 hw) (by decide) (by decide)) (g := (mkF m 11 #[.val (.ref t), .val (.int x), .val (.int (0 : Int32)), .val (.int (Int32.ofNat cs.length))] [(.int (Int32.ofNat cs.length)), (.int (Int32.ofNat cs.length))])) rfl (by rw [hml]; rfl) (argsL := [(.int (Int32.ofNat cs.length)), (.int (Int32.ofNat cs.length))]) (rest := []) (lenOf pd16 rfl) rfl (wq rfl) (D_ d39_11) (fun _ _ => ⟨rfl, eq101, (nb rfl), (nb rfl)⟩)
  dsimp only [Pt.U, Pt.locs, Pt.cells, Pt.slots] at X103 l103 y103 z103 st103 hQ103
  subst l103 y103 z103
  obtain ⟨rfl, Nq103, eq103⟩ := hQ103
  have N103 := Fr.app N101 Nq103
  obtain ⟨_, _, ⟨T104, L104, k104, n104⟩, -, X104, ⟨Lc104, hQ104, l104, y104, z104⟩, st104⟩ := Jvm.LawKit.callS X103 hx (y := yn38) hown (mvT hZ (w173 hw)) (mvT hZ (w174 hw)) (mvT hZ (w22 hw)) (mvT hZ (w175 hw)) (by decide) (backOf (W := 0) (rm_u16ixd l Z a0 hw [] t x kb cs fm h0 n0 Z0 O0 S_fm hfm S_ad S_hi S_lo V1 ok hm) hZ (w175 hw) (w22 hw) (by decide) (by decide)) (g := (mkF m 32 #[.val (.ref t), .val (.int x), .val (.int (0 : Int32)), .val (.int (Int32.ofNat cs.length))] [(.int (Int32.ofNat cs.length)), (.int (0 : Int32)), (.int x), (.ref t)])) rfl (by rw [hml]; rfl) (argsL := [(.ref t), (.int x), (.int (0 : Int32)), (.int (Int32.ofNat cs.length))]) (rest := []) (lenOf pd21 rfl) rfl (wq rfl) (D_ d39_32) (fun _ _ => ⟨rfl, eq103, (nb rfl), (nb rfl)⟩)
  dsimp only [Pt.U, Pt.locs, Pt.cells, Pt.slots] at X104 l104 y104 z104 st104 hQ104
  subst l104 y104 z104
  obtain ⟨rfl, Nq104, eq104⟩ := hQ104
  have N104 := Fr.app N103 Nq104
  have W105 : ∀ zQ, SS p e below T104 m 35 #[.val (.ref t), .val (.int x), .val (.int (0 : Int32)), .val (.int (Int32.ofNat cs.length))] [(.int (Int32.ofNat (fi x cs)))] zQ → Steps p.tables e below (s₁.setTop (entryFrame m #[(.ref t), (.int x), (.int (0 : Int32)), (.int (Int32.ofNat cs.length))] 4)) zQ := by
    intro tt kt
    refine W0 tt ?_
    refine XS.iloadN X0.here hx rfl (D_ d39_0) rfl ?_
    refine XS.iconst X0.here hx rfl (D_ d39_1) ?_
    refine st101 _ ?_
    refine XS.istoreN X101.here hx rfl (D_ d39_5) rfl (l' := #[.val (.ref t), .val (.int x), .val (.int (0 : Int32)), .val (.int (Int32.ofNat cs.length))]) rfl ?_
    refine XS.iloadN X101.here hx rfl (D_ d39_6) rfl ?_
    refine XS.aloadN X101.here hx rfl (D_ d39_7) rfl rfl ?_
    refine X101.arraylength hx (by first | exact Ar102.1 | (rw [eq101]; exact Ar102.1)) (State.isArrayOf_alike hZ.alike Ar102.2.1) (g := (mkF m 8 #[.val (.ref t), .val (.int x), .val (.int (0 : Int32)), .val (.int (Int32.ofNat cs.length))] [(.ref t), (.int (Int32.ofNat cs.length))])) rfl rfl (D_ d39_8) _ ?_
    rw [len_of S102 M102]
    refine XS.iconst X101.here hx rfl (D_ d39_9) ?_
    refine XS.ishr X101.here hx rfl (D_ d39_10) rfl ?_
    show SS p e below T101 m 11 #[.val (.ref t), .val (.int x), .val (.int (0 : Int32)), .val (.int (Int32.ofNat cs.length))] [(.int ((Int32.ofNat (2 * cs.length)) >>> ((1 : Int32) &&& 31))), (.int (Int32.ofNat cs.length))] _
    rw [show ((Int32.ofNat (2 * cs.length)) >>> ((1 : Int32) &&& 31)) = (Int32.ofNat cs.length) from own_shr1 (by omega)]
    refine st103 _ ?_
    show SS p e below T103 m 14 #[.val (.ref t), .val (.int x), .val (.int (0 : Int32)), .val (.int (Int32.ofNat cs.length))] [(.int (if (Int32.ofNat cs.length) < (Int32.ofNat cs.length) then (Int32.ofNat cs.length) else (Int32.ofNat cs.length)))] _
    rw [show (if (Int32.ofNat cs.length) < (Int32.ofNat cs.length) then (Int32.ofNat cs.length) else (Int32.ofNat cs.length)) = (Int32.ofNat cs.length) from (ite_self _)]
    refine XS.istoreN X103.here hx rfl (D_ d39_14) rfl (l' := #[.val (.ref t), .val (.int x), .val (.int (0 : Int32)), .val (.int (Int32.ofNat cs.length))]) rfl ?_
    refine XS.iloadN X103.here hx rfl (D_ d39_15) rfl ?_
    refine XS.iloadN X103.here hx rfl (D_ d39_16) rfl ?_
    refine XS.icmpYes X103.here hx rfl (pc0 := 17) (pc' := 22) rfl (D_ d39_17) rfl (tlt (own_pos0 (by omega) (by omega))).1 (by decide) (by decide) ?_
    refine XS.iloadN X103.here hx rfl (D_ d39_22) rfl ?_
    refine X103.ldcInt hx hown (mvT hZ (w172 hw)) (g := (mkF m 23 #[.val (.ref t), .val (.int x), .val (.int (0 : Int32)), .val (.int (Int32.ofNat cs.length))] [(.int x)])) rfl (D_ d39_23) _ ?_
    refine XS.icmpNo X103.here hx rfl (D_ d39_25) rfl (tlt (own_c16 (ok.1 x hm).2)).2.1 ?_
    refine XS.aloadN X103.here hx rfl (D_ d39_28) rfl rfl ?_
    refine XS.iloadN X103.here hx rfl (D_ d39_29) rfl ?_
    refine XS.iloadN X103.here hx rfl (D_ d39_30) rfl ?_
    refine XS.iloadN X103.here hx rfl (D_ d39_31) rfl ?_
    refine st104 _ ?_
    exact kt
  obtain ⟨fs, hr, hrun, hended, hW, hsame⟩ := X104.leave (v := some (.int (Int32.ofNat (fi x cs)))) (fun h => by rw [Bd.returns] at h; cases h)
  refine ⟨_, _, W105 _ (retI X104 hx Bd.returns (D_ d39_35) hr), hrun, hended, _, _, rfl, ?_, ⟨_, rfl⟩, hW, hsame.mono (by decide) (by decide)⟩
  show Q_u16ix Z t x kb cs fm h0 n0 _ T104.heap _
  rw [eq104]
  exact ⟨rfl, N104, rfl⟩
def Q_sixII (Z : State) (a : Addr) (x : Int32) (t : Addr) (kb : ClassId) (cs : List Int32) (cS : Int32) (fm : Value) (h0 : Heap) (n0 : Nat) (vQ_ : Option Value) (hQ_ : Heap) (LQ_ : List Loc) : Prop := vQ_ = some (.int (Int32.ofNat (fi x cs))) ∧ Fr n0 LQ_ ∧ hQ_ = h0
theorem rm_sixII (l : Launch) (Z : State) (a0 : Array Value) (hw : HW a0 Z) (ws : List Jvm.Cond) (a : Addr) (x : Int32) (t : Addr) (kb : ClassId) (cs : List Int32) (cS : Int32) (fm : Value) (h0 : Heap) (n0 : Nat) (Z0 : n0 ≤ h0.size) (O0 : Old Z n0 h0) (S_cs : Sta Z Z.heap "java/lang/String" "COMPACT_STRINGS" "Z" (.int cS)) (hcS : ¬ (cS = (0 : Int32))) (S_fm : Sta Z Z.heap "jdk/internal/util/Preconditions" "SIOOBE_FORMATTER" "Ljava/util/function/BiFunction;" fm) (hfm : fm.isRef = true) (S_ad : Sta Z Z.heap "java/lang/StringUTF16" "$assertionsDisabled" "Z" (.int (1 : Int32))) (S_hi : Sta Z Z.heap "java/lang/StringUTF16" "HI_BYTE_SHIFT" "I" (.int (0 : Int32))) (S_lo : Sta Z Z.heap "java/lang/StringUTF16" "LO_BYTE_SHIFT" "I" (.int (8 : Int32))) (hS : Str Z h0 a t kb cs) (hm : x ∈ cs) :
    CT l yn40 (Jvm.Cond.code yn40 jdk_42_method_80_code 3 (some .int) :: ws) (⟨5, 0, 0, 73⟩ : Room) #[(.ref a), (.int x), (.int (0 : Int32))] Z h0 (Q_sixII Z a x t kb cs cS fm h0 n0) := by
  refine MetFree.of_bodySF (plainFor_of_name pn_java_lang_String) hisR ?_
  intro p e s m args below meth cO s₁ Bd hml hP hK
  obtain ⟨rfl, hZ, hh⟩ := hP
  have hx := Bd.exec
  have hby := Bd.bytes
  have hown : s.vm.findClass "java/lang/String" = some m.cls := findClass_of_methodNamed Bd.named
  have hnm := (name_of_methodNamed Bd.named Bd.method).1
  have X0 : Stand p l e (⟨5, 0, 0, 73⟩ : Room) s m #[(.ref a), (.int x), (.int (0 : Int32))] below meth cO s₁ [] 0 0 := Stand.of_body Bd
  have e0 : s₁.heap = h0 := by rw [← hh, Bd.state]; rfl
  have N0 := Fr.nil n0
  have D_ : ∀ {i : Nat} {x}, decode jdk_42_method_80_code i = x → decode cO.code i = x := fun h => hb hby h
  have W0 : ∀ zQ, SS p e below s₁ m 0 #[.val (.ref a), .val (.int x), .val (.int (0 : Int32))] [] zQ → Steps p.tables e below (s₁.setTop (entryFrame m #[(.ref a), (.int x), (.int (0 : Int32))] 3)) zQ := fun tt kt => castTop (ef_sixII m a x (0 : Int32)) kt
  obtain ⟨hE, hV, hC, hA, ok⟩ := hS
  obtain ⟨cq101, kq101, q101a, q101b, q101c⟩ := isOf hZ e0 hE
  obtain ⟨_, _, ⟨T101, L101, k101, n101⟩, -, X101, ⟨Lc101, hQ101, l101, y101, z101⟩, st101⟩ := X0.virtualBack hx (y := yn7) (z := yn7) hown (mvT hZ (w49 hw)) (mvT hZ (w50 hw)) (notFace_of_selects (args := #[]) (mvT hZ (w52 hw))) (mvT hZ (w52 hw)) (mvT hZ (w51 hw)) (by decide) (backOf (W := 0) (rm_isLatin1 l Z a0 hw [] a (cdr cs) cS h0 n0 Z0 O0 S_cs hcS hC) hZ (w53 hw) (w8 hw) (by decide) (by decide)) q101a q101c (g := (mkF m 1 #[.val (.ref a), .val (.int x), .val (.int (0 : Int32))] [(.ref a)])) rfl (by rw [hml]; rfl) (Steps.refl _) (argsL := []) (rest := []) (lenOf pd5 rfl) rfl (wq rfl) (D_ d40_1) (fun _ _ => ⟨rfl, e0, (nb rfl), (nb rfl)⟩)
  dsimp only [Pt.U, Pt.locs, Pt.cells, Pt.slots] at X101 l101 y101 z101 st101 hQ101
  subst l101 y101 z101
  obtain ⟨rfl, Nq101, eq101⟩ := hQ101
  have N101 := Fr.app N0 Nq101
  have W102 : ∀ zQ, SS p e below T101 m 4 #[.val (.ref a), .val (.int x), .val (.int (0 : Int32))] [(.int (if (cdr cs) = (0 : Int32) then (1 : Int32) else (0 : Int32)))] zQ → Steps p.tables e below (s₁.setTop (entryFrame m #[(.ref a), (.int x), (.int (0 : Int32))] 3)) zQ := by
    intro tt kt
    refine W0 tt ?_
    refine XS.aloadN X0.here hx rfl (D_ d40_0) rfl rfl ?_
    refine st101.trans ?_
    exact kt
  by_cases hc103 : (cdr cs) = (0 : Int32)
  ·
    have hl := cdr_lat hc103
    have hA104 : Arv Z h0 t kb .byte (Int32.ofNat cs.length) (l1 cs) (.int (0 : Int32)) := by have q := enc_lat hl; rw [← q.1, ← q.2.1]; exact hA
    obtain ⟨T105, X105, e105, st105⟩ := getF X101 hx hZ hown (host := "") (Or.inl (w33 hw)) Via.refl eq101 hV (g := (mkF m 8 #[.val (.ref a), .val (.int x), .val (.int (0 : Int32))] [(.ref a)])) rfl rfl (D_ d40_8)
    obtain ⟨cq106, kq106, q106a, q106b, q106c⟩ := isOf hZ e105 hE
    obtain ⟨_, _, ⟨T106, L106, k106, n106⟩, -, X106, ⟨Lc106, hQ106, l106, y106, z106⟩, st106⟩ := X105.virtualBack hx (y := yn10) (z := yn10) hown (mvT hZ (w54 hw)) (mvT hZ (w55 hw)) (notFace_of_selects (args := #[]) (mvT hZ (w57 hw))) (mvT hZ (w57 hw)) (mvT hZ (w56 hw)) (by decide) (backOf (W := 3) (rm_length l Z a0 hw [] a t kb cs cS h0 n0 Z0 O0 S_cs hcS ⟨hE, hV, hC, hA, ok⟩) hZ (w58 hw) (w8 hw) (by decide) (by decide)) q106a q106c (g := (mkF m 14 #[.val (.ref a), .val (.int x), .val (.int (0 : Int32))] [(.ref a), (.int (0 : Int32)), (.int x), (.ref t)])) rfl (by rw [hml]; rfl) (Steps.refl _) (argsL := []) (rest := [(.int (0 : Int32)), (.int x), (.ref t)]) (lenOf pd23 rfl) rfl (wq rfl) (D_ d40_14) (fun _ _ => ⟨rfl, e105, (nb rfl), (nb rfl)⟩)
    dsimp only [Pt.U, Pt.locs, Pt.cells, Pt.slots] at X106 l106 y106 z106 st106 hQ106
    subst l106 y106 z106
    obtain ⟨rfl, Nq106, eq106⟩ := hQ106
    have N106 := Fr.app N101 Nq106
    obtain ⟨_, _, ⟨T107, L107, k107, n107⟩, -, X107, ⟨Lc107, hQ107, l107, y107, z107⟩, st107⟩ := Jvm.LawKit.callS X106 hx (y := yn35) hown (mvT hZ (w64 hw)) (mvT hZ (w65 hw)) (mvT hZ (w66 hw)) (mvT hZ (w67 hw)) (by decide) (backOf (W := 0) (rm_l1ix l Z a0 hw [] t x kb cs h0 n0 Z0 hA104 ok hm hl) hZ (w67 hw) (w66 hw) (by decide) (by decide)) (g := (mkF m 17 #[.val (.ref a), .val (.int x), .val (.int (0 : Int32))] [(.int (Int32.ofNat cs.length)), (.int (0 : Int32)), (.int x), (.ref t)])) rfl (by rw [hml]; rfl) (argsL := [(.ref t), (.int x), (.int (0 : Int32)), (.int (Int32.ofNat cs.length))]) (rest := []) (lenOf pd21 rfl) rfl (wq rfl) (D_ d40_17) (fun _ _ => ⟨rfl, eq106, (nb rfl), (nb rfl)⟩)
    dsimp only [Pt.U, Pt.locs, Pt.cells, Pt.slots] at X107 l107 y107 z107 st107 hQ107
    subst l107 y107 z107
    obtain ⟨rfl, Nq107, eq107⟩ := hQ107
    have N107 := Fr.app N106 Nq107
    have W108 : ∀ zQ, SS p e below T107 m 36 #[.val (.ref a), .val (.int x), .val (.int (0 : Int32))] [(.int (Int32.ofNat (fi x cs)))] zQ → Steps p.tables e below (s₁.setTop (entryFrame m #[(.ref a), (.int x), (.int (0 : Int32))] 3)) zQ := by
      intro tt kt
      refine W102 tt ?_
      rw [show (if (cdr cs) = (0 : Int32) then (1 : Int32) else (0 : Int32)) = (1 : Int32) from if_pos hc103]
      refine XS.ifNo X101.here hx rfl (D_ d40_4) rfl ((if0 _ _).trans (feq (by decide)).1) ?_
      refine XS.aloadN X101.here hx rfl (D_ d40_7) rfl rfl ?_
      refine st105 _ ?_
      refine XS.iloadN X105.here hx rfl (D_ d40_11) rfl ?_
      refine XS.iloadN X105.here hx rfl (D_ d40_12) rfl ?_
      refine XS.aloadN X105.here hx rfl (D_ d40_13) rfl rfl ?_
      refine st106.trans ?_
      refine st107 _ ?_
      refine XS.goto X107.here hx rfl (pc0 := 20) (pc' := 36) rfl (D_ d40_20) (by decide) (by decide) ?_
      exact kt
    obtain ⟨fs, hr, hrun, hended, hW, hsame⟩ := X107.leave (v := some (.int (Int32.ofNat (fi x cs)))) (fun h => by rw [Bd.returns] at h; cases h)
    refine ⟨_, _, W108 _ (retI X107 hx Bd.returns (D_ d40_36) hr), hrun, hended, _, _, rfl, ?_, ⟨_, rfl⟩, hW, hsame.mono (by decide) (by decide)⟩
    show Q_sixII Z a x t kb cs cS fm h0 n0 _ T107.heap _
    rw [eq107]
    exact ⟨rfl, N107, rfl⟩
  ·
    have hl := cdr_nlat hc103
    have hA109 : Arv Z h0 t kb .byte (Int32.ofNat (2 * cs.length)) (u16 cs) (.int (0 : Int32)) := by have q := enc_nlat hl; rw [← q.1, ← q.2.1]; exact hA
    obtain ⟨T110, X110, e110, st110⟩ := getF X101 hx hZ hown (host := "") (Or.inl (w33 hw)) Via.refl eq101 hV (g := (mkF m 24 #[.val (.ref a), .val (.int x), .val (.int (0 : Int32))] [(.ref a)])) rfl rfl (D_ d40_24)
    obtain ⟨cq111, kq111, q111a, q111b, q111c⟩ := isOf hZ e110 hE
    obtain ⟨_, _, ⟨T111, L111, k111, n111⟩, -, X111, ⟨Lc111, hQ111, l111, y111, z111⟩, st111⟩ := X110.virtualBack hx (y := yn10) (z := yn10) hown (mvT hZ (w54 hw)) (mvT hZ (w55 hw)) (notFace_of_selects (args := #[]) (mvT hZ (w57 hw))) (mvT hZ (w57 hw)) (mvT hZ (w56 hw)) (by decide) (backOf (W := 3) (rm_length l Z a0 hw [] a t kb cs cS h0 n0 Z0 O0 S_cs hcS ⟨hE, hV, hC, hA, ok⟩) hZ (w58 hw) (w8 hw) (by decide) (by decide)) q111a q111c (g := (mkF m 30 #[.val (.ref a), .val (.int x), .val (.int (0 : Int32))] [(.ref a), (.int (0 : Int32)), (.int x), (.ref t)])) rfl (by rw [hml]; rfl) (Steps.refl _) (argsL := []) (rest := [(.int (0 : Int32)), (.int x), (.ref t)]) (lenOf pd23 rfl) rfl (wq rfl) (D_ d40_30) (fun _ _ => ⟨rfl, e110, (nb rfl), (nb rfl)⟩)
    dsimp only [Pt.U, Pt.locs, Pt.cells, Pt.slots] at X111 l111 y111 z111 st111 hQ111
    subst l111 y111 z111
    obtain ⟨rfl, Nq111, eq111⟩ := hQ111
    have N111 := Fr.app N101 Nq111
    obtain ⟨_, _, ⟨T112, L112, k112, n112⟩, -, X112, ⟨Lc112, hQ112, l112, y112, z112⟩, st112⟩ := Jvm.LawKit.callS X111 hx (y := yn39) hown (mvT hZ (w167 hw)) (mvT hZ (w168 hw)) (mvT hZ (w22 hw)) (mvT hZ (w169 hw)) (by decide) (backOf (W := 0) (rm_u16ix l Z a0 hw [] t x kb cs fm h0 n0 Z0 O0 S_fm hfm S_ad S_hi S_lo hA109 ok hm) hZ (w169 hw) (w22 hw) (by decide) (by decide)) (g := (mkF m 33 #[.val (.ref a), .val (.int x), .val (.int (0 : Int32))] [(.int (Int32.ofNat cs.length)), (.int (0 : Int32)), (.int x), (.ref t)])) rfl (by rw [hml]; rfl) (argsL := [(.ref t), (.int x), (.int (0 : Int32)), (.int (Int32.ofNat cs.length))]) (rest := []) (lenOf pd21 rfl) rfl (wq rfl) (D_ d40_33) (fun _ _ => ⟨rfl, eq111, (nb rfl), (nb rfl)⟩)
    dsimp only [Pt.U, Pt.locs, Pt.cells, Pt.slots] at X112 l112 y112 z112 st112 hQ112
    subst l112 y112 z112
    obtain ⟨rfl, Nq112, eq112⟩ := hQ112
    have N112 := Fr.app N111 Nq112
    have W113 : ∀ zQ, SS p e below T112 m 36 #[.val (.ref a), .val (.int x), .val (.int (0 : Int32))] [(.int (Int32.ofNat (fi x cs)))] zQ → Steps p.tables e below (s₁.setTop (entryFrame m #[(.ref a), (.int x), (.int (0 : Int32))] 3)) zQ := by
      intro tt kt
      refine W102 tt ?_
      rw [show (if (cdr cs) = (0 : Int32) then (1 : Int32) else (0 : Int32)) = (0 : Int32) from if_neg hc103]
      refine XS.ifYes X101.here hx rfl (pc0 := 4) (pc' := 23) rfl (D_ d40_4) rfl ((if0 _ _).trans (teq (by decide)).1) (by decide) (by decide) ?_
      refine XS.aloadN X101.here hx rfl (D_ d40_23) rfl rfl ?_
      refine st110 _ ?_
      refine XS.iloadN X110.here hx rfl (D_ d40_27) rfl ?_
      refine XS.iloadN X110.here hx rfl (D_ d40_28) rfl ?_
      refine XS.aloadN X110.here hx rfl (D_ d40_29) rfl rfl ?_
      refine st111.trans ?_
      refine st112 _ ?_
      exact kt
    obtain ⟨fs, hr, hrun, hended, hW, hsame⟩ := X112.leave (v := some (.int (Int32.ofNat (fi x cs)))) (fun h => by rw [Bd.returns] at h; cases h)
    refine ⟨_, _, W113 _ (retI X112 hx Bd.returns (D_ d40_36) hr), hrun, hended, _, _, rfl, ?_, ⟨_, rfl⟩, hW, hsame.mono (by decide) (by decide)⟩
    show Q_sixII Z a x t kb cs cS fm h0 n0 _ T112.heap _
    rw [eq112]
    exact ⟨rfl, N112, rfl⟩
def Q_sixI (Z : State) (a : Addr) (x : Int32) (t : Addr) (kb : ClassId) (cs : List Int32) (cS : Int32) (fm : Value) (h0 : Heap) (n0 : Nat) (vQ_ : Option Value) (hQ_ : Heap) (LQ_ : List Loc) : Prop := vQ_ = some (.int (Int32.ofNat (fi x cs))) ∧ Fr n0 LQ_ ∧ hQ_ = h0
theorem rm_sixI (l : Launch) (Z : State) (a0 : Array Value) (hw : HW a0 Z) (ws : List Jvm.Cond) (a : Addr) (x : Int32) (t : Addr) (kb : ClassId) (cs : List Int32) (cS : Int32) (fm : Value) (h0 : Heap) (n0 : Nat) (Z0 : n0 ≤ h0.size) (O0 : Old Z n0 h0) (S_cs : Sta Z Z.heap "java/lang/String" "COMPACT_STRINGS" "Z" (.int cS)) (hcS : ¬ (cS = (0 : Int32))) (S_fm : Sta Z Z.heap "jdk/internal/util/Preconditions" "SIOOBE_FORMATTER" "Ljava/util/function/BiFunction;" fm) (hfm : fm.isRef = true) (S_ad : Sta Z Z.heap "java/lang/StringUTF16" "$assertionsDisabled" "Z" (.int (1 : Int32))) (S_hi : Sta Z Z.heap "java/lang/StringUTF16" "HI_BYTE_SHIFT" "I" (.int (0 : Int32))) (S_lo : Sta Z Z.heap "java/lang/StringUTF16" "LO_BYTE_SHIFT" "I" (.int (8 : Int32))) (hS : Str Z h0 a t kb cs) (hm : x ∈ cs) :
    CT l yn41 (Jvm.Cond.code yn41 jdk_42_method_79_code 2 (some .int) :: ws) (⟨6, 0, 0, 87⟩ : Room) #[(.ref a), (.int x)] Z h0 (Q_sixI Z a x t kb cs cS fm h0 n0) := by
  refine MetFree.of_bodySF (plainFor_of_name pn_java_lang_String) hisR ?_
  intro p e s m args below meth cO s₁ Bd hml hP hK
  obtain ⟨rfl, hZ, hh⟩ := hP
  have hx := Bd.exec
  have hby := Bd.bytes
  have hown : s.vm.findClass "java/lang/String" = some m.cls := findClass_of_methodNamed Bd.named
  have hnm := (name_of_methodNamed Bd.named Bd.method).1
  have X0 : Stand p l e (⟨6, 0, 0, 87⟩ : Room) s m #[(.ref a), (.int x)] below meth cO s₁ [] 0 0 := Stand.of_body Bd
  have e0 : s₁.heap = h0 := by rw [← hh, Bd.state]; rfl
  have N0 := Fr.nil n0
  have D_ : ∀ {i : Nat} {x}, decode jdk_42_method_79_code i = x → decode cO.code i = x := fun h => hb hby h
  have W0 : ∀ zQ, SS p e below s₁ m 0 #[.val (.ref a), .val (.int x)] [] zQ → Steps p.tables e below (s₁.setTop (entryFrame m #[(.ref a), (.int x)] 2)) zQ := fun tt kt => castTop (ef_sixI m a x) kt
  obtain ⟨cq101, kq101, q101a, q101b, q101c⟩ := isOf hZ e0 hS.1
  obtain ⟨_, _, ⟨T101, L101, k101, n101⟩, -, X101, ⟨Lc101, hQ101, l101, y101, z101⟩, st101⟩ := X0.virtualBack hx (y := yn40) (z := yn40) hown (mvT hZ (w44 hw)) (mvT hZ (w45 hw)) (notFace_of_selects (args := #[]) (mvT hZ (w47 hw))) (mvT hZ (w47 hw)) (mvT hZ (w46 hw)) (by decide) (backOf (W := 0) (rm_sixII l Z a0 hw [] a x t kb cs cS fm h0 n0 Z0 O0 S_cs hcS S_fm hfm S_ad S_hi S_lo hS hm) hZ (w48 hw) (w8 hw) (by decide) (by decide)) q101a q101c (g := (mkF m 3 #[.val (.ref a), .val (.int x)] [(.int (0 : Int32)), (.int x), (.ref a)])) rfl (by rw [hml]; rfl) (Steps.refl _) (argsL := [(.int x), (.int (0 : Int32))]) (rest := []) (lenOf pd16 rfl) rfl (wq rfl) (D_ d41_3) (fun _ _ => ⟨rfl, e0, (nb rfl), (nb rfl)⟩)
  dsimp only [Pt.U, Pt.locs, Pt.cells, Pt.slots] at X101 l101 y101 z101 st101 hQ101
  subst l101 y101 z101
  obtain ⟨rfl, Nq101, eq101⟩ := hQ101
  have N101 := Fr.app N0 Nq101
  have W102 : ∀ zQ, SS p e below T101 m 6 #[.val (.ref a), .val (.int x)] [(.int (Int32.ofNat (fi x cs)))] zQ → Steps p.tables e below (s₁.setTop (entryFrame m #[(.ref a), (.int x)] 2)) zQ := by
    intro tt kt
    refine W0 tt ?_
    refine XS.aloadN X0.here hx rfl (D_ d41_0) rfl rfl ?_
    refine XS.iloadN X0.here hx rfl (D_ d41_1) rfl ?_
    refine XS.iconst X0.here hx rfl (D_ d41_2) ?_
    refine st101.trans ?_
    exact kt
  obtain ⟨fs, hr, hrun, hended, hW, hsame⟩ := X101.leave (v := some (.int (Int32.ofNat (fi x cs)))) (fun h => by rw [Bd.returns] at h; cases h)
  refine ⟨_, _, W102 _ (retI X101 hx Bd.returns (D_ d41_6) hr), hrun, hended, _, _, rfl, ?_, ⟨_, rfl⟩, hW, hsame.mono (by decide) (by decide)⟩
  show Q_sixI Z a x t kb cs cS fm h0 n0 _ T101.heap _
  rw [eq101]
  exact ⟨rfl, N101, rfl⟩
def Q_l1newW (Z : State) (t : Addr) (bg : Nat) (n : Nat) (kb : ClassId) (cs : List Int32) (h0 : Heap) (n0 : Nat) (vQ_ : Option Value) (hQ_ : Heap) (LQ_ : List Loc) : Prop := ∃ r : Addr, ∃ t2 : Addr, ∃ kb2 : ClassId, vQ_ = some (.ref r) ∧ Fr n0 LQ_ ∧ Keep h0 hQ_ [] ∧ Str Z hQ_ r t2 kb2 ((cs.drop bg).take n)
theorem rm_l1newW (l : Launch) (Z : State) (a0 : Array Value) (hw : HW a0 Z) (ws : List Jvm.Cond) (t : Addr) (bg : Nat) (n : Nat) (kb : ClassId) (cs : List Int32) (h0 : Heap) (n0 : Nat) (Z0 : n0 ≤ h0.size) (A1 : Arv Z h0 t kb .byte (Int32.ofNat cs.length) (l1 cs) (.int (0 : Int32))) (hl : lat cs = true) (hbn : bg + n ≤ cs.length) (hnn : n < cs.length) (ok : OkS cs) (hcap : cs.length ≤ 4) :
    MetFree l yn42 (head1 (Jvm.Cond.code yn42 jdk_43_method_47_code 3 (some (.object "java/lang/String")) :: ws) (⟨3, 2, 12, 96⟩ : Room)) (fun aQ_ UQ => aQ_ = #[(.ref t), (.int (Int32.ofNat bg)), (.int (Int32.ofNat n))] ∧ Z.Warmed39 UQ.vm ∧ UQ.heap = h0 ∧ CHv Z EL_1 UQ.vm h0) (fun _ _ _ _ _ => True) (fun _ UQ oQ UQ' => ∃ vQ_ LQ_, oQ = .returned vQ_ ∧ Q_l1newW Z t bg n kb cs h0 n0 vQ_ UQ'.heap LQ_ ∧ CHr Z EL_1 UQ.vm UQ.heap UQ'.vm UQ'.heap ∧ ReturnedEndW UQ oQ UQ' LQ_ (⟨3, 2, 12, 96⟩ : Room).cells (⟨3, 2, 12, 96⟩ : Room).slots) := by
  refine MetFree.of_bodySF (plainFor_of_name pn_java_lang_StringLatin1) hisR ?_
  intro p e s m args below meth cO s₁ Bd hml hP hK
  obtain ⟨rfl, hZ, hh, hH⟩ := hP
  have hx := Bd.exec
  have hby := Bd.bytes
  have hown : s.vm.findClass "java/lang/StringLatin1" = some m.cls := findClass_of_methodNamed Bd.named
  have hnm := (name_of_methodNamed Bd.named Bd.method).1
  have X0 : Stand p l e (⟨3, 2, 12, 96⟩ : Room) (s.setVm s.vm) m #[(.ref t), (.int (Int32.ofNat bg)), (.int (Int32.ofNat n))] below meth cO s₁ [] 0 0 := Stand.of_body Bd
  have e0 : s₁.heap = h0 := by rw [← hh, Bd.state]; rfl
  have N0 := Fr.nil n0
  have hZ0 : Z.Warmed39 (s.setVm s.vm).vm := hZ
  have hown0 : (s.setVm s.vm).vm.findClass "java/lang/StringLatin1" = some m.cls := hown
  have hS0 : s.Since s.vm 0 := (State.WarmedH.refl s).since 0
  have hk0 : 0 ≤ h0.size := Nat.zero_le _
  have hEL : EW Z a0 EL_1 := own_EW hw
  have R0 : CHr Z EL_1 s.vm h0 s.vm h0 := CHr.refl hH
  have D_ : ∀ {i : Nat} {x}, decode jdk_43_method_47_code i = x → decode cO.code i = x := fun h => hb hby h
  have W0 : ∀ zQ, SS p e below s₁ m 0 #[.val (.ref t), .val (.int (Int32.ofNat bg)), .val (.int (Int32.ofNat n))] [] zQ → Steps p.tables e below (s₁.setTop (entryFrame m #[(.ref t), (.int (Int32.ofNat bg)), (.int (Int32.ofNat n))] 3)) zQ := fun tt kt => castTop (ef_l1newW m t (Int32.ofNat bg) (Int32.ofNat n)) kt
  have hn9 : cs.length < 1048576 := ok.2
  have hdl : ((cs.drop bg).take n).length = n := own_dl hbn
  by_cases hc101 : n = 0
  ·
    obtain ⟨b102, T102, h102, k102, c102, kb102, X102, e102, E102, hS102, hk102, hZ102, hown102, LE102, LC102, LV102, LA102, l1102, l2102, A102, -, sf102, st102⟩ := ldcCH X0 hx hZ0 hown0 (w99 hw) (own_wS hw) e0 hS0 hk0 hEL (by decide +kernel) R0.1 (vs := (l1 ([] : List Int32))) (z := (0 : Int32)) (by decide +kernel) (by decide) (by decide) (g := (mkF m 4 #[.val (.ref t), .val (.int (Int32.ofNat bg)), .val (.int (Int32.ofNat n))] [])) rfl (D_ d42_4) (n := 0) (by decide) (by decide) (by decide) (by decide)
    have K102 := (Keep.refl h0 []).ext E102
    have R103 : CHr Z EL_1 s.vm h0 T102.vm h102 := R0.trans A102
    have LS102 : Str Z h102 b102 c102 kb102 ([] : List Int32) := ⟨LE102, LV102, LC102, LA102, by decide, by decide⟩
    have W104 : ∀ zQ, SS p e below T102 m 6 #[.val (.ref t), .val (.int (Int32.ofNat bg)), .val (.int (Int32.ofNat n))] [(.ref b102)] zQ → Steps p.tables e below (s₁.setTop (entryFrame m #[(.ref t), (.int (Int32.ofNat bg)), (.int (Int32.ofNat n))] 3)) zQ := by
      intro tt kt
      refine W0 tt ?_
      refine XS.iloadN X0.here hx rfl (D_ d42_0) rfl ?_
      refine XS.ifNo X0.here hx rfl (D_ d42_1) rfl ((if0 _ _).trans (teq (by rw [hc101]; rfl)).2) ?_
      refine st102 _ ?_
      exact kt
    have hR105 : Str Z h102 b102 c102 kb102 ((cs.drop bg).take n) := by rw [hc101]; exact LS102
    obtain ⟨fs, hr, hrun, hended, hRW⟩ := Jvm.Stand.leaveW X102 hS102 (by rw [e102]; exact hk102) (v := some (.ref b102)) (fun h => by rw [Bd.returns] at h; cases h) (BodyLoose.notSynchronized Bd)
    refine ⟨_, _, W104 _ (own_retR X102 hx Bd.returns rfl rfl (D_ d42_6) hr), hrun, hended, _, _, rfl, ?_, own_chr (T := T102) R103 (CHv.at X102 hZ102 hEL R103.1) hh.symm e102, own_rw hRW (by decide) (by decide)⟩
    show Q_l1newW Z t bg n kb cs h0 n0 _ T102.heap _
    rw [e102]
    exact ⟨b102, c102, kb102, rfl, N0, (Keep.trans (Keep.refl h0 []) K102 all0), hR105⟩
  ·
    have hn0 : 0 < n := Nat.pos_of_ne_zero hc101
    obtain ⟨T106, h106, X106, e106, E106, A106, D106, U106, st106⟩ := newO X0 hx hZ0 hown0 (w115 hw) (w7 hw) (w8 hw) e0 (g := (mkF m 7 #[.val (.ref t), .val (.int (Int32.ofNat bg)), .val (.int (Int32.ofNat n))] [])) rfl (D_ d42_7) (by decide) (by decide)
    obtain ⟨b106, g106⟩ : ∃ z, z = h0.size := ⟨_, rfl⟩
    rw [← g106] at A106 D106 U106 st106
    have K106 := (Keep.refl h0 []).ext E106
    have R107 : CHr Z EL_1 s.vm h0 s.vm h106 := R0.trans (CHr.keep K106 sf0 R0.1)
    have G106_coder : Fld Z h106 b106 "java/lang/String" "coder" "B" (.int (0 : Int32)) := D106 (Or.inr (w32 hw)) (ty := .byte) (by decide)
    have G106_value : Fld Z h106 b106 "java/lang/String" "value" "[B" .null := D106 (Or.inr (w34 hw)) (ty := (.array .byte)) (by decide)
    have F108 : Arv Z h106 t kb .byte (Int32.ofNat cs.length) (l1 cs) (.int (0 : Int32)) := (A1.keep K106 nin0)
    obtain ⟨_, _, ⟨T109, L109, k109, n109⟩, -, X109, ⟨Lc109, hQ109, l109, y109, z109⟩, st109⟩ := Jvm.LawKit.callS X106 hx (y := yn28) hown0 (mvT hZ0 (w116 hw)) (mvT hZ0 (w117 hw)) (mvT hZ0 (w118 hw)) (mvT hZ0 (w119 hw)) (by decide) (backOf (W := 2) (rm_cor l Z a0 hw [] t bg (bg + n) cs.length kb (l1 cs) h106 n0 (Nat.le_trans Z0 K106.1) F108 (l1_len cs) (by omega) (by omega) (by omega) (by omega) (by omega)) hZ0 (w119 hw) (w118 hw) (by decide) (by decide)) (g := (mkF m 16 #[.val (.ref t), .val (.int (Int32.ofNat bg)), .val (.int (Int32.ofNat n))] [(.int (Int32.ofNat (bg + n))), (.int (Int32.ofNat bg)), (.ref t), (.ref b106), (.ref b106)])) rfl (by rw [hml]; rfl) (argsL := [(.ref t), (.int (Int32.ofNat bg)), (.int (Int32.ofNat (bg + n)))]) (rest := [(.ref b106), (.ref b106)]) (lenOf pd17 rfl) rfl (wq rfl) (D_ d42_16) (fun _ _ => ⟨rfl, e106, (nb rfl), (nb rfl)⟩)
    dsimp only [Pt.U, Pt.locs, Pt.cells, Pt.slots] at X109 l109 y109 z109 st109 hQ109
    subst l109 y109 z109
    obtain ⟨r_110, kr_111, rfl, Nq109, K109, P109_0, P109_1⟩ := hQ109
    have N109 := Fr.app N0 Nq109
    have R112 : CHr Z EL_1 s.vm h0 s.vm T109.heap := R107.trans (CHr.keep K109 sf0 R107.1)
    have F113 : Exa Z T109.heap b106 "java/lang/String" := (A106.keep K109)
    have F114 : Fld Z T109.heap b106 "java/lang/String" "value" "[B" .null := (G106_value.keep K109 nin0)
    have F115 : Fld Z T109.heap b106 "java/lang/String" "coder" "B" (.int (0 : Int32)) := (G106_coder.keep K109 nin0)
    have z117 : n0 ≤ T109.heap.size := (Nat.le_trans Z0 (Nat.le_trans K106.1 K109.1))
    obtain ⟨_, _, ⟨T116, L116, k116, n116⟩, -, X116, ⟨Lc116, hQ116, l116, y116, z116⟩, st116⟩ := X109.specialBack hx (y := yn29) rfl hown0 (mvT hZ0 (w131 hw)) (mvT hZ0 (w132 hw)) (mvT hZ0 (w133 hw)) (by decide) (backOf (W := 1) (rm_sinitB l Z a0 hw [] b106 r_110 (0 : Int32) T109.heap n0 z117 F113 F114 F115 (Nat.le_trans Z0 (Nat.le_of_eq g106.symm)) (by decide) (by decide)) hZ0 (w133 hw) (w8 hw) (by decide) (by decide)) (g := (mkF m 20 #[.val (.ref t), .val (.int (Int32.ofNat bg)), .val (.int (Int32.ofNat n))] [(.int (0 : Int32)), (.ref r_110), (.ref b106), (.ref b106)])) rfl (by rw [hml]; rfl) (Steps.refl _) (a := b106) (argsL := [(.ref r_110), (.int (0 : Int32))]) (rest := [(.ref b106)]) (lenOf pd24 rfl) rfl (wq rfl) (D_ d42_20) (fun _ _ => ⟨rfl, rfl, (nb rfl), (nb rfl)⟩)
    dsimp only [Pt.U, Pt.locs, Pt.cells, Pt.slots] at X116 l116 y116 z116 st116 hQ116
    subst l116 y116 z116
    obtain ⟨rfl, Nq116, K116, P116_0, P116_1, P116_2⟩ := hQ116
    have N116 := Fr.app N109 Nq116
    have Sf118 : Safe Z EL_1 s.vm T109.heap b106 := (Safe.keep K109 sf0 R107.1 (Safe.keep K106 sf0 R0.1 (Safe.new (Nat.le_of_eq g106.symm))))
    have R119 : CHr Z EL_1 s.vm h0 s.vm T116.heap := R112.trans (CHr.keep K116 (sfS Sf118 sf0) R112.1)
    have W120 : ∀ zQ, SS p e below T116 m 23 #[.val (.ref t), .val (.int (Int32.ofNat bg)), .val (.int (Int32.ofNat n))] [(.ref b106)] zQ → Steps p.tables e below (s₁.setTop (entryFrame m #[(.ref t), (.int (Int32.ofNat bg)), (.int (Int32.ofNat n))] 3)) zQ := by
      intro tt kt
      refine W0 tt ?_
      refine XS.iloadN X0.here hx rfl (D_ d42_0) rfl ?_
      refine XS.ifYes X0.here hx rfl (pc0 := 1) (pc' := 7) rfl (D_ d42_1) rfl ((if0 _ _).trans (feq (fun q => by have := own_zero (by omega) q; omega)).2) (by decide) (by decide) ?_
      refine st106 _ ?_
      refine XS.dup X106.here hx rfl (D_ d42_10) rfl rfl ?_
      refine XS.aloadN X106.here hx rfl (D_ d42_11) rfl rfl ?_
      refine XS.iloadN X106.here hx rfl (D_ d42_12) rfl ?_
      refine XS.iloadN X106.here hx rfl (D_ d42_13) rfl ?_
      refine XS.iloadN X106.here hx rfl (D_ d42_14) rfl ?_
      refine XS.iadd X106.here hx rfl (D_ d42_15) rfl ?_
      show SS p e below T106 m 16 #[.val (.ref t), .val (.int (Int32.ofNat bg)), .val (.int (Int32.ofNat n))] [(.int ((Int32.ofNat bg) + (Int32.ofNat n))), (.int (Int32.ofNat bg)), (.ref t), (.ref b106), (.ref b106)] _
      rw [show ((Int32.ofNat bg) + (Int32.ofNat n)) = (Int32.ofNat (bg + n)) from (Int32.ofNat_add bg n).symm]
      refine st109 _ ?_
      refine XS.iconst X109.here hx rfl (D_ d42_19) ?_
      refine st116.trans ?_
      exact kt
    have F122 : Arv Z T116.heap r_110 kr_111 .byte (Int32.ofNat ((bg + n) - bg)) (((l1 cs).drop bg).take ((bg + n) - bg)) (.int (0 : Int32)) := (P109_1.keep K116 (ninS (Ne.symm (Nat.ne_of_lt (Nat.lt_of_lt_of_le A106.lt P109_0))) nin0))
    have hR121 : Str Z T116.heap b106 r_110 kr_111 ((cs.drop bg).take n) := own_mkL hl ok (by omega) P116_0 P116_1 P116_2 F122
    obtain ⟨fs, hr, hrun, hended, hRW⟩ := Jvm.Stand.leaveW X116 hS0 (Nat.le_trans hk0 (Nat.le_trans (Nat.le_trans K106.1 K109.1) K116.1)) (v := some (.ref b106)) (fun h => by rw [Bd.returns] at h; cases h) (BodyLoose.notSynchronized Bd)
    refine ⟨_, _, W120 _ (own_retR X116 hx Bd.returns rfl rfl (D_ d42_23) hr), hrun, hended, _, _, rfl, ?_, own_chr (T := T116) R119 (CHv.at X116 hZ0 hEL R119.1) hh.symm rfl, own_rw hRW (by decide) (by decide)⟩
    show Q_l1newW Z t bg n kb cs h0 n0 _ T116.heap _
    exact ⟨b106, r_110, kr_111, rfl, N116, (Keep.trans (Keep.trans (Keep.trans (Keep.refl h0 []) K106 all0) K109 all0) K116 (allS (Or.inr (Nat.le_of_eq g106.symm)) all0)), hR121⟩
def Q_u16newW (Z : State) (t : Addr) (bg : Nat) (n : Nat) (kb : ClassId) (cs : List Int32) (cS : Int32) (fm : Value) (h0 : Heap) (n0 : Nat) (vQ_ : Option Value) (hQ_ : Heap) (LQ_ : List Loc) : Prop := ∃ r : Addr, ∃ t2 : Addr, ∃ kb2 : ClassId, vQ_ = some (.ref r) ∧ Fr n0 LQ_ ∧ Keep h0 hQ_ [] ∧ Str Z hQ_ r t2 kb2 ((cs.drop bg).take n)
theorem rm_u16newW (l : Launch) (Z : State) (a0 : Array Value) (hw : HW a0 Z) (ws : List Jvm.Cond) (t : Addr) (bg : Nat) (n : Nat) (kb : ClassId) (cs : List Int32) (cS : Int32) (fm : Value) (h0 : Heap) (n0 : Nat) (Z0 : n0 ≤ h0.size) (O0 : Old Z n0 h0) (S_cs : Sta Z Z.heap "java/lang/String" "COMPACT_STRINGS" "Z" (.int cS)) (hcS : ¬ (cS = (0 : Int32))) (S_fm : Sta Z Z.heap "jdk/internal/util/Preconditions" "SIOOBE_FORMATTER" "Ljava/util/function/BiFunction;" fm) (hfm : fm.isRef = true) (S_ad : Sta Z Z.heap "java/lang/StringUTF16" "$assertionsDisabled" "Z" (.int (1 : Int32))) (S_hi : Sta Z Z.heap "java/lang/StringUTF16" "HI_BYTE_SHIFT" "I" (.int (0 : Int32))) (S_lo : Sta Z Z.heap "java/lang/StringUTF16" "LO_BYTE_SHIFT" "I" (.int (8 : Int32))) (A1 : Arv Z h0 t kb .byte (Int32.ofNat (2 * cs.length)) (u16 cs) (.int (0 : Int32))) (hbn : bg + n ≤ cs.length) (hnn : n < cs.length) (ok : OkS cs) (hcap : cs.length ≤ 4) :
    MetFree l yn43 (head1 (Jvm.Cond.code yn43 jdk_52_method_69_code 5 (some (.object "java/lang/String")) :: ws) (⟨5, 3, 16, 111⟩ : Room)) (fun aQ_ UQ => aQ_ = #[(.ref t), (.int (Int32.ofNat bg)), (.int (Int32.ofNat n))] ∧ Z.Warmed39 UQ.vm ∧ UQ.heap = h0 ∧ CHv Z EL_1 UQ.vm h0) (fun _ _ _ _ _ => True) (fun _ UQ oQ UQ' => ∃ vQ_ LQ_, oQ = .returned vQ_ ∧ Q_u16newW Z t bg n kb cs cS fm h0 n0 vQ_ UQ'.heap LQ_ ∧ CHr Z EL_1 UQ.vm UQ.heap UQ'.vm UQ'.heap ∧ ReturnedEndW UQ oQ UQ' LQ_ (⟨5, 3, 16, 111⟩ : Room).cells (⟨5, 3, 16, 111⟩ : Room).slots) := by
  refine MetFree.of_bodySF (plainFor_of_name pn_java_lang_StringUTF16) hisR ?_
  intro p e s m args below meth cO s₁ Bd hml hP hK
  obtain ⟨rfl, hZ, hh, hH⟩ := hP
  have hx := Bd.exec
  have hby := Bd.bytes
  have hown : s.vm.findClass "java/lang/StringUTF16" = some m.cls := findClass_of_methodNamed Bd.named
  have hnm := (name_of_methodNamed Bd.named Bd.method).1
  have X0 : Stand p l e (⟨5, 3, 16, 111⟩ : Room) (s.setVm s.vm) m #[(.ref t), (.int (Int32.ofNat bg)), (.int (Int32.ofNat n))] below meth cO s₁ [] 0 0 := Stand.of_body Bd
  have e0 : s₁.heap = h0 := by rw [← hh, Bd.state]; rfl
  have N0 := Fr.nil n0
  have hZ0 : Z.Warmed39 (s.setVm s.vm).vm := hZ
  have hown0 : (s.setVm s.vm).vm.findClass "java/lang/StringUTF16" = some m.cls := hown
  have hS0 : s.Since s.vm 0 := (State.WarmedH.refl s).since 0
  have hk0 : 0 ≤ h0.size := Nat.zero_le _
  have hEL : EW Z a0 EL_1 := own_EW hw
  have R0 : CHr Z EL_1 s.vm h0 s.vm h0 := CHr.refl hH
  have D_ : ∀ {i : Nat} {x}, decode jdk_52_method_69_code i = x → decode cO.code i = x := fun h => hb hby h
  have W0 : ∀ zQ, SS p e below s₁ m 0 #[.val (.ref t), .val (.int (Int32.ofNat bg)), .val (.int (Int32.ofNat n)), .unset, .unset] [] zQ → Steps p.tables e below (s₁.setTop (entryFrame m #[(.ref t), (.int (Int32.ofNat bg)), (.int (Int32.ofNat n))] 5)) zQ := fun tt kt => castTop (ef_u16newW m t (Int32.ofNat bg) (Int32.ofNat n)) kt
  have hn9 : cs.length < 1048576 := ok.2
  have hdl : ((cs.drop bg).take n).length = n := own_dl hbn
  by_cases hc101 : n = 0
  ·
    obtain ⟨b102, T102, h102, k102, c102, kb102, X102, e102, E102, hS102, hk102, hZ102, hown102, LE102, LC102, LV102, LA102, l1102, l2102, A102, -, sf102, st102⟩ := own_ldcWCH X0 hx hZ0 hown0 (w189 hw) (own_wS hw) e0 hS0 hk0 hEL (by decide +kernel) R0.1 (vs := (l1 ([] : List Int32))) (z := (0 : Int32)) (by decide +kernel) (by decide) (by decide) (g := (mkF m 4 #[.val (.ref t), .val (.int (Int32.ofNat bg)), .val (.int (Int32.ofNat n)), .unset, .unset] [])) rfl (D_ d43_4) (n := 0) (by decide) (by decide) (by decide) (by decide)
    have K102 := (Keep.refl h0 []).ext E102
    have R103 : CHr Z EL_1 s.vm h0 T102.vm h102 := R0.trans A102
    have LS102 : Str Z h102 b102 c102 kb102 ([] : List Int32) := ⟨LE102, LV102, LC102, LA102, by decide, by decide⟩
    have W104 : ∀ zQ, SS p e below T102 m 7 #[.val (.ref t), .val (.int (Int32.ofNat bg)), .val (.int (Int32.ofNat n)), .unset, .unset] [(.ref b102)] zQ → Steps p.tables e below (s₁.setTop (entryFrame m #[(.ref t), (.int (Int32.ofNat bg)), (.int (Int32.ofNat n))] 5)) zQ := by
      intro tt kt
      refine W0 tt ?_
      refine XS.iloadN X0.here hx rfl (D_ d43_0) rfl ?_
      refine XS.ifNo X0.here hx rfl (D_ d43_1) rfl ((if0 _ _).trans (teq (by rw [hc101]; rfl)).2) ?_
      refine st102 _ ?_
      exact kt
    have hR105 : Str Z h102 b102 c102 kb102 ((cs.drop bg).take n) := by rw [hc101]; exact LS102
    obtain ⟨fs, hr, hrun, hended, hRW⟩ := Jvm.Stand.leaveW X102 hS102 (by rw [e102]; exact hk102) (v := some (.ref b102)) (fun h => by rw [Bd.returns] at h; cases h) (BodyLoose.notSynchronized Bd)
    refine ⟨_, _, W104 _ (own_retR X102 hx Bd.returns rfl rfl (D_ d43_7) hr), hrun, hended, _, _, rfl, ?_, own_chr (T := T102) R103 (CHv.at X102 hZ102 hEL R103.1) hh.symm e102, own_rw hRW (by decide) (by decide)⟩
    show Q_u16newW Z t bg n kb cs cS fm h0 n0 _ T102.heap _
    rw [e102]
    exact ⟨b102, c102, kb102, rfl, N0, (Keep.trans (Keep.refl h0 []) K102 all0), hR105⟩
  ·
    have hn0 : 0 < n := Nat.pos_of_ne_zero hc101
    have F107 : Sta Z h0 "java/lang/String" "COMPACT_STRINGS" "Z" (.int cS) := S_cs.ext O0.2
    obtain ⟨T106, X106, e106, st106⟩ := getS2 X0 hx hZ0 hown0 (host := "") (Or.inl (w190 hw)) Via.refl e0 F107 (g := (mkF m 8 #[.val (.ref t), .val (.int (Int32.ofNat bg)), .val (.int (Int32.ofNat n)), .unset, .unset] [])) rfl (D_ d43_8)
    obtain ⟨_, _, ⟨T108, L108, k108, n108⟩, -, X108, ⟨Lc108, hQ108, l108, y108, z108⟩, st108⟩ := Jvm.LawKit.callS X106 hx (y := yn31) hown0 (mvT hZ0 (w191 hw)) (mvT hZ0 (w192 hw)) (mvT hZ0 (w22 hw)) (mvT hZ0 (w193 hw)) (by decide) (backOf (W := 0) (rm_compress17 l Z a0 hw [] t bg n kb cs fm h0 n0 Z0 O0 S_fm hfm S_ad S_hi S_lo A1 hn0 hbn hnn ok hcap) hZ0 (w193 hw) (w22 hw) (by decide) (by decide)) (g := (mkF m 17 #[.val (.ref t), .val (.int (Int32.ofNat bg)), .val (.int (Int32.ofNat n)), .unset, .unset] [(.int (Int32.ofNat n)), (.int (Int32.ofNat bg)), (.ref t)])) rfl (by rw [hml]; rfl) (argsL := [(.ref t), (.int (Int32.ofNat bg)), (.int (Int32.ofNat n))]) (rest := []) (lenOf pd17 rfl) rfl (wq rfl) (D_ d43_17) (fun _ _ => ⟨rfl, e106, (nb rfl), (nb rfl)⟩)
    dsimp only [Pt.U, Pt.locs, Pt.cells, Pt.slots] at X108 l108 y108 z108 st108 hQ108
    subst l108 y108 z108
    obtain ⟨r_109, kr_110, rfl, Nq108, K108, P108_0, P108_1⟩ := hQ108
    have N108 := Fr.app N0 Nq108
    have R111 : CHr Z EL_1 s.vm h0 s.vm T108.heap := R0.trans (CHr.keep K108 sf0 R0.1)
    obtain ⟨_, _, ⟨T112, L112, k112, n112⟩, -, X112, ⟨Lc112, hQ112, l112, y112, z112⟩, st112⟩ := Jvm.LawKit.callS X108 hx (y := yn12) hown0 (mvT hZ0 (w207 hw)) (mvT hZ0 (w29 hw)) (mvT hZ0 (w22 hw)) (mvT hZ0 (w30 hw)) (by decide) (backOf (W := 0) (rm_coderOf l Z a0 hw [] r_109 kr_110 (enc ((cs.drop bg).take n)) ((cs.drop bg).take n) T108.heap n0 (Nat.le_trans Z0 K108.1) P108_1 (own_okdt ok)) hZ0 (w30 hw) (w22 hw) (by decide) (by decide)) (g := (mkF m 23 #[.val (.ref t), .val (.int (Int32.ofNat bg)), .val (.int (Int32.ofNat ((cs.drop bg).take n).length)), .val (.ref r_109), .unset] [(.int (Int32.ofNat ((cs.drop bg).take n).length)), (.ref r_109)])) rfl (by rw [hml]; rfl) (argsL := [(.ref r_109), (.int (Int32.ofNat ((cs.drop bg).take n).length))]) (rest := []) (lenOf pd12 rfl) rfl (wq rfl) (D_ d43_23) (fun _ _ => ⟨rfl, rfl, (nb rfl), (nb rfl)⟩)
    dsimp only [Pt.U, Pt.locs, Pt.cells, Pt.slots] at X112 l112 y112 z112 st112 hQ112
    subst l112 y112 z112
    obtain ⟨rfl, Nq112, eq112⟩ := hQ112
    have N112 := Fr.app N108 Nq112
    obtain ⟨T113, h113, X113, e113, E113, A113, D113, U113, st113⟩ := newO X112 hx hZ0 hown0 (w208 hw) (w7 hw) (w8 hw) eq112 (g := (mkF m 28 #[.val (.ref t), .val (.int (Int32.ofNat bg)), .val (.int (Int32.ofNat ((cs.drop bg).take n).length)), .val (.ref r_109), .val (.int (cdr ((cs.drop bg).take n)))] [])) rfl (D_ d43_28) (by decide) (by decide)
    obtain ⟨b113, g113⟩ : ∃ z, z = T108.heap.size := ⟨_, rfl⟩
    rw [← g113] at A113 D113 U113 st113
    have K113 := (Keep.refl T108.heap []).ext E113
    have R114 : CHr Z EL_1 s.vm h0 s.vm h113 := R111.trans (CHr.keep K113 sf0 R111.1)
    have G113_coder : Fld Z h113 b113 "java/lang/String" "coder" "B" (.int (0 : Int32)) := D113 (Or.inr (w32 hw)) (ty := .byte) (by decide)
    have G113_value : Fld Z h113 b113 "java/lang/String" "value" "[B" .null := D113 (Or.inr (w34 hw)) (ty := (.array .byte)) (by decide)
    have z116 : n0 ≤ h113.size := (Nat.le_trans Z0 (Nat.le_trans K108.1 K113.1))
    obtain ⟨_, _, ⟨T115, L115, k115, n115⟩, -, X115, ⟨Lc115, hQ115, l115, y115, z115⟩, st115⟩ := X113.specialBack hx (y := yn29) rfl hown0 (mvT hZ0 (w209 hw)) (mvT hZ0 (w132 hw)) (mvT hZ0 (w133 hw)) (by decide) (backOf (W := 1) (rm_sinitB l Z a0 hw [] b113 r_109 (cdr ((cs.drop bg).take n)) h113 n0 z116 A113 G113_value G113_coder (Nat.le_trans Z0 (Nat.le_trans K108.1 (Nat.le_of_eq g113.symm))) (own_narcdr _) (own_fitcdr _)) hZ0 (w133 hw) (w8 hw) (by decide) (by decide)) (g := (mkF m 35 #[.val (.ref t), .val (.int (Int32.ofNat bg)), .val (.int (Int32.ofNat ((cs.drop bg).take n).length)), .val (.ref r_109), .val (.int (cdr ((cs.drop bg).take n)))] [(.int (cdr ((cs.drop bg).take n))), (.ref r_109), (.ref b113), (.ref b113)])) rfl (by rw [hml]; rfl) (Steps.refl _) (a := b113) (argsL := [(.ref r_109), (.int (cdr ((cs.drop bg).take n)))]) (rest := [(.ref b113)]) (lenOf pd24 rfl) rfl (wq rfl) (D_ d43_35) (fun _ _ => ⟨rfl, e113, (nb rfl), (nb rfl)⟩)
    dsimp only [Pt.U, Pt.locs, Pt.cells, Pt.slots] at X115 l115 y115 z115 st115 hQ115
    subst l115 y115 z115
    obtain ⟨rfl, Nq115, K115, P115_0, P115_1, P115_2⟩ := hQ115
    have N115 := Fr.app N112 Nq115
    have Sf117 : Safe Z EL_1 s.vm h113 b113 := (Safe.keep K113 sf0 R111.1 (Safe.new (Nat.le_of_eq g113.symm)))
    have R118 : CHr Z EL_1 s.vm h0 s.vm T115.heap := R114.trans (CHr.keep K115 (sfS Sf117 sf0) R114.1)
    have W119 : ∀ zQ, SS p e below T115 m 38 #[.val (.ref t), .val (.int (Int32.ofNat bg)), .val (.int (Int32.ofNat ((cs.drop bg).take n).length)), .val (.ref r_109), .val (.int (cdr ((cs.drop bg).take n)))] [(.ref b113)] zQ → Steps p.tables e below (s₁.setTop (entryFrame m #[(.ref t), (.int (Int32.ofNat bg)), (.int (Int32.ofNat n))] 5)) zQ := by
      intro tt kt
      refine W0 tt ?_
      refine XS.iloadN X0.here hx rfl (D_ d43_0) rfl ?_
      refine XS.ifYes X0.here hx rfl (pc0 := 1) (pc' := 8) rfl (D_ d43_1) rfl ((if0 _ _).trans (feq (fun q => by have := own_zero (by omega) q; omega)).2) (by decide) (by decide) ?_
      refine st106 _ ?_
      refine XS.ifNo X106.here hx rfl (D_ d43_11) rfl ((if0 _ _).trans (feq hcS).1) ?_
      refine XS.aloadN X106.here hx rfl (D_ d43_14) rfl rfl ?_
      refine XS.iloadN X106.here hx rfl (D_ d43_15) rfl ?_
      refine XS.iloadN X106.here hx rfl (D_ d43_16) rfl ?_
      refine st108 _ ?_
      refine XS.astoreN X108.here hx rfl (D_ d43_20) rfl rfl (l' := #[.val (.ref t), .val (.int (Int32.ofNat bg)), .val (.int (Int32.ofNat n)), .val (.ref r_109), .unset]) rfl ?_
      refine XS.aloadN X108.here hx rfl (D_ d43_21) rfl rfl ?_
      show SS p e below T108 m 22 #[.val (.ref t), .val (.int (Int32.ofNat bg)), .val (.int (Int32.ofNat n)), .val (.ref r_109), .unset] [(.ref r_109)] _
      rw [show (Int32.ofNat n) = (Int32.ofNat ((cs.drop bg).take n).length) from (by rw [hdl])]
      refine XS.iloadN X108.here hx rfl (D_ d43_22) rfl ?_
      refine st112 _ ?_
      refine XS.istore X112.here hx rfl (D_ d43_26) rfl (l' := #[.val (.ref t), .val (.int (Int32.ofNat bg)), .val (.int (Int32.ofNat ((cs.drop bg).take n).length)), .val (.ref r_109), .val (.int (cdr ((cs.drop bg).take n)))]) rfl ?_
      refine st113 _ ?_
      refine XS.dup X113.here hx rfl (D_ d43_31) rfl rfl ?_
      refine XS.aloadN X113.here hx rfl (D_ d43_32) rfl rfl ?_
      refine XS.iload X113.here hx rfl (D_ d43_33) rfl ?_
      refine st115.trans ?_
      exact kt
    have F121 : Arv Z T115.heap r_109 kr_110 .byte (Int32.ofNat (blen ((cs.drop bg).take n))) (enc ((cs.drop bg).take n)) (.int (0 : Int32)) := ((P108_1.keep K113 nin0).keep K115 (ninS (Nat.ne_of_lt (Nat.lt_of_lt_of_le P108_1.lt (Nat.le_of_eq g113.symm))) nin0))
    have hR120 : Str Z T115.heap b113 r_109 kr_110 ((cs.drop bg).take n) := ⟨P115_0, P115_1, P115_2, F121, own_okdt ok⟩
    obtain ⟨fs, hr, hrun, hended, hRW⟩ := Jvm.Stand.leaveW X115 hS0 (Nat.le_trans hk0 (Nat.le_trans (Nat.le_trans K108.1 K113.1) K115.1)) (v := some (.ref b113)) (fun h => by rw [Bd.returns] at h; cases h) (BodyLoose.notSynchronized Bd)
    refine ⟨_, _, W119 _ (own_retR X115 hx Bd.returns rfl rfl (D_ d43_38) hr), hrun, hended, _, _, rfl, ?_, own_chr (T := T115) R118 (CHv.at X115 hZ0 hEL R118.1) hh.symm rfl, own_rw hRW (by decide) (by decide)⟩
    show Q_u16newW Z t bg n kb cs cS fm h0 n0 _ T115.heap _
    exact ⟨b113, r_109, kr_110, rfl, N115, (Keep.trans (Keep.trans (Keep.trans (Keep.refl h0 []) K108 all0) K113 all0) K115 (allS (Or.inr (Nat.le_trans K108.1 (Nat.le_of_eq g113.symm))) all0)), hR120⟩
def Q_subW (Z : State) (a : Addr) (bg : Nat) (en : Nat) (t : Addr) (kb : ClassId) (cs : List Int32) (cS : Int32) (fm : Value) (h0 : Heap) (n0 : Nat) (vQ_ : Option Value) (hQ_ : Heap) (LQ_ : List Loc) : Prop := ∃ r : Addr, ∃ t2 : Addr, ∃ kb2 : ClassId, vQ_ = some (.ref r) ∧ Fr n0 LQ_ ∧ Keep h0 hQ_ [] ∧ Str Z hQ_ r t2 kb2 ((cs.drop bg).take (en - bg))
theorem rm_subW (l : Launch) (Z : State) (a0 : Array Value) (hw : HW a0 Z) (ws : List Jvm.Cond) (a : Addr) (bg : Nat) (en : Nat) (t : Addr) (kb : ClassId) (cs : List Int32) (cS : Int32) (fm : Value) (h0 : Heap) (n0 : Nat) (Z0 : n0 ≤ h0.size) (O0 : Old Z n0 h0) (S_cs : Sta Z Z.heap "java/lang/String" "COMPACT_STRINGS" "Z" (.int cS)) (hcS : ¬ (cS = (0 : Int32))) (S_fm : Sta Z Z.heap "jdk/internal/util/Preconditions" "SIOOBE_FORMATTER" "Ljava/util/function/BiFunction;" fm) (hfm : fm.isRef = true) (S_ad : Sta Z Z.heap "java/lang/StringUTF16" "$assertionsDisabled" "Z" (.int (1 : Int32))) (S_hi : Sta Z Z.heap "java/lang/StringUTF16" "HI_BYTE_SHIFT" "I" (.int (0 : Int32))) (S_lo : Sta Z Z.heap "java/lang/StringUTF16" "LO_BYTE_SHIFT" "I" (.int (8 : Int32))) (hS : Str Z h0 a t kb cs) (hbe : bg ≤ en) (hel : en ≤ cs.length) (hsm : en - bg < cs.length) (hcap : cs.length ≤ 4) :
    MetFree l yn44 (head1 (Jvm.Cond.code yn44 jdk_42_method_92_code 5 (some (.object "java/lang/String")) :: ws) (⟨6, 3, 16, 127⟩ : Room)) (fun aQ_ UQ => aQ_ = #[(.ref a), (.int (Int32.ofNat bg)), (.int (Int32.ofNat en))] ∧ Z.Warmed39 UQ.vm ∧ UQ.heap = h0 ∧ CHv Z EL_1 UQ.vm h0) (fun _ _ _ _ _ => True) (fun _ UQ oQ UQ' => ∃ vQ_ LQ_, oQ = .returned vQ_ ∧ Q_subW Z a bg en t kb cs cS fm h0 n0 vQ_ UQ'.heap LQ_ ∧ CHr Z EL_1 UQ.vm UQ.heap UQ'.vm UQ'.heap ∧ ReturnedEndW UQ oQ UQ' LQ_ (⟨6, 3, 16, 127⟩ : Room).cells (⟨6, 3, 16, 127⟩ : Room).slots) := by
  refine MetFree.of_bodySF (plainFor_of_name pn_java_lang_String) hisR ?_
  intro p e s m args below meth cO s₁ Bd hml hP hK
  obtain ⟨rfl, hZ, hh, hH⟩ := hP
  have hx := Bd.exec
  have hby := Bd.bytes
  have hown : s.vm.findClass "java/lang/String" = some m.cls := findClass_of_methodNamed Bd.named
  have hnm := (name_of_methodNamed Bd.named Bd.method).1
  have X0 : Stand p l e (⟨6, 3, 16, 127⟩ : Room) (s.setVm s.vm) m #[(.ref a), (.int (Int32.ofNat bg)), (.int (Int32.ofNat en))] below meth cO s₁ [] 0 0 := Stand.of_body Bd
  have e0 : s₁.heap = h0 := by rw [← hh, Bd.state]; rfl
  have N0 := Fr.nil n0
  have hZ0 : Z.Warmed39 (s.setVm s.vm).vm := hZ
  have hown0 : (s.setVm s.vm).vm.findClass "java/lang/String" = some m.cls := hown
  have hS0 : s.Since s.vm 0 := (State.WarmedH.refl s).since 0
  have hk0 : 0 ≤ h0.size := Nat.zero_le _
  have hEL : EW Z a0 EL_1 := own_EW hw
  have R0 : CHr Z EL_1 s.vm h0 s.vm h0 := CHr.refl hH
  have D_ : ∀ {i : Nat} {x}, decode jdk_42_method_92_code i = x → decode cO.code i = x := fun h => hb hby h
  have W0 : ∀ zQ, SS p e below s₁ m 0 #[.val (.ref a), .val (.int (Int32.ofNat bg)), .val (.int (Int32.ofNat en)), .unset, .unset] [] zQ → Steps p.tables e below (s₁.setTop (entryFrame m #[(.ref a), (.int (Int32.ofNat bg)), (.int (Int32.ofNat en))] 5)) zQ := fun tt kt => castTop (ef_subW m a (Int32.ofNat bg) (Int32.ofNat en)) kt
  obtain ⟨hE, hV, hC, hA, ok⟩ := hS
  have hn9 : cs.length < 1048576 := ok.2
  obtain ⟨cq101, kq101, q101a, q101b, q101c⟩ := isOf hZ0 e0 hE
  obtain ⟨_, _, ⟨T101, L101, k101, n101⟩, -, X101, ⟨Lc101, hQ101, l101, y101, z101⟩, st101⟩ := X0.virtualBack hx (y := yn10) (z := yn10) hown0 (mvT hZ0 (w54 hw)) (mvT hZ0 (w55 hw)) (notFace_of_selects (args := #[]) (mvT hZ0 (w57 hw))) (mvT hZ0 (w57 hw)) (mvT hZ0 (w56 hw)) (by decide) (backOf (W := 0) (rm_length l Z a0 hw [] a t kb cs cS h0 n0 Z0 O0 S_cs hcS ⟨hE, hV, hC, hA, ok⟩) hZ0 (w58 hw) (w8 hw) (by decide) (by decide)) q101a q101c (g := (mkF m 1 #[.val (.ref a), .val (.int (Int32.ofNat bg)), .val (.int (Int32.ofNat en)), .unset, .unset] [(.ref a)])) rfl (by rw [hml]; rfl) (Steps.refl _) (argsL := []) (rest := []) (lenOf pd23 rfl) rfl (wq rfl) (D_ d44_1) (fun _ _ => ⟨rfl, e0, (nb rfl), (nb rfl)⟩)
  dsimp only [Pt.U, Pt.locs, Pt.cells, Pt.slots] at X101 l101 y101 z101 st101 hQ101
  subst l101 y101 z101
  obtain ⟨rfl, Nq101, eq101⟩ := hQ101
  have N101 := Fr.app N0 Nq101
  obtain ⟨_, _, ⟨T102, L102, k102, n102⟩, -, X102, ⟨Lc102, hQ102, l102, y102, z102⟩, st102⟩ := Jvm.LawKit.callS X101 hx (y := yn21) hown0 (mvT hZ0 (w88 hw)) (mvT hZ0 (w89 hw)) (mvT hZ0 (w8 hw)) (mvT hZ0 (w90 hw)) (by decide) (backOf (W := 0) (rm_scheckBE l Z a0 hw [] (Int32.ofNat bg) (Int32.ofNat en) (Int32.ofNat cs.length) fm h0 n0 Z0 O0 S_fm hfm (own_nneg (by omega)) (own_nlt (by omega) (by omega)) (own_nlt (by omega) (by omega))) hZ0 (w90 hw) (w8 hw) (by decide) (by decide)) (g := (mkF m 8 #[.val (.ref a), .val (.int (Int32.ofNat bg)), .val (.int (Int32.ofNat en)), .val (.int (Int32.ofNat cs.length)), .unset] [(.int (Int32.ofNat cs.length)), (.int (Int32.ofNat en)), (.int (Int32.ofNat bg))])) rfl (by rw [hml]; rfl) (argsL := [(.int (Int32.ofNat bg)), (.int (Int32.ofNat en)), (.int (Int32.ofNat cs.length))]) (rest := []) (lenOf pd22 rfl) rfl (wq rfl) (D_ d44_8) (fun _ _ => ⟨rfl, eq101, (nb rfl), (nb rfl)⟩)
  dsimp only [Pt.U, Pt.locs, Pt.cells, Pt.slots] at X102 l102 y102 z102 st102 hQ102
  subst l102 y102 z102
  obtain ⟨rfl, Nq102, eq102⟩ := hQ102
  have N102 := Fr.app N101 Nq102
  have W103 : ∀ zQ, SS p e below T102 m 12 #[.val (.ref a), .val (.int (Int32.ofNat bg)), .val (.int (Int32.ofNat en)), .val (.int (Int32.ofNat cs.length)), .unset] [(.int (Int32.ofNat bg))] zQ → Steps p.tables e below (s₁.setTop (entryFrame m #[(.ref a), (.int (Int32.ofNat bg)), (.int (Int32.ofNat en))] 5)) zQ := by
    intro tt kt
    refine W0 tt ?_
    refine XS.aloadN X0.here hx rfl (D_ d44_0) rfl rfl ?_
    refine st101.trans ?_
    refine XS.istoreN X101.here hx rfl (D_ d44_4) rfl (l' := #[.val (.ref a), .val (.int (Int32.ofNat bg)), .val (.int (Int32.ofNat en)), .val (.int (Int32.ofNat cs.length)), .unset]) rfl ?_
    refine XS.iloadN X101.here hx rfl (D_ d44_5) rfl ?_
    refine XS.iloadN X101.here hx rfl (D_ d44_6) rfl ?_
    refine XS.iloadN X101.here hx rfl (D_ d44_7) rfl ?_
    refine st102 _ ?_
    refine XS.iloadN X102.here hx rfl (D_ d44_11) rfl ?_
    exact kt
  by_cases hc104 : (Int32.ofNat bg) = (0 : Int32)
  ·
    obtain ⟨cq105, kq105, q105a, q105b, q105c⟩ := isOf hZ0 eq102 hE
    obtain ⟨_, _, ⟨T105, L105, k105, n105⟩, -, X105, ⟨Lc105, hQ105, l105, y105, z105⟩, st105⟩ := X102.virtualBack hx (y := yn7) (z := yn7) hown0 (mvT hZ0 (w49 hw)) (mvT hZ0 (w50 hw)) (notFace_of_selects (args := #[]) (mvT hZ0 (w52 hw))) (mvT hZ0 (w52 hw)) (mvT hZ0 (w51 hw)) (by decide) (backOf (W := 0) (rm_isLatin1 l Z a0 hw [] a (cdr cs) cS h0 n0 Z0 O0 S_cs hcS hC) hZ0 (w53 hw) (w8 hw) (by decide) (by decide)) q105a q105c (g := (mkF m 28 #[.val (.ref a), .val (.int (Int32.ofNat bg)), .val (.int (Int32.ofNat en)), .val (.int (Int32.ofNat cs.length)), .val (.int (Int32.ofNat (en - bg)))] [(.ref a)])) rfl (by rw [hml]; rfl) (Steps.refl _) (argsL := []) (rest := []) (lenOf pd5 rfl) rfl (wq rfl) (D_ d44_28) (fun _ _ => ⟨rfl, eq102, (nb rfl), (nb rfl)⟩)
    dsimp only [Pt.U, Pt.locs, Pt.cells, Pt.slots] at X105 l105 y105 z105 st105 hQ105
    subst l105 y105 z105
    obtain ⟨rfl, Nq105, eq105⟩ := hQ105
    have N105 := Fr.app N102 Nq105
    have W106 : ∀ zQ, SS p e below T105 m 31 #[.val (.ref a), .val (.int (Int32.ofNat bg)), .val (.int (Int32.ofNat en)), .val (.int (Int32.ofNat cs.length)), .val (.int (Int32.ofNat (en - bg)))] [(.int (if (cdr cs) = (0 : Int32) then (1 : Int32) else (0 : Int32)))] zQ → Steps p.tables e below (s₁.setTop (entryFrame m #[(.ref a), (.int (Int32.ofNat bg)), (.int (Int32.ofNat en))] 5)) zQ := by
      intro tt kt
      refine W103 tt ?_
      refine XS.ifNo X102.here hx rfl (D_ d44_12) rfl ((if0 _ _).trans (teq hc104).2) ?_
      refine XS.iloadN X102.here hx rfl (D_ d44_15) rfl ?_
      refine XS.iloadN X102.here hx rfl (D_ d44_16) rfl ?_
      refine XS.icmpYes X102.here hx rfl (pc0 := 17) (pc' := 22) rfl (D_ d44_17) rfl (feq (own_neq (by have := own_zero (by omega) hc104; omega) (by omega) (by omega))).2 (by decide) (by decide) ?_
      refine XS.iloadN X102.here hx rfl (D_ d44_22) rfl ?_
      refine XS.iloadN X102.here hx rfl (D_ d44_23) rfl ?_
      refine XS.isub X102.here hx rfl (D_ d44_24) rfl ?_
      show SS p e below T102 m 25 #[.val (.ref a), .val (.int (Int32.ofNat bg)), .val (.int (Int32.ofNat en)), .val (.int (Int32.ofNat cs.length)), .unset] [(.int ((Int32.ofNat en) - (Int32.ofNat bg)))] _
      rw [show ((Int32.ofNat en) - (Int32.ofNat bg)) = (Int32.ofNat (en - bg)) from own_sub (by omega) (by omega)]
      refine XS.istore X102.here hx rfl (D_ d44_25) rfl (l' := #[.val (.ref a), .val (.int (Int32.ofNat bg)), .val (.int (Int32.ofNat en)), .val (.int (Int32.ofNat cs.length)), .val (.int (Int32.ofNat (en - bg)))]) rfl ?_
      refine XS.aloadN X102.here hx rfl (D_ d44_27) rfl rfl ?_
      refine st105.trans ?_
      exact kt
    by_cases hc107 : (cdr cs) = (0 : Int32)
    ·
      have hl := cdr_lat hc107
      have hA108 : Arv Z h0 t kb .byte (Int32.ofNat cs.length) (l1 cs) (.int (0 : Int32)) := by have q := enc_lat hl; rw [← q.1, ← q.2.1]; exact hA
      obtain ⟨T109, X109, e109, st109⟩ := getF X105 hx hZ0 hown0 (host := "") (Or.inl (w33 hw)) Via.refl eq105 hV (g := (mkF m 35 #[.val (.ref a), .val (.int (Int32.ofNat bg)), .val (.int (Int32.ofNat en)), .val (.int (Int32.ofNat cs.length)), .val (.int (Int32.ofNat (en - bg)))] [(.ref a)])) rfl rfl (D_ d44_35)
      obtain ⟨_, _, ⟨T110, L110, k110, n110⟩, -, X110', hS110', hgr110, ⟨Lc110, hQ110, l110, y110, z110, A110⟩, st110⟩ := callSS X109 hx (y := yn42) hown0 (mvT hZ0 (w96 hw)) (mvT hZ0 (w97 hw)) (mvT hZ0 (w66 hw)) (mvT hZ0 (w98 hw)) (by decide) (backOfSH (W := 0) (rm_l1newW l Z a0 hw [] t bg (en - bg) kb cs h0 n0 Z0 hA108 hl (by omega) (by omega) ok hcap) hZ0 (w98 hw) (w66 hw) (by decide) (by decide) hEL R0.1) (g := (mkF m 41 #[.val (.ref a), .val (.int (Int32.ofNat bg)), .val (.int (Int32.ofNat en)), .val (.int (Int32.ofNat cs.length)), .val (.int (Int32.ofNat (en - bg)))] [(.int (Int32.ofNat (en - bg))), (.int (Int32.ofNat bg)), (.ref t)])) rfl (by rw [hml]; rfl) (argsL := [(.ref t), (.int (Int32.ofNat bg)), (.int (Int32.ofNat (en - bg)))]) (rest := []) (lenOf pd25 rfl) rfl (wq rfl) (D_ d44_41) (fun _ _ => ⟨rfl, e109, (nb rfl), (nb rfl)⟩)
      dsimp only [Pt.U, Pt.locs, Pt.cells, Pt.slots] at X110' hS110' hgr110 l110 y110 z110 st110 hQ110 A110
      subst l110 y110 z110
      obtain ⟨X110, hS110, hZ110, hown110⟩ := rebS hS0 (by rw [e109]; exact hk0) X110' hS110' hgr110 hZ0 hown0
      obtain ⟨r_111, t2_112, kb2_113, rfl, Nq110, K110, P110_0⟩ := hQ110
      have N110 := Fr.app N105 Nq110
      have R114 : CHr Z EL_1 s.vm h0 T110.vm T110.heap := R0.trans A110
      have hk110 : T110.heap.size ≤ T110.heap.size := Nat.le_refl _
      have W115 : ∀ zQ, SS p e below T110 m 57 #[.val (.ref a), .val (.int (Int32.ofNat bg)), .val (.int (Int32.ofNat en)), .val (.int (Int32.ofNat cs.length)), .val (.int (Int32.ofNat (en - bg)))] [(.ref r_111)] zQ → Steps p.tables e below (s₁.setTop (entryFrame m #[(.ref a), (.int (Int32.ofNat bg)), (.int (Int32.ofNat en))] 5)) zQ := by
        intro tt kt
        refine W106 tt ?_
        rw [show (if (cdr cs) = (0 : Int32) then (1 : Int32) else (0 : Int32)) = (1 : Int32) from if_pos hc107]
        refine XS.ifNo X105.here hx rfl (D_ d44_31) rfl ((if0 _ _).trans (feq (by decide)).1) ?_
        refine XS.aloadN X105.here hx rfl (D_ d44_34) rfl rfl ?_
        refine st109 _ ?_
        refine XS.iloadN X109.here hx rfl (D_ d44_38) rfl ?_
        refine XS.iload X109.here hx rfl (D_ d44_39) rfl ?_
        refine st110.trans ?_
        refine XS.goto X110.here hx rfl (pc0 := 44) (pc' := 57) rfl (D_ d44_44) (by decide) (by decide) ?_
        exact kt
      obtain ⟨fs, hr, hrun, hended, hRW⟩ := Jvm.Stand.leaveW X110 hS110 hk110 (v := some (.ref r_111)) (fun h => by rw [Bd.returns] at h; cases h) (BodyLoose.notSynchronized Bd)
      refine ⟨_, _, W115 _ (own_retR X110 hx Bd.returns rfl rfl (D_ d44_57) hr), hrun, hended, _, _, rfl, ?_, own_chr (T := T110) R114 (CHv.at X110 hZ110 hEL R114.1) hh.symm rfl, own_rw hRW (by decide) (by decide)⟩
      show Q_subW Z a bg en t kb cs cS fm h0 n0 _ T110.heap _
      exact ⟨r_111, t2_112, kb2_113, rfl, N110, (Keep.trans (Keep.refl h0 []) K110 all0), P110_0⟩
    ·
      have hl := cdr_nlat hc107
      have hA116 : Arv Z h0 t kb .byte (Int32.ofNat (2 * cs.length)) (u16 cs) (.int (0 : Int32)) := by have q := enc_nlat hl; rw [← q.1, ← q.2.1]; exact hA
      obtain ⟨T117, X117, e117, st117⟩ := getF X105 hx hZ0 hown0 (host := "") (Or.inl (w33 hw)) Via.refl eq105 hV (g := (mkF m 48 #[.val (.ref a), .val (.int (Int32.ofNat bg)), .val (.int (Int32.ofNat en)), .val (.int (Int32.ofNat cs.length)), .val (.int (Int32.ofNat (en - bg)))] [(.ref a)])) rfl rfl (D_ d44_48)
      obtain ⟨_, _, ⟨T118, L118, k118, n118⟩, -, X118', hS118', hgr118, ⟨Lc118, hQ118, l118, y118, z118, A118⟩, st118⟩ := callSS X117 hx (y := yn43) hown0 (mvT hZ0 (w186 hw)) (mvT hZ0 (w187 hw)) (mvT hZ0 (w22 hw)) (mvT hZ0 (w188 hw)) (by decide) (backOfSH (W := 0) (rm_u16newW l Z a0 hw [] t bg (en - bg) kb cs cS fm h0 n0 Z0 O0 S_cs hcS S_fm hfm S_ad S_hi S_lo hA116 (by omega) (by omega) ok hcap) hZ0 (w188 hw) (w22 hw) (by decide) (by decide) hEL R0.1) (g := (mkF m 54 #[.val (.ref a), .val (.int (Int32.ofNat bg)), .val (.int (Int32.ofNat en)), .val (.int (Int32.ofNat cs.length)), .val (.int (Int32.ofNat (en - bg)))] [(.int (Int32.ofNat (en - bg))), (.int (Int32.ofNat bg)), (.ref t)])) rfl (by rw [hml]; rfl) (argsL := [(.ref t), (.int (Int32.ofNat bg)), (.int (Int32.ofNat (en - bg)))]) (rest := []) (lenOf pd25 rfl) rfl (wq rfl) (D_ d44_54) (fun _ _ => ⟨rfl, e117, (nb rfl), (nb rfl)⟩)
      dsimp only [Pt.U, Pt.locs, Pt.cells, Pt.slots] at X118' hS118' hgr118 l118 y118 z118 st118 hQ118 A118
      subst l118 y118 z118
      obtain ⟨X118, hS118, hZ118, hown118⟩ := rebS hS0 (by rw [e117]; exact hk0) X118' hS118' hgr118 hZ0 hown0
      obtain ⟨r_119, t2_120, kb2_121, rfl, Nq118, K118, P118_0⟩ := hQ118
      have N118 := Fr.app N105 Nq118
      have R122 : CHr Z EL_1 s.vm h0 T118.vm T118.heap := R0.trans A118
      have hk118 : T118.heap.size ≤ T118.heap.size := Nat.le_refl _
      have W123 : ∀ zQ, SS p e below T118 m 57 #[.val (.ref a), .val (.int (Int32.ofNat bg)), .val (.int (Int32.ofNat en)), .val (.int (Int32.ofNat cs.length)), .val (.int (Int32.ofNat (en - bg)))] [(.ref r_119)] zQ → Steps p.tables e below (s₁.setTop (entryFrame m #[(.ref a), (.int (Int32.ofNat bg)), (.int (Int32.ofNat en))] 5)) zQ := by
        intro tt kt
        refine W106 tt ?_
        rw [show (if (cdr cs) = (0 : Int32) then (1 : Int32) else (0 : Int32)) = (0 : Int32) from if_neg hc107]
        refine XS.ifYes X105.here hx rfl (pc0 := 31) (pc' := 47) rfl (D_ d44_31) rfl ((if0 _ _).trans (teq (by decide)).1) (by decide) (by decide) ?_
        refine XS.aloadN X105.here hx rfl (D_ d44_47) rfl rfl ?_
        refine st117 _ ?_
        refine XS.iloadN X117.here hx rfl (D_ d44_51) rfl ?_
        refine XS.iload X117.here hx rfl (D_ d44_52) rfl ?_
        refine st118.trans ?_
        exact kt
      obtain ⟨fs, hr, hrun, hended, hRW⟩ := Jvm.Stand.leaveW X118 hS118 hk118 (v := some (.ref r_119)) (fun h => by rw [Bd.returns] at h; cases h) (BodyLoose.notSynchronized Bd)
      refine ⟨_, _, W123 _ (own_retR X118 hx Bd.returns rfl rfl (D_ d44_57) hr), hrun, hended, _, _, rfl, ?_, own_chr (T := T118) R122 (CHv.at X118 hZ118 hEL R122.1) hh.symm rfl, own_rw hRW (by decide) (by decide)⟩
      show Q_subW Z a bg en t kb cs cS fm h0 n0 _ T118.heap _
      exact ⟨r_119, t2_120, kb2_121, rfl, N118, (Keep.trans (Keep.refl h0 []) K118 all0), P118_0⟩
  ·
    obtain ⟨cq124, kq124, q124a, q124b, q124c⟩ := isOf hZ0 eq102 hE
    obtain ⟨_, _, ⟨T124, L124, k124, n124⟩, -, X124, ⟨Lc124, hQ124, l124, y124, z124⟩, st124⟩ := X102.virtualBack hx (y := yn7) (z := yn7) hown0 (mvT hZ0 (w49 hw)) (mvT hZ0 (w50 hw)) (notFace_of_selects (args := #[]) (mvT hZ0 (w52 hw))) (mvT hZ0 (w52 hw)) (mvT hZ0 (w51 hw)) (by decide) (backOf (W := 0) (rm_isLatin1 l Z a0 hw [] a (cdr cs) cS h0 n0 Z0 O0 S_cs hcS hC) hZ0 (w53 hw) (w8 hw) (by decide) (by decide)) q124a q124c (g := (mkF m 28 #[.val (.ref a), .val (.int (Int32.ofNat bg)), .val (.int (Int32.ofNat en)), .val (.int (Int32.ofNat cs.length)), .val (.int (Int32.ofNat (en - bg)))] [(.ref a)])) rfl (by rw [hml]; rfl) (Steps.refl _) (argsL := []) (rest := []) (lenOf pd5 rfl) rfl (wq rfl) (D_ d44_28) (fun _ _ => ⟨rfl, eq102, (nb rfl), (nb rfl)⟩)
    dsimp only [Pt.U, Pt.locs, Pt.cells, Pt.slots] at X124 l124 y124 z124 st124 hQ124
    subst l124 y124 z124
    obtain ⟨rfl, Nq124, eq124⟩ := hQ124
    have N124 := Fr.app N102 Nq124
    have W125 : ∀ zQ, SS p e below T124 m 31 #[.val (.ref a), .val (.int (Int32.ofNat bg)), .val (.int (Int32.ofNat en)), .val (.int (Int32.ofNat cs.length)), .val (.int (Int32.ofNat (en - bg)))] [(.int (if (cdr cs) = (0 : Int32) then (1 : Int32) else (0 : Int32)))] zQ → Steps p.tables e below (s₁.setTop (entryFrame m #[(.ref a), (.int (Int32.ofNat bg)), (.int (Int32.ofNat en))] 5)) zQ := by
      intro tt kt
      refine W103 tt ?_
      refine XS.ifYes X102.here hx rfl (pc0 := 12) (pc' := 22) rfl (D_ d44_12) rfl ((if0 _ _).trans (feq hc104).2) (by decide) (by decide) ?_
      refine XS.iloadN X102.here hx rfl (D_ d44_22) rfl ?_
      refine XS.iloadN X102.here hx rfl (D_ d44_23) rfl ?_
      refine XS.isub X102.here hx rfl (D_ d44_24) rfl ?_
      show SS p e below T102 m 25 #[.val (.ref a), .val (.int (Int32.ofNat bg)), .val (.int (Int32.ofNat en)), .val (.int (Int32.ofNat cs.length)), .unset] [(.int ((Int32.ofNat en) - (Int32.ofNat bg)))] _
      rw [show ((Int32.ofNat en) - (Int32.ofNat bg)) = (Int32.ofNat (en - bg)) from own_sub (by omega) (by omega)]
      refine XS.istore X102.here hx rfl (D_ d44_25) rfl (l' := #[.val (.ref a), .val (.int (Int32.ofNat bg)), .val (.int (Int32.ofNat en)), .val (.int (Int32.ofNat cs.length)), .val (.int (Int32.ofNat (en - bg)))]) rfl ?_
      refine XS.aloadN X102.here hx rfl (D_ d44_27) rfl rfl ?_
      refine st124.trans ?_
      exact kt
    by_cases hc126 : (cdr cs) = (0 : Int32)
    ·
      have hl := cdr_lat hc126
      have hA127 : Arv Z h0 t kb .byte (Int32.ofNat cs.length) (l1 cs) (.int (0 : Int32)) := by have q := enc_lat hl; rw [← q.1, ← q.2.1]; exact hA
      obtain ⟨T128, X128, e128, st128⟩ := getF X124 hx hZ0 hown0 (host := "") (Or.inl (w33 hw)) Via.refl eq124 hV (g := (mkF m 35 #[.val (.ref a), .val (.int (Int32.ofNat bg)), .val (.int (Int32.ofNat en)), .val (.int (Int32.ofNat cs.length)), .val (.int (Int32.ofNat (en - bg)))] [(.ref a)])) rfl rfl (D_ d44_35)
      obtain ⟨_, _, ⟨T129, L129, k129, n129⟩, -, X129', hS129', hgr129, ⟨Lc129, hQ129, l129, y129, z129, A129⟩, st129⟩ := callSS X128 hx (y := yn42) hown0 (mvT hZ0 (w96 hw)) (mvT hZ0 (w97 hw)) (mvT hZ0 (w66 hw)) (mvT hZ0 (w98 hw)) (by decide) (backOfSH (W := 0) (rm_l1newW l Z a0 hw [] t bg (en - bg) kb cs h0 n0 Z0 hA127 hl (by omega) (by omega) ok hcap) hZ0 (w98 hw) (w66 hw) (by decide) (by decide) hEL R0.1) (g := (mkF m 41 #[.val (.ref a), .val (.int (Int32.ofNat bg)), .val (.int (Int32.ofNat en)), .val (.int (Int32.ofNat cs.length)), .val (.int (Int32.ofNat (en - bg)))] [(.int (Int32.ofNat (en - bg))), (.int (Int32.ofNat bg)), (.ref t)])) rfl (by rw [hml]; rfl) (argsL := [(.ref t), (.int (Int32.ofNat bg)), (.int (Int32.ofNat (en - bg)))]) (rest := []) (lenOf pd25 rfl) rfl (wq rfl) (D_ d44_41) (fun _ _ => ⟨rfl, e128, (nb rfl), (nb rfl)⟩)
      dsimp only [Pt.U, Pt.locs, Pt.cells, Pt.slots] at X129' hS129' hgr129 l129 y129 z129 st129 hQ129 A129
      subst l129 y129 z129
      obtain ⟨X129, hS129, hZ129, hown129⟩ := rebS hS0 (by rw [e128]; exact hk0) X129' hS129' hgr129 hZ0 hown0
      obtain ⟨r_130, t2_131, kb2_132, rfl, Nq129, K129, P129_0⟩ := hQ129
      have N129 := Fr.app N124 Nq129
      have R133 : CHr Z EL_1 s.vm h0 T129.vm T129.heap := R0.trans A129
      have hk129 : T129.heap.size ≤ T129.heap.size := Nat.le_refl _
      have W134 : ∀ zQ, SS p e below T129 m 57 #[.val (.ref a), .val (.int (Int32.ofNat bg)), .val (.int (Int32.ofNat en)), .val (.int (Int32.ofNat cs.length)), .val (.int (Int32.ofNat (en - bg)))] [(.ref r_130)] zQ → Steps p.tables e below (s₁.setTop (entryFrame m #[(.ref a), (.int (Int32.ofNat bg)), (.int (Int32.ofNat en))] 5)) zQ := by
        intro tt kt
        refine W125 tt ?_
        rw [show (if (cdr cs) = (0 : Int32) then (1 : Int32) else (0 : Int32)) = (1 : Int32) from if_pos hc126]
        refine XS.ifNo X124.here hx rfl (D_ d44_31) rfl ((if0 _ _).trans (feq (by decide)).1) ?_
        refine XS.aloadN X124.here hx rfl (D_ d44_34) rfl rfl ?_
        refine st128 _ ?_
        refine XS.iloadN X128.here hx rfl (D_ d44_38) rfl ?_
        refine XS.iload X128.here hx rfl (D_ d44_39) rfl ?_
        refine st129.trans ?_
        refine XS.goto X129.here hx rfl (pc0 := 44) (pc' := 57) rfl (D_ d44_44) (by decide) (by decide) ?_
        exact kt
      obtain ⟨fs, hr, hrun, hended, hRW⟩ := Jvm.Stand.leaveW X129 hS129 hk129 (v := some (.ref r_130)) (fun h => by rw [Bd.returns] at h; cases h) (BodyLoose.notSynchronized Bd)
      refine ⟨_, _, W134 _ (own_retR X129 hx Bd.returns rfl rfl (D_ d44_57) hr), hrun, hended, _, _, rfl, ?_, own_chr (T := T129) R133 (CHv.at X129 hZ129 hEL R133.1) hh.symm rfl, own_rw hRW (by decide) (by decide)⟩
      show Q_subW Z a bg en t kb cs cS fm h0 n0 _ T129.heap _
      exact ⟨r_130, t2_131, kb2_132, rfl, N129, (Keep.trans (Keep.refl h0 []) K129 all0), P129_0⟩
    ·
      have hl := cdr_nlat hc126
      have hA135 : Arv Z h0 t kb .byte (Int32.ofNat (2 * cs.length)) (u16 cs) (.int (0 : Int32)) := by have q := enc_nlat hl; rw [← q.1, ← q.2.1]; exact hA
      obtain ⟨T136, X136, e136, st136⟩ := getF X124 hx hZ0 hown0 (host := "") (Or.inl (w33 hw)) Via.refl eq124 hV (g := (mkF m 48 #[.val (.ref a), .val (.int (Int32.ofNat bg)), .val (.int (Int32.ofNat en)), .val (.int (Int32.ofNat cs.length)), .val (.int (Int32.ofNat (en - bg)))] [(.ref a)])) rfl rfl (D_ d44_48)
      obtain ⟨_, _, ⟨T137, L137, k137, n137⟩, -, X137', hS137', hgr137, ⟨Lc137, hQ137, l137, y137, z137, A137⟩, st137⟩ := callSS X136 hx (y := yn43) hown0 (mvT hZ0 (w186 hw)) (mvT hZ0 (w187 hw)) (mvT hZ0 (w22 hw)) (mvT hZ0 (w188 hw)) (by decide) (backOfSH (W := 0) (rm_u16newW l Z a0 hw [] t bg (en - bg) kb cs cS fm h0 n0 Z0 O0 S_cs hcS S_fm hfm S_ad S_hi S_lo hA135 (by omega) (by omega) ok hcap) hZ0 (w188 hw) (w22 hw) (by decide) (by decide) hEL R0.1) (g := (mkF m 54 #[.val (.ref a), .val (.int (Int32.ofNat bg)), .val (.int (Int32.ofNat en)), .val (.int (Int32.ofNat cs.length)), .val (.int (Int32.ofNat (en - bg)))] [(.int (Int32.ofNat (en - bg))), (.int (Int32.ofNat bg)), (.ref t)])) rfl (by rw [hml]; rfl) (argsL := [(.ref t), (.int (Int32.ofNat bg)), (.int (Int32.ofNat (en - bg)))]) (rest := []) (lenOf pd25 rfl) rfl (wq rfl) (D_ d44_54) (fun _ _ => ⟨rfl, e136, (nb rfl), (nb rfl)⟩)
      dsimp only [Pt.U, Pt.locs, Pt.cells, Pt.slots] at X137' hS137' hgr137 l137 y137 z137 st137 hQ137 A137
      subst l137 y137 z137
      obtain ⟨X137, hS137, hZ137, hown137⟩ := rebS hS0 (by rw [e136]; exact hk0) X137' hS137' hgr137 hZ0 hown0
      obtain ⟨r_138, t2_139, kb2_140, rfl, Nq137, K137, P137_0⟩ := hQ137
      have N137 := Fr.app N124 Nq137
      have R141 : CHr Z EL_1 s.vm h0 T137.vm T137.heap := R0.trans A137
      have hk137 : T137.heap.size ≤ T137.heap.size := Nat.le_refl _
      have W142 : ∀ zQ, SS p e below T137 m 57 #[.val (.ref a), .val (.int (Int32.ofNat bg)), .val (.int (Int32.ofNat en)), .val (.int (Int32.ofNat cs.length)), .val (.int (Int32.ofNat (en - bg)))] [(.ref r_138)] zQ → Steps p.tables e below (s₁.setTop (entryFrame m #[(.ref a), (.int (Int32.ofNat bg)), (.int (Int32.ofNat en))] 5)) zQ := by
        intro tt kt
        refine W125 tt ?_
        rw [show (if (cdr cs) = (0 : Int32) then (1 : Int32) else (0 : Int32)) = (0 : Int32) from if_neg hc126]
        refine XS.ifYes X124.here hx rfl (pc0 := 31) (pc' := 47) rfl (D_ d44_31) rfl ((if0 _ _).trans (teq (by decide)).1) (by decide) (by decide) ?_
        refine XS.aloadN X124.here hx rfl (D_ d44_47) rfl rfl ?_
        refine st136 _ ?_
        refine XS.iloadN X136.here hx rfl (D_ d44_51) rfl ?_
        refine XS.iload X136.here hx rfl (D_ d44_52) rfl ?_
        refine st137.trans ?_
        exact kt
      obtain ⟨fs, hr, hrun, hended, hRW⟩ := Jvm.Stand.leaveW X137 hS137 hk137 (v := some (.ref r_138)) (fun h => by rw [Bd.returns] at h; cases h) (BodyLoose.notSynchronized Bd)
      refine ⟨_, _, W142 _ (own_retR X137 hx Bd.returns rfl rfl (D_ d44_57) hr), hrun, hended, _, _, rfl, ?_, own_chr (T := T137) R141 (CHv.at X137 hZ137 hEL R141.1) hh.symm rfl, own_rw hRW (by decide) (by decide)⟩
      show Q_subW Z a bg en t kb cs cS fm h0 n0 _ T137.heap _
      exact ⟨r_138, t2_139, kb2_140, rfl, N137, (Keep.trans (Keep.refl h0 []) K137 all0), P137_0⟩
def Q_subI (Z : State) (a : Addr) (bg : Nat) (t : Addr) (kb : ClassId) (cs : List Int32) (cS : Int32) (fm : Value) (h0 : Heap) (n0 : Nat) (vQ_ : Option Value) (hQ_ : Heap) (LQ_ : List Loc) : Prop := ∃ r : Addr, ∃ t2 : Addr, ∃ kb2 : ClassId, vQ_ = some (.ref r) ∧ Fr n0 LQ_ ∧ Keep h0 hQ_ [] ∧ Str Z hQ_ r t2 kb2 ((cs.drop bg).take (cs.length - bg))
theorem rm_subI (l : Launch) (Z : State) (a0 : Array Value) (hw : HW a0 Z) (ws : List Jvm.Cond) (a : Addr) (bg : Nat) (t : Addr) (kb : ClassId) (cs : List Int32) (cS : Int32) (fm : Value) (h0 : Heap) (n0 : Nat) (Z0 : n0 ≤ h0.size) (O0 : Old Z n0 h0) (S_cs : Sta Z Z.heap "java/lang/String" "COMPACT_STRINGS" "Z" (.int cS)) (hcS : ¬ (cS = (0 : Int32))) (S_fm : Sta Z Z.heap "jdk/internal/util/Preconditions" "SIOOBE_FORMATTER" "Ljava/util/function/BiFunction;" fm) (hfm : fm.isRef = true) (S_ad : Sta Z Z.heap "java/lang/StringUTF16" "$assertionsDisabled" "Z" (.int (1 : Int32))) (S_hi : Sta Z Z.heap "java/lang/StringUTF16" "HI_BYTE_SHIFT" "I" (.int (0 : Int32))) (S_lo : Sta Z Z.heap "java/lang/StringUTF16" "LO_BYTE_SHIFT" "I" (.int (8 : Int32))) (hS : Str Z h0 a t kb cs) (hb0 : 0 < bg) (hbl : bg ≤ cs.length) (hcap : cs.length ≤ 4) :
    MetFree l yn45 (head1 (Jvm.Cond.code yn45 jdk_42_method_91_code 2 (some (.object "java/lang/String")) :: ws) (⟨7, 3, 16, 143⟩ : Room)) (fun aQ_ UQ => aQ_ = #[(.ref a), (.int (Int32.ofNat bg))] ∧ Z.Warmed39 UQ.vm ∧ UQ.heap = h0 ∧ CHv Z EL_1 UQ.vm h0) (fun _ _ _ _ _ => True) (fun _ UQ oQ UQ' => ∃ vQ_ LQ_, oQ = .returned vQ_ ∧ Q_subI Z a bg t kb cs cS fm h0 n0 vQ_ UQ'.heap LQ_ ∧ CHr Z EL_1 UQ.vm UQ.heap UQ'.vm UQ'.heap ∧ ReturnedEndW UQ oQ UQ' LQ_ (⟨7, 3, 16, 143⟩ : Room).cells (⟨7, 3, 16, 143⟩ : Room).slots) := by
  refine MetFree.of_bodySF (plainFor_of_name pn_java_lang_String) hisR ?_
  intro p e s m args below meth cO s₁ Bd hml hP hK
  obtain ⟨rfl, hZ, hh, hH⟩ := hP
  have hx := Bd.exec
  have hby := Bd.bytes
  have hown : s.vm.findClass "java/lang/String" = some m.cls := findClass_of_methodNamed Bd.named
  have hnm := (name_of_methodNamed Bd.named Bd.method).1
  have X0 : Stand p l e (⟨7, 3, 16, 143⟩ : Room) (s.setVm s.vm) m #[(.ref a), (.int (Int32.ofNat bg))] below meth cO s₁ [] 0 0 := Stand.of_body Bd
  have e0 : s₁.heap = h0 := by rw [← hh, Bd.state]; rfl
  have N0 := Fr.nil n0
  have hZ0 : Z.Warmed39 (s.setVm s.vm).vm := hZ
  have hown0 : (s.setVm s.vm).vm.findClass "java/lang/String" = some m.cls := hown
  have hS0 : s.Since s.vm 0 := (State.WarmedH.refl s).since 0
  have hk0 : 0 ≤ h0.size := Nat.zero_le _
  have hEL : EW Z a0 EL_1 := own_EW hw
  have R0 : CHr Z EL_1 s.vm h0 s.vm h0 := CHr.refl hH
  have D_ : ∀ {i : Nat} {x}, decode jdk_42_method_91_code i = x → decode cO.code i = x := fun h => hb hby h
  have W0 : ∀ zQ, SS p e below s₁ m 0 #[.val (.ref a), .val (.int (Int32.ofNat bg))] [] zQ → Steps p.tables e below (s₁.setTop (entryFrame m #[(.ref a), (.int (Int32.ofNat bg))] 2)) zQ := fun tt kt => castTop (ef_subI m a (Int32.ofNat bg)) kt
  obtain ⟨cq101, kq101, q101a, q101b, q101c⟩ := isOf hZ0 e0 hS.1
  obtain ⟨_, _, ⟨T101, L101, k101, n101⟩, -, X101, ⟨Lc101, hQ101, l101, y101, z101⟩, st101⟩ := X0.virtualBack hx (y := yn10) (z := yn10) hown0 (mvT hZ0 (w54 hw)) (mvT hZ0 (w55 hw)) (notFace_of_selects (args := #[]) (mvT hZ0 (w57 hw))) (mvT hZ0 (w57 hw)) (mvT hZ0 (w56 hw)) (by decide) (backOf (W := 2) (rm_length l Z a0 hw [] a t kb cs cS h0 n0 Z0 O0 S_cs hcS hS) hZ0 (w58 hw) (w8 hw) (by decide) (by decide)) q101a q101c (g := (mkF m 3 #[.val (.ref a), .val (.int (Int32.ofNat bg))] [(.ref a), (.int (Int32.ofNat bg)), (.ref a)])) rfl (by rw [hml]; rfl) (Steps.refl _) (argsL := []) (rest := [(.int (Int32.ofNat bg)), (.ref a)]) (lenOf pd23 rfl) rfl (wq rfl) (D_ d45_3) (fun _ _ => ⟨rfl, e0, (nb rfl), (nb rfl)⟩)
  dsimp only [Pt.U, Pt.locs, Pt.cells, Pt.slots] at X101 l101 y101 z101 st101 hQ101
  subst l101 y101 z101
  obtain ⟨rfl, Nq101, eq101⟩ := hQ101
  have N101 := Fr.app N0 Nq101
  obtain ⟨cq102, kq102, q102a, q102b, q102c⟩ := isOf hZ0 eq101 hS.1
  obtain ⟨_, _, ⟨T102, L102, k102, n102⟩, -, X102', hS102', hgr102, ⟨Lc102, hQ102, l102, y102, z102, A102⟩, st102⟩ := X101.virtualBackS hx (y := yn44) (z := yn44) hown0 (mvT hZ0 (w107 hw)) (mvT hZ0 (w84 hw)) (notFace_of_selects (args := #[]) (mvT hZ0 (w86 hw))) (mvT hZ0 (w86 hw)) (mvT hZ0 (w85 hw)) (by decide) (backOfSH (W := 0) (rm_subW l Z a0 hw [] a bg cs.length t kb cs cS fm h0 n0 Z0 O0 S_cs hcS S_fm hfm S_ad S_hi S_lo hS hbl (Nat.le_refl _) (by omega) hcap) hZ0 (w87 hw) (w8 hw) (by decide) (by decide) hEL R0.1) q102a q102c (g := (mkF m 6 #[.val (.ref a), .val (.int (Int32.ofNat bg))] [(.int (Int32.ofNat cs.length)), (.int (Int32.ofNat bg)), (.ref a)])) rfl (by rw [hml]; rfl) (Steps.refl _) (argsL := [(.int (Int32.ofNat bg)), (.int (Int32.ofNat cs.length))]) (rest := []) (lenOf pd26 rfl) rfl (wq rfl) (D_ d45_6) (fun _ _ => ⟨rfl, eq101, (nb rfl), (nb rfl)⟩)
  dsimp only [Pt.U, Pt.locs, Pt.cells, Pt.slots] at X102' hS102' hgr102 l102 y102 z102 st102 hQ102 A102
  subst l102 y102 z102
  obtain ⟨X102, hS102, hZ102, hown102⟩ := rebS hS0 (by rw [eq101]; exact hk0) X102' hS102' hgr102 hZ0 hown0
  obtain ⟨r_103, t2_104, kb2_105, rfl, Nq102, K102, P102_0⟩ := hQ102
  have N102 := Fr.app N101 Nq102
  have R106 : CHr Z EL_1 s.vm h0 T102.vm T102.heap := R0.trans A102
  have hk102 : T102.heap.size ≤ T102.heap.size := Nat.le_refl _
  have W107 : ∀ zQ, SS p e below T102 m 9 #[.val (.ref a), .val (.int (Int32.ofNat bg))] [(.ref r_103)] zQ → Steps p.tables e below (s₁.setTop (entryFrame m #[(.ref a), (.int (Int32.ofNat bg))] 2)) zQ := by
    intro tt kt
    refine W0 tt ?_
    refine XS.aloadN X0.here hx rfl (D_ d45_0) rfl rfl ?_
    refine XS.iloadN X0.here hx rfl (D_ d45_1) rfl ?_
    refine XS.aloadN X0.here hx rfl (D_ d45_2) rfl rfl ?_
    refine st101.trans ?_
    refine st102.trans ?_
    exact kt
  obtain ⟨fs, hr, hrun, hended, hRW⟩ := Jvm.Stand.leaveW X102 hS102 hk102 (v := some (.ref r_103)) (fun h => by rw [Bd.returns] at h; cases h) (BodyLoose.notSynchronized Bd)
  refine ⟨_, _, W107 _ (own_retR X102 hx Bd.returns rfl rfl (D_ d45_9) hr), hrun, hended, _, _, rfl, ?_, own_chr (T := T102) R106 (CHv.at X102 hZ102 hEL R106.1) hh.symm rfl, own_rw hRW (by decide) (by decide)⟩
  show Q_subI Z a bg t kb cs cS fm h0 n0 _ T102.heap _
  exact ⟨r_103, t2_104, kb2_105, rfl, N102, (Keep.trans (Keep.refl h0 []) K102 all0), P102_0⟩
def Q_splitAt (Z : State) (a : Addr) (x : Int32) (t : Addr) (kb : ClassId) (cs : List Int32) (cS : Int32) (fm : Value) (h0 : Heap) (n0 : Nat) (vQ_ : Option Value) (hQ_ : Heap) (LQ_ : List Loc) : Prop := ∃ r : Addr, ∃ kr : ClassId, ∃ a1 : Addr, ∃ t1 : Addr, ∃ k1 : ClassId, ∃ a2 : Addr, ∃ t2 : Addr, ∃ k2 : ClassId, vQ_ = some (.ref r) ∧ Fr n0 LQ_ ∧ Keep h0 hQ_ [] ∧ Arv Z hQ_ r kr (.object "java/lang/String") (2 : Int32) [(.ref a1), (.ref a2)] .null ∧ Str Z hQ_ a1 t1 k1 ((cs.drop 0).take ((fi x cs) - 0)) ∧ Str Z hQ_ a2 t2 k2 ((cs.drop ((fi x cs) + 1)).take (cs.length - ((fi x cs) + 1)))
theorem rm_splitAt (l : Launch) (Z : State) (a0 : Array Value) (hw : HW a0 Z) (ws : List Jvm.Cond) (a : Addr) (x : Int32) (t : Addr) (kb : ClassId) (cs : List Int32) (cS : Int32) (fm : Value) (h0 : Heap) (n0 : Nat) (Z0 : n0 ≤ h0.size) (O0 : Old Z n0 h0) (S_cs : Sta Z Z.heap "java/lang/String" "COMPACT_STRINGS" "Z" (.int cS)) (hcS : ¬ (cS = (0 : Int32))) (S_fm : Sta Z Z.heap "jdk/internal/util/Preconditions" "SIOOBE_FORMATTER" "Ljava/util/function/BiFunction;" fm) (hfm : fm.isRef = true) (S_ad : Sta Z Z.heap "java/lang/StringUTF16" "$assertionsDisabled" "Z" (.int (1 : Int32))) (S_hi : Sta Z Z.heap "java/lang/StringUTF16" "HI_BYTE_SHIFT" "I" (.int (0 : Int32))) (S_lo : Sta Z Z.heap "java/lang/StringUTF16" "LO_BYTE_SHIFT" "I" (.int (8 : Int32))) (hS : Str Z h0 a t kb cs) (hm : x ∈ cs) (hcap : cs.length ≤ 4) :
    MetFree l yn46 (head1 (Jvm.Cond.code yn46 prog_2_method_10_code 3 (some (.array (.object "java/lang/String"))) :: ws) (⟨8, 7, 34, 159⟩ : Room)) (fun aQ_ UQ => aQ_ = #[(.ref a), (.int x)] ∧ Z.Warmed39 UQ.vm ∧ UQ.heap = h0 ∧ CHv Z EL_1 UQ.vm h0) (fun _ _ _ _ _ => True) (fun _ UQ oQ UQ' => ∃ vQ_ LQ_, oQ = .returned vQ_ ∧ Q_splitAt Z a x t kb cs cS fm h0 n0 vQ_ UQ'.heap LQ_ ∧ CHr Z EL_1 UQ.vm UQ.heap UQ'.vm UQ'.heap ∧ ReturnedEndW UQ oQ UQ' LQ_ (⟨8, 7, 34, 159⟩ : Room).cells (⟨8, 7, 34, 159⟩ : Room).slots) := by
  refine MetFree.of_bodySF (plainFor_of_name pn_com_example_patents_via_api_patentsviaapi_cli_Options) hisR ?_
  intro p e s m args below meth cO s₁ Bd hml hP hK
  obtain ⟨rfl, hZ, hh, hH⟩ := hP
  have hx := Bd.exec
  have hby := Bd.bytes
  have hown : s.vm.findClass "com/example/patents_via_api/patentsviaapi/cli/Options" = some m.cls := findClass_of_methodNamed Bd.named
  have hnm := (name_of_methodNamed Bd.named Bd.method).1
  have X0 : Stand p l e (⟨8, 7, 34, 159⟩ : Room) (s.setVm s.vm) m #[(.ref a), (.int x)] below meth cO s₁ [] 0 0 := Stand.of_body Bd
  have e0 : s₁.heap = h0 := by rw [← hh, Bd.state]; rfl
  have N0 := Fr.nil n0
  have hZ0 : Z.Warmed39 (s.setVm s.vm).vm := hZ
  have hown0 : (s.setVm s.vm).vm.findClass "com/example/patents_via_api/patentsviaapi/cli/Options" = some m.cls := hown
  have hS0 : s.Since s.vm 0 := (State.WarmedH.refl s).since 0
  have hk0 : 0 ≤ h0.size := Nat.zero_le _
  have hEL : EW Z a0 EL_1 := own_EW hw
  have R0 : CHr Z EL_1 s.vm h0 s.vm h0 := CHr.refl hH
  have D_ : ∀ {i : Nat} {x}, decode prog_2_method_10_code i = x → decode cO.code i = x := fun h => hb hby h
  have W0 : ∀ zQ, SS p e below s₁ m 0 #[.val (.ref a), .val (.int x), .unset] [] zQ → Steps p.tables e below (s₁.setTop (entryFrame m #[(.ref a), (.int x)] 3)) zQ := fun tt kt => castTop (ef_splitAt m a x) kt
  have hp9 := fi_lt hm
  obtain ⟨cq101, kq101, q101a, q101b, q101c⟩ := isOf hZ0 e0 hS.1
  obtain ⟨_, _, ⟨T101, L101, k101, n101⟩, -, X101, ⟨Lc101, hQ101, l101, y101, z101⟩, st101⟩ := X0.virtualBack hx (y := yn41) (z := yn41) hown0 (mvT hZ0 (w39 hw)) (mvT hZ0 (w40 hw)) (notFace_of_selects (args := #[]) (mvT hZ0 (w42 hw))) (mvT hZ0 (w42 hw)) (mvT hZ0 (w41 hw)) (by decide) (backOf (W := 0) (rm_sixI l Z a0 hw [] a x t kb cs cS fm h0 n0 Z0 O0 S_cs hcS S_fm hfm S_ad S_hi S_lo hS hm) hZ0 (w43 hw) (w8 hw) (by decide) (by decide)) q101a q101c (g := (mkF m 2 #[.val (.ref a), .val (.int x), .unset] [(.int x), (.ref a)])) rfl (by rw [hml]; rfl) (Steps.refl _) (argsL := [(.int x)]) (rest := []) (lenOf pd7 rfl) rfl (wq rfl) (D_ d46_2) (fun _ _ => ⟨rfl, e0, (nb rfl), (nb rfl)⟩)
  dsimp only [Pt.U, Pt.locs, Pt.cells, Pt.slots] at X101 l101 y101 z101 st101 hQ101
  subst l101 y101 z101
  obtain ⟨rfl, Nq101, eq101⟩ := hQ101
  have N101 := Fr.app N0 Nq101
  obtain ⟨T102, h102, k102, X102, e102, E102, A102, Ov102, st102⟩ := newR X101 hx hZ0 hown0 (w81 hw) (w82 hw) eq101 (g := (mkF m 25 #[.val (.ref a), .val (.int x), .val (.int (Int32.ofNat (fi x cs)))] [(.int (2 : Int32))])) rfl (D_ d46_25) rfl (by decide) (cap := 2) (by decide) (by decide) (by decide) (by decide)
  obtain ⟨b102, g102⟩ : ∃ z, z = h0.size := ⟨_, rfl⟩
  rw [← g102] at A102 st102
  have K102 := (Keep.refl h0 []).ext E102
  have R103 : CHr Z EL_1 s.vm h0 s.vm h102 := R0.trans (CHr.keep K102 sf0 R0.1)
  have G102 : Arv Z h102 b102 k102 (.object "java/lang/String") (2 : Int32) [.null, .null] .null := (Arv.new A102 (by decide)).pad (pad_rep [] .null 2)
  have F104 : Str Z h102 a t kb cs := (hS.keep K102 nin0 nin0)
  have O105 : Old Z n0 h102 := (O0.keep K102 all0)
  obtain ⟨cq106, kq106, q106a, q106b, q106c⟩ := isOf hZ0 e102 F104.1
  obtain ⟨_, _, ⟨T106, L106, k106, n106⟩, -, X106', hS106', hgr106, ⟨Lc106, hQ106, l106, y106, z106, A106⟩, st106⟩ := X102.virtualBackS hx (y := yn44) (z := yn44) hown0 (mvT hZ0 (w83 hw)) (mvT hZ0 (w84 hw)) (notFace_of_selects (args := #[]) (mvT hZ0 (w86 hw))) (mvT hZ0 (w86 hw)) (mvT hZ0 (w85 hw)) (by decide) (backOfSH (W := 3) (rm_subW l Z a0 hw [] a 0 (fi x cs) t kb cs cS fm h102 n0 (Nat.le_trans Z0 K102.1) O105 S_cs hcS S_fm hfm S_ad S_hi S_lo F104 (Nat.zero_le _) (by omega) (by omega) hcap) hZ0 (w87 hw) (w8 hw) (by decide) (by decide) hEL R103.1) q106a q106c (g := (mkF m 33 #[.val (.ref a), .val (.int x), .val (.int (Int32.ofNat (fi x cs)))] [(.int (Int32.ofNat (fi x cs))), (.int (0 : Int32)), (.ref a), (.int (0 : Int32)), (.ref b102), (.ref b102)])) rfl (by rw [hml]; rfl) (Steps.refl _) (argsL := [(.int (0 : Int32)), (.int (Int32.ofNat (fi x cs)))]) (rest := [(.int (0 : Int32)), (.ref b102), (.ref b102)]) (lenOf pd26 rfl) rfl (wq rfl) (D_ d46_33) (fun _ _ => ⟨rfl, e102, (nb rfl), (nb rfl)⟩)
  dsimp only [Pt.U, Pt.locs, Pt.cells, Pt.slots] at X106' hS106' hgr106 l106 y106 z106 st106 hQ106 A106
  subst l106 y106 z106
  obtain ⟨X106, hS106, hZ106, hown106⟩ := rebS hS0 (by rw [e102]; exact (Nat.le_trans hk0 K102.1)) X106' hS106' hgr106 hZ0 hown0
  obtain ⟨r_107, t2_108, kb2_109, rfl, Nq106, K106, P106_0⟩ := hQ106
  have N106 := Fr.app N101 Nq106
  have R110 : CHr Z EL_1 s.vm h0 T106.vm T106.heap := R103.trans A106
  have hk106 : T106.heap.size ≤ T106.heap.size := Nat.le_refl _
  have F112 : Arv Z T106.heap b102 k102 (.object "java/lang/String") (2 : Int32) [.null, .null] .null := (G102.keep K106 nin0)
  have nb111 := own_nSR (w7 hw) P106_0 F112
  obtain ⟨cl113, Ar113, q113, S113, M113, H113, F113g⟩ := id F112
  have hin113 : ¬ ((0 : Int32) < 0 ∨ cl113.slots.size ≤ ((0 : Int32)).toNatClampNeg) := inb_of S113 ⟨by decide, by decide⟩
  obtain ⟨T113, h113, X113, e113, Wr113, st113⟩ := stR X106 hx hZ106 rfl Ar113 (j := (0 : Int32)) hin113 rfl (Sto.ofV Ar113 q113 Ov102 (Ins.self P106_0.1)) (g := (mkF m 36 #[.val (.ref a), .val (.int x), .val (.int (Int32.ofNat (fi x cs)))] [(.ref r_107), (.int (0 : Int32)), (.ref b102), (.ref b102)])) rfl rfl (D_ d46_36)
  have G113 : Arv Z h113 b102 k102 (.object "java/lang/String") (2 : Int32) [(.ref r_107), .null] .null := Arv.set Ar113 q113 S113 M113 H113 F113g rfl Wr113 0 rfl (Nat.le_of_ble_eq_true rfl)
  have K113 := Keep.of_wr Wr113
  have N113 := Fr.snoc X113 N106 (Nat.le_trans Z0 (Nat.le_of_eq g102.symm))
  have R114 : CHr Z EL_1 s.vm h0 T106.vm h113 := R110.trans (CHr.keep K113 (sfS (Safe.arv hZ106.alike F112 (by intro q; cases q)) sf0) R110.1)
  have F115 : Str Z h113 a t kb cs := ((F104.keep K106 nin0 nin0).keep K113 (ninS (Nat.ne_of_lt (Nat.lt_of_lt_of_le hS.lt (Nat.le_of_eq g102.symm))) nin0) (ninS (Nat.ne_of_lt (Nat.lt_of_lt_of_le hS.lt2 (Nat.le_of_eq g102.symm))) nin0))
  have O116 : Old Z n0 h113 := ((O105.keep K106 all0).keep K113 (allS (Nat.le_trans Z0 (Nat.le_of_eq g102.symm)) all0))
  have z118 : n0 ≤ h113.size := (Nat.le_trans Z0 (Nat.le_trans (Nat.le_trans K102.1 K106.1) K113.1))
  obtain ⟨cq117, kq117, q117a, q117b, q117c⟩ := isOf hZ106 e113 F115.1
  obtain ⟨_, _, ⟨T117, L117, k117, n117⟩, -, X117', hS117', hgr117, ⟨Lc117, hQ117, l117, y117, z117, A117⟩, st117⟩ := X113.virtualBackS hx (y := yn45) (z := yn45) hown106 (mvT hZ106 (w102 hw)) (mvT hZ106 (w103 hw)) (notFace_of_selects (args := #[]) (mvT hZ106 (w105 hw))) (mvT hZ106 (w105 hw)) (mvT hZ106 (w104 hw)) (by decide) (backOfSH (W := 3) (rm_subI l Z a0 hw [] a ((fi x cs) + 1) t kb cs cS fm h113 n0 z118 O116 S_cs hcS S_fm hfm S_ad S_hi S_lo F115 (Nat.succ_pos _) (by omega) hcap) hZ106 (w106 hw) (w8 hw) (by decide) (by decide) hEL R114.1) q117a q117c (g := (mkF m 43 #[.val (.ref a), .val (.int x), .val (.int (Int32.ofNat (fi x cs)))] [(.int (Int32.ofNat ((fi x cs) + 1))), (.ref a), (.int (1 : Int32)), (.ref b102), (.ref b102)])) rfl (by rw [hml]; rfl) (Steps.refl _) (argsL := [(.int (Int32.ofNat ((fi x cs) + 1)))]) (rest := [(.int (1 : Int32)), (.ref b102), (.ref b102)]) (lenOf pd27 rfl) rfl (wq rfl) (D_ d46_43) (fun _ _ => ⟨rfl, e113, (nb rfl), (nb rfl)⟩)
  dsimp only [Pt.U, Pt.locs, Pt.cells, Pt.slots] at X117' hS117' hgr117 l117 y117 z117 st117 hQ117 A117
  subst l117 y117 z117
  obtain ⟨X117, hS117, hZ117, hown117⟩ := rebS hS106 (by rw [e113]; exact (Nat.le_trans hk106 K113.1)) X117' hS117' hgr117 hZ106 hown106
  obtain ⟨r_119, t2_120, kb2_121, rfl, Nq117, K117, P117_0⟩ := hQ117
  have N117 := Fr.app N113 Nq117
  have R122 : CHr Z EL_1 s.vm h0 T117.vm T117.heap := R114.trans A117
  have hk117 : T117.heap.size ≤ T117.heap.size := Nat.le_refl _
  have F124 : Arv Z T117.heap b102 k102 (.object "java/lang/String") (2 : Int32) [(.ref r_107), .null] .null := (G113.keep K117 nin0)
  have nb123 := own_nSR (w7 hw) P117_0 F124
  obtain ⟨cl125, Ar125, q125, S125, M125, H125, F125g⟩ := id F124
  have hin125 : ¬ ((1 : Int32) < 0 ∨ cl125.slots.size ≤ ((1 : Int32)).toNatClampNeg) := inb_of S125 ⟨by decide, by decide⟩
  obtain ⟨T125, h125, X125, e125, Wr125, st125⟩ := stR X117 hx hZ117 rfl Ar125 (j := (1 : Int32)) hin125 rfl (Sto.ofV Ar125 q125 Ov102 (Ins.self P117_0.1)) (g := (mkF m 46 #[.val (.ref a), .val (.int x), .val (.int (Int32.ofNat (fi x cs)))] [(.ref r_119), (.int (1 : Int32)), (.ref b102), (.ref b102)])) rfl rfl (D_ d46_46)
  have G125 : Arv Z h125 b102 k102 (.object "java/lang/String") (2 : Int32) [(.ref r_107), (.ref r_119)] .null := Arv.set Ar125 q125 S125 M125 H125 F125g rfl Wr125 1 rfl (Nat.le_of_ble_eq_true rfl)
  have K125 := Keep.of_wr Wr125
  have N125 := Fr.snoc X125 N117 (Nat.le_trans Z0 (Nat.le_of_eq g102.symm))
  have R126 : CHr Z EL_1 s.vm h0 T117.vm h125 := R122.trans (CHr.keep K125 (sfS (Safe.arv hZ117.alike F124 (by intro q; cases q)) sf0) R122.1)
  have W127 : ∀ zQ, SS p e below T125 m 47 #[.val (.ref a), .val (.int x), .val (.int (Int32.ofNat (fi x cs)))] [(.ref b102)] zQ → Steps p.tables e below (s₁.setTop (entryFrame m #[(.ref a), (.int x)] 3)) zQ := by
    intro tt kt
    refine W0 tt ?_
    refine XS.aloadN X0.here hx rfl (D_ d46_0) rfl rfl ?_
    refine XS.iloadN X0.here hx rfl (D_ d46_1) rfl ?_
    refine st101.trans ?_
    refine XS.istoreN X101.here hx rfl (D_ d46_5) rfl (l' := #[.val (.ref a), .val (.int x), .val (.int (Int32.ofNat (fi x cs)))]) rfl ?_
    refine XS.iloadN X101.here hx rfl (D_ d46_6) rfl ?_
    refine XS.ifYes X101.here hx rfl (pc0 := 7) (pc' := 24) rfl (D_ d46_7) rfl ((if0 _ _).trans (flt (own_nneg (by omega))).2.1) (by decide) (by decide) ?_
    refine XS.iconst X101.here hx rfl (D_ d46_24) ?_
    refine st102 _ ?_
    refine XS.dup X102.here hx rfl (D_ d46_28) rfl rfl ?_
    refine XS.iconst X102.here hx rfl (D_ d46_29) ?_
    refine XS.aloadN X102.here hx rfl (D_ d46_30) rfl rfl ?_
    refine XS.iconst X102.here hx rfl (D_ d46_31) ?_
    refine XS.iloadN X102.here hx rfl (D_ d46_32) rfl ?_
    refine st106.trans ?_
    refine st113 _ ?_
    refine XS.dup X113.here hx rfl (D_ d46_37) rfl rfl ?_
    refine XS.iconst X113.here hx rfl (D_ d46_38) ?_
    refine XS.aloadN X113.here hx rfl (D_ d46_39) rfl rfl ?_
    refine XS.iloadN X113.here hx rfl (D_ d46_40) rfl ?_
    refine XS.iconst X113.here hx rfl (D_ d46_41) ?_
    refine XS.iadd X113.here hx rfl (D_ d46_42) rfl ?_
    show SS p e below T113 m 43 #[.val (.ref a), .val (.int x), .val (.int (Int32.ofNat (fi x cs)))] [(.int ((Int32.ofNat (fi x cs)) + (1 : Int32))), (.ref a), (.int (1 : Int32)), (.ref b102), (.ref b102)] _
    rw [show ((Int32.ofNat (fi x cs)) + (1 : Int32)) = (Int32.ofNat ((fi x cs) + 1)) from own_succ _]
    refine st117.trans ?_
    refine st125 _ ?_
    exact kt
  have F128 : Str Z h125 r_107 t2_108 kb2_109 ((cs.drop 0).take ((fi x cs) - 0)) := (((P106_0.keep K113 (ninS nb111.1 nin0) (ninS nb111.2 nin0)).keep K117 nin0 nin0).keep K125 (ninS nb111.1 nin0) (ninS nb111.2 nin0))
  have F129 : Str Z h125 r_119 t2_120 kb2_121 ((cs.drop ((fi x cs) + 1)).take (cs.length - ((fi x cs) + 1))) := (P117_0.keep K125 (ninS nb123.1 nin0) (ninS nb123.2 nin0))
  obtain ⟨fs, hr, hrun, hended, hRW⟩ := Jvm.Stand.leaveW X125 hS117 (by rw [e125]; exact (Nat.le_trans hk117 K125.1)) (v := some (.ref b102)) (fun h => by rw [Bd.returns] at h; cases h) (BodyLoose.notSynchronized Bd)
  refine ⟨_, _, W127 _ (own_retR X125 hx Bd.returns rfl rfl (D_ d46_47) hr), hrun, hended, _, _, rfl, ?_, own_chr (T := T125) R126 (CHv.at X125 hZ117 hEL R126.1) hh.symm e125, own_rw hRW (by decide) (by decide)⟩
  show Q_splitAt Z a x t kb cs cS fm h0 n0 _ T125.heap _
  rw [e125]
  exact ⟨b102, k102, r_107, t2_108, kb2_109, r_119, t2_120, kb2_121, rfl, N125, (Keep.trans (Keep.trans (Keep.trans (Keep.trans (Keep.trans (Keep.refl h0 []) K102 all0) K106 all0) K113 (allS (Or.inr (Nat.le_of_eq g102.symm)) all0)) K117 all0) K125 (allS (Or.inr (Nat.le_of_eq g102.symm)) all0)), G125, F128, F129⟩
def Q_pick (Z : State) (d : Int64) (k : Int32) (fg : Int32) (sp : Int32) (h0 : Heap) (n0 : Nat) (vQ_ : Option Value) (hQ_ : Heap) (LQ_ : List Loc) : Prop := ∃ rw : Int32, vQ_ = some (.int rw) ∧ Fr n0 LQ_ ∧ hQ_ = h0 ∧ C16 rw
theorem rm_pick (l : Launch) (Z : State) (a0 : Array Value) (hw : HW a0 Z) (ws : List Jvm.Cond) (d : Int64) (k : Int32) (fg : Int32) (sp : Int32) (h0 : Heap) (n0 : Nat) (Z0 : n0 ≤ h0.size) (hs1 : ¬ (sp < (0 : Int32))) (hs2 : ¬ ((65535 : Int32) < sp)) :
    CT l yn47 (Jvm.Cond.code yn47 method_2_code 5 (some .char) :: ws) (⟨0, 0, 0, 0⟩ : Room) #[(.long d), (.int k), (.int fg), (.int sp)] Z h0 (Q_pick Z d k fg sp h0 n0) := by
  refine MetFree.of_bodySF (plainFor_of_name pn_com_example_patents_via_api_patentsviaapi_cli_OptionsSplitAtFirstPinLaw) hisR ?_
  intro p e s m args below meth cO s₁ Bd hml hP hK
  obtain ⟨rfl, hZ, hh⟩ := hP
  have hx := Bd.exec
  have hby := Bd.bytes
  have hown : s.vm.findClass "com/example/patents_via_api/patentsviaapi/cli/OptionsSplitAtFirstPinLaw" = some m.cls := findClass_of_methodNamed Bd.named
  have hnm := (name_of_methodNamed Bd.named Bd.method).1
  have X0 : Stand p l e (⟨0, 0, 0, 0⟩ : Room) s m #[(.long d), (.int k), (.int fg), (.int sp)] below meth cO s₁ [] 0 0 := Stand.of_body Bd
  have e0 : s₁.heap = h0 := by rw [← hh, Bd.state]; rfl
  have N0 := Fr.nil n0
  have D_ : ∀ {i : Nat} {x}, decode method_2_code i = x → decode cO.code i = x := fun h => hb hby h
  have W0 : ∀ zQ, SS p e below s₁ m 0 #[.val (.long d), .second, .val (.int k), .val (.int fg), .val (.int sp)] [] zQ → Steps p.tables e below (s₁.setTop (entryFrame m #[(.long d), (.int k), (.int fg), (.int sp)] 5)) zQ := fun tt kt => castTop (ef_pick m d k fg sp) kt
  have W101 : ∀ zQ, SS p e below s₁ m 5 #[.val (.long d), .second, .val (.int k), .val (.int fg), .val (.int sp)] [(.int (((fg.toUInt32 >>> (k &&& 31).toUInt32).toInt32) &&& (1 : Int32)))] zQ → Steps p.tables e below (s₁.setTop (entryFrame m #[(.long d), (.int k), (.int fg), (.int sp)] 5)) zQ := by
    intro tt kt
    refine W0 tt ?_
    refine XS.iloadN X0.here hx rfl (D_ d47_0) rfl ?_
    refine XS.iloadN X0.here hx rfl (D_ d47_1) rfl ?_
    refine XS.iushr X0.here hx rfl (D_ d47_2) rfl ?_
    refine XS.iconst X0.here hx rfl (D_ d47_3) ?_
    refine XS.iand X0.here hx rfl (D_ d47_4) rfl ?_
    exact kt
  by_cases hc102 : (((fg.toUInt32 >>> (k &&& 31).toUInt32).toInt32) &&& (1 : Int32)) = (0 : Int32)
  ·
    have W103 : ∀ zQ, SS p e below s₁ m 23 #[.val (.long d), .second, .val (.int k), .val (.int fg), .val (.int sp)] [(.int (((((d.toUInt64 >>> (((16 : Int32) * k) &&& 0x3f).toInt64.toUInt64).toInt64) &&& (65535 : Int64)).toInt32).toUInt32.toUInt16.toUInt32.toInt32))] zQ → Steps p.tables e below (s₁.setTop (entryFrame m #[(.long d), (.int k), (.int fg), (.int sp)] 5)) zQ := by
      intro tt kt
      refine W101 tt ?_
      refine XS.ifYes X0.here hx rfl (pc0 := 5) (pc' := 11) rfl (D_ d47_5) rfl ((if0 _ _).trans (teq hc102).1) (by decide) (by decide) ?_
      refine XS.lloadN X0.here hx rfl (D_ d47_11) rfl ?_
      refine XS.bipush X0.here hx rfl (D_ d47_12) ?_
      refine XS.iloadN X0.here hx rfl (D_ d47_14) rfl ?_
      refine XS.imul X0.here hx rfl (D_ d47_15) rfl ?_
      refine XS.lushr X0.here hx rfl (D_ d47_16) rfl ?_
      refine X0.ldc2Long hx hown (mvT hZ (w5 hw)) (g := (mkF m 17 #[.val (.long d), .second, .val (.int k), .val (.int fg), .val (.int sp)] [(.long ((d.toUInt64 >>> (((16 : Int32) * k) &&& 0x3f).toInt64.toUInt64).toInt64))])) rfl (D_ d47_17) _ ?_
      refine XS.land X0.here hx rfl (D_ d47_20) rfl ?_
      refine XS.l2i X0.here hx rfl (D_ d47_21) rfl ?_
      refine XS.i2c X0.here hx rfl (D_ d47_22) rfl ?_
      exact kt
    obtain ⟨fs, hr, hrun, hended, hW, hsame⟩ := X0.leave (v := some (.int (nar .char (((((d.toUInt64 >>> (((16 : Int32) * k) &&& 0x3f).toInt64.toUInt64).toInt64) &&& (65535 : Int64)).toInt32).toUInt32.toUInt16.toUInt32.toInt32)))) (fun h => by rw [Bd.returns] at h; cases h)
    refine ⟨_, _, W103 _ (retN X0 hx (t := .char) Bd.returns (by simp) (D_ d47_23) hr), hrun, hended, _, _, rfl, ?_, ⟨_, rfl⟩, hW, hsame.mono (by decide) (by decide)⟩
    show Q_pick Z d k fg sp h0 n0 _ s₁.heap _
    rw [e0]
    exact ⟨(((((d.toUInt64 >>> (((16 : Int32) * k) &&& 0x3f).toInt64.toUInt64).toInt64) &&& (65535 : Int64)).toInt32).toUInt32.toUInt16.toUInt32.toInt32), (congrArg (fun q => some (Value.int q)) (own_nar16 (own_i2c16 _))), N0, rfl, (own_i2c16 _)⟩
  ·
    have W104 : ∀ zQ, SS p e below s₁ m 10 #[.val (.long d), .second, .val (.int k), .val (.int fg), .val (.int sp)] [(.int sp)] zQ → Steps p.tables e below (s₁.setTop (entryFrame m #[(.long d), (.int k), (.int fg), (.int sp)] 5)) zQ := by
      intro tt kt
      refine W101 tt ?_
      refine XS.ifNo X0.here hx rfl (D_ d47_5) rfl ((if0 _ _).trans (feq hc102).1) ?_
      refine XS.iload X0.here hx rfl (D_ d47_8) rfl ?_
      exact kt
    obtain ⟨fs, hr, hrun, hended, hW, hsame⟩ := X0.leave (v := some (.int (nar .char sp))) (fun h => by rw [Bd.returns] at h; cases h)
    refine ⟨_, _, W104 _ (retN X0 hx (t := .char) Bd.returns (by simp) (D_ d47_10) hr), hrun, hended, _, _, rfl, ?_, ⟨_, rfl⟩, hW, hsame.mono (by decide) (by decide)⟩
    show Q_pick Z d k fg sp h0 n0 _ s₁.heap _
    rw [e0]
    exact ⟨sp, (congrArg (fun q => some (Value.int q)) (own_nar16 ⟨hs1, hs2⟩)), N0, rfl, ⟨hs1, hs2⟩⟩
def Q_preB (Z : State) (a : Addr) (c : Addr) (k : Nat) (at_ : Nat) (t : Addr) (kb : ClassId) (rs : List Int32) (kc : ClassId) (y0 : Int32) (y1 : Int32) (y2 : Int32) (y3 : Int32) (cS : Int32) (fm : Value) (h0 : Heap) (n0 : Nat) (vQ_ : Option Value) (hQ_ : Heap) (LQ_ : List Loc) : Prop := vQ_ = some (.int (1 : Int32)) ∧ Fr n0 LQ_ ∧ hQ_ = h0
theorem rm_preB (l : Launch) (Z : State) (a0 : Array Value) (hw : HW a0 Z) (ws : List Jvm.Cond) (a : Addr) (c : Addr) (k : Nat) (at_ : Nat) (t : Addr) (kb : ClassId) (rs : List Int32) (kc : ClassId) (y0 : Int32) (y1 : Int32) (y2 : Int32) (y3 : Int32) (cS : Int32) (fm : Value) (h0 : Heap) (n0 : Nat) (Z0 : n0 ≤ h0.size) (O0 : Old Z n0 h0) (S_cs : Sta Z Z.heap "java/lang/String" "COMPACT_STRINGS" "Z" (.int cS)) (hcS : ¬ (cS = (0 : Int32))) (S_fm : Sta Z Z.heap "jdk/internal/util/Preconditions" "SIOOBE_FORMATTER" "Ljava/util/function/BiFunction;" fm) (hfm : fm.isRef = true) (S_ad : Sta Z Z.heap "java/lang/StringUTF16" "$assertionsDisabled" "Z" (.int (1 : Int32))) (S_hi : Sta Z Z.heap "java/lang/StringUTF16" "HI_BYTE_SHIFT" "I" (.int (0 : Int32))) (S_lo : Sta Z Z.heap "java/lang/StringUTF16" "LO_BYTE_SHIFT" "I" (.int (8 : Int32))) (hS : Str Z h0 a t kb rs) (V1 : Arv Z h0 c kc .char (4 : Int32) [(.int y0), (.int y1), (.int y2), (.int y3)] (.int (0 : Int32))) (hal : rs.length = at_) (ha4 : at_ ≤ 4) (hk3 : k < 3) (hp : ∀ i, i < at_ → rs.getD i 0 = [y0, y1, y2, y3].getD i 0) :
    CT l yn48 (Jvm.Cond.code yn48 method_3_code 4 (some .boolean) :: ws) (⟨5, 0, 0, 66⟩ : Room) #[(.ref a), (.int (Int32.ofNat k)), (.int (Int32.ofNat at_)), (.ref c)] Z h0 (Q_preB Z a c k at_ t kb rs kc y0 y1 y2 y3 cS fm h0 n0) := by
  refine MetFree.of_bodySF (plainFor_of_name pn_com_example_patents_via_api_patentsviaapi_cli_OptionsSplitAtFirstPinLaw) hisR ?_
  intro p e s m args below meth cO s₁ Bd hml hP hK
  obtain ⟨rfl, hZ, hh⟩ := hP
  have hx := Bd.exec
  have hby := Bd.bytes
  have hown : s.vm.findClass "com/example/patents_via_api/patentsviaapi/cli/OptionsSplitAtFirstPinLaw" = some m.cls := findClass_of_methodNamed Bd.named
  have hnm := (name_of_methodNamed Bd.named Bd.method).1
  have X0 : Stand p l e (⟨5, 0, 0, 66⟩ : Room) s m #[(.ref a), (.int (Int32.ofNat k)), (.int (Int32.ofNat at_)), (.ref c)] below meth cO s₁ [] 0 0 := Stand.of_body Bd
  have e0 : s₁.heap = h0 := by rw [← hh, Bd.state]; rfl
  have N0 := Fr.nil n0
  have D_ : ∀ {i : Nat} {x}, decode method_3_code i = x → decode cO.code i = x := fun h => hb hby h
  have W0 : ∀ zQ, SS p e below s₁ m 0 #[.val (.ref a), .val (.int (Int32.ofNat k)), .val (.int (Int32.ofNat at_)), .val (.ref c)] [] zQ → Steps p.tables e below (s₁.setTop (entryFrame m #[(.ref a), (.int (Int32.ofNat k)), (.int (Int32.ofNat at_)), (.ref c)] 4)) zQ := fun tt kt => castTop (ef_preB m a (Int32.ofNat k) (Int32.ofNat at_) c) kt
  have W101 : ∀ zQ, SS p e below s₁ m 2 #[.val (.ref a), .val (.int (Int32.ofNat k)), .val (.int (Int32.ofNat at_)), .val (.ref c)] [(.int (Int32.ofNat at_)), (.int (Int32.ofNat k))] zQ → Steps p.tables e below (s₁.setTop (entryFrame m #[(.ref a), (.int (Int32.ofNat k)), (.int (Int32.ofNat at_)), (.ref c)] 4)) zQ := by
    intro tt kt
    refine W0 tt ?_
    refine XS.iloadN X0.here hx rfl (D_ d48_0) rfl ?_
    refine XS.iloadN X0.here hx rfl (D_ d48_1) rfl ?_
    exact kt
  by_cases hc102 : (Int32.ofNat k) < (Int32.ofNat at_)
  ·
    have hlt : k < at_ := own_ltof (by omega) (by omega) hc102
    obtain ⟨cq103, kq103, q103a, q103b, q103c⟩ := isOf hZ e0 hS.1
    obtain ⟨_, _, ⟨T103, L103, k103, n103⟩, -, X103, ⟨Lc103, hQ103, l103, y103, z103⟩, st103⟩ := X0.virtualBack hx (y := yn8) (z := yn8) hown (mvT hZ (w134 hw)) (mvT hZ (w135 hw)) (notFace_of_selects (args := #[]) (mvT hZ (w137 hw))) (mvT hZ (w137 hw)) (mvT hZ (w136 hw)) (by decide) (backOf (W := 0) (rm_charAt l Z a0 hw [] a k t kb rs cS fm h0 n0 Z0 O0 S_cs hcS S_fm hfm S_ad S_hi S_lo hS (by omega)) hZ (w138 hw) (w8 hw) (by decide) (by decide)) q103a q103c (g := (mkF m 7 #[.val (.ref a), .val (.int (Int32.ofNat k)), .val (.int (Int32.ofNat at_)), .val (.ref c)] [(.int (Int32.ofNat k)), (.ref a)])) rfl (by rw [hml]; rfl) (Steps.refl _) (argsL := [(.int (Int32.ofNat k))]) (rest := []) (lenOf pd28 rfl) rfl (wq rfl) (D_ d48_7) (fun _ _ => ⟨rfl, e0, (nb rfl), (nb rfl)⟩)
    dsimp only [Pt.U, Pt.locs, Pt.cells, Pt.slots] at X103 l103 y103 z103 st103 hQ103
    subst l103 y103 z103
    obtain ⟨rfl, Nq103, eq103⟩ := hQ103
    have N103 := Fr.app N0 Nq103
    obtain ⟨cl104, Ar104, q104, S104, M104, H104, F104g⟩ := id V1
    have hin104 : ¬ ((Int32.ofNat k) < 0 ∨ cl104.slots.size ≤ ((Int32.ofNat k)).toNatClampNeg) := inb_of S104 ⟨own_nneg (by omega), own_lt (n := 4) (by omega) (by decide)⟩
    have hat104 : cl104.slots[((Int32.ofNat k)).toNatClampNeg]? = some (.int ([y0, y1, y2, y3].getD k 0)) := Has.at H104 hin104 (by rw [own_cl (by omega)]; exact own_mapat [y0, y1, y2, y3] k _ (show k < 4 by omega))
    have W105 : ∀ zQ, SS p e below T103 m 21 #[.val (.ref a), .val (.int (Int32.ofNat k)), .val (.int (Int32.ofNat at_)), .val (.ref c)] [(.int (1 : Int32))] zQ → Steps p.tables e below (s₁.setTop (entryFrame m #[(.ref a), (.int (Int32.ofNat k)), (.int (Int32.ofNat at_)), (.ref c)] 4)) zQ := by
      intro tt kt
      refine W101 tt ?_
      refine XS.icmpNo X0.here hx rfl (D_ d48_2) rfl (tlt hc102).2.1 ?_
      refine XS.aloadN X0.here hx rfl (D_ d48_5) rfl rfl ?_
      refine XS.iloadN X0.here hx rfl (D_ d48_6) rfl ?_
      refine st103.trans ?_
      refine XS.aloadN X103.here hx rfl (D_ d48_10) rfl rfl ?_
      refine XS.iloadN X103.here hx rfl (D_ d48_11) rfl ?_
      refine X103.caload hx (j := (Int32.ofNat k)) (v := (.int ([y0, y1, y2, y3].getD k 0))) (by first | exact Ar104.1 | (rw [eq103]; exact Ar104.1)) (State.isArrayOf_alike hZ.alike Ar104.2.1) Ar104.2.2 hin104 hat104 (g := (mkF m 12 #[.val (.ref a), .val (.int (Int32.ofNat k)), .val (.int (Int32.ofNat at_)), .val (.ref c)] [(.int (Int32.ofNat k)), (.ref c), (.int (rs.getD k 0))])) rfl rfl (D_ d48_12) _ ?_
      refine XS.icmpNo X103.here hx rfl (D_ d48_13) rfl (teq (hp k hlt)).2 ?_
      refine XS.iconst X103.here hx rfl (D_ d48_16) ?_
      refine XS.goto X103.here hx rfl (pc0 := 17) (pc' := 21) rfl (D_ d48_17) (by decide) (by decide) ?_
      exact kt
    obtain ⟨fs, hr, hrun, hended, hW, hsame⟩ := X103.leave (v := some (.int (nar .boolean (1 : Int32)))) (fun h => by rw [Bd.returns] at h; cases h)
    refine ⟨_, _, W105 _ (retN X103 hx (t := .boolean) Bd.returns (by simp) (D_ d48_21) hr), hrun, hended, _, _, rfl, ?_, ⟨_, rfl⟩, hW, hsame.mono (by decide) (by decide)⟩
    show Q_preB Z a c k at_ t kb rs kc y0 y1 y2 y3 cS fm h0 n0 _ T103.heap _
    rw [eq103]
    exact ⟨rfl, N103, rfl⟩
  ·
    have W106 : ∀ zQ, SS p e below s₁ m 21 #[.val (.ref a), .val (.int (Int32.ofNat k)), .val (.int (Int32.ofNat at_)), .val (.ref c)] [(.int (1 : Int32))] zQ → Steps p.tables e below (s₁.setTop (entryFrame m #[(.ref a), (.int (Int32.ofNat k)), (.int (Int32.ofNat at_)), (.ref c)] 4)) zQ := by
      intro tt kt
      refine W101 tt ?_
      refine XS.icmpYes X0.here hx rfl (pc0 := 2) (pc' := 16) rfl (D_ d48_2) rfl (flt hc102).2.1 (by decide) (by decide) ?_
      refine XS.iconst X0.here hx rfl (D_ d48_16) ?_
      refine XS.goto X0.here hx rfl (pc0 := 17) (pc' := 21) rfl (D_ d48_17) (by decide) (by decide) ?_
      exact kt
    obtain ⟨fs, hr, hrun, hended, hW, hsame⟩ := X0.leave (v := some (.int (nar .boolean (1 : Int32)))) (fun h => by rw [Bd.returns] at h; cases h)
    refine ⟨_, _, W106 _ (retN X0 hx (t := .boolean) Bd.returns (by simp) (D_ d48_21) hr), hrun, hended, _, _, rfl, ?_, ⟨_, rfl⟩, hW, hsame.mono (by decide) (by decide)⟩
    show Q_preB Z a c k at_ t kb rs kc y0 y1 y2 y3 cS fm h0 n0 _ s₁.heap _
    rw [e0]
    exact ⟨rfl, N0, rfl⟩
def Q_sufB (Z : State) (a : Addr) (c : Addr) (k : Nat) (at_ : Nat) (n : Nat) (t : Addr) (kb : ClassId) (rs : List Int32) (kc : ClassId) (y0 : Int32) (y1 : Int32) (y2 : Int32) (y3 : Int32) (cS : Int32) (fm : Value) (h0 : Heap) (n0 : Nat) (vQ_ : Option Value) (hQ_ : Heap) (LQ_ : List Loc) : Prop := vQ_ = some (.int (1 : Int32)) ∧ Fr n0 LQ_ ∧ hQ_ = h0
theorem rm_sufB (l : Launch) (Z : State) (a0 : Array Value) (hw : HW a0 Z) (ws : List Jvm.Cond) (a : Addr) (c : Addr) (k : Nat) (at_ : Nat) (n : Nat) (t : Addr) (kb : ClassId) (rs : List Int32) (kc : ClassId) (y0 : Int32) (y1 : Int32) (y2 : Int32) (y3 : Int32) (cS : Int32) (fm : Value) (h0 : Heap) (n0 : Nat) (Z0 : n0 ≤ h0.size) (O0 : Old Z n0 h0) (S_cs : Sta Z Z.heap "java/lang/String" "COMPACT_STRINGS" "Z" (.int cS)) (hcS : ¬ (cS = (0 : Int32))) (S_fm : Sta Z Z.heap "jdk/internal/util/Preconditions" "SIOOBE_FORMATTER" "Ljava/util/function/BiFunction;" fm) (hfm : fm.isRef = true) (S_ad : Sta Z Z.heap "java/lang/StringUTF16" "$assertionsDisabled" "Z" (.int (1 : Int32))) (S_hi : Sta Z Z.heap "java/lang/StringUTF16" "HI_BYTE_SHIFT" "I" (.int (0 : Int32))) (S_lo : Sta Z Z.heap "java/lang/StringUTF16" "LO_BYTE_SHIFT" "I" (.int (8 : Int32))) (hS : Str Z h0 a t kb rs) (V1 : Arv Z h0 c kc .char (4 : Int32) [(.int y0), (.int y1), (.int y2), (.int y3)] (.int (0 : Int32))) (hal : rs.length = n - (at_ + 1)) (hn4 : n ≤ 4) (ha4 : at_ < n) (hk3 : k < 3) (hp : ∀ i, at_ + 1 + i < n → rs.getD i 0 = [y0, y1, y2, y3].getD (at_ + 1 + i) 0) :
    CT l yn49 (Jvm.Cond.code yn49 method_4_code 6 (some .boolean) :: ws) (⟨5, 0, 0, 66⟩ : Room) #[(.ref a), (.int (Int32.ofNat k)), (.int (Int32.ofNat at_)), (.int (Int32.ofNat n)), (.ref c)] Z h0 (Q_sufB Z a c k at_ n t kb rs kc y0 y1 y2 y3 cS fm h0 n0) := by
  refine MetFree.of_bodySF (plainFor_of_name pn_com_example_patents_via_api_patentsviaapi_cli_OptionsSplitAtFirstPinLaw) hisR ?_
  intro p e s m args below meth cO s₁ Bd hml hP hK
  obtain ⟨rfl, hZ, hh⟩ := hP
  have hx := Bd.exec
  have hby := Bd.bytes
  have hown : s.vm.findClass "com/example/patents_via_api/patentsviaapi/cli/OptionsSplitAtFirstPinLaw" = some m.cls := findClass_of_methodNamed Bd.named
  have hnm := (name_of_methodNamed Bd.named Bd.method).1
  have X0 : Stand p l e (⟨5, 0, 0, 66⟩ : Room) s m #[(.ref a), (.int (Int32.ofNat k)), (.int (Int32.ofNat at_)), (.int (Int32.ofNat n)), (.ref c)] below meth cO s₁ [] 0 0 := Stand.of_body Bd
  have e0 : s₁.heap = h0 := by rw [← hh, Bd.state]; rfl
  have N0 := Fr.nil n0
  have D_ : ∀ {i : Nat} {x}, decode method_4_code i = x → decode cO.code i = x := fun h => hb hby h
  have W0 : ∀ zQ, SS p e below s₁ m 0 #[.val (.ref a), .val (.int (Int32.ofNat k)), .val (.int (Int32.ofNat at_)), .val (.int (Int32.ofNat n)), .val (.ref c), .unset] [] zQ → Steps p.tables e below (s₁.setTop (entryFrame m #[(.ref a), (.int (Int32.ofNat k)), (.int (Int32.ofNat at_)), (.int (Int32.ofNat n)), (.ref c)] 6)) zQ := fun tt kt => castTop (ef_sufB m a (Int32.ofNat k) (Int32.ofNat at_) (Int32.ofNat n) c) kt
  have W101 : ∀ zQ, SS p e below s₁ m 10 #[.val (.ref a), .val (.int (Int32.ofNat k)), .val (.int (Int32.ofNat at_)), .val (.int (Int32.ofNat n)), .val (.ref c), .val (.int (Int32.ofNat (at_ + 1 + k)))] [(.int (Int32.ofNat n)), (.int (Int32.ofNat (at_ + 1 + k)))] zQ → Steps p.tables e below (s₁.setTop (entryFrame m #[(.ref a), (.int (Int32.ofNat k)), (.int (Int32.ofNat at_)), (.int (Int32.ofNat n)), (.ref c)] 6)) zQ := by
    intro tt kt
    refine W0 tt ?_
    refine XS.iloadN X0.here hx rfl (D_ d49_0) rfl ?_
    refine XS.iconst X0.here hx rfl (D_ d49_1) ?_
    refine XS.iadd X0.here hx rfl (D_ d49_2) rfl ?_
    show SS p e below s₁ m 3 #[.val (.ref a), .val (.int (Int32.ofNat k)), .val (.int (Int32.ofNat at_)), .val (.int (Int32.ofNat n)), .val (.ref c), .unset] [(.int ((Int32.ofNat at_) + (1 : Int32)))] _
    rw [show ((Int32.ofNat at_) + (1 : Int32)) = (Int32.ofNat (at_ + 1)) from own_succ _]
    refine XS.iloadN X0.here hx rfl (D_ d49_3) rfl ?_
    refine XS.iadd X0.here hx rfl (D_ d49_4) rfl ?_
    show SS p e below s₁ m 5 #[.val (.ref a), .val (.int (Int32.ofNat k)), .val (.int (Int32.ofNat at_)), .val (.int (Int32.ofNat n)), .val (.ref c), .unset] [(.int ((Int32.ofNat (at_ + 1)) + (Int32.ofNat k)))] _
    rw [show ((Int32.ofNat (at_ + 1)) + (Int32.ofNat k)) = (Int32.ofNat (at_ + 1 + k)) from (Int32.ofNat_add _ _).symm]
    refine XS.istore X0.here hx rfl (D_ d49_5) rfl (l' := #[.val (.ref a), .val (.int (Int32.ofNat k)), .val (.int (Int32.ofNat at_)), .val (.int (Int32.ofNat n)), .val (.ref c), .val (.int (Int32.ofNat (at_ + 1 + k)))]) rfl ?_
    refine XS.iload X0.here hx rfl (D_ d49_7) rfl ?_
    refine XS.iloadN X0.here hx rfl (D_ d49_9) rfl ?_
    exact kt
  by_cases hc102 : (Int32.ofNat (at_ + 1 + k)) < (Int32.ofNat n)
  ·
    have hlt : (at_ + 1 + k) < n := own_ltof (by omega) (by omega) hc102
    obtain ⟨cq103, kq103, q103a, q103b, q103c⟩ := isOf hZ e0 hS.1
    obtain ⟨_, _, ⟨T103, L103, k103, n103⟩, -, X103, ⟨Lc103, hQ103, l103, y103, z103⟩, st103⟩ := X0.virtualBack hx (y := yn8) (z := yn8) hown (mvT hZ (w134 hw)) (mvT hZ (w135 hw)) (notFace_of_selects (args := #[]) (mvT hZ (w137 hw))) (mvT hZ (w137 hw)) (mvT hZ (w136 hw)) (by decide) (backOf (W := 0) (rm_charAt l Z a0 hw [] a k t kb rs cS fm h0 n0 Z0 O0 S_cs hcS S_fm hfm S_ad S_hi S_lo hS (by omega)) hZ (w138 hw) (w8 hw) (by decide) (by decide)) q103a q103c (g := (mkF m 15 #[.val (.ref a), .val (.int (Int32.ofNat k)), .val (.int (Int32.ofNat at_)), .val (.int (Int32.ofNat n)), .val (.ref c), .val (.int (Int32.ofNat (at_ + 1 + k)))] [(.int (Int32.ofNat k)), (.ref a)])) rfl (by rw [hml]; rfl) (Steps.refl _) (argsL := [(.int (Int32.ofNat k))]) (rest := []) (lenOf pd28 rfl) rfl (wq rfl) (D_ d49_15) (fun _ _ => ⟨rfl, e0, (nb rfl), (nb rfl)⟩)
    dsimp only [Pt.U, Pt.locs, Pt.cells, Pt.slots] at X103 l103 y103 z103 st103 hQ103
    subst l103 y103 z103
    obtain ⟨rfl, Nq103, eq103⟩ := hQ103
    have N103 := Fr.app N0 Nq103
    obtain ⟨cl104, Ar104, q104, S104, M104, H104, F104g⟩ := id V1
    have hin104 : ¬ ((Int32.ofNat (at_ + 1 + k)) < 0 ∨ cl104.slots.size ≤ ((Int32.ofNat (at_ + 1 + k))).toNatClampNeg) := inb_of S104 ⟨own_nneg (by omega), own_lt (n := 4) (by omega) (by decide)⟩
    have hat104 : cl104.slots[((Int32.ofNat (at_ + 1 + k))).toNatClampNeg]? = some (.int ([y0, y1, y2, y3].getD (at_ + 1 + k) 0)) := Has.at H104 hin104 (by rw [own_cl (by omega)]; exact own_mapat [y0, y1, y2, y3] (at_ + 1 + k) _ (show (at_ + 1 + k) < 4 by omega))
    have W105 : ∀ zQ, SS p e below T103 m 31 #[.val (.ref a), .val (.int (Int32.ofNat k)), .val (.int (Int32.ofNat at_)), .val (.int (Int32.ofNat n)), .val (.ref c), .val (.int (Int32.ofNat (at_ + 1 + k)))] [(.int (1 : Int32))] zQ → Steps p.tables e below (s₁.setTop (entryFrame m #[(.ref a), (.int (Int32.ofNat k)), (.int (Int32.ofNat at_)), (.int (Int32.ofNat n)), (.ref c)] 6)) zQ := by
      intro tt kt
      refine W101 tt ?_
      refine XS.icmpNo X0.here hx rfl (D_ d49_10) rfl (tlt hc102).2.1 ?_
      refine XS.aloadN X0.here hx rfl (D_ d49_13) rfl rfl ?_
      refine XS.iloadN X0.here hx rfl (D_ d49_14) rfl ?_
      refine st103.trans ?_
      refine XS.aload X103.here hx rfl (D_ d49_18) rfl rfl ?_
      refine XS.iload X103.here hx rfl (D_ d49_20) rfl ?_
      refine X103.caload hx (j := (Int32.ofNat (at_ + 1 + k))) (v := (.int ([y0, y1, y2, y3].getD (at_ + 1 + k) 0))) (by first | exact Ar104.1 | (rw [eq103]; exact Ar104.1)) (State.isArrayOf_alike hZ.alike Ar104.2.1) Ar104.2.2 hin104 hat104 (g := (mkF m 22 #[.val (.ref a), .val (.int (Int32.ofNat k)), .val (.int (Int32.ofNat at_)), .val (.int (Int32.ofNat n)), .val (.ref c), .val (.int (Int32.ofNat (at_ + 1 + k)))] [(.int (Int32.ofNat (at_ + 1 + k))), (.ref c), (.int (rs.getD k 0))])) rfl rfl (D_ d49_22) _ ?_
      refine XS.icmpNo X103.here hx rfl (D_ d49_23) rfl (teq (hp k hlt)).2 ?_
      refine XS.iconst X103.here hx rfl (D_ d49_26) ?_
      refine XS.goto X103.here hx rfl (pc0 := 27) (pc' := 31) rfl (D_ d49_27) (by decide) (by decide) ?_
      exact kt
    obtain ⟨fs, hr, hrun, hended, hW, hsame⟩ := X103.leave (v := some (.int (nar .boolean (1 : Int32)))) (fun h => by rw [Bd.returns] at h; cases h)
    refine ⟨_, _, W105 _ (retN X103 hx (t := .boolean) Bd.returns (by simp) (D_ d49_31) hr), hrun, hended, _, _, rfl, ?_, ⟨_, rfl⟩, hW, hsame.mono (by decide) (by decide)⟩
    show Q_sufB Z a c k at_ n t kb rs kc y0 y1 y2 y3 cS fm h0 n0 _ T103.heap _
    rw [eq103]
    exact ⟨rfl, N103, rfl⟩
  ·
    have W106 : ∀ zQ, SS p e below s₁ m 31 #[.val (.ref a), .val (.int (Int32.ofNat k)), .val (.int (Int32.ofNat at_)), .val (.int (Int32.ofNat n)), .val (.ref c), .val (.int (Int32.ofNat (at_ + 1 + k)))] [(.int (1 : Int32))] zQ → Steps p.tables e below (s₁.setTop (entryFrame m #[(.ref a), (.int (Int32.ofNat k)), (.int (Int32.ofNat at_)), (.int (Int32.ofNat n)), (.ref c)] 6)) zQ := by
      intro tt kt
      refine W101 tt ?_
      refine XS.icmpYes X0.here hx rfl (pc0 := 10) (pc' := 26) rfl (D_ d49_10) rfl (flt hc102).2.1 (by decide) (by decide) ?_
      refine XS.iconst X0.here hx rfl (D_ d49_26) ?_
      refine XS.goto X0.here hx rfl (pc0 := 27) (pc' := 31) rfl (D_ d49_27) (by decide) (by decide) ?_
      exact kt
    obtain ⟨fs, hr, hrun, hended, hW, hsame⟩ := X0.leave (v := some (.int (nar .boolean (1 : Int32)))) (fun h => by rw [Bd.returns] at h; cases h)
    refine ⟨_, _, W106 _ (retN X0 hx (t := .boolean) Bd.returns (by simp) (D_ d49_31) hr), hrun, hended, _, _, rfl, ?_, ⟨_, rfl⟩, hW, hsame.mono (by decide) (by decide)⟩
    show Q_sufB Z a c k at_ n t kb rs kc y0 y1 y2 y3 cS fm h0 n0 _ s₁.heap _
    rw [e0]
    exact ⟨rfl, N0, rfl⟩
theorem rm_mk {p : Program} {l : Launch} {e : Env} {R : Room} {s : State} {m : MethodId} {args : Array Value} {below : List Frame} {meth : Method} {cO : Code} {cells slots : Nat} {Z : State} {a0 : Array Value} (hx : p.tables.exec = Jvm.exec) (hZ : Z.Warmed39 s.vm) (hw : HW a0 Z) (hby : cO.code = code) (hml : cO.maxLocals = 12) (hown : s.vm.findClass "com/example/patents_via_api/patentsviaapi/cli/OptionsSplitAtFirstPinLaw" = some m.cls) (hRf : 0 ≤ R.frames) (hRl : 0 ≤ R.locals) (hRc : cells + 1 ≤ R.cells) (hRs : slots + 4 ≤ R.slots) (d : Int64) (si : Int32) (fg : Int32) (sp : Int32) (n : Nat) (c : Addr) (kc : ClassId) (pz : Int32) (y0 : Int32) (y1 : Int32) (y2 : Int32) (y3 : Int32) (n0 : Nat)  (T0 : State) (L0 : List Loc) (h0 : Heap) (X0 : Stand p l e R s m args below meth cO T0 L0 cells slots) (e0 : T0.heap = h0) (N0 : Fr n0 L0) (Z0 : n0 ≤ h0.size) (V1 : Arv Z h0 c kc .char (4 : Int32) [(.int y0), (.int y1), (.int y2), (.int y3)] (.int (0 : Int32))) (h1 : 1 ≤ n) (h4 : n ≤ 4) (hq : Q4 y0 y1 y2 y3) :
    ∃ (T' : State) (L' : List Loc) (h' : Heap), Stand p l e R s m args below meth cO T' L' (cells + 1) (slots + 4) ∧ T'.heap = h' ∧ ∃ ar : Addr, ∃ ka : ClassId, ∃ cs : List Int32, Fr n0 L' ∧ Keep h0 h' [] ∧ h0.size ≤ ar ∧ Arv Z h' ar ka .char (Int32.ofNat cs.length) (cs.map Value.int) (.int (0 : Int32)) ∧ cs = ([y0, y1, y2, y3].take n) ∧ ∀ zQ, SS p e below T' m 201 #[.val (.long d), .second, .val (.int si), .val (.int fg), .val (.int sp), .val (.int (Int32.ofNat n)), .val (.ref c), .val (.int pz), .val (.ref ar), .unset, .unset, .unset] [] zQ → SS p e below T0 m 84 #[.val (.long d), .second, .val (.int si), .val (.int fg), .val (.int sp), .val (.int (Int32.ofNat n)), .val (.ref c), .val (.int pz), .unset, .unset, .unset, .unset] [] zQ := by
  have D_ : ∀ {i : Nat} {x}, decode code i = x → decode cO.code i = x := fun h => hb hby h
  have W0 : ∀ zQ, SS p e below T0 m 84 #[.val (.long d), .second, .val (.int si), .val (.int fg), .val (.int sp), .val (.int (Int32.ofNat n)), .val (.ref c), .val (.int pz), .unset, .unset, .unset, .unset] [] zQ → Steps p.tables e below (T0.setTop (mkF m 84 #[.val (.long d), .second, .val (.int si), .val (.int fg), .val (.int sp), .val (.int (Int32.ofNat n)), .val (.ref c), .val (.int pz), .unset, .unset, .unset, .unset] [])) zQ := fun tt kt => kt
  have W101 : ∀ zQ, SS p e below T0 m 87 #[.val (.long d), .second, .val (.int si), .val (.int fg), .val (.int sp), .val (.int (Int32.ofNat n)), .val (.ref c), .val (.int pz), .unset, .unset, .unset, .unset] [(.int (1 : Int32)), (.int (Int32.ofNat n))] zQ → Steps p.tables e below (T0.setTop (mkF m 84 #[.val (.long d), .second, .val (.int si), .val (.int fg), .val (.int sp), .val (.int (Int32.ofNat n)), .val (.ref c), .val (.int pz), .unset, .unset, .unset, .unset] [])) zQ := by
    intro tt kt
    refine W0 tt ?_
    refine XS.iload X0.here hx rfl (D_ at_84) rfl ?_
    refine XS.iconst X0.here hx rfl (D_ at_86) ?_
    exact kt
  by_cases hc102 : (Int32.ofNat n) = (1 : Int32)
  ·
    have hnk : n = 1 := own_ceq (k := 1) (by omega) (by decide) hc102
    obtain ⟨T103, h103, k103, X103, e103, E103, A103, st103⟩ := newP X0 hx hZ (aty := .char) (w0 hw) e0 (g := (mkF m 91 #[.val (.long d), .second, .val (.int si), .val (.int fg), .val (.int sp), .val (.int (Int32.ofNat n)), .val (.ref c), .val (.int pz), .unset, .unset, .unset, .unset] [(.int (1 : Int32))])) rfl (D_ at_91) (n := (1 : Int32)) rfl (by decide) (cap := 1) (by decide) (by decide) (by omega) (by omega)
    obtain ⟨b103, g103⟩ : ∃ z, z = h0.size := ⟨_, rfl⟩
    rw [← g103] at A103 st103
    have K103 := (Keep.refl h0 []).ext E103
    have G103 : Arv Z h103 b103 k103 .char (1 : Int32) [(.int (0 : Int32))] (.int (0 : Int32)) := (Arv.new A103 (by decide)).pad (pad_rep [] (.int (0 : Int32)) 1)
    have F104 : Arv Z h103 c kc .char (4 : Int32) [(.int y0), (.int y1), (.int y2), (.int y3)] (.int (0 : Int32)) := (V1.keep K103 nin0)
    obtain ⟨cl105, Ar105, q105, S105, M105, H105, F105g⟩ := id F104
    have hin105 : ¬ ((0 : Int32) < 0 ∨ cl105.slots.size ≤ ((0 : Int32)).toNatClampNeg) := inb_of S105 ⟨by decide, by decide⟩
    have hat105 : cl105.slots[((0 : Int32)).toNatClampNeg]? = some (.int y0) := Has.at H105 hin105 rfl
    obtain ⟨cl106, Ar106, q106, S106, M106, H106, F106g⟩ := id G103
    have hin106 : ¬ ((0 : Int32) < 0 ∨ cl106.slots.size ≤ ((0 : Int32)).toNatClampNeg) := inb_of S106 ⟨by decide, by decide⟩
    obtain ⟨T106, h106, X106, e106, Wr106, st106⟩ := stC X103 hx hZ e103 Ar106 (j := (0 : Int32)) hin106 (g := (mkF m 99 #[.val (.long d), .second, .val (.int si), .val (.int fg), .val (.int sp), .val (.int (Int32.ofNat n)), .val (.ref c), .val (.int pz), .unset, .unset, .unset, .unset] [(.int y0), (.int (0 : Int32)), (.ref b103), (.ref b103)])) rfl rfl (D_ at_99)
    have G106 : Arv Z h106 b103 k103 .char (1 : Int32) [(.int (nar .char y0))] (.int (0 : Int32)) := Arv.set Ar106 q106 S106 M106 H106 F106g (fits_nar_char _) Wr106 0 rfl (Nat.le_of_ble_eq_true rfl)
    have K106 := Keep.of_wr Wr106
    have N106 := Fr.snoc X106 N0 (Nat.le_trans Z0 (Nat.le_of_eq g103.symm))
    have J106 : Arv Z h106 b103 k103 .char (1 : Int32) [(.int y0)] (.int (0 : Int32)) := by rw [own_nar16 (hq _ (List.mem_of_getElem? (i := 0) rfl))] at G106; exact G106
    have W107 : ∀ zQ, SS p e below T106 m 201 #[.val (.long d), .second, .val (.int si), .val (.int fg), .val (.int sp), .val (.int (Int32.ofNat n)), .val (.ref c), .val (.int pz), .val (.ref b103), .unset, .unset, .unset] [] zQ → Steps p.tables e below (T0.setTop (mkF m 84 #[.val (.long d), .second, .val (.int si), .val (.int fg), .val (.int sp), .val (.int (Int32.ofNat n)), .val (.ref c), .val (.int pz), .unset, .unset, .unset, .unset] [])) zQ := by
      intro tt kt
      refine W101 tt ?_
      refine XS.icmpNo X0.here hx rfl (D_ at_87) rfl (teq hc102).2 ?_
      refine XS.iconst X0.here hx rfl (D_ at_90) ?_
      refine st103 _ ?_
      refine XS.dup X103.here hx rfl (D_ at_93) rfl rfl ?_
      refine XS.iconst X103.here hx rfl (D_ at_94) ?_
      refine XS.aload X103.here hx rfl (D_ at_95) rfl rfl ?_
      refine XS.iconst X103.here hx rfl (D_ at_97) ?_
      refine X103.caload hx (j := (0 : Int32)) (v := (.int y0)) (by first | exact Ar105.1 | (rw [e103]; exact Ar105.1)) (State.isArrayOf_alike hZ.alike Ar105.2.1) Ar105.2.2 hin105 hat105 (g := (mkF m 98 #[.val (.long d), .second, .val (.int si), .val (.int fg), .val (.int sp), .val (.int (Int32.ofNat n)), .val (.ref c), .val (.int pz), .unset, .unset, .unset, .unset] [(.int (0 : Int32)), (.ref c), (.int (0 : Int32)), (.ref b103), (.ref b103)])) rfl rfl (D_ at_98) _ ?_
      refine st106 _ ?_
      refine XS.astore X106.here hx rfl (D_ at_100) rfl rfl (l' := #[.val (.long d), .second, .val (.int si), .val (.int fg), .val (.int sp), .val (.int (Int32.ofNat n)), .val (.ref c), .val (.int pz), .val (.ref b103), .unset, .unset, .unset]) rfl ?_
      refine XS.goto X106.here hx rfl (pc0 := 102) (pc' := 201) rfl (D_ at_102) (by decide) (by decide) ?_
      exact kt
    have hR108 : Arv Z h106 b103 k103 .char (Int32.ofNat ([y0, y1, y2, y3].take n).length) (([y0, y1, y2, y3].take n).map Value.int) (.int (0 : Int32)) := by rw [hnk]; exact J106
    exact ⟨T106, _, h106, (X106.more (by first | omega | (dsimp only [Pt.cells, Pt.slots]; omega)) (by first | omega | (dsimp only [Pt.cells, Pt.slots]; omega))), e106, b103, k103, ([y0, y1, y2, y3].take n), N106, (Keep.trans (Keep.trans (Keep.refl h0 []) K103 all0) K106 (allS (Or.inr (Nat.le_of_eq g103.symm)) all0)), (Nat.le_of_eq g103.symm), hR108, rfl, fun tt kt => W107 _ kt⟩
  ·
    have hn_1 : ¬ n = 1 := fun q => hc102 (by rw [q]; rfl)
    have W109 : ∀ zQ, SS p e below T0 m 108 #[.val (.long d), .second, .val (.int si), .val (.int fg), .val (.int sp), .val (.int (Int32.ofNat n)), .val (.ref c), .val (.int pz), .unset, .unset, .unset, .unset] [(.int (2 : Int32)), (.int (Int32.ofNat n))] zQ → Steps p.tables e below (T0.setTop (mkF m 84 #[.val (.long d), .second, .val (.int si), .val (.int fg), .val (.int sp), .val (.int (Int32.ofNat n)), .val (.ref c), .val (.int pz), .unset, .unset, .unset, .unset] [])) zQ := by
      intro tt kt
      refine W101 tt ?_
      refine XS.icmpYes X0.here hx rfl (pc0 := 87) (pc' := 105) rfl (D_ at_87) rfl (feq hc102).2 (by decide) (by decide) ?_
      refine XS.iload X0.here hx rfl (D_ at_105) rfl ?_
      refine XS.iconst X0.here hx rfl (D_ at_107) ?_
      exact kt
    by_cases hc110 : (Int32.ofNat n) = (2 : Int32)
    ·
      have hnk : n = 2 := own_ceq (k := 2) (by omega) (by decide) hc110
      obtain ⟨T111, h111, k111, X111, e111, E111, A111, st111⟩ := newP X0 hx hZ (aty := .char) (w0 hw) e0 (g := (mkF m 112 #[.val (.long d), .second, .val (.int si), .val (.int fg), .val (.int sp), .val (.int (Int32.ofNat n)), .val (.ref c), .val (.int pz), .unset, .unset, .unset, .unset] [(.int (2 : Int32))])) rfl (D_ at_112) (n := (2 : Int32)) rfl (by decide) (cap := 2) (by decide) (by decide) (by omega) (by omega)
      obtain ⟨b111, g111⟩ : ∃ z, z = h0.size := ⟨_, rfl⟩
      rw [← g111] at A111 st111
      have K111 := (Keep.refl h0 []).ext E111
      have G111 : Arv Z h111 b111 k111 .char (2 : Int32) [(.int (0 : Int32)), (.int (0 : Int32))] (.int (0 : Int32)) := (Arv.new A111 (by decide)).pad (pad_rep [] (.int (0 : Int32)) 2)
      have F112 : Arv Z h111 c kc .char (4 : Int32) [(.int y0), (.int y1), (.int y2), (.int y3)] (.int (0 : Int32)) := (V1.keep K111 nin0)
      obtain ⟨cl113, Ar113, q113, S113, M113, H113, F113g⟩ := id F112
      have hin113 : ¬ ((0 : Int32) < 0 ∨ cl113.slots.size ≤ ((0 : Int32)).toNatClampNeg) := inb_of S113 ⟨by decide, by decide⟩
      have hat113 : cl113.slots[((0 : Int32)).toNatClampNeg]? = some (.int y0) := Has.at H113 hin113 rfl
      obtain ⟨cl114, Ar114, q114, S114, M114, H114, F114g⟩ := id G111
      have hin114 : ¬ ((0 : Int32) < 0 ∨ cl114.slots.size ≤ ((0 : Int32)).toNatClampNeg) := inb_of S114 ⟨by decide, by decide⟩
      obtain ⟨T114, h114, X114, e114, Wr114, st114⟩ := stC X111 hx hZ e111 Ar114 (j := (0 : Int32)) hin114 (g := (mkF m 120 #[.val (.long d), .second, .val (.int si), .val (.int fg), .val (.int sp), .val (.int (Int32.ofNat n)), .val (.ref c), .val (.int pz), .unset, .unset, .unset, .unset] [(.int y0), (.int (0 : Int32)), (.ref b111), (.ref b111)])) rfl rfl (D_ at_120)
      have G114 : Arv Z h114 b111 k111 .char (2 : Int32) [(.int (nar .char y0)), (.int (0 : Int32))] (.int (0 : Int32)) := Arv.set Ar114 q114 S114 M114 H114 F114g (fits_nar_char _) Wr114 0 rfl (Nat.le_of_ble_eq_true rfl)
      have K114 := Keep.of_wr Wr114
      have N114 := Fr.snoc X114 N0 (Nat.le_trans Z0 (Nat.le_of_eq g111.symm))
      have J114 : Arv Z h114 b111 k111 .char (2 : Int32) [(.int y0), (.int (0 : Int32))] (.int (0 : Int32)) := by rw [own_nar16 (hq _ (List.mem_of_getElem? (i := 0) rfl))] at G114; exact G114
      have F115 : Arv Z h114 c kc .char (4 : Int32) [(.int y0), (.int y1), (.int y2), (.int y3)] (.int (0 : Int32)) := (F112.keep K114 (ninS (Nat.ne_of_lt (Nat.lt_of_lt_of_le V1.lt (Nat.le_of_eq g111.symm))) nin0))
      obtain ⟨cl116, Ar116, q116, S116, M116, H116, F116g⟩ := id F115
      have hin116 : ¬ ((1 : Int32) < 0 ∨ cl116.slots.size ≤ ((1 : Int32)).toNatClampNeg) := inb_of S116 ⟨by decide, by decide⟩
      have hat116 : cl116.slots[((1 : Int32)).toNatClampNeg]? = some (.int y1) := Has.at H116 hin116 rfl
      obtain ⟨cl117, Ar117, q117, S117, M117, H117, F117g⟩ := id J114
      have hin117 : ¬ ((1 : Int32) < 0 ∨ cl117.slots.size ≤ ((1 : Int32)).toNatClampNeg) := inb_of S117 ⟨by decide, by decide⟩
      obtain ⟨T117, h117, X117, e117, Wr117, st117⟩ := stC X114 hx hZ e114 Ar117 (j := (1 : Int32)) hin117 (g := (mkF m 127 #[.val (.long d), .second, .val (.int si), .val (.int fg), .val (.int sp), .val (.int (Int32.ofNat n)), .val (.ref c), .val (.int pz), .unset, .unset, .unset, .unset] [(.int y1), (.int (1 : Int32)), (.ref b111), (.ref b111)])) rfl rfl (D_ at_127)
      have G117 : Arv Z h117 b111 k111 .char (2 : Int32) [(.int y0), (.int (nar .char y1))] (.int (0 : Int32)) := Arv.set Ar117 q117 S117 M117 H117 F117g (fits_nar_char _) Wr117 1 rfl (Nat.le_of_ble_eq_true rfl)
      have K117 := Keep.of_wr Wr117
      have N117 := Fr.snoc X117 N114 (Nat.le_trans Z0 (Nat.le_of_eq g111.symm))
      have J117 : Arv Z h117 b111 k111 .char (2 : Int32) [(.int y0), (.int y1)] (.int (0 : Int32)) := by rw [own_nar16 (hq _ (List.mem_of_getElem? (i := 1) rfl))] at G117; exact G117
      have W118 : ∀ zQ, SS p e below T117 m 201 #[.val (.long d), .second, .val (.int si), .val (.int fg), .val (.int sp), .val (.int (Int32.ofNat n)), .val (.ref c), .val (.int pz), .val (.ref b111), .unset, .unset, .unset] [] zQ → Steps p.tables e below (T0.setTop (mkF m 84 #[.val (.long d), .second, .val (.int si), .val (.int fg), .val (.int sp), .val (.int (Int32.ofNat n)), .val (.ref c), .val (.int pz), .unset, .unset, .unset, .unset] [])) zQ := by
        intro tt kt
        refine W109 tt ?_
        refine XS.icmpNo X0.here hx rfl (D_ at_108) rfl (teq hc110).2 ?_
        refine XS.iconst X0.here hx rfl (D_ at_111) ?_
        refine st111 _ ?_
        refine XS.dup X111.here hx rfl (D_ at_114) rfl rfl ?_
        refine XS.iconst X111.here hx rfl (D_ at_115) ?_
        refine XS.aload X111.here hx rfl (D_ at_116) rfl rfl ?_
        refine XS.iconst X111.here hx rfl (D_ at_118) ?_
        refine X111.caload hx (j := (0 : Int32)) (v := (.int y0)) (by first | exact Ar113.1 | (rw [e111]; exact Ar113.1)) (State.isArrayOf_alike hZ.alike Ar113.2.1) Ar113.2.2 hin113 hat113 (g := (mkF m 119 #[.val (.long d), .second, .val (.int si), .val (.int fg), .val (.int sp), .val (.int (Int32.ofNat n)), .val (.ref c), .val (.int pz), .unset, .unset, .unset, .unset] [(.int (0 : Int32)), (.ref c), (.int (0 : Int32)), (.ref b111), (.ref b111)])) rfl rfl (D_ at_119) _ ?_
        refine st114 _ ?_
        refine XS.dup X114.here hx rfl (D_ at_121) rfl rfl ?_
        refine XS.iconst X114.here hx rfl (D_ at_122) ?_
        refine XS.aload X114.here hx rfl (D_ at_123) rfl rfl ?_
        refine XS.iconst X114.here hx rfl (D_ at_125) ?_
        refine X114.caload hx (j := (1 : Int32)) (v := (.int y1)) (by first | exact Ar116.1 | (rw [e114]; exact Ar116.1)) (State.isArrayOf_alike hZ.alike Ar116.2.1) Ar116.2.2 hin116 hat116 (g := (mkF m 126 #[.val (.long d), .second, .val (.int si), .val (.int fg), .val (.int sp), .val (.int (Int32.ofNat n)), .val (.ref c), .val (.int pz), .unset, .unset, .unset, .unset] [(.int (1 : Int32)), (.ref c), (.int (1 : Int32)), (.ref b111), (.ref b111)])) rfl rfl (D_ at_126) _ ?_
        refine st117 _ ?_
        refine XS.astore X117.here hx rfl (D_ at_128) rfl rfl (l' := #[.val (.long d), .second, .val (.int si), .val (.int fg), .val (.int sp), .val (.int (Int32.ofNat n)), .val (.ref c), .val (.int pz), .val (.ref b111), .unset, .unset, .unset]) rfl ?_
        refine XS.goto X117.here hx rfl (pc0 := 130) (pc' := 201) rfl (D_ at_130) (by decide) (by decide) ?_
        exact kt
      have hR119 : Arv Z h117 b111 k111 .char (Int32.ofNat ([y0, y1, y2, y3].take n).length) (([y0, y1, y2, y3].take n).map Value.int) (.int (0 : Int32)) := by rw [hnk]; exact J117
      exact ⟨T117, _, h117, (X117.more (by first | omega | (dsimp only [Pt.cells, Pt.slots]; omega)) (by first | omega | (dsimp only [Pt.cells, Pt.slots]; omega))), e117, b111, k111, ([y0, y1, y2, y3].take n), N117, (Keep.trans (Keep.trans (Keep.trans (Keep.refl h0 []) K111 all0) K114 (allS (Or.inr (Nat.le_of_eq g111.symm)) all0)) K117 (allS (Or.inr (Nat.le_of_eq g111.symm)) all0)), (Nat.le_of_eq g111.symm), hR119, rfl, fun tt kt => W118 _ kt⟩
    ·
      have hn_2 : ¬ n = 2 := fun q => hc110 (by rw [q]; rfl)
      have W120 : ∀ zQ, SS p e below T0 m 136 #[.val (.long d), .second, .val (.int si), .val (.int fg), .val (.int sp), .val (.int (Int32.ofNat n)), .val (.ref c), .val (.int pz), .unset, .unset, .unset, .unset] [(.int (3 : Int32)), (.int (Int32.ofNat n))] zQ → Steps p.tables e below (T0.setTop (mkF m 84 #[.val (.long d), .second, .val (.int si), .val (.int fg), .val (.int sp), .val (.int (Int32.ofNat n)), .val (.ref c), .val (.int pz), .unset, .unset, .unset, .unset] [])) zQ := by
        intro tt kt
        refine W109 tt ?_
        refine XS.icmpYes X0.here hx rfl (pc0 := 108) (pc' := 133) rfl (D_ at_108) rfl (feq hc110).2 (by decide) (by decide) ?_
        refine XS.iload X0.here hx rfl (D_ at_133) rfl ?_
        refine XS.iconst X0.here hx rfl (D_ at_135) ?_
        exact kt
      by_cases hc121 : (Int32.ofNat n) = (3 : Int32)
      ·
        have hnk : n = 3 := own_ceq (k := 3) (by omega) (by decide) hc121
        obtain ⟨T122, h122, k122, X122, e122, E122, A122, st122⟩ := newP X0 hx hZ (aty := .char) (w0 hw) e0 (g := (mkF m 140 #[.val (.long d), .second, .val (.int si), .val (.int fg), .val (.int sp), .val (.int (Int32.ofNat n)), .val (.ref c), .val (.int pz), .unset, .unset, .unset, .unset] [(.int (3 : Int32))])) rfl (D_ at_140) (n := (3 : Int32)) rfl (by decide) (cap := 3) (by decide) (by decide) (by omega) (by omega)
        obtain ⟨b122, g122⟩ : ∃ z, z = h0.size := ⟨_, rfl⟩
        rw [← g122] at A122 st122
        have K122 := (Keep.refl h0 []).ext E122
        have G122 : Arv Z h122 b122 k122 .char (3 : Int32) [(.int (0 : Int32)), (.int (0 : Int32)), (.int (0 : Int32))] (.int (0 : Int32)) := (Arv.new A122 (by decide)).pad (pad_rep [] (.int (0 : Int32)) 3)
        have F123 : Arv Z h122 c kc .char (4 : Int32) [(.int y0), (.int y1), (.int y2), (.int y3)] (.int (0 : Int32)) := (V1.keep K122 nin0)
        obtain ⟨cl124, Ar124, q124, S124, M124, H124, F124g⟩ := id F123
        have hin124 : ¬ ((0 : Int32) < 0 ∨ cl124.slots.size ≤ ((0 : Int32)).toNatClampNeg) := inb_of S124 ⟨by decide, by decide⟩
        have hat124 : cl124.slots[((0 : Int32)).toNatClampNeg]? = some (.int y0) := Has.at H124 hin124 rfl
        obtain ⟨cl125, Ar125, q125, S125, M125, H125, F125g⟩ := id G122
        have hin125 : ¬ ((0 : Int32) < 0 ∨ cl125.slots.size ≤ ((0 : Int32)).toNatClampNeg) := inb_of S125 ⟨by decide, by decide⟩
        obtain ⟨T125, h125, X125, e125, Wr125, st125⟩ := stC X122 hx hZ e122 Ar125 (j := (0 : Int32)) hin125 (g := (mkF m 148 #[.val (.long d), .second, .val (.int si), .val (.int fg), .val (.int sp), .val (.int (Int32.ofNat n)), .val (.ref c), .val (.int pz), .unset, .unset, .unset, .unset] [(.int y0), (.int (0 : Int32)), (.ref b122), (.ref b122)])) rfl rfl (D_ at_148)
        have G125 : Arv Z h125 b122 k122 .char (3 : Int32) [(.int (nar .char y0)), (.int (0 : Int32)), (.int (0 : Int32))] (.int (0 : Int32)) := Arv.set Ar125 q125 S125 M125 H125 F125g (fits_nar_char _) Wr125 0 rfl (Nat.le_of_ble_eq_true rfl)
        have K125 := Keep.of_wr Wr125
        have N125 := Fr.snoc X125 N0 (Nat.le_trans Z0 (Nat.le_of_eq g122.symm))
        have J125 : Arv Z h125 b122 k122 .char (3 : Int32) [(.int y0), (.int (0 : Int32)), (.int (0 : Int32))] (.int (0 : Int32)) := by rw [own_nar16 (hq _ (List.mem_of_getElem? (i := 0) rfl))] at G125; exact G125
        have F126 : Arv Z h125 c kc .char (4 : Int32) [(.int y0), (.int y1), (.int y2), (.int y3)] (.int (0 : Int32)) := (F123.keep K125 (ninS (Nat.ne_of_lt (Nat.lt_of_lt_of_le V1.lt (Nat.le_of_eq g122.symm))) nin0))
        obtain ⟨cl127, Ar127, q127, S127, M127, H127, F127g⟩ := id F126
        have hin127 : ¬ ((1 : Int32) < 0 ∨ cl127.slots.size ≤ ((1 : Int32)).toNatClampNeg) := inb_of S127 ⟨by decide, by decide⟩
        have hat127 : cl127.slots[((1 : Int32)).toNatClampNeg]? = some (.int y1) := Has.at H127 hin127 rfl
        obtain ⟨cl128, Ar128, q128, S128, M128, H128, F128g⟩ := id J125
        have hin128 : ¬ ((1 : Int32) < 0 ∨ cl128.slots.size ≤ ((1 : Int32)).toNatClampNeg) := inb_of S128 ⟨by decide, by decide⟩
        obtain ⟨T128, h128, X128, e128, Wr128, st128⟩ := stC X125 hx hZ e125 Ar128 (j := (1 : Int32)) hin128 (g := (mkF m 155 #[.val (.long d), .second, .val (.int si), .val (.int fg), .val (.int sp), .val (.int (Int32.ofNat n)), .val (.ref c), .val (.int pz), .unset, .unset, .unset, .unset] [(.int y1), (.int (1 : Int32)), (.ref b122), (.ref b122)])) rfl rfl (D_ at_155)
        have G128 : Arv Z h128 b122 k122 .char (3 : Int32) [(.int y0), (.int (nar .char y1)), (.int (0 : Int32))] (.int (0 : Int32)) := Arv.set Ar128 q128 S128 M128 H128 F128g (fits_nar_char _) Wr128 1 rfl (Nat.le_of_ble_eq_true rfl)
        have K128 := Keep.of_wr Wr128
        have N128 := Fr.snoc X128 N125 (Nat.le_trans Z0 (Nat.le_of_eq g122.symm))
        have J128 : Arv Z h128 b122 k122 .char (3 : Int32) [(.int y0), (.int y1), (.int (0 : Int32))] (.int (0 : Int32)) := by rw [own_nar16 (hq _ (List.mem_of_getElem? (i := 1) rfl))] at G128; exact G128
        have F129 : Arv Z h128 c kc .char (4 : Int32) [(.int y0), (.int y1), (.int y2), (.int y3)] (.int (0 : Int32)) := (F126.keep K128 (ninS (Nat.ne_of_lt (Nat.lt_of_lt_of_le V1.lt (Nat.le_of_eq g122.symm))) nin0))
        obtain ⟨cl130, Ar130, q130, S130, M130, H130, F130g⟩ := id F129
        have hin130 : ¬ ((2 : Int32) < 0 ∨ cl130.slots.size ≤ ((2 : Int32)).toNatClampNeg) := inb_of S130 ⟨by decide, by decide⟩
        have hat130 : cl130.slots[((2 : Int32)).toNatClampNeg]? = some (.int y2) := Has.at H130 hin130 rfl
        obtain ⟨cl131, Ar131, q131, S131, M131, H131, F131g⟩ := id J128
        have hin131 : ¬ ((2 : Int32) < 0 ∨ cl131.slots.size ≤ ((2 : Int32)).toNatClampNeg) := inb_of S131 ⟨by decide, by decide⟩
        obtain ⟨T131, h131, X131, e131, Wr131, st131⟩ := stC X128 hx hZ e128 Ar131 (j := (2 : Int32)) hin131 (g := (mkF m 162 #[.val (.long d), .second, .val (.int si), .val (.int fg), .val (.int sp), .val (.int (Int32.ofNat n)), .val (.ref c), .val (.int pz), .unset, .unset, .unset, .unset] [(.int y2), (.int (2 : Int32)), (.ref b122), (.ref b122)])) rfl rfl (D_ at_162)
        have G131 : Arv Z h131 b122 k122 .char (3 : Int32) [(.int y0), (.int y1), (.int (nar .char y2))] (.int (0 : Int32)) := Arv.set Ar131 q131 S131 M131 H131 F131g (fits_nar_char _) Wr131 2 rfl (Nat.le_of_ble_eq_true rfl)
        have K131 := Keep.of_wr Wr131
        have N131 := Fr.snoc X131 N128 (Nat.le_trans Z0 (Nat.le_of_eq g122.symm))
        have J131 : Arv Z h131 b122 k122 .char (3 : Int32) [(.int y0), (.int y1), (.int y2)] (.int (0 : Int32)) := by rw [own_nar16 (hq _ (List.mem_of_getElem? (i := 2) rfl))] at G131; exact G131
        have W132 : ∀ zQ, SS p e below T131 m 201 #[.val (.long d), .second, .val (.int si), .val (.int fg), .val (.int sp), .val (.int (Int32.ofNat n)), .val (.ref c), .val (.int pz), .val (.ref b122), .unset, .unset, .unset] [] zQ → Steps p.tables e below (T0.setTop (mkF m 84 #[.val (.long d), .second, .val (.int si), .val (.int fg), .val (.int sp), .val (.int (Int32.ofNat n)), .val (.ref c), .val (.int pz), .unset, .unset, .unset, .unset] [])) zQ := by
          intro tt kt
          refine W120 tt ?_
          refine XS.icmpNo X0.here hx rfl (D_ at_136) rfl (teq hc121).2 ?_
          refine XS.iconst X0.here hx rfl (D_ at_139) ?_
          refine st122 _ ?_
          refine XS.dup X122.here hx rfl (D_ at_142) rfl rfl ?_
          refine XS.iconst X122.here hx rfl (D_ at_143) ?_
          refine XS.aload X122.here hx rfl (D_ at_144) rfl rfl ?_
          refine XS.iconst X122.here hx rfl (D_ at_146) ?_
          refine X122.caload hx (j := (0 : Int32)) (v := (.int y0)) (by first | exact Ar124.1 | (rw [e122]; exact Ar124.1)) (State.isArrayOf_alike hZ.alike Ar124.2.1) Ar124.2.2 hin124 hat124 (g := (mkF m 147 #[.val (.long d), .second, .val (.int si), .val (.int fg), .val (.int sp), .val (.int (Int32.ofNat n)), .val (.ref c), .val (.int pz), .unset, .unset, .unset, .unset] [(.int (0 : Int32)), (.ref c), (.int (0 : Int32)), (.ref b122), (.ref b122)])) rfl rfl (D_ at_147) _ ?_
          refine st125 _ ?_
          refine XS.dup X125.here hx rfl (D_ at_149) rfl rfl ?_
          refine XS.iconst X125.here hx rfl (D_ at_150) ?_
          refine XS.aload X125.here hx rfl (D_ at_151) rfl rfl ?_
          refine XS.iconst X125.here hx rfl (D_ at_153) ?_
          refine X125.caload hx (j := (1 : Int32)) (v := (.int y1)) (by first | exact Ar127.1 | (rw [e125]; exact Ar127.1)) (State.isArrayOf_alike hZ.alike Ar127.2.1) Ar127.2.2 hin127 hat127 (g := (mkF m 154 #[.val (.long d), .second, .val (.int si), .val (.int fg), .val (.int sp), .val (.int (Int32.ofNat n)), .val (.ref c), .val (.int pz), .unset, .unset, .unset, .unset] [(.int (1 : Int32)), (.ref c), (.int (1 : Int32)), (.ref b122), (.ref b122)])) rfl rfl (D_ at_154) _ ?_
          refine st128 _ ?_
          refine XS.dup X128.here hx rfl (D_ at_156) rfl rfl ?_
          refine XS.iconst X128.here hx rfl (D_ at_157) ?_
          refine XS.aload X128.here hx rfl (D_ at_158) rfl rfl ?_
          refine XS.iconst X128.here hx rfl (D_ at_160) ?_
          refine X128.caload hx (j := (2 : Int32)) (v := (.int y2)) (by first | exact Ar130.1 | (rw [e128]; exact Ar130.1)) (State.isArrayOf_alike hZ.alike Ar130.2.1) Ar130.2.2 hin130 hat130 (g := (mkF m 161 #[.val (.long d), .second, .val (.int si), .val (.int fg), .val (.int sp), .val (.int (Int32.ofNat n)), .val (.ref c), .val (.int pz), .unset, .unset, .unset, .unset] [(.int (2 : Int32)), (.ref c), (.int (2 : Int32)), (.ref b122), (.ref b122)])) rfl rfl (D_ at_161) _ ?_
          refine st131 _ ?_
          refine XS.astore X131.here hx rfl (D_ at_163) rfl rfl (l' := #[.val (.long d), .second, .val (.int si), .val (.int fg), .val (.int sp), .val (.int (Int32.ofNat n)), .val (.ref c), .val (.int pz), .val (.ref b122), .unset, .unset, .unset]) rfl ?_
          refine XS.goto X131.here hx rfl (pc0 := 165) (pc' := 201) rfl (D_ at_165) (by decide) (by decide) ?_
          exact kt
        have hR133 : Arv Z h131 b122 k122 .char (Int32.ofNat ([y0, y1, y2, y3].take n).length) (([y0, y1, y2, y3].take n).map Value.int) (.int (0 : Int32)) := by rw [hnk]; exact J131
        exact ⟨T131, _, h131, (X131.more (by first | omega | (dsimp only [Pt.cells, Pt.slots]; omega)) (by first | omega | (dsimp only [Pt.cells, Pt.slots]; omega))), e131, b122, k122, ([y0, y1, y2, y3].take n), N131, (Keep.trans (Keep.trans (Keep.trans (Keep.trans (Keep.refl h0 []) K122 all0) K125 (allS (Or.inr (Nat.le_of_eq g122.symm)) all0)) K128 (allS (Or.inr (Nat.le_of_eq g122.symm)) all0)) K131 (allS (Or.inr (Nat.le_of_eq g122.symm)) all0)), (Nat.le_of_eq g122.symm), hR133, rfl, fun tt kt => W132 _ kt⟩
      ·
        have hn_3 : ¬ n = 3 := fun q => hc121 (by rw [q]; rfl)
        obtain ⟨T134, h134, k134, X134, e134, E134, A134, st134⟩ := newP X0 hx hZ (aty := .char) (w0 hw) e0 (g := (mkF m 169 #[.val (.long d), .second, .val (.int si), .val (.int fg), .val (.int sp), .val (.int (Int32.ofNat n)), .val (.ref c), .val (.int pz), .unset, .unset, .unset, .unset] [(.int (4 : Int32))])) rfl (D_ at_169) (n := (4 : Int32)) rfl (by decide) (cap := 4) (by decide) (by decide) (by omega) (by omega)
        obtain ⟨b134, g134⟩ : ∃ z, z = h0.size := ⟨_, rfl⟩
        rw [← g134] at A134 st134
        have K134 := (Keep.refl h0 []).ext E134
        have G134 : Arv Z h134 b134 k134 .char (4 : Int32) [(.int (0 : Int32)), (.int (0 : Int32)), (.int (0 : Int32)), (.int (0 : Int32))] (.int (0 : Int32)) := (Arv.new A134 (by decide)).pad (pad_rep [] (.int (0 : Int32)) 4)
        have F135 : Arv Z h134 c kc .char (4 : Int32) [(.int y0), (.int y1), (.int y2), (.int y3)] (.int (0 : Int32)) := (V1.keep K134 nin0)
        obtain ⟨cl136, Ar136, q136, S136, M136, H136, F136g⟩ := id F135
        have hin136 : ¬ ((0 : Int32) < 0 ∨ cl136.slots.size ≤ ((0 : Int32)).toNatClampNeg) := inb_of S136 ⟨by decide, by decide⟩
        have hat136 : cl136.slots[((0 : Int32)).toNatClampNeg]? = some (.int y0) := Has.at H136 hin136 rfl
        obtain ⟨cl137, Ar137, q137, S137, M137, H137, F137g⟩ := id G134
        have hin137 : ¬ ((0 : Int32) < 0 ∨ cl137.slots.size ≤ ((0 : Int32)).toNatClampNeg) := inb_of S137 ⟨by decide, by decide⟩
        obtain ⟨T137, h137, X137, e137, Wr137, st137⟩ := stC X134 hx hZ e134 Ar137 (j := (0 : Int32)) hin137 (g := (mkF m 177 #[.val (.long d), .second, .val (.int si), .val (.int fg), .val (.int sp), .val (.int (Int32.ofNat n)), .val (.ref c), .val (.int pz), .unset, .unset, .unset, .unset] [(.int y0), (.int (0 : Int32)), (.ref b134), (.ref b134)])) rfl rfl (D_ at_177)
        have G137 : Arv Z h137 b134 k134 .char (4 : Int32) [(.int (nar .char y0)), (.int (0 : Int32)), (.int (0 : Int32)), (.int (0 : Int32))] (.int (0 : Int32)) := Arv.set Ar137 q137 S137 M137 H137 F137g (fits_nar_char _) Wr137 0 rfl (Nat.le_of_ble_eq_true rfl)
        have K137 := Keep.of_wr Wr137
        have N137 := Fr.snoc X137 N0 (Nat.le_trans Z0 (Nat.le_of_eq g134.symm))
        have J137 : Arv Z h137 b134 k134 .char (4 : Int32) [(.int y0), (.int (0 : Int32)), (.int (0 : Int32)), (.int (0 : Int32))] (.int (0 : Int32)) := by rw [own_nar16 (hq _ (List.mem_of_getElem? (i := 0) rfl))] at G137; exact G137
        have F138 : Arv Z h137 c kc .char (4 : Int32) [(.int y0), (.int y1), (.int y2), (.int y3)] (.int (0 : Int32)) := (F135.keep K137 (ninS (Nat.ne_of_lt (Nat.lt_of_lt_of_le V1.lt (Nat.le_of_eq g134.symm))) nin0))
        obtain ⟨cl139, Ar139, q139, S139, M139, H139, F139g⟩ := id F138
        have hin139 : ¬ ((1 : Int32) < 0 ∨ cl139.slots.size ≤ ((1 : Int32)).toNatClampNeg) := inb_of S139 ⟨by decide, by decide⟩
        have hat139 : cl139.slots[((1 : Int32)).toNatClampNeg]? = some (.int y1) := Has.at H139 hin139 rfl
        obtain ⟨cl140, Ar140, q140, S140, M140, H140, F140g⟩ := id J137
        have hin140 : ¬ ((1 : Int32) < 0 ∨ cl140.slots.size ≤ ((1 : Int32)).toNatClampNeg) := inb_of S140 ⟨by decide, by decide⟩
        obtain ⟨T140, h140, X140, e140, Wr140, st140⟩ := stC X137 hx hZ e137 Ar140 (j := (1 : Int32)) hin140 (g := (mkF m 184 #[.val (.long d), .second, .val (.int si), .val (.int fg), .val (.int sp), .val (.int (Int32.ofNat n)), .val (.ref c), .val (.int pz), .unset, .unset, .unset, .unset] [(.int y1), (.int (1 : Int32)), (.ref b134), (.ref b134)])) rfl rfl (D_ at_184)
        have G140 : Arv Z h140 b134 k134 .char (4 : Int32) [(.int y0), (.int (nar .char y1)), (.int (0 : Int32)), (.int (0 : Int32))] (.int (0 : Int32)) := Arv.set Ar140 q140 S140 M140 H140 F140g (fits_nar_char _) Wr140 1 rfl (Nat.le_of_ble_eq_true rfl)
        have K140 := Keep.of_wr Wr140
        have N140 := Fr.snoc X140 N137 (Nat.le_trans Z0 (Nat.le_of_eq g134.symm))
        have J140 : Arv Z h140 b134 k134 .char (4 : Int32) [(.int y0), (.int y1), (.int (0 : Int32)), (.int (0 : Int32))] (.int (0 : Int32)) := by rw [own_nar16 (hq _ (List.mem_of_getElem? (i := 1) rfl))] at G140; exact G140
        have F141 : Arv Z h140 c kc .char (4 : Int32) [(.int y0), (.int y1), (.int y2), (.int y3)] (.int (0 : Int32)) := (F138.keep K140 (ninS (Nat.ne_of_lt (Nat.lt_of_lt_of_le V1.lt (Nat.le_of_eq g134.symm))) nin0))
        obtain ⟨cl142, Ar142, q142, S142, M142, H142, F142g⟩ := id F141
        have hin142 : ¬ ((2 : Int32) < 0 ∨ cl142.slots.size ≤ ((2 : Int32)).toNatClampNeg) := inb_of S142 ⟨by decide, by decide⟩
        have hat142 : cl142.slots[((2 : Int32)).toNatClampNeg]? = some (.int y2) := Has.at H142 hin142 rfl
        obtain ⟨cl143, Ar143, q143, S143, M143, H143, F143g⟩ := id J140
        have hin143 : ¬ ((2 : Int32) < 0 ∨ cl143.slots.size ≤ ((2 : Int32)).toNatClampNeg) := inb_of S143 ⟨by decide, by decide⟩
        obtain ⟨T143, h143, X143, e143, Wr143, st143⟩ := stC X140 hx hZ e140 Ar143 (j := (2 : Int32)) hin143 (g := (mkF m 191 #[.val (.long d), .second, .val (.int si), .val (.int fg), .val (.int sp), .val (.int (Int32.ofNat n)), .val (.ref c), .val (.int pz), .unset, .unset, .unset, .unset] [(.int y2), (.int (2 : Int32)), (.ref b134), (.ref b134)])) rfl rfl (D_ at_191)
        have G143 : Arv Z h143 b134 k134 .char (4 : Int32) [(.int y0), (.int y1), (.int (nar .char y2)), (.int (0 : Int32))] (.int (0 : Int32)) := Arv.set Ar143 q143 S143 M143 H143 F143g (fits_nar_char _) Wr143 2 rfl (Nat.le_of_ble_eq_true rfl)
        have K143 := Keep.of_wr Wr143
        have N143 := Fr.snoc X143 N140 (Nat.le_trans Z0 (Nat.le_of_eq g134.symm))
        have J143 : Arv Z h143 b134 k134 .char (4 : Int32) [(.int y0), (.int y1), (.int y2), (.int (0 : Int32))] (.int (0 : Int32)) := by rw [own_nar16 (hq _ (List.mem_of_getElem? (i := 2) rfl))] at G143; exact G143
        have F144 : Arv Z h143 c kc .char (4 : Int32) [(.int y0), (.int y1), (.int y2), (.int y3)] (.int (0 : Int32)) := (F141.keep K143 (ninS (Nat.ne_of_lt (Nat.lt_of_lt_of_le V1.lt (Nat.le_of_eq g134.symm))) nin0))
        obtain ⟨cl145, Ar145, q145, S145, M145, H145, F145g⟩ := id F144
        have hin145 : ¬ ((3 : Int32) < 0 ∨ cl145.slots.size ≤ ((3 : Int32)).toNatClampNeg) := inb_of S145 ⟨by decide, by decide⟩
        have hat145 : cl145.slots[((3 : Int32)).toNatClampNeg]? = some (.int y3) := Has.at H145 hin145 rfl
        obtain ⟨cl146, Ar146, q146, S146, M146, H146, F146g⟩ := id J143
        have hin146 : ¬ ((3 : Int32) < 0 ∨ cl146.slots.size ≤ ((3 : Int32)).toNatClampNeg) := inb_of S146 ⟨by decide, by decide⟩
        obtain ⟨T146, h146, X146, e146, Wr146, st146⟩ := stC X143 hx hZ e143 Ar146 (j := (3 : Int32)) hin146 (g := (mkF m 198 #[.val (.long d), .second, .val (.int si), .val (.int fg), .val (.int sp), .val (.int (Int32.ofNat n)), .val (.ref c), .val (.int pz), .unset, .unset, .unset, .unset] [(.int y3), (.int (3 : Int32)), (.ref b134), (.ref b134)])) rfl rfl (D_ at_198)
        have G146 : Arv Z h146 b134 k134 .char (4 : Int32) [(.int y0), (.int y1), (.int y2), (.int (nar .char y3))] (.int (0 : Int32)) := Arv.set Ar146 q146 S146 M146 H146 F146g (fits_nar_char _) Wr146 3 rfl (Nat.le_of_ble_eq_true rfl)
        have K146 := Keep.of_wr Wr146
        have N146 := Fr.snoc X146 N143 (Nat.le_trans Z0 (Nat.le_of_eq g134.symm))
        have J146 : Arv Z h146 b134 k134 .char (4 : Int32) [(.int y0), (.int y1), (.int y2), (.int y3)] (.int (0 : Int32)) := by rw [own_nar16 (hq _ (List.mem_of_getElem? (i := 3) rfl))] at G146; exact G146
        have W147 : ∀ zQ, SS p e below T146 m 201 #[.val (.long d), .second, .val (.int si), .val (.int fg), .val (.int sp), .val (.int (Int32.ofNat n)), .val (.ref c), .val (.int pz), .val (.ref b134), .unset, .unset, .unset] [] zQ → Steps p.tables e below (T0.setTop (mkF m 84 #[.val (.long d), .second, .val (.int si), .val (.int fg), .val (.int sp), .val (.int (Int32.ofNat n)), .val (.ref c), .val (.int pz), .unset, .unset, .unset, .unset] [])) zQ := by
          intro tt kt
          refine W120 tt ?_
          refine XS.icmpYes X0.here hx rfl (pc0 := 136) (pc' := 168) rfl (D_ at_136) rfl (feq hc121).2 (by decide) (by decide) ?_
          refine XS.iconst X0.here hx rfl (D_ at_168) ?_
          refine st134 _ ?_
          refine XS.dup X134.here hx rfl (D_ at_171) rfl rfl ?_
          refine XS.iconst X134.here hx rfl (D_ at_172) ?_
          refine XS.aload X134.here hx rfl (D_ at_173) rfl rfl ?_
          refine XS.iconst X134.here hx rfl (D_ at_175) ?_
          refine X134.caload hx (j := (0 : Int32)) (v := (.int y0)) (by first | exact Ar136.1 | (rw [e134]; exact Ar136.1)) (State.isArrayOf_alike hZ.alike Ar136.2.1) Ar136.2.2 hin136 hat136 (g := (mkF m 176 #[.val (.long d), .second, .val (.int si), .val (.int fg), .val (.int sp), .val (.int (Int32.ofNat n)), .val (.ref c), .val (.int pz), .unset, .unset, .unset, .unset] [(.int (0 : Int32)), (.ref c), (.int (0 : Int32)), (.ref b134), (.ref b134)])) rfl rfl (D_ at_176) _ ?_
          refine st137 _ ?_
          refine XS.dup X137.here hx rfl (D_ at_178) rfl rfl ?_
          refine XS.iconst X137.here hx rfl (D_ at_179) ?_
          refine XS.aload X137.here hx rfl (D_ at_180) rfl rfl ?_
          refine XS.iconst X137.here hx rfl (D_ at_182) ?_
          refine X137.caload hx (j := (1 : Int32)) (v := (.int y1)) (by first | exact Ar139.1 | (rw [e137]; exact Ar139.1)) (State.isArrayOf_alike hZ.alike Ar139.2.1) Ar139.2.2 hin139 hat139 (g := (mkF m 183 #[.val (.long d), .second, .val (.int si), .val (.int fg), .val (.int sp), .val (.int (Int32.ofNat n)), .val (.ref c), .val (.int pz), .unset, .unset, .unset, .unset] [(.int (1 : Int32)), (.ref c), (.int (1 : Int32)), (.ref b134), (.ref b134)])) rfl rfl (D_ at_183) _ ?_
          refine st140 _ ?_
          refine XS.dup X140.here hx rfl (D_ at_185) rfl rfl ?_
          refine XS.iconst X140.here hx rfl (D_ at_186) ?_
          refine XS.aload X140.here hx rfl (D_ at_187) rfl rfl ?_
          refine XS.iconst X140.here hx rfl (D_ at_189) ?_
          refine X140.caload hx (j := (2 : Int32)) (v := (.int y2)) (by first | exact Ar142.1 | (rw [e140]; exact Ar142.1)) (State.isArrayOf_alike hZ.alike Ar142.2.1) Ar142.2.2 hin142 hat142 (g := (mkF m 190 #[.val (.long d), .second, .val (.int si), .val (.int fg), .val (.int sp), .val (.int (Int32.ofNat n)), .val (.ref c), .val (.int pz), .unset, .unset, .unset, .unset] [(.int (2 : Int32)), (.ref c), (.int (2 : Int32)), (.ref b134), (.ref b134)])) rfl rfl (D_ at_190) _ ?_
          refine st143 _ ?_
          refine XS.dup X143.here hx rfl (D_ at_192) rfl rfl ?_
          refine XS.iconst X143.here hx rfl (D_ at_193) ?_
          refine XS.aload X143.here hx rfl (D_ at_194) rfl rfl ?_
          refine XS.iconst X143.here hx rfl (D_ at_196) ?_
          refine X143.caload hx (j := (3 : Int32)) (v := (.int y3)) (by first | exact Ar145.1 | (rw [e143]; exact Ar145.1)) (State.isArrayOf_alike hZ.alike Ar145.2.1) Ar145.2.2 hin145 hat145 (g := (mkF m 197 #[.val (.long d), .second, .val (.int si), .val (.int fg), .val (.int sp), .val (.int (Int32.ofNat n)), .val (.ref c), .val (.int pz), .unset, .unset, .unset, .unset] [(.int (3 : Int32)), (.ref c), (.int (3 : Int32)), (.ref b134), (.ref b134)])) rfl rfl (D_ at_197) _ ?_
          refine st146 _ ?_
          refine XS.astore X146.here hx rfl (D_ at_199) rfl rfl (l' := #[.val (.long d), .second, .val (.int si), .val (.int fg), .val (.int sp), .val (.int (Int32.ofNat n)), .val (.ref c), .val (.int pz), .val (.ref b134), .unset, .unset, .unset]) rfl ?_
          exact kt
        have hnk : n = 4 := by omega
        have hR148 : Arv Z h146 b134 k134 .char (Int32.ofNat ([y0, y1, y2, y3].take n).length) (([y0, y1, y2, y3].take n).map Value.int) (.int (0 : Int32)) := by rw [hnk]; exact J146
        exact ⟨T146, _, h146, (X146.more (by first | omega | (dsimp only [Pt.cells, Pt.slots]; omega)) (by first | omega | (dsimp only [Pt.cells, Pt.slots]; omega))), e146, b134, k134, ([y0, y1, y2, y3].take n), N146, (Keep.trans (Keep.trans (Keep.trans (Keep.trans (Keep.trans (Keep.refl h0 []) K134 all0) K137 (allS (Or.inr (Nat.le_of_eq g134.symm)) all0)) K140 (allS (Or.inr (Nat.le_of_eq g134.symm)) all0)) K143 (allS (Or.inr (Nat.le_of_eq g134.symm)) all0)) K146 (allS (Or.inr (Nat.le_of_eq g134.symm)) all0)), (Nat.le_of_eq g134.symm), hR148, rfl, fun tt kt => W147 _ kt⟩
theorem rm_ats {p : Program} {l : Launch} {e : Env} {R : Room} {s : State} {m : MethodId} {args : Array Value} {below : List Frame} {meth : Method} {cO : Code} {cells slots : Nat} {Z : State} {a0 : Array Value} (hx : p.tables.exec = Jvm.exec) (hZ : Z.Warmed39 s.vm) (hw : HW a0 Z) (hby : cO.code = code) (hml : cO.maxLocals = 12) (hown : s.vm.findClass "com/example/patents_via_api/patentsviaapi/cli/OptionsSplitAtFirstPinLaw" = some m.cls) (hRf : 0 ≤ R.frames) (hRl : 0 ≤ R.locals) (hRc : cells + 0 ≤ R.cells) (hRs : slots + 0 ≤ R.slots) (d : Int64) (si : Int32) (fg : Int32) (sp : Int32) (n : Nat) (c : Addr) (kc : ClassId) (pz : Int32) (y0 : Int32) (y1 : Int32) (y2 : Int32) (y3 : Int32) (ar : Addr) (a : Addr) (n0 : Nat)  (T0 : State) (L0 : List Loc) (h0 : Heap) (X0 : Stand p l e R s m args below meth cO T0 L0 cells slots) (e0 : T0.heap = h0) (N0 : Fr n0 L0) (Z0 : n0 ≤ h0.size) (V1 : Arv Z h0 c kc .char (4 : Int32) [(.int y0), (.int y1), (.int y2), (.int y3)] (.int (0 : Int32))) (hmm : sp ∈ ([y0, y1, y2, y3].take n)) :
    ∃ (T' : State) (L' : List Loc) (h' : Heap), Stand p l e R s m args below meth cO T' L' (cells + 0) (slots + 0) ∧ T'.heap = h' ∧ ∃ at_ : Nat, Fr n0 L' ∧ h' = h0 ∧ at_ = (fi sp [y0, y1, y2, y3]) ∧ ∀ zQ, SS p e below T' m 254 #[.val (.long d), .second, .val (.int si), .val (.int fg), .val (.int sp), .val (.int (Int32.ofNat n)), .val (.ref c), .val (.int pz), .val (.ref ar), .val (.ref a), .val (.int (Int32.ofNat at_)), .unset] [] zQ → SS p e below T0 m 212 #[.val (.long d), .second, .val (.int si), .val (.int fg), .val (.int sp), .val (.int (Int32.ofNat n)), .val (.ref c), .val (.int pz), .val (.ref ar), .val (.ref a), .unset, .unset] [] zQ := by
  have D_ : ∀ {i : Nat} {x}, decode code i = x → decode cO.code i = x := fun h => hb hby h
  have W0 : ∀ zQ, SS p e below T0 m 212 #[.val (.long d), .second, .val (.int si), .val (.int fg), .val (.int sp), .val (.int (Int32.ofNat n)), .val (.ref c), .val (.int pz), .val (.ref ar), .val (.ref a), .unset, .unset] [] zQ → Steps p.tables e below (T0.setTop (mkF m 212 #[.val (.long d), .second, .val (.int si), .val (.int fg), .val (.int sp), .val (.int (Int32.ofNat n)), .val (.ref c), .val (.int pz), .val (.ref ar), .val (.ref a), .unset, .unset] [])) zQ := fun tt kt => kt
  obtain ⟨cl101, Ar101, q101, S101, M101, H101, F101g⟩ := id V1
  have hin101 : ¬ ((0 : Int32) < 0 ∨ cl101.slots.size ≤ ((0 : Int32)).toNatClampNeg) := inb_of S101 ⟨by decide, by decide⟩
  have hat101 : cl101.slots[((0 : Int32)).toNatClampNeg]? = some (.int y0) := Has.at H101 hin101 rfl
  have W102 : ∀ zQ, SS p e below T0 m 218 #[.val (.long d), .second, .val (.int si), .val (.int fg), .val (.int sp), .val (.int (Int32.ofNat n)), .val (.ref c), .val (.int pz), .val (.ref ar), .val (.ref a), .unset, .unset] [(.int sp), (.int y0)] zQ → Steps p.tables e below (T0.setTop (mkF m 212 #[.val (.long d), .second, .val (.int si), .val (.int fg), .val (.int sp), .val (.int (Int32.ofNat n)), .val (.ref c), .val (.int pz), .val (.ref ar), .val (.ref a), .unset, .unset] [])) zQ := by
    intro tt kt
    refine W0 tt ?_
    refine XS.aload X0.here hx rfl (D_ at_212) rfl rfl ?_
    refine XS.iconst X0.here hx rfl (D_ at_214) ?_
    refine X0.caload hx (j := (0 : Int32)) (v := (.int y0)) (by first | exact Ar101.1 | (rw [e0]; exact Ar101.1)) (State.isArrayOf_alike hZ.alike Ar101.2.1) Ar101.2.2 hin101 hat101 (g := (mkF m 215 #[.val (.long d), .second, .val (.int si), .val (.int fg), .val (.int sp), .val (.int (Int32.ofNat n)), .val (.ref c), .val (.int pz), .val (.ref ar), .val (.ref a), .unset, .unset] [(.int (0 : Int32)), (.ref c)])) rfl rfl (D_ at_215) _ ?_
    refine XS.iload X0.here hx rfl (D_ at_216) rfl ?_
    exact kt
  by_cases hc103 : y0 = sp
  ·
    have W104 : ∀ zQ, SS p e below T0 m 254 #[.val (.long d), .second, .val (.int si), .val (.int fg), .val (.int sp), .val (.int (Int32.ofNat n)), .val (.ref c), .val (.int pz), .val (.ref ar), .val (.ref a), .val (.int (0 : Int32)), .unset] [] zQ → Steps p.tables e below (T0.setTop (mkF m 212 #[.val (.long d), .second, .val (.int si), .val (.int fg), .val (.int sp), .val (.int (Int32.ofNat n)), .val (.ref c), .val (.int pz), .val (.ref ar), .val (.ref a), .unset, .unset] [])) zQ := by
      intro tt kt
      refine W102 tt ?_
      refine XS.icmpNo X0.here hx rfl (D_ at_218) rfl (teq hc103).2 ?_
      refine XS.iconst X0.here hx rfl (D_ at_221) ?_
      refine XS.goto X0.here hx rfl (pc0 := 222) (pc' := 252) rfl (D_ at_222) (by decide) (by decide) ?_
      refine XS.istore X0.here hx rfl (D_ at_252) rfl (l' := #[.val (.long d), .second, .val (.int si), .val (.int fg), .val (.int sp), .val (.int (Int32.ofNat n)), .val (.ref c), .val (.int pz), .val (.ref ar), .val (.ref a), .val (.int (0 : Int32)), .unset]) rfl ?_
      exact kt
    have hF105 : 0 = fi sp [y0, y1, y2, y3] := by simp only [fi, if_pos hc103]
    exact ⟨T0, _, h0, (X0.more (by first | omega | (dsimp only [Pt.cells, Pt.slots]; omega)) (by first | omega | (dsimp only [Pt.cells, Pt.slots]; omega))), e0, 0, N0, rfl, hF105, fun tt kt => W104 _ kt⟩
  ·
    obtain ⟨cl106, Ar106, q106, S106, M106, H106, F106g⟩ := id V1
    have hin106 : ¬ ((1 : Int32) < 0 ∨ cl106.slots.size ≤ ((1 : Int32)).toNatClampNeg) := inb_of S106 ⟨by decide, by decide⟩
    have hat106 : cl106.slots[((1 : Int32)).toNatClampNeg]? = some (.int y1) := Has.at H106 hin106 rfl
    have W107 : ∀ zQ, SS p e below T0 m 231 #[.val (.long d), .second, .val (.int si), .val (.int fg), .val (.int sp), .val (.int (Int32.ofNat n)), .val (.ref c), .val (.int pz), .val (.ref ar), .val (.ref a), .unset, .unset] [(.int sp), (.int y1)] zQ → Steps p.tables e below (T0.setTop (mkF m 212 #[.val (.long d), .second, .val (.int si), .val (.int fg), .val (.int sp), .val (.int (Int32.ofNat n)), .val (.ref c), .val (.int pz), .val (.ref ar), .val (.ref a), .unset, .unset] [])) zQ := by
      intro tt kt
      refine W102 tt ?_
      refine XS.icmpYes X0.here hx rfl (pc0 := 218) (pc' := 225) rfl (D_ at_218) rfl (feq hc103).2 (by decide) (by decide) ?_
      refine XS.aload X0.here hx rfl (D_ at_225) rfl rfl ?_
      refine XS.iconst X0.here hx rfl (D_ at_227) ?_
      refine X0.caload hx (j := (1 : Int32)) (v := (.int y1)) (by first | exact Ar106.1 | (rw [e0]; exact Ar106.1)) (State.isArrayOf_alike hZ.alike Ar106.2.1) Ar106.2.2 hin106 hat106 (g := (mkF m 228 #[.val (.long d), .second, .val (.int si), .val (.int fg), .val (.int sp), .val (.int (Int32.ofNat n)), .val (.ref c), .val (.int pz), .val (.ref ar), .val (.ref a), .unset, .unset] [(.int (1 : Int32)), (.ref c)])) rfl rfl (D_ at_228) _ ?_
      refine XS.iload X0.here hx rfl (D_ at_229) rfl ?_
      exact kt
    by_cases hc108 : y1 = sp
    ·
      have W109 : ∀ zQ, SS p e below T0 m 254 #[.val (.long d), .second, .val (.int si), .val (.int fg), .val (.int sp), .val (.int (Int32.ofNat n)), .val (.ref c), .val (.int pz), .val (.ref ar), .val (.ref a), .val (.int (1 : Int32)), .unset] [] zQ → Steps p.tables e below (T0.setTop (mkF m 212 #[.val (.long d), .second, .val (.int si), .val (.int fg), .val (.int sp), .val (.int (Int32.ofNat n)), .val (.ref c), .val (.int pz), .val (.ref ar), .val (.ref a), .unset, .unset] [])) zQ := by
        intro tt kt
        refine W107 tt ?_
        refine XS.icmpNo X0.here hx rfl (D_ at_231) rfl (teq hc108).2 ?_
        refine XS.iconst X0.here hx rfl (D_ at_234) ?_
        refine XS.goto X0.here hx rfl (pc0 := 235) (pc' := 252) rfl (D_ at_235) (by decide) (by decide) ?_
        refine XS.istore X0.here hx rfl (D_ at_252) rfl (l' := #[.val (.long d), .second, .val (.int si), .val (.int fg), .val (.int sp), .val (.int (Int32.ofNat n)), .val (.ref c), .val (.int pz), .val (.ref ar), .val (.ref a), .val (.int (1 : Int32)), .unset]) rfl ?_
        exact kt
      have hF110 : 1 = fi sp [y0, y1, y2, y3] := by simp only [fi, if_neg hc103, if_pos hc108]
      exact ⟨T0, _, h0, (X0.more (by first | omega | (dsimp only [Pt.cells, Pt.slots]; omega)) (by first | omega | (dsimp only [Pt.cells, Pt.slots]; omega))), e0, 1, N0, rfl, hF110, fun tt kt => W109 _ kt⟩
    ·
      obtain ⟨cl111, Ar111, q111, S111, M111, H111, F111g⟩ := id V1
      have hin111 : ¬ ((2 : Int32) < 0 ∨ cl111.slots.size ≤ ((2 : Int32)).toNatClampNeg) := inb_of S111 ⟨by decide, by decide⟩
      have hat111 : cl111.slots[((2 : Int32)).toNatClampNeg]? = some (.int y2) := Has.at H111 hin111 rfl
      have W112 : ∀ zQ, SS p e below T0 m 244 #[.val (.long d), .second, .val (.int si), .val (.int fg), .val (.int sp), .val (.int (Int32.ofNat n)), .val (.ref c), .val (.int pz), .val (.ref ar), .val (.ref a), .unset, .unset] [(.int sp), (.int y2)] zQ → Steps p.tables e below (T0.setTop (mkF m 212 #[.val (.long d), .second, .val (.int si), .val (.int fg), .val (.int sp), .val (.int (Int32.ofNat n)), .val (.ref c), .val (.int pz), .val (.ref ar), .val (.ref a), .unset, .unset] [])) zQ := by
        intro tt kt
        refine W107 tt ?_
        refine XS.icmpYes X0.here hx rfl (pc0 := 231) (pc' := 238) rfl (D_ at_231) rfl (feq hc108).2 (by decide) (by decide) ?_
        refine XS.aload X0.here hx rfl (D_ at_238) rfl rfl ?_
        refine XS.iconst X0.here hx rfl (D_ at_240) ?_
        refine X0.caload hx (j := (2 : Int32)) (v := (.int y2)) (by first | exact Ar111.1 | (rw [e0]; exact Ar111.1)) (State.isArrayOf_alike hZ.alike Ar111.2.1) Ar111.2.2 hin111 hat111 (g := (mkF m 241 #[.val (.long d), .second, .val (.int si), .val (.int fg), .val (.int sp), .val (.int (Int32.ofNat n)), .val (.ref c), .val (.int pz), .val (.ref ar), .val (.ref a), .unset, .unset] [(.int (2 : Int32)), (.ref c)])) rfl rfl (D_ at_241) _ ?_
        refine XS.iload X0.here hx rfl (D_ at_242) rfl ?_
        exact kt
      by_cases hc113 : y2 = sp
      ·
        have W114 : ∀ zQ, SS p e below T0 m 254 #[.val (.long d), .second, .val (.int si), .val (.int fg), .val (.int sp), .val (.int (Int32.ofNat n)), .val (.ref c), .val (.int pz), .val (.ref ar), .val (.ref a), .val (.int (2 : Int32)), .unset] [] zQ → Steps p.tables e below (T0.setTop (mkF m 212 #[.val (.long d), .second, .val (.int si), .val (.int fg), .val (.int sp), .val (.int (Int32.ofNat n)), .val (.ref c), .val (.int pz), .val (.ref ar), .val (.ref a), .unset, .unset] [])) zQ := by
          intro tt kt
          refine W112 tt ?_
          refine XS.icmpNo X0.here hx rfl (D_ at_244) rfl (teq hc113).2 ?_
          refine XS.iconst X0.here hx rfl (D_ at_247) ?_
          refine XS.goto X0.here hx rfl (pc0 := 248) (pc' := 252) rfl (D_ at_248) (by decide) (by decide) ?_
          refine XS.istore X0.here hx rfl (D_ at_252) rfl (l' := #[.val (.long d), .second, .val (.int si), .val (.int fg), .val (.int sp), .val (.int (Int32.ofNat n)), .val (.ref c), .val (.int pz), .val (.ref ar), .val (.ref a), .val (.int (2 : Int32)), .unset]) rfl ?_
          exact kt
        have hF115 : 2 = fi sp [y0, y1, y2, y3] := by simp only [fi, if_neg hc103, if_neg hc108, if_pos hc113]
        exact ⟨T0, _, h0, (X0.more (by first | omega | (dsimp only [Pt.cells, Pt.slots]; omega)) (by first | omega | (dsimp only [Pt.cells, Pt.slots]; omega))), e0, 2, N0, rfl, hF115, fun tt kt => W114 _ kt⟩
      ·
        have W116 : ∀ zQ, SS p e below T0 m 254 #[.val (.long d), .second, .val (.int si), .val (.int fg), .val (.int sp), .val (.int (Int32.ofNat n)), .val (.ref c), .val (.int pz), .val (.ref ar), .val (.ref a), .val (.int (3 : Int32)), .unset] [] zQ → Steps p.tables e below (T0.setTop (mkF m 212 #[.val (.long d), .second, .val (.int si), .val (.int fg), .val (.int sp), .val (.int (Int32.ofNat n)), .val (.ref c), .val (.int pz), .val (.ref ar), .val (.ref a), .unset, .unset] [])) zQ := by
          intro tt kt
          refine W112 tt ?_
          refine XS.icmpYes X0.here hx rfl (pc0 := 244) (pc' := 251) rfl (D_ at_244) rfl (feq hc113).2 (by decide) (by decide) ?_
          refine XS.iconst X0.here hx rfl (D_ at_251) ?_
          refine XS.istore X0.here hx rfl (D_ at_252) rfl (l' := #[.val (.long d), .second, .val (.int si), .val (.int fg), .val (.int sp), .val (.int (Int32.ofNat n)), .val (.ref c), .val (.int pz), .val (.ref ar), .val (.ref a), .val (.int (3 : Int32)), .unset]) rfl ?_
          exact kt
        have hF117 : 3 = fi sp [y0, y1, y2, y3] := by simp only [fi, if_neg hc103, if_neg hc108, if_neg hc113, if_pos (own_at3 hmm hc103 hc108 hc113)]
        exact ⟨T0, _, h0, (X0.more (by first | omega | (dsimp only [Pt.cells, Pt.slots]; omega)) (by first | omega | (dsimp only [Pt.cells, Pt.slots]; omega))), e0, 3, N0, rfl, hF117, fun tt kt => W116 _ kt⟩
def Q_law (Z : State) (d : Int64) (si : Int32) (fg : Int32) (cS : Int32) (fm : Value) (h0 : Heap) (n0 : Nat) (vQ_ : Option Value) (hQ_ : Heap) (LQ_ : List Loc) : Prop := vQ_ = some (.int (1 : Int32)) ∧ Fr n0 LQ_ ∧ Keep h0 hQ_ []
theorem rm_law (l : Launch) (Z : State) (a0 : Array Value) (hw : HW a0 Z) (ws : List Jvm.Cond) (d : Int64) (si : Int32) (fg : Int32) (cS : Int32) (fm : Value) (h0 : Heap) (n0 : Nat) (Z0 : n0 ≤ h0.size) (O0 : Old Z n0 h0) (S_cs : Sta Z Z.heap "java/lang/String" "COMPACT_STRINGS" "Z" (.int cS)) (hcS : ¬ (cS = (0 : Int32))) (S_fm : Sta Z Z.heap "jdk/internal/util/Preconditions" "SIOOBE_FORMATTER" "Ljava/util/function/BiFunction;" fm) (hfm : fm.isRef = true) (S_ad : Sta Z Z.heap "java/lang/StringUTF16" "$assertionsDisabled" "Z" (.int (1 : Int32))) (S_hi : Sta Z Z.heap "java/lang/StringUTF16" "HI_BYTE_SHIFT" "I" (.int (0 : Int32))) (S_lo : Sta Z Z.heap "java/lang/StringUTF16" "LO_BYTE_SHIFT" "I" (.int (8 : Int32))) :
    MetFree l x (head1 (Jvm.Cond.code x code maxLocals ret :: ws) room_1) (fun aQ_ UQ => aQ_ = #[(.long d), (.int si), (.int fg)] ∧ Z.Warmed39 UQ.vm ∧ UQ.heap = h0 ∧ CHv Z EL_1 UQ.vm h0) (fun _ _ _ _ _ => True) (fun _ UQ oQ UQ' => ∃ vQ_ LQ_, oQ = .returned vQ_ ∧ Q_law Z d si fg cS fm h0 n0 vQ_ UQ'.heap LQ_ ∧ CHr Z EL_1 UQ.vm UQ.heap UQ'.vm UQ'.heap ∧ ReturnedEndW UQ oQ UQ' LQ_ room_1.cells room_1.slots) := by
  refine MetFree.of_bodySF (plainFor_of_name pn_com_example_patents_via_api_patentsviaapi_cli_OptionsSplitAtFirstPinLaw) hisR ?_
  intro p e s m args below meth cO s₁ Bd hml0 hP hK
  obtain ⟨rfl, hZ, hh, hH⟩ := hP
  have hx := Bd.exec
  have hby := Bd.bytes
  have hml : cO.maxLocals = 12 := hml0
  have hown : s.vm.findClass "com/example/patents_via_api/patentsviaapi/cli/OptionsSplitAtFirstPinLaw" = some m.cls := findClass_of_methodNamed Bd.named
  have hnm := (name_of_methodNamed Bd.named Bd.method).1
  have X0 : Stand p l e room_1 (s.setVm s.vm) m #[(.long d), (.int si), (.int fg)] below meth cO s₁ [] 0 0 := Stand.of_body Bd
  have e0 : s₁.heap = h0 := by rw [← hh, Bd.state]; rfl
  have N0 := Fr.nil n0
  have hZ0 : Z.Warmed39 (s.setVm s.vm).vm := hZ
  have hown0 : (s.setVm s.vm).vm.findClass "com/example/patents_via_api/patentsviaapi/cli/OptionsSplitAtFirstPinLaw" = some m.cls := hown
  have hS0 : s.Since s.vm 0 := (State.WarmedH.refl s).since 0
  have hk0 : 0 ≤ h0.size := Nat.zero_le _
  have hEL : EW Z a0 EL_1 := own_EW hw
  have R0 : CHr Z EL_1 s.vm h0 s.vm h0 := CHr.refl hH
  have D_ : ∀ {i : Nat} {x}, decode code i = x → decode cO.code i = x := fun h => hb hby h
  have W0 : ∀ zQ, SS p e below s₁ m 0 #[.val (.long d), .second, .val (.int si), .val (.int fg), .unset, .unset, .unset, .unset, .unset, .unset, .unset, .unset] [] zQ → Steps p.tables e below (s₁.setTop (entryFrame m #[(.long d), (.int si), (.int fg)] maxLocals)) zQ := fun tt kt => castTop (ef_law m d si fg) kt
  obtain ⟨sp, h_sp⟩ : ∃ z : Int32, z = (si.toUInt32.toUInt16.toUInt32.toInt32) := ⟨_, rfl⟩
  have hsp : C16 sp := by rw [h_sp]; exact own_i2c16 _
  obtain ⟨n, h1, h4, h_n⟩ := own_ln ((fg.toUInt32 >>> ((4 : Int32) &&& 31).toUInt32).toInt32)
  obtain ⟨T101, h101, k101, X101, e101, E101, A101, st101⟩ := newP X0 hx hZ0 (aty := .char) (w0 hw) e0 (g := (mkF m 14 #[.val (.long d), .second, .val (.int si), .val (.int fg), .val (.int sp), .val (.int (Int32.ofNat n)), .unset, .unset, .unset, .unset, .unset, .unset] [(.int (4 : Int32))])) rfl (D_ at_14) (n := (4 : Int32)) rfl (by decide) (cap := 4) (by decide) (by decide) (by decide) (by decide)
  obtain ⟨b101, g101⟩ : ∃ z, z = h0.size := ⟨_, rfl⟩
  rw [← g101] at A101 st101
  have K101 := (Keep.refl h0 []).ext E101
  have R102 : CHr Z EL_1 s.vm h0 s.vm h101 := R0.trans (CHr.keep K101 sf0 R0.1)
  have G101 : Arv Z h101 b101 k101 .char (4 : Int32) [(.int (0 : Int32)), (.int (0 : Int32)), (.int (0 : Int32)), (.int (0 : Int32))] (.int (0 : Int32)) := (Arv.new A101 (by decide)).pad (pad_rep [] (.int (0 : Int32)) 4)
  obtain ⟨_, _, ⟨T103, L103, k103, n103⟩, -, X103, ⟨Lc103, hQ103, l103, y103, z103⟩, st103⟩ := Jvm.LawKit.callS X101 hx (y := yn47) hown0 (mvT hZ0 (w1 hw)) (mvT hZ0 (w2 hw)) (mvT hZ0 (w3 hw)) (mvT hZ0 (w4 hw)) (by decide) (backOf (W := 2) (rm_pick l Z a0 hw [] d (0 : Int32) fg sp h101 n0 (Nat.le_trans Z0 K101.1) hsp.1 hsp.2) hZ0 (w4 hw) (w3 hw) (by decide) (by decide)) (g := (mkF m 26 #[.val (.long d), .second, .val (.int si), .val (.int fg), .val (.int sp), .val (.int (Int32.ofNat n)), .val (.ref b101), .unset, .unset, .unset, .unset, .unset] [(.int sp), (.int fg), (.int (0 : Int32)), (.long d), (.int (0 : Int32)), (.ref b101)])) rfl (by rw [hml]; rfl) (argsL := [(.long d), (.int (0 : Int32)), (.int fg), (.int sp)]) (rest := [(.int (0 : Int32)), (.ref b101)]) (lenOf pd29 rfl) rfl (wq rfl) (D_ at_26) (fun _ _ => ⟨rfl, e101, (nb rfl), (nb rfl)⟩)
  dsimp only [Pt.U, Pt.locs, Pt.cells, Pt.slots] at X103 l103 y103 z103 st103 hQ103
  subst l103 y103 z103
  obtain ⟨rw_104, rfl, Nq103, eq103, P103_0⟩ := hQ103
  have N103 := Fr.app N0 Nq103
  obtain ⟨cl105, Ar105, q105, S105, M105, H105, F105g⟩ := id G101
  have hin105 : ¬ ((0 : Int32) < 0 ∨ cl105.slots.size ≤ ((0 : Int32)).toNatClampNeg) := inb_of S105 ⟨by decide, by decide⟩
  obtain ⟨T105, h105, X105, e105, Wr105, st105⟩ := stC X103 hx hZ0 eq103 Ar105 (j := (0 : Int32)) hin105 (g := (mkF m 29 #[.val (.long d), .second, .val (.int si), .val (.int fg), .val (.int sp), .val (.int (Int32.ofNat n)), .val (.ref b101), .unset, .unset, .unset, .unset, .unset] [(.int rw_104), (.int (0 : Int32)), (.ref b101)])) rfl rfl (D_ at_29)
  have G105 : Arv Z h105 b101 k101 .char (4 : Int32) [(.int (nar .char rw_104)), (.int (0 : Int32)), (.int (0 : Int32)), (.int (0 : Int32))] (.int (0 : Int32)) := Arv.set Ar105 q105 S105 M105 H105 F105g (fits_nar_char _) Wr105 0 rfl (Nat.le_of_ble_eq_true rfl)
  have K105 := Keep.of_wr Wr105
  have N105 := Fr.snoc X105 N103 (Nat.le_trans Z0 (Nat.le_of_eq g101.symm))
  have R106 : CHr Z EL_1 s.vm h0 s.vm h105 := R102.trans (CHr.keep K105 (sfS (Safe.arv hZ0.alike G101 (by intro q; cases q)) sf0) R102.1)
  have J107 : Arv Z h105 b101 k101 .char (4 : Int32) [(.int rw_104), (.int (0 : Int32)), (.int (0 : Int32)), (.int (0 : Int32))] (.int (0 : Int32)) := by have q := G105; rw [own_nar16 P103_0] at q; exact q
  have z109 : n0 ≤ h105.size := (Nat.le_trans Z0 (Nat.le_trans K101.1 K105.1))
  obtain ⟨_, _, ⟨T108, L108, k108, n108⟩, -, X108, ⟨Lc108, hQ108, l108, y108, z108⟩, st108⟩ := Jvm.LawKit.callS X105 hx (y := yn47) hown0 (mvT hZ0 (w1 hw)) (mvT hZ0 (w2 hw)) (mvT hZ0 (w3 hw)) (mvT hZ0 (w4 hw)) (by decide) (backOf (W := 2) (rm_pick l Z a0 hw [] d (1 : Int32) fg sp h105 n0 z109 hsp.1 hsp.2) hZ0 (w4 hw) (w3 hw) (by decide) (by decide)) (g := (mkF m 38 #[.val (.long d), .second, .val (.int si), .val (.int fg), .val (.int sp), .val (.int (Int32.ofNat n)), .val (.ref b101), .unset, .unset, .unset, .unset, .unset] [(.int sp), (.int fg), (.int (1 : Int32)), (.long d), (.int (1 : Int32)), (.ref b101)])) rfl (by rw [hml]; rfl) (argsL := [(.long d), (.int (1 : Int32)), (.int fg), (.int sp)]) (rest := [(.int (1 : Int32)), (.ref b101)]) (lenOf pd29 rfl) rfl (wq rfl) (D_ at_38) (fun _ _ => ⟨rfl, e105, (nb rfl), (nb rfl)⟩)
  dsimp only [Pt.U, Pt.locs, Pt.cells, Pt.slots] at X108 l108 y108 z108 st108 hQ108
  subst l108 y108 z108
  obtain ⟨rw_110, rfl, Nq108, eq108, P108_0⟩ := hQ108
  have N108 := Fr.app N105 Nq108
  obtain ⟨cl111, Ar111, q111, S111, M111, H111, F111g⟩ := id J107
  have hin111 : ¬ ((1 : Int32) < 0 ∨ cl111.slots.size ≤ ((1 : Int32)).toNatClampNeg) := inb_of S111 ⟨by decide, by decide⟩
  obtain ⟨T111, h111, X111, e111, Wr111, st111⟩ := stC X108 hx hZ0 eq108 Ar111 (j := (1 : Int32)) hin111 (g := (mkF m 41 #[.val (.long d), .second, .val (.int si), .val (.int fg), .val (.int sp), .val (.int (Int32.ofNat n)), .val (.ref b101), .unset, .unset, .unset, .unset, .unset] [(.int rw_110), (.int (1 : Int32)), (.ref b101)])) rfl rfl (D_ at_41)
  have G111 : Arv Z h111 b101 k101 .char (4 : Int32) [(.int rw_104), (.int (nar .char rw_110)), (.int (0 : Int32)), (.int (0 : Int32))] (.int (0 : Int32)) := Arv.set Ar111 q111 S111 M111 H111 F111g (fits_nar_char _) Wr111 1 rfl (Nat.le_of_ble_eq_true rfl)
  have K111 := Keep.of_wr Wr111
  have N111 := Fr.snoc X111 N108 (Nat.le_trans Z0 (Nat.le_of_eq g101.symm))
  have R112 : CHr Z EL_1 s.vm h0 s.vm h111 := R106.trans (CHr.keep K111 (sfS (Safe.arv hZ0.alike J107 (by intro q; cases q)) sf0) R106.1)
  have J113 : Arv Z h111 b101 k101 .char (4 : Int32) [(.int rw_104), (.int rw_110), (.int (0 : Int32)), (.int (0 : Int32))] (.int (0 : Int32)) := by have q := G111; rw [own_nar16 P108_0] at q; exact q
  obtain ⟨_, _, ⟨T114, L114, k114, n114⟩, -, X114, ⟨Lc114, hQ114, l114, y114, z114⟩, st114⟩ := Jvm.LawKit.callS X111 hx (y := yn47) hown0 (mvT hZ0 (w1 hw)) (mvT hZ0 (w2 hw)) (mvT hZ0 (w3 hw)) (mvT hZ0 (w4 hw)) (by decide) (backOf (W := 2) (rm_pick l Z a0 hw [] d (2 : Int32) fg sp h111 n0 (Nat.le_trans z109 K111.1) hsp.1 hsp.2) hZ0 (w4 hw) (w3 hw) (by decide) (by decide)) (g := (mkF m 50 #[.val (.long d), .second, .val (.int si), .val (.int fg), .val (.int sp), .val (.int (Int32.ofNat n)), .val (.ref b101), .unset, .unset, .unset, .unset, .unset] [(.int sp), (.int fg), (.int (2 : Int32)), (.long d), (.int (2 : Int32)), (.ref b101)])) rfl (by rw [hml]; rfl) (argsL := [(.long d), (.int (2 : Int32)), (.int fg), (.int sp)]) (rest := [(.int (2 : Int32)), (.ref b101)]) (lenOf pd29 rfl) rfl (wq rfl) (D_ at_50) (fun _ _ => ⟨rfl, e111, (nb rfl), (nb rfl)⟩)
  dsimp only [Pt.U, Pt.locs, Pt.cells, Pt.slots] at X114 l114 y114 z114 st114 hQ114
  subst l114 y114 z114
  obtain ⟨rw_115, rfl, Nq114, eq114, P114_0⟩ := hQ114
  have N114 := Fr.app N111 Nq114
  obtain ⟨cl116, Ar116, q116, S116, M116, H116, F116g⟩ := id J113
  have hin116 : ¬ ((2 : Int32) < 0 ∨ cl116.slots.size ≤ ((2 : Int32)).toNatClampNeg) := inb_of S116 ⟨by decide, by decide⟩
  obtain ⟨T116, h116, X116, e116, Wr116, st116⟩ := stC X114 hx hZ0 eq114 Ar116 (j := (2 : Int32)) hin116 (g := (mkF m 53 #[.val (.long d), .second, .val (.int si), .val (.int fg), .val (.int sp), .val (.int (Int32.ofNat n)), .val (.ref b101), .unset, .unset, .unset, .unset, .unset] [(.int rw_115), (.int (2 : Int32)), (.ref b101)])) rfl rfl (D_ at_53)
  have G116 : Arv Z h116 b101 k101 .char (4 : Int32) [(.int rw_104), (.int rw_110), (.int (nar .char rw_115)), (.int (0 : Int32))] (.int (0 : Int32)) := Arv.set Ar116 q116 S116 M116 H116 F116g (fits_nar_char _) Wr116 2 rfl (Nat.le_of_ble_eq_true rfl)
  have K116 := Keep.of_wr Wr116
  have N116 := Fr.snoc X116 N114 (Nat.le_trans Z0 (Nat.le_of_eq g101.symm))
  have R117 : CHr Z EL_1 s.vm h0 s.vm h116 := R112.trans (CHr.keep K116 (sfS (Safe.arv hZ0.alike J113 (by intro q; cases q)) sf0) R112.1)
  have J118 : Arv Z h116 b101 k101 .char (4 : Int32) [(.int rw_104), (.int rw_110), (.int rw_115), (.int (0 : Int32))] (.int (0 : Int32)) := by have q := G116; rw [own_nar16 P114_0] at q; exact q
  have z120 : n0 ≤ h116.size := (Nat.le_trans z109 (Nat.le_trans K111.1 K116.1))
  obtain ⟨_, _, ⟨T119, L119, k119, n119⟩, -, X119, ⟨Lc119, hQ119, l119, y119, z119⟩, st119⟩ := Jvm.LawKit.callS X116 hx (y := yn47) hown0 (mvT hZ0 (w1 hw)) (mvT hZ0 (w2 hw)) (mvT hZ0 (w3 hw)) (mvT hZ0 (w4 hw)) (by decide) (backOf (W := 2) (rm_pick l Z a0 hw [] d (3 : Int32) fg sp h116 n0 z120 hsp.1 hsp.2) hZ0 (w4 hw) (w3 hw) (by decide) (by decide)) (g := (mkF m 62 #[.val (.long d), .second, .val (.int si), .val (.int fg), .val (.int sp), .val (.int (Int32.ofNat n)), .val (.ref b101), .unset, .unset, .unset, .unset, .unset] [(.int sp), (.int fg), (.int (3 : Int32)), (.long d), (.int (3 : Int32)), (.ref b101)])) rfl (by rw [hml]; rfl) (argsL := [(.long d), (.int (3 : Int32)), (.int fg), (.int sp)]) (rest := [(.int (3 : Int32)), (.ref b101)]) (lenOf pd29 rfl) rfl (wq rfl) (D_ at_62) (fun _ _ => ⟨rfl, e116, (nb rfl), (nb rfl)⟩)
  dsimp only [Pt.U, Pt.locs, Pt.cells, Pt.slots] at X119 l119 y119 z119 st119 hQ119
  subst l119 y119 z119
  obtain ⟨rw_121, rfl, Nq119, eq119, P119_0⟩ := hQ119
  have N119 := Fr.app N116 Nq119
  obtain ⟨cl122, Ar122, q122, S122, M122, H122, F122g⟩ := id J118
  have hin122 : ¬ ((3 : Int32) < 0 ∨ cl122.slots.size ≤ ((3 : Int32)).toNatClampNeg) := inb_of S122 ⟨by decide, by decide⟩
  obtain ⟨T122, h122, X122, e122, Wr122, st122⟩ := stC X119 hx hZ0 eq119 Ar122 (j := (3 : Int32)) hin122 (g := (mkF m 65 #[.val (.long d), .second, .val (.int si), .val (.int fg), .val (.int sp), .val (.int (Int32.ofNat n)), .val (.ref b101), .unset, .unset, .unset, .unset, .unset] [(.int rw_121), (.int (3 : Int32)), (.ref b101)])) rfl rfl (D_ at_65)
  have G122 : Arv Z h122 b101 k101 .char (4 : Int32) [(.int rw_104), (.int rw_110), (.int rw_115), (.int (nar .char rw_121))] (.int (0 : Int32)) := Arv.set Ar122 q122 S122 M122 H122 F122g (fits_nar_char _) Wr122 3 rfl (Nat.le_of_ble_eq_true rfl)
  have K122 := Keep.of_wr Wr122
  have N122 := Fr.snoc X122 N119 (Nat.le_trans Z0 (Nat.le_of_eq g101.symm))
  have R123 : CHr Z EL_1 s.vm h0 s.vm h122 := R117.trans (CHr.keep K122 (sfS (Safe.arv hZ0.alike J118 (by intro q; cases q)) sf0) R117.1)
  have J124 : Arv Z h122 b101 k101 .char (4 : Int32) [(.int rw_104), (.int rw_110), (.int rw_115), (.int rw_121)] (.int (0 : Int32)) := by have q := G122; rw [own_nar16 P119_0] at q; exact q
  obtain ⟨pn, hpn, h_p⟩ := own_pn ((fg.toUInt32 >>> ((6 : Int32) &&& 31).toUInt32).toInt32) h1 h4
  obtain ⟨cl125, Ar125, q125, S125, M125, H125, F125g⟩ := id J124
  have hin125 : ¬ ((Int32.ofNat pn) < 0 ∨ cl125.slots.size ≤ ((Int32.ofNat pn)).toNatClampNeg) := inb_of S125 ⟨own_nneg (by omega), own_lt (n := 4) (by omega) (by decide)⟩
  obtain ⟨T125, h125, X125, e125, Wr125, st125⟩ := stC X122 hx hZ0 e122 Ar125 (j := (Int32.ofNat pn)) hin125 (g := (mkF m 83 #[.val (.long d), .second, .val (.int si), .val (.int fg), .val (.int sp), .val (.int (Int32.ofNat n)), .val (.ref b101), .val (.int (Int32.ofNat pn)), .unset, .unset, .unset, .unset] [(.int sp), (.int (Int32.ofNat pn)), (.ref b101)])) rfl rfl (D_ at_83)
  have G125 : Arv Z h125 b101 k101 .char (4 : Int32) ([(.int rw_104), (.int rw_110), (.int rw_115), (.int rw_121)].set pn (.int (nar .char sp))) (.int (0 : Int32)) := Arv.set Ar125 q125 S125 M125 H125 F125g (fits_nar_char _) Wr125 pn (own_cl (by omega)) (show pn < 4 by omega)
  have K125 := Keep.of_wr Wr125
  have N125 := Fr.snoc X125 N122 (Nat.le_trans Z0 (Nat.le_of_eq g101.symm))
  have R126 : CHr Z EL_1 s.vm h0 s.vm h125 := R123.trans (CHr.keep K125 (sfS (Safe.arv hZ0.alike J124 (by intro q; cases q)) sf0) R123.1)
  obtain ⟨y0, y1, y2, y3, hy127, hq, hmm⟩ := own_set4 P103_0 P108_0 P114_0 P119_0 hsp hpn h4
  have J127 : Arv Z h125 b101 k101 .char (4 : Int32) [(.int y0), (.int y1), (.int y2), (.int y3)] (.int (0 : Int32)) := by have q := G125; rw [own_nar16 hsp, hy127] at q; exact q
  have z132 : n0 ≤ h125.size := (Nat.le_trans z120 (Nat.le_trans K122.1 K125.1))
  obtain ⟨T128, L128, h128, X128, e128, ar_129, ka_130, cs_131, Nl128, K128, P128_0, P128_1, P128_2, st128⟩ := rm_mk hx hZ0 hw hby hml hown0 (by decide) (by decide) (by decide) (by decide) d si fg sp n b101 k101 (Int32.ofNat pn) y0 y1 y2 y3 n0  T125 _ h125 X125 e125 N125 z132 J127 h1 h4 hq
  have R133 : CHr Z EL_1 s.vm h0 s.vm h128 := R126.trans (CHr.keep K128 sf0 R126.1)
  have hcl : cs_131.length = n := by rw [P128_2]; exact tk_len h4
  have hok : OkS cs_131 := by rw [P128_2]; exact hq.ok n
  have hms : sp ∈ cs_131 := by rw [P128_2]; exact hmm
  obtain ⟨T134, h134, X134, e134, E134, A134, D134, U134, st134⟩ := newO X128 hx hZ0 hown0 (w6 hw) (w7 hw) (w8 hw) e128 (g := (mkF m 201 #[.val (.long d), .second, .val (.int si), .val (.int fg), .val (.int sp), .val (.int (Int32.ofNat n)), .val (.ref b101), .val (.int (Int32.ofNat pn)), .val (.ref ar_129), .unset, .unset, .unset] [])) rfl (D_ at_201) (by decide) (by decide)
  obtain ⟨b134, g134⟩ : ∃ z, z = h128.size := ⟨_, rfl⟩
  rw [← g134] at A134 D134 U134 st134
  have K134 := (Keep.refl h128 []).ext E134
  have R135 : CHr Z EL_1 s.vm h0 s.vm h134 := R133.trans (CHr.keep K134 sf0 R133.1)
  have G134_coder : Fld Z h134 b134 "java/lang/String" "coder" "B" (.int (0 : Int32)) := D134 (Or.inr (w32 hw)) (ty := .byte) (by decide)
  have G134_value : Fld Z h134 b134 "java/lang/String" "value" "[B" .null := D134 (Or.inr (w34 hw)) (ty := (.array .byte)) (by decide)
  have gn136 : n0 ≤ b134 := Nat.le_trans Z0 (Nat.le_trans (Nat.le_trans (Nat.le_trans (Nat.le_trans (Nat.le_trans (Nat.le_trans (Nat.le_trans K101.1 K105.1) K111.1) K116.1) K122.1) K125.1) K128.1) (Nat.le_of_eq g134.symm))
  have F137 : Arv Z h134 ar_129 ka_130 .char (Int32.ofNat cs_131.length) (cs_131.map Value.int) (.int (0 : Int32)) := (P128_1.keep K134 nin0)
  have ne138 : b134 ≠ ar_129 := (Ne.symm (Nat.ne_of_lt (Nat.lt_of_lt_of_le P128_1.lt (Nat.le_of_eq g134.symm))))
  have O139 : Old Z n0 h134 := ((((((((O0.keep K101 all0).keep K105 (allS (Nat.le_trans Z0 (Nat.le_of_eq g101.symm)) all0)).keep K111 (allS (Nat.le_trans Z0 (Nat.le_of_eq g101.symm)) all0)).keep K116 (allS (Nat.le_trans Z0 (Nat.le_of_eq g101.symm)) all0)).keep K122 (allS (Nat.le_trans Z0 (Nat.le_of_eq g101.symm)) all0)).keep K125 (allS (Nat.le_trans Z0 (Nat.le_of_eq g101.symm)) all0)).keep K128 all0).keep K134 all0)
  have z141 : n0 ≤ h134.size := (Nat.le_trans z132 (Nat.le_trans K128.1 K134.1))
  obtain ⟨_, _, ⟨T140, L140, k140, n140⟩, -, X140, ⟨Lc140, hQ140, l140, y140, z140⟩, st140⟩ := X134.specialBack hx (y := yn19) rfl hown0 (mvT hZ0 (w9 hw)) (mvT hZ0 (w10 hw)) (mvT hZ0 (w11 hw)) (by decide) (backOf (W := 1) (rm_sinit l Z a0 hw [] b134 ar_129 ka_130 cs_131 cS h134 n0 z141 O139 S_cs hcS S_ad S_hi S_lo A134 G134_value G134_coder gn136 F137 hok (by omega) (by omega) ne138) hZ0 (w11 hw) (w8 hw) (by decide) (by decide)) (g := (mkF m 207 #[.val (.long d), .second, .val (.int si), .val (.int fg), .val (.int sp), .val (.int (Int32.ofNat n)), .val (.ref b101), .val (.int (Int32.ofNat pn)), .val (.ref ar_129), .unset, .unset, .unset] [(.ref ar_129), (.ref b134), (.ref b134)])) rfl (by rw [hml]; rfl) (Steps.refl _) (a := b134) (argsL := [(.ref ar_129)]) (rest := [(.ref b134)]) (lenOf pd30 rfl) rfl (wq rfl) (D_ at_207) (fun _ _ => ⟨rfl, e134, (nb rfl), (nb rfl)⟩)
  dsimp only [Pt.U, Pt.locs, Pt.cells, Pt.slots] at X140 l140 y140 z140 st140 hQ140
  subst l140 y140 z140
  obtain ⟨t_142, kb_143, rfl, Nq140, K140, P140_0, P140_1⟩ := hQ140
  have N140 := Fr.app Nl128 Nq140
  have Sf144 : Safe Z EL_1 s.vm h134 b134 := (Safe.keep K134 sf0 R133.1 (Safe.new (Nat.le_of_eq g134.symm)))
  have R145 : CHr Z EL_1 s.vm h0 s.vm T140.heap := R135.trans (CHr.keep K140 (sfS Sf144 sf0) R135.1)
  have ne147 : b101 ≠ b134 := (Nat.ne_of_lt (Nat.lt_of_lt_of_le (Nat.lt_of_lt_of_le G101.lt (Nat.le_trans (Nat.le_trans (Nat.le_trans (Nat.le_trans (Nat.le_trans K105.1 K111.1) K116.1) K122.1) K125.1) K128.1)) (Nat.le_of_eq g134.symm)))
  have F148 : Arv Z T140.heap b101 k101 .char (4 : Int32) [(.int y0), (.int y1), (.int y2), (.int y3)] (.int (0 : Int32)) := (((J127.keep K128 nin0).keep K134 nin0).keep K140 (ninS ne147 nin0))
  obtain ⟨T146, L146, h146, X146, e146, at__149, Nl146, K146, P146_0, st146⟩ := rm_ats hx hZ0 hw hby hml hown0 (by decide) (by decide) (by decide) (by decide) d si fg sp n b101 k101 (Int32.ofNat pn) y0 y1 y2 y3 ar_129 b134 n0  T140 _ T140.heap X140 rfl N140 (Nat.le_trans z141 K140.1) F148 hmm
  have haf : fi sp cs_131 = at__149 := by rw [P128_2, fi_take hmm]; exact P146_0.symm
  have hal : at__149 < n := by rw [← haf, ← hcl]; exact fi_lt hms
  have O150 : Old Z n0 T140.heap := (O139.keep K140 (allS gn136 all0))
  obtain ⟨_, _, ⟨T151, L151, k151, n151⟩, -, X151', hS151', hgr151, ⟨Lc151, hQ151, l151, y151, z151, A151⟩, st151⟩ := callSS X146 hx (y := yn46) hown0 (mvT hZ0 (w35 hw)) (mvT hZ0 (w36 hw)) (mvT hZ0 (w37 hw)) (mvT hZ0 (w38 hw)) (by decide) (backOfSH (W := 0) (rm_splitAt l Z a0 hw [] b134 sp t_142 kb_143 cs_131 cS fm T140.heap n0 (Nat.le_trans z141 K140.1) O150 S_cs hcS S_fm hfm S_ad S_hi S_lo P140_1 hms (by omega)) hZ0 (w38 hw) (w37 hw) (by decide) (by decide) hEL R145.1) (g := (mkF m 258 #[.val (.long d), .second, .val (.int si), .val (.int fg), .val (.int sp), .val (.int (Int32.ofNat n)), .val (.ref b101), .val (.int (Int32.ofNat pn)), .val (.ref ar_129), .val (.ref b134), .val (.int (Int32.ofNat at__149)), .unset] [(.int sp), (.ref b134)])) rfl (by rw [hml]; rfl) (argsL := [(.ref b134), (.int sp)]) (rest := []) (lenOf pd31 rfl) rfl (wq rfl) (D_ at_258) (fun _ _ => ⟨rfl, (e146.trans K146), (nb rfl), (nb rfl)⟩)
  dsimp only [Pt.U, Pt.locs, Pt.cells, Pt.slots] at X151' hS151' hgr151 l151 y151 z151 st151 hQ151 A151
  subst l151 y151 z151
  obtain ⟨X151, hS151, hZ151, hown151⟩ := rebS hS0 (by rw [(e146.trans K146)]; exact (Nat.le_trans hk0 (Nat.le_trans (Nat.le_trans (Nat.le_trans (Nat.le_trans (Nat.le_trans (Nat.le_trans (Nat.le_trans (Nat.le_trans K101.1 K105.1) K111.1) K116.1) K122.1) K125.1) K128.1) K134.1) K140.1))) X151' hS151' hgr151 hZ0 hown0
  obtain ⟨r_152, kr_153, a1_154, t1_155, k1_156, a2_157, t2_158, k2_159, rfl, Nq151, K151, P151_0, P151_1, P151_2⟩ := hQ151
  have N151 := Fr.app Nl146 Nq151
  have R160 : CHr Z EL_1 s.vm h0 T151.vm T151.heap := R145.trans A151
  have hk151 : T151.heap.size ≤ T151.heap.size := Nat.le_refl _
  have hW161 : Str Z T151.heap a1_154 t1_155 k1_156 ((cs_131.drop 0).take at__149) := by have q := P151_1; rw [haf] at q; exact q
  have hW162 : Str Z T151.heap a2_157 t2_158 k2_159 ((cs_131.drop (at__149 + 1)).take (cs_131.length - (at__149 + 1))) := by have q := P151_2; rw [haf] at q; exact q
  obtain ⟨cl163, Ar163, -, S163, M163, -, -⟩ := id P151_0
  obtain ⟨cl164, Ar164, q164, S164, M164, H164, F164g⟩ := id P151_0
  have hin164 : ¬ ((0 : Int32) < 0 ∨ cl164.slots.size ≤ ((0 : Int32)).toNatClampNeg) := inb_of S164 ⟨by decide, by decide⟩
  have hat164 : cl164.slots[((0 : Int32)).toNatClampNeg]? = some (.ref a1_154) := Has.at H164 hin164 rfl
  obtain ⟨cl165, Ar165, q165, S165, M165, H165, F165g⟩ := id P151_0
  have hin165 : ¬ ((1 : Int32) < 0 ∨ cl165.slots.size ≤ ((1 : Int32)).toNatClampNeg) := inb_of S165 ⟨by decide, by decide⟩
  have hat165 : cl165.slots[((1 : Int32)).toNatClampNeg]? = some (.ref a2_157) := Has.at H165 hin165 rfl
  obtain ⟨cl166, Ar166, q166, S166, M166, H166, F166g⟩ := id P151_0
  have hin166 : ¬ ((0 : Int32) < 0 ∨ cl166.slots.size ≤ ((0 : Int32)).toNatClampNeg) := inb_of S166 ⟨by decide, by decide⟩
  have hat166 : cl166.slots[((0 : Int32)).toNatClampNeg]? = some (.ref a1_154) := Has.at H166 hin166 rfl
  have O167 : Old Z n0 T151.heap := (O150.keep K151 all0)
  have z169 : n0 ≤ T151.heap.size := (Nat.le_trans z141 (Nat.le_trans K140.1 K151.1))
  obtain ⟨cq168, kq168, q168a, q168b, q168c⟩ := isOf hZ151 rfl hW161.1
  obtain ⟨_, _, ⟨T168, L168, k168, n168⟩, -, X168, ⟨Lc168, hQ168, l168, y168, z168⟩, st168⟩ := X151.virtualBack hx (y := yn10) (z := yn10) hown151 (mvT hZ151 (w108 hw)) (mvT hZ151 (w55 hw)) (notFace_of_selects (args := #[]) (mvT hZ151 (w57 hw))) (mvT hZ151 (w57 hw)) (mvT hZ151 (w56 hw)) (by decide) (backOf (W := 0) (rm_length l Z a0 hw [] a1_154 t1_155 k1_156 ((cs_131.drop 0).take at__149) cS T151.heap n0 z169 O167 S_cs hcS hW161) hZ151 (w58 hw) (w8 hw) (by decide) (by decide)) q168a q168c (g := (mkF m 295 #[.val (.long d), .second, .val (.int si), .val (.int fg), .val (.int sp), .val (.int (Int32.ofNat n)), .val (.ref b101), .val (.int (Int32.ofNat pn)), .val (.ref ar_129), .val (.ref b134), .val (.int (Int32.ofNat at__149)), .val (.ref r_152)] [(.ref a1_154)])) rfl (by rw [hml]; rfl) (Steps.refl _) (argsL := []) (rest := []) (lenOf pd23 rfl) rfl (wq rfl) (D_ at_295) (fun _ _ => ⟨rfl, rfl, (nb rfl), (nb rfl)⟩)
  dsimp only [Pt.U, Pt.locs, Pt.cells, Pt.slots] at X168 l168 y168 z168 st168 hQ168
  subst l168 y168 z168
  obtain ⟨rfl, Nq168, eq168⟩ := hQ168
  have N168 := Fr.app N151 Nq168
  obtain ⟨cl170, Ar170, q170, S170, M170, H170, F170g⟩ := id P151_0
  have hin170 : ¬ ((1 : Int32) < 0 ∨ cl170.slots.size ≤ ((1 : Int32)).toNatClampNeg) := inb_of S170 ⟨by decide, by decide⟩
  have hat170 : cl170.slots[((1 : Int32)).toNatClampNeg]? = some (.ref a2_157) := Has.at H170 hin170 rfl
  obtain ⟨cq171, kq171, q171a, q171b, q171c⟩ := isOf hZ151 eq168 hW162.1
  obtain ⟨_, _, ⟨T171, L171, k171, n171⟩, -, X171, ⟨Lc171, hQ171, l171, y171, z171⟩, st171⟩ := X168.virtualBack hx (y := yn10) (z := yn10) hown151 (mvT hZ151 (w108 hw)) (mvT hZ151 (w55 hw)) (notFace_of_selects (args := #[]) (mvT hZ151 (w57 hw))) (mvT hZ151 (w57 hw)) (mvT hZ151 (w56 hw)) (by decide) (backOf (W := 0) (rm_length l Z a0 hw [] a2_157 t2_158 k2_159 ((cs_131.drop (at__149 + 1)).take (cs_131.length - (at__149 + 1))) cS T151.heap n0 z169 O167 S_cs hcS hW162) hZ151 (w58 hw) (w8 hw) (by decide) (by decide)) q171a q171c (g := (mkF m 307 #[.val (.long d), .second, .val (.int si), .val (.int fg), .val (.int sp), .val (.int (Int32.ofNat n)), .val (.ref b101), .val (.int (Int32.ofNat pn)), .val (.ref ar_129), .val (.ref b134), .val (.int (Int32.ofNat at__149)), .val (.ref r_152)] [(.ref a2_157)])) rfl (by rw [hml]; rfl) (Steps.refl _) (argsL := []) (rest := []) (lenOf pd23 rfl) rfl (wq rfl) (D_ at_307) (fun _ _ => ⟨rfl, eq168, (nb rfl), (nb rfl)⟩)
  dsimp only [Pt.U, Pt.locs, Pt.cells, Pt.slots] at X171 l171 y171 z171 st171 hQ171
  subst l171 y171 z171
  obtain ⟨rfl, Nq171, eq171⟩ := hQ171
  have N171 := Fr.app N168 Nq171
  obtain ⟨cl172, Ar172, q172, S172, M172, H172, F172g⟩ := id P151_0
  have hin172 : ¬ ((0 : Int32) < 0 ∨ cl172.slots.size ≤ ((0 : Int32)).toNatClampNeg) := inb_of S172 ⟨by decide, by decide⟩
  have hat172 : cl172.slots[((0 : Int32)).toNatClampNeg]? = some (.ref a1_154) := Has.at H172 hin172 rfl
  have F173 : Arv Z T151.heap b101 k101 .char (4 : Int32) [(.int y0), (.int y1), (.int y2), (.int y3)] (.int (0 : Int32)) := (F148.keep K151 nin0)
  obtain ⟨_, _, ⟨T174, L174, k174, n174⟩, -, X174, ⟨Lc174, hQ174, l174, y174, z174⟩, st174⟩ := Jvm.LawKit.callS X171 hx (y := yn48) hown151 (mvT hZ151 (w109 hw)) (mvT hZ151 (w110 hw)) (mvT hZ151 (w3 hw)) (mvT hZ151 (w111 hw)) (by decide) (backOf (W := 0) (rm_preB l Z a0 hw [] a1_154 b101 0 at__149 t1_155 k1_156 ((cs_131.drop 0).take at__149) k101 y0 y1 y2 y3 cS fm T151.heap n0 z169 O167 S_cs hcS S_fm hfm S_ad S_hi S_lo hW161 F173 (own_dl (by omega)) (by omega) (by decide) (fun i hi => own_pre P128_2 hcl (by omega) hi)) hZ151 (w111 hw) (w3 hw) (by decide) (by decide)) (g := (mkF m 331 #[.val (.long d), .second, .val (.int si), .val (.int fg), .val (.int sp), .val (.int (Int32.ofNat n)), .val (.ref b101), .val (.int (Int32.ofNat pn)), .val (.ref ar_129), .val (.ref b134), .val (.int (Int32.ofNat at__149)), .val (.ref r_152)] [(.ref b101), (.int (Int32.ofNat at__149)), (.int (0 : Int32)), (.ref a1_154)])) rfl (by rw [hml]; rfl) (argsL := [(.ref a1_154), (.int (0 : Int32)), (.int (Int32.ofNat at__149)), (.ref b101)]) (rest := []) (lenOf pd32 rfl) rfl (wq rfl) (D_ at_331) (fun _ _ => ⟨rfl, eq171, (nb rfl), (nb rfl)⟩)
  dsimp only [Pt.U, Pt.locs, Pt.cells, Pt.slots] at X174 l174 y174 z174 st174 hQ174
  subst l174 y174 z174
  obtain ⟨rfl, Nq174, eq174⟩ := hQ174
  have N174 := Fr.app N171 Nq174
  obtain ⟨cl175, Ar175, q175, S175, M175, H175, F175g⟩ := id P151_0
  have hin175 : ¬ ((0 : Int32) < 0 ∨ cl175.slots.size ≤ ((0 : Int32)).toNatClampNeg) := inb_of S175 ⟨by decide, by decide⟩
  have hat175 : cl175.slots[((0 : Int32)).toNatClampNeg]? = some (.ref a1_154) := Has.at H175 hin175 rfl
  obtain ⟨_, _, ⟨T176, L176, k176, n176⟩, -, X176, ⟨Lc176, hQ176, l176, y176, z176⟩, st176⟩ := Jvm.LawKit.callS X174 hx (y := yn48) hown151 (mvT hZ151 (w109 hw)) (mvT hZ151 (w110 hw)) (mvT hZ151 (w3 hw)) (mvT hZ151 (w111 hw)) (by decide) (backOf (W := 0) (rm_preB l Z a0 hw [] a1_154 b101 1 at__149 t1_155 k1_156 ((cs_131.drop 0).take at__149) k101 y0 y1 y2 y3 cS fm T151.heap n0 z169 O167 S_cs hcS S_fm hfm S_ad S_hi S_lo hW161 F173 (own_dl (by omega)) (by omega) (by decide) (fun i hi => own_pre P128_2 hcl (by omega) hi)) hZ151 (w111 hw) (w3 hw) (by decide) (by decide)) (g := (mkF m 346 #[.val (.long d), .second, .val (.int si), .val (.int fg), .val (.int sp), .val (.int (Int32.ofNat n)), .val (.ref b101), .val (.int (Int32.ofNat pn)), .val (.ref ar_129), .val (.ref b134), .val (.int (Int32.ofNat at__149)), .val (.ref r_152)] [(.ref b101), (.int (Int32.ofNat at__149)), (.int (1 : Int32)), (.ref a1_154)])) rfl (by rw [hml]; rfl) (argsL := [(.ref a1_154), (.int (1 : Int32)), (.int (Int32.ofNat at__149)), (.ref b101)]) (rest := []) (lenOf pd32 rfl) rfl (wq rfl) (D_ at_346) (fun _ _ => ⟨rfl, eq174, (nb rfl), (nb rfl)⟩)
  dsimp only [Pt.U, Pt.locs, Pt.cells, Pt.slots] at X176 l176 y176 z176 st176 hQ176
  subst l176 y176 z176
  obtain ⟨rfl, Nq176, eq176⟩ := hQ176
  have N176 := Fr.app N174 Nq176
  obtain ⟨cl177, Ar177, q177, S177, M177, H177, F177g⟩ := id P151_0
  have hin177 : ¬ ((0 : Int32) < 0 ∨ cl177.slots.size ≤ ((0 : Int32)).toNatClampNeg) := inb_of S177 ⟨by decide, by decide⟩
  have hat177 : cl177.slots[((0 : Int32)).toNatClampNeg]? = some (.ref a1_154) := Has.at H177 hin177 rfl
  obtain ⟨_, _, ⟨T178, L178, k178, n178⟩, -, X178, ⟨Lc178, hQ178, l178, y178, z178⟩, st178⟩ := Jvm.LawKit.callS X176 hx (y := yn48) hown151 (mvT hZ151 (w109 hw)) (mvT hZ151 (w110 hw)) (mvT hZ151 (w3 hw)) (mvT hZ151 (w111 hw)) (by decide) (backOf (W := 0) (rm_preB l Z a0 hw [] a1_154 b101 2 at__149 t1_155 k1_156 ((cs_131.drop 0).take at__149) k101 y0 y1 y2 y3 cS fm T151.heap n0 z169 O167 S_cs hcS S_fm hfm S_ad S_hi S_lo hW161 F173 (own_dl (by omega)) (by omega) (by decide) (fun i hi => own_pre P128_2 hcl (by omega) hi)) hZ151 (w111 hw) (w3 hw) (by decide) (by decide)) (g := (mkF m 361 #[.val (.long d), .second, .val (.int si), .val (.int fg), .val (.int sp), .val (.int (Int32.ofNat n)), .val (.ref b101), .val (.int (Int32.ofNat pn)), .val (.ref ar_129), .val (.ref b134), .val (.int (Int32.ofNat at__149)), .val (.ref r_152)] [(.ref b101), (.int (Int32.ofNat at__149)), (.int (2 : Int32)), (.ref a1_154)])) rfl (by rw [hml]; rfl) (argsL := [(.ref a1_154), (.int (2 : Int32)), (.int (Int32.ofNat at__149)), (.ref b101)]) (rest := []) (lenOf pd32 rfl) rfl (wq rfl) (D_ at_361) (fun _ _ => ⟨rfl, eq176, (nb rfl), (nb rfl)⟩)
  dsimp only [Pt.U, Pt.locs, Pt.cells, Pt.slots] at X178 l178 y178 z178 st178 hQ178
  subst l178 y178 z178
  obtain ⟨rfl, Nq178, eq178⟩ := hQ178
  have N178 := Fr.app N176 Nq178
  obtain ⟨cl179, Ar179, q179, S179, M179, H179, F179g⟩ := id P151_0
  have hin179 : ¬ ((1 : Int32) < 0 ∨ cl179.slots.size ≤ ((1 : Int32)).toNatClampNeg) := inb_of S179 ⟨by decide, by decide⟩
  have hat179 : cl179.slots[((1 : Int32)).toNatClampNeg]? = some (.ref a2_157) := Has.at H179 hin179 rfl
  obtain ⟨_, _, ⟨T180, L180, k180, n180⟩, -, X180, ⟨Lc180, hQ180, l180, y180, z180⟩, st180⟩ := Jvm.LawKit.callS X178 hx (y := yn49) hown151 (mvT hZ151 (w112 hw)) (mvT hZ151 (w113 hw)) (mvT hZ151 (w3 hw)) (mvT hZ151 (w114 hw)) (by decide) (backOf (W := 0) (rm_sufB l Z a0 hw [] a2_157 b101 0 at__149 n t2_158 k2_159 ((cs_131.drop (at__149 + 1)).take (cs_131.length - (at__149 + 1))) k101 y0 y1 y2 y3 cS fm T151.heap n0 z169 O167 S_cs hcS S_fm hfm S_ad S_hi S_lo hW162 F173 (by rw [own_dl (by omega), hcl]) h4 hal (by decide) (fun i hi => own_suf P128_2 hcl hi)) hZ151 (w114 hw) (w3 hw) (by decide) (by decide)) (g := (mkF m 378 #[.val (.long d), .second, .val (.int si), .val (.int fg), .val (.int sp), .val (.int (Int32.ofNat n)), .val (.ref b101), .val (.int (Int32.ofNat pn)), .val (.ref ar_129), .val (.ref b134), .val (.int (Int32.ofNat at__149)), .val (.ref r_152)] [(.ref b101), (.int (Int32.ofNat n)), (.int (Int32.ofNat at__149)), (.int (0 : Int32)), (.ref a2_157)])) rfl (by rw [hml]; rfl) (argsL := [(.ref a2_157), (.int (0 : Int32)), (.int (Int32.ofNat at__149)), (.int (Int32.ofNat n)), (.ref b101)]) (rest := []) (lenOf pd33 rfl) rfl (wq rfl) (D_ at_378) (fun _ _ => ⟨rfl, eq178, (nb rfl), (nb rfl)⟩)
  dsimp only [Pt.U, Pt.locs, Pt.cells, Pt.slots] at X180 l180 y180 z180 st180 hQ180
  subst l180 y180 z180
  obtain ⟨rfl, Nq180, eq180⟩ := hQ180
  have N180 := Fr.app N178 Nq180
  obtain ⟨cl181, Ar181, q181, S181, M181, H181, F181g⟩ := id P151_0
  have hin181 : ¬ ((1 : Int32) < 0 ∨ cl181.slots.size ≤ ((1 : Int32)).toNatClampNeg) := inb_of S181 ⟨by decide, by decide⟩
  have hat181 : cl181.slots[((1 : Int32)).toNatClampNeg]? = some (.ref a2_157) := Has.at H181 hin181 rfl
  obtain ⟨_, _, ⟨T182, L182, k182, n182⟩, -, X182, ⟨Lc182, hQ182, l182, y182, z182⟩, st182⟩ := Jvm.LawKit.callS X180 hx (y := yn49) hown151 (mvT hZ151 (w112 hw)) (mvT hZ151 (w113 hw)) (mvT hZ151 (w3 hw)) (mvT hZ151 (w114 hw)) (by decide) (backOf (W := 0) (rm_sufB l Z a0 hw [] a2_157 b101 1 at__149 n t2_158 k2_159 ((cs_131.drop (at__149 + 1)).take (cs_131.length - (at__149 + 1))) k101 y0 y1 y2 y3 cS fm T151.heap n0 z169 O167 S_cs hcS S_fm hfm S_ad S_hi S_lo hW162 F173 (by rw [own_dl (by omega), hcl]) h4 hal (by decide) (fun i hi => own_suf P128_2 hcl hi)) hZ151 (w114 hw) (w3 hw) (by decide) (by decide)) (g := (mkF m 395 #[.val (.long d), .second, .val (.int si), .val (.int fg), .val (.int sp), .val (.int (Int32.ofNat n)), .val (.ref b101), .val (.int (Int32.ofNat pn)), .val (.ref ar_129), .val (.ref b134), .val (.int (Int32.ofNat at__149)), .val (.ref r_152)] [(.ref b101), (.int (Int32.ofNat n)), (.int (Int32.ofNat at__149)), (.int (1 : Int32)), (.ref a2_157)])) rfl (by rw [hml]; rfl) (argsL := [(.ref a2_157), (.int (1 : Int32)), (.int (Int32.ofNat at__149)), (.int (Int32.ofNat n)), (.ref b101)]) (rest := []) (lenOf pd33 rfl) rfl (wq rfl) (D_ at_395) (fun _ _ => ⟨rfl, eq180, (nb rfl), (nb rfl)⟩)
  dsimp only [Pt.U, Pt.locs, Pt.cells, Pt.slots] at X182 l182 y182 z182 st182 hQ182
  subst l182 y182 z182
  obtain ⟨rfl, Nq182, eq182⟩ := hQ182
  have N182 := Fr.app N180 Nq182
  obtain ⟨cl183, Ar183, q183, S183, M183, H183, F183g⟩ := id P151_0
  have hin183 : ¬ ((1 : Int32) < 0 ∨ cl183.slots.size ≤ ((1 : Int32)).toNatClampNeg) := inb_of S183 ⟨by decide, by decide⟩
  have hat183 : cl183.slots[((1 : Int32)).toNatClampNeg]? = some (.ref a2_157) := Has.at H183 hin183 rfl
  obtain ⟨_, _, ⟨T184, L184, k184, n184⟩, -, X184, ⟨Lc184, hQ184, l184, y184, z184⟩, st184⟩ := Jvm.LawKit.callS X182 hx (y := yn49) hown151 (mvT hZ151 (w112 hw)) (mvT hZ151 (w113 hw)) (mvT hZ151 (w3 hw)) (mvT hZ151 (w114 hw)) (by decide) (backOf (W := 0) (rm_sufB l Z a0 hw [] a2_157 b101 2 at__149 n t2_158 k2_159 ((cs_131.drop (at__149 + 1)).take (cs_131.length - (at__149 + 1))) k101 y0 y1 y2 y3 cS fm T151.heap n0 z169 O167 S_cs hcS S_fm hfm S_ad S_hi S_lo hW162 F173 (by rw [own_dl (by omega), hcl]) h4 hal (by decide) (fun i hi => own_suf P128_2 hcl hi)) hZ151 (w114 hw) (w3 hw) (by decide) (by decide)) (g := (mkF m 412 #[.val (.long d), .second, .val (.int si), .val (.int fg), .val (.int sp), .val (.int (Int32.ofNat n)), .val (.ref b101), .val (.int (Int32.ofNat pn)), .val (.ref ar_129), .val (.ref b134), .val (.int (Int32.ofNat at__149)), .val (.ref r_152)] [(.ref b101), (.int (Int32.ofNat n)), (.int (Int32.ofNat at__149)), (.int (2 : Int32)), (.ref a2_157)])) rfl (by rw [hml]; rfl) (argsL := [(.ref a2_157), (.int (2 : Int32)), (.int (Int32.ofNat at__149)), (.int (Int32.ofNat n)), (.ref b101)]) (rest := []) (lenOf pd33 rfl) rfl (wq rfl) (D_ at_412) (fun _ _ => ⟨rfl, eq182, (nb rfl), (nb rfl)⟩)
  dsimp only [Pt.U, Pt.locs, Pt.cells, Pt.slots] at X184 l184 y184 z184 st184 hQ184
  subst l184 y184 z184
  obtain ⟨rfl, Nq184, eq184⟩ := hQ184
  have N184 := Fr.app N182 Nq184
  have W185 : ∀ zQ, SS p e below T184 m 423 #[.val (.long d), .second, .val (.int si), .val (.int fg), .val (.int sp), .val (.int (Int32.ofNat n)), .val (.ref b101), .val (.int (Int32.ofNat pn)), .val (.ref ar_129), .val (.ref b134), .val (.int (Int32.ofNat at__149)), .val (.ref r_152)] [(.int (1 : Int32))] zQ → Steps p.tables e below (s₁.setTop (entryFrame m #[(.long d), (.int si), (.int fg)] maxLocals)) zQ := by
    intro tt kt
    refine W0 tt ?_
    refine XS.iloadN X0.here hx rfl (D_ at_0) rfl ?_
    refine XS.i2c X0.here hx rfl (D_ at_1) rfl ?_
    show SS p e below s₁ m 2 #[.val (.long d), .second, .val (.int si), .val (.int fg), .unset, .unset, .unset, .unset, .unset, .unset, .unset, .unset] [(.int (si.toUInt32.toUInt16.toUInt32.toInt32))] _
    rw [← h_sp]
    refine XS.istore X0.here hx rfl (D_ at_2) rfl (l' := #[.val (.long d), .second, .val (.int si), .val (.int fg), .val (.int sp), .unset, .unset, .unset, .unset, .unset, .unset, .unset]) rfl ?_
    refine XS.iconst X0.here hx rfl (D_ at_4) ?_
    refine XS.iloadN X0.here hx rfl (D_ at_5) rfl ?_
    refine XS.iconst X0.here hx rfl (D_ at_6) ?_
    refine XS.iushr X0.here hx rfl (D_ at_7) rfl ?_
    refine XS.iconst X0.here hx rfl (D_ at_8) ?_
    refine XS.iand X0.here hx rfl (D_ at_9) rfl ?_
    refine XS.iadd X0.here hx rfl (D_ at_10) rfl ?_
    show SS p e below s₁ m 11 #[.val (.long d), .second, .val (.int si), .val (.int fg), .val (.int sp), .unset, .unset, .unset, .unset, .unset, .unset, .unset] [(.int ((1 : Int32) + (((fg.toUInt32 >>> ((4 : Int32) &&& 31).toUInt32).toInt32) &&& (3 : Int32))))] _
    rw [show ((1 : Int32) + (((fg.toUInt32 >>> ((4 : Int32) &&& 31).toUInt32).toInt32) &&& (3 : Int32))) = (Int32.ofNat n) from h_n]
    refine XS.istore X0.here hx rfl (D_ at_11) rfl (l' := #[.val (.long d), .second, .val (.int si), .val (.int fg), .val (.int sp), .val (.int (Int32.ofNat n)), .unset, .unset, .unset, .unset, .unset, .unset]) rfl ?_
    refine XS.iconst X0.here hx rfl (D_ at_13) ?_
    refine st101 _ ?_
    refine XS.astore X101.here hx rfl (D_ at_16) rfl rfl (l' := #[.val (.long d), .second, .val (.int si), .val (.int fg), .val (.int sp), .val (.int (Int32.ofNat n)), .val (.ref b101), .unset, .unset, .unset, .unset, .unset]) rfl ?_
    refine XS.aload X101.here hx rfl (D_ at_18) rfl rfl ?_
    refine XS.iconst X101.here hx rfl (D_ at_20) ?_
    refine XS.lloadN X101.here hx rfl (D_ at_21) rfl ?_
    refine XS.iconst X101.here hx rfl (D_ at_22) ?_
    refine XS.iloadN X101.here hx rfl (D_ at_23) rfl ?_
    refine XS.iload X101.here hx rfl (D_ at_24) rfl ?_
    refine st103 _ ?_
    refine st105 _ ?_
    refine XS.aload X105.here hx rfl (D_ at_30) rfl rfl ?_
    refine XS.iconst X105.here hx rfl (D_ at_32) ?_
    refine XS.lloadN X105.here hx rfl (D_ at_33) rfl ?_
    refine XS.iconst X105.here hx rfl (D_ at_34) ?_
    refine XS.iloadN X105.here hx rfl (D_ at_35) rfl ?_
    refine XS.iload X105.here hx rfl (D_ at_36) rfl ?_
    refine st108 _ ?_
    refine st111 _ ?_
    refine XS.aload X111.here hx rfl (D_ at_42) rfl rfl ?_
    refine XS.iconst X111.here hx rfl (D_ at_44) ?_
    refine XS.lloadN X111.here hx rfl (D_ at_45) rfl ?_
    refine XS.iconst X111.here hx rfl (D_ at_46) ?_
    refine XS.iloadN X111.here hx rfl (D_ at_47) rfl ?_
    refine XS.iload X111.here hx rfl (D_ at_48) rfl ?_
    refine st114 _ ?_
    refine st116 _ ?_
    refine XS.aload X116.here hx rfl (D_ at_54) rfl rfl ?_
    refine XS.iconst X116.here hx rfl (D_ at_56) ?_
    refine XS.lloadN X116.here hx rfl (D_ at_57) rfl ?_
    refine XS.iconst X116.here hx rfl (D_ at_58) ?_
    refine XS.iloadN X116.here hx rfl (D_ at_59) rfl ?_
    refine XS.iload X116.here hx rfl (D_ at_60) rfl ?_
    refine st119 _ ?_
    refine st122 _ ?_
    refine XS.iloadN X122.here hx rfl (D_ at_66) rfl ?_
    refine XS.bipush X122.here hx rfl (D_ at_67) ?_
    refine XS.iushr X122.here hx rfl (D_ at_69) rfl ?_
    show SS p e below T122 m 70 #[.val (.long d), .second, .val (.int si), .val (.int fg), .val (.int sp), .val (.int (Int32.ofNat n)), .val (.ref b101), .unset, .unset, .unset, .unset, .unset] [(.int ((fg.toUInt32 >>> ((6 : Int32) &&& 31).toUInt32).toInt32))] _
    refine XS.iconst X122.here hx rfl (D_ at_70) ?_
    refine XS.iand X122.here hx rfl (D_ at_71) rfl ?_
    refine XS.iload X122.here hx rfl (D_ at_72) rfl ?_
    show SS p e below T122 m 74 #[.val (.long d), .second, .val (.int si), .val (.int fg), .val (.int sp), .val (.int (Int32.ofNat n)), .val (.ref b101), .unset, .unset, .unset, .unset, .unset] [(.int (Int32.ofNat n)), (.int (((fg.toUInt32 >>> ((6 : Int32) &&& 31).toUInt32).toInt32) &&& (3 : Int32)))] _
    refine Jvm.RoadKit.iremM X122 hx rfl (D_ at_74) rfl (own_nz h1 h4) ?_
    show SS p e below T122 m 75 #[.val (.long d), .second, .val (.int si), .val (.int fg), .val (.int sp), .val (.int (Int32.ofNat n)), .val (.ref b101), .unset, .unset, .unset, .unset, .unset] [(.int ((((fg.toUInt32 >>> ((6 : Int32) &&& 31).toUInt32).toInt32) &&& (3 : Int32)) % (Int32.ofNat n)))] _
    rw [show ((((fg.toUInt32 >>> ((6 : Int32) &&& 31).toUInt32).toInt32) &&& (3 : Int32)) % (Int32.ofNat n)) = (Int32.ofNat pn) from h_p]
    refine XS.istore X122.here hx rfl (D_ at_75) rfl (l' := #[.val (.long d), .second, .val (.int si), .val (.int fg), .val (.int sp), .val (.int (Int32.ofNat n)), .val (.ref b101), .val (.int (Int32.ofNat pn)), .unset, .unset, .unset, .unset]) rfl ?_
    refine XS.aload X122.here hx rfl (D_ at_77) rfl rfl ?_
    refine XS.iload X122.here hx rfl (D_ at_79) rfl ?_
    refine XS.iload X122.here hx rfl (D_ at_81) rfl ?_
    refine st125 _ ?_
    refine st128 _ ?_
    refine st134 _ ?_
    refine XS.dup X134.here hx rfl (D_ at_204) rfl rfl ?_
    refine XS.aload X134.here hx rfl (D_ at_205) rfl rfl ?_
    refine st140.trans ?_
    refine XS.astore X140.here hx rfl (D_ at_210) rfl rfl (l' := #[.val (.long d), .second, .val (.int si), .val (.int fg), .val (.int sp), .val (.int (Int32.ofNat n)), .val (.ref b101), .val (.int (Int32.ofNat pn)), .val (.ref ar_129), .val (.ref b134), .unset, .unset]) rfl ?_
    refine st146 _ ?_
    refine XS.aload X146.here hx rfl (D_ at_254) rfl rfl ?_
    refine XS.iload X146.here hx rfl (D_ at_256) rfl ?_
    refine st151.trans ?_
    refine XS.astore X151.here hx rfl (D_ at_261) rfl rfl (l' := #[.val (.long d), .second, .val (.int si), .val (.int fg), .val (.int sp), .val (.int (Int32.ofNat n)), .val (.ref b101), .val (.int (Int32.ofNat pn)), .val (.ref ar_129), .val (.ref b134), .val (.int (Int32.ofNat at__149)), .val (.ref r_152)]) rfl ?_
    refine XS.aload X151.here hx rfl (D_ at_263) rfl rfl ?_
    refine XS.ifnullNo X151.here hx rfl (D_ at_265) rfl ?_
    refine XS.aload X151.here hx rfl (D_ at_268) rfl rfl ?_
    refine X151.arraylength hx (by first | exact Ar163.1 | (rw [rfl]; exact Ar163.1)) (State.isArrayOf_alike hZ151.alike Ar163.2.1) (g := (mkF m 270 #[.val (.long d), .second, .val (.int si), .val (.int fg), .val (.int sp), .val (.int (Int32.ofNat n)), .val (.ref b101), .val (.int (Int32.ofNat pn)), .val (.ref ar_129), .val (.ref b134), .val (.int (Int32.ofNat at__149)), .val (.ref r_152)] [(.ref r_152)])) rfl rfl (D_ at_270) _ ?_
    rw [len_of S163 M163]
    refine XS.iconst X151.here hx rfl (D_ at_271) ?_
    refine XS.icmpNo X151.here hx rfl (D_ at_272) rfl (teq (by decide)).2 ?_
    refine XS.aload X151.here hx rfl (D_ at_275) rfl rfl ?_
    refine XS.iconst X151.here hx rfl (D_ at_277) ?_
    refine X151.aaload hx (j := (0 : Int32)) (v := (.ref a1_154)) (by first | exact Ar164.1 | (rw [rfl]; exact Ar164.1)) (State.isArrayOf_alike hZ151.alike Ar164.2.1) rfl Ar164.2.2 hin164 hat164 (g := (mkF m 278 #[.val (.long d), .second, .val (.int si), .val (.int fg), .val (.int sp), .val (.int (Int32.ofNat n)), .val (.ref b101), .val (.int (Int32.ofNat pn)), .val (.ref ar_129), .val (.ref b134), .val (.int (Int32.ofNat at__149)), .val (.ref r_152)] [(.int (0 : Int32)), (.ref r_152)])) rfl rfl (D_ at_278) _ ?_
    refine XS.ifnullNo X151.here hx rfl (D_ at_279) rfl ?_
    refine XS.aload X151.here hx rfl (D_ at_282) rfl rfl ?_
    refine XS.iconst X151.here hx rfl (D_ at_284) ?_
    refine X151.aaload hx (j := (1 : Int32)) (v := (.ref a2_157)) (by first | exact Ar165.1 | (rw [rfl]; exact Ar165.1)) (State.isArrayOf_alike hZ151.alike Ar165.2.1) rfl Ar165.2.2 hin165 hat165 (g := (mkF m 285 #[.val (.long d), .second, .val (.int si), .val (.int fg), .val (.int sp), .val (.int (Int32.ofNat n)), .val (.ref b101), .val (.int (Int32.ofNat pn)), .val (.ref ar_129), .val (.ref b134), .val (.int (Int32.ofNat at__149)), .val (.ref r_152)] [(.int (1 : Int32)), (.ref r_152)])) rfl rfl (D_ at_285) _ ?_
    refine XS.ifnonnullYes X151.here hx rfl (pc0 := 286) (pc' := 291) rfl (D_ at_286) rfl (by decide) (by decide) ?_
    refine XS.aload X151.here hx rfl (D_ at_291) rfl rfl ?_
    refine XS.iconst X151.here hx rfl (D_ at_293) ?_
    refine X151.aaload hx (j := (0 : Int32)) (v := (.ref a1_154)) (by first | exact Ar166.1 | (rw [rfl]; exact Ar166.1)) (State.isArrayOf_alike hZ151.alike Ar166.2.1) rfl Ar166.2.2 hin166 hat166 (g := (mkF m 294 #[.val (.long d), .second, .val (.int si), .val (.int fg), .val (.int sp), .val (.int (Int32.ofNat n)), .val (.ref b101), .val (.int (Int32.ofNat pn)), .val (.ref ar_129), .val (.ref b134), .val (.int (Int32.ofNat at__149)), .val (.ref r_152)] [(.int (0 : Int32)), (.ref r_152)])) rfl rfl (D_ at_294) _ ?_
    refine st168.trans ?_
    show SS p e below T168 m 298 #[.val (.long d), .second, .val (.int si), .val (.int fg), .val (.int sp), .val (.int (Int32.ofNat n)), .val (.ref b101), .val (.int (Int32.ofNat pn)), .val (.ref ar_129), .val (.ref b134), .val (.int (Int32.ofNat at__149)), .val (.ref r_152)] [(.int (Int32.ofNat ((cs_131.drop 0).take at__149).length))] _
    rw [show (Int32.ofNat ((cs_131.drop 0).take at__149).length) = (Int32.ofNat at__149) from (by rw [own_dl (by omega)])]
    refine XS.iload X168.here hx rfl (D_ at_298) rfl ?_
    refine XS.icmpNo X168.here hx rfl (D_ at_300) rfl (teq rfl).2 ?_
    refine XS.aload X168.here hx rfl (D_ at_303) rfl rfl ?_
    refine XS.iconst X168.here hx rfl (D_ at_305) ?_
    refine X168.aaload hx (j := (1 : Int32)) (v := (.ref a2_157)) (by first | exact Ar170.1 | (rw [eq168]; exact Ar170.1)) (State.isArrayOf_alike hZ151.alike Ar170.2.1) rfl Ar170.2.2 hin170 hat170 (g := (mkF m 306 #[.val (.long d), .second, .val (.int si), .val (.int fg), .val (.int sp), .val (.int (Int32.ofNat n)), .val (.ref b101), .val (.int (Int32.ofNat pn)), .val (.ref ar_129), .val (.ref b134), .val (.int (Int32.ofNat at__149)), .val (.ref r_152)] [(.int (1 : Int32)), (.ref r_152)])) rfl rfl (D_ at_306) _ ?_
    refine st171.trans ?_
    show SS p e below T171 m 310 #[.val (.long d), .second, .val (.int si), .val (.int fg), .val (.int sp), .val (.int (Int32.ofNat n)), .val (.ref b101), .val (.int (Int32.ofNat pn)), .val (.ref ar_129), .val (.ref b134), .val (.int (Int32.ofNat at__149)), .val (.ref r_152)] [(.int (Int32.ofNat ((cs_131.drop (at__149 + 1)).take (cs_131.length - (at__149 + 1))).length))] _
    rw [show (Int32.ofNat ((cs_131.drop (at__149 + 1)).take (cs_131.length - (at__149 + 1))).length) = (Int32.ofNat (n - (at__149 + 1))) from (by rw [own_dl (by omega), hcl])]
    refine XS.iload X171.here hx rfl (D_ at_310) rfl ?_
    refine XS.iload X171.here hx rfl (D_ at_312) rfl ?_
    refine XS.isub X171.here hx rfl (D_ at_314) rfl ?_
    refine XS.iconst X171.here hx rfl (D_ at_315) ?_
    refine XS.isub X171.here hx rfl (D_ at_316) rfl ?_
    show SS p e below T171 m 317 #[.val (.long d), .second, .val (.int si), .val (.int fg), .val (.int sp), .val (.int (Int32.ofNat n)), .val (.ref b101), .val (.int (Int32.ofNat pn)), .val (.ref ar_129), .val (.ref b134), .val (.int (Int32.ofNat at__149)), .val (.ref r_152)] [(.int (((Int32.ofNat n) - (Int32.ofNat at__149)) - (1 : Int32))), (.int (Int32.ofNat (n - (at__149 + 1))))] _
    rw [show (((Int32.ofNat n) - (Int32.ofNat at__149)) - (1 : Int32)) = (Int32.ofNat (n - (at__149 + 1))) from (by rw [own_sub (by omega) (by omega)]; show Int32.ofNat _ - Int32.ofNat 1 = _; rw [own_sub (by omega) (by omega)]; first | done | rfl)]
    refine XS.icmpYes X171.here hx rfl (pc0 := 317) (pc' := 322) rfl (D_ at_317) rfl (teq rfl).1 (by decide) (by decide) ?_
    refine XS.aload X171.here hx rfl (D_ at_322) rfl rfl ?_
    refine XS.iconst X171.here hx rfl (D_ at_324) ?_
    refine X171.aaload hx (j := (0 : Int32)) (v := (.ref a1_154)) (by first | exact Ar172.1 | (rw [eq171]; exact Ar172.1)) (State.isArrayOf_alike hZ151.alike Ar172.2.1) rfl Ar172.2.2 hin172 hat172 (g := (mkF m 325 #[.val (.long d), .second, .val (.int si), .val (.int fg), .val (.int sp), .val (.int (Int32.ofNat n)), .val (.ref b101), .val (.int (Int32.ofNat pn)), .val (.ref ar_129), .val (.ref b134), .val (.int (Int32.ofNat at__149)), .val (.ref r_152)] [(.int (0 : Int32)), (.ref r_152)])) rfl rfl (D_ at_325) _ ?_
    refine XS.iconst X171.here hx rfl (D_ at_326) ?_
    refine XS.iload X171.here hx rfl (D_ at_327) rfl ?_
    refine XS.aload X171.here hx rfl (D_ at_329) rfl rfl ?_
    refine st174 _ ?_
    refine XS.ifNo X174.here hx rfl (D_ at_334) rfl ((if0 _ _).trans (feq (by decide)).1) ?_
    refine XS.aload X174.here hx rfl (D_ at_337) rfl rfl ?_
    refine XS.iconst X174.here hx rfl (D_ at_339) ?_
    refine X174.aaload hx (j := (0 : Int32)) (v := (.ref a1_154)) (by first | exact Ar175.1 | (rw [eq174]; exact Ar175.1)) (State.isArrayOf_alike hZ151.alike Ar175.2.1) rfl Ar175.2.2 hin175 hat175 (g := (mkF m 340 #[.val (.long d), .second, .val (.int si), .val (.int fg), .val (.int sp), .val (.int (Int32.ofNat n)), .val (.ref b101), .val (.int (Int32.ofNat pn)), .val (.ref ar_129), .val (.ref b134), .val (.int (Int32.ofNat at__149)), .val (.ref r_152)] [(.int (0 : Int32)), (.ref r_152)])) rfl rfl (D_ at_340) _ ?_
    refine XS.iconst X174.here hx rfl (D_ at_341) ?_
    refine XS.iload X174.here hx rfl (D_ at_342) rfl ?_
    refine XS.aload X174.here hx rfl (D_ at_344) rfl rfl ?_
    refine st176 _ ?_
    refine XS.ifNo X176.here hx rfl (D_ at_349) rfl ((if0 _ _).trans (feq (by decide)).1) ?_
    refine XS.aload X176.here hx rfl (D_ at_352) rfl rfl ?_
    refine XS.iconst X176.here hx rfl (D_ at_354) ?_
    refine X176.aaload hx (j := (0 : Int32)) (v := (.ref a1_154)) (by first | exact Ar177.1 | (rw [eq176]; exact Ar177.1)) (State.isArrayOf_alike hZ151.alike Ar177.2.1) rfl Ar177.2.2 hin177 hat177 (g := (mkF m 355 #[.val (.long d), .second, .val (.int si), .val (.int fg), .val (.int sp), .val (.int (Int32.ofNat n)), .val (.ref b101), .val (.int (Int32.ofNat pn)), .val (.ref ar_129), .val (.ref b134), .val (.int (Int32.ofNat at__149)), .val (.ref r_152)] [(.int (0 : Int32)), (.ref r_152)])) rfl rfl (D_ at_355) _ ?_
    refine XS.iconst X176.here hx rfl (D_ at_356) ?_
    refine XS.iload X176.here hx rfl (D_ at_357) rfl ?_
    refine XS.aload X176.here hx rfl (D_ at_359) rfl rfl ?_
    refine st178 _ ?_
    refine XS.ifNo X178.here hx rfl (D_ at_364) rfl ((if0 _ _).trans (feq (by decide)).1) ?_
    refine XS.aload X178.here hx rfl (D_ at_367) rfl rfl ?_
    refine XS.iconst X178.here hx rfl (D_ at_369) ?_
    refine X178.aaload hx (j := (1 : Int32)) (v := (.ref a2_157)) (by first | exact Ar179.1 | (rw [eq178]; exact Ar179.1)) (State.isArrayOf_alike hZ151.alike Ar179.2.1) rfl Ar179.2.2 hin179 hat179 (g := (mkF m 370 #[.val (.long d), .second, .val (.int si), .val (.int fg), .val (.int sp), .val (.int (Int32.ofNat n)), .val (.ref b101), .val (.int (Int32.ofNat pn)), .val (.ref ar_129), .val (.ref b134), .val (.int (Int32.ofNat at__149)), .val (.ref r_152)] [(.int (1 : Int32)), (.ref r_152)])) rfl rfl (D_ at_370) _ ?_
    refine XS.iconst X178.here hx rfl (D_ at_371) ?_
    refine XS.iload X178.here hx rfl (D_ at_372) rfl ?_
    refine XS.iload X178.here hx rfl (D_ at_374) rfl ?_
    refine XS.aload X178.here hx rfl (D_ at_376) rfl rfl ?_
    refine st180 _ ?_
    refine XS.ifNo X180.here hx rfl (D_ at_381) rfl ((if0 _ _).trans (feq (by decide)).1) ?_
    refine XS.aload X180.here hx rfl (D_ at_384) rfl rfl ?_
    refine XS.iconst X180.here hx rfl (D_ at_386) ?_
    refine X180.aaload hx (j := (1 : Int32)) (v := (.ref a2_157)) (by first | exact Ar181.1 | (rw [eq180]; exact Ar181.1)) (State.isArrayOf_alike hZ151.alike Ar181.2.1) rfl Ar181.2.2 hin181 hat181 (g := (mkF m 387 #[.val (.long d), .second, .val (.int si), .val (.int fg), .val (.int sp), .val (.int (Int32.ofNat n)), .val (.ref b101), .val (.int (Int32.ofNat pn)), .val (.ref ar_129), .val (.ref b134), .val (.int (Int32.ofNat at__149)), .val (.ref r_152)] [(.int (1 : Int32)), (.ref r_152)])) rfl rfl (D_ at_387) _ ?_
    refine XS.iconst X180.here hx rfl (D_ at_388) ?_
    refine XS.iload X180.here hx rfl (D_ at_389) rfl ?_
    show SS p e below T180 m 391 #[.val (.long d), .second, .val (.int si), .val (.int fg), .val (.int sp), .val (.int (Int32.ofNat n)), .val (.ref b101), .val (.int (Int32.ofNat pn)), .val (.ref ar_129), .val (.ref b134), .val (.int (Int32.ofNat at__149)), .val (.ref r_152)] [(.int (Int32.ofNat at__149)), (.int (1 : Int32)), (.ref a2_157)] _
    refine XS.iload X180.here hx rfl (D_ at_391) rfl ?_
    refine XS.aload X180.here hx rfl (D_ at_393) rfl rfl ?_
    refine st182 _ ?_
    refine XS.ifNo X182.here hx rfl (D_ at_398) rfl ((if0 _ _).trans (feq (by decide)).1) ?_
    refine XS.aload X182.here hx rfl (D_ at_401) rfl rfl ?_
    refine XS.iconst X182.here hx rfl (D_ at_403) ?_
    refine X182.aaload hx (j := (1 : Int32)) (v := (.ref a2_157)) (by first | exact Ar183.1 | (rw [eq182]; exact Ar183.1)) (State.isArrayOf_alike hZ151.alike Ar183.2.1) rfl Ar183.2.2 hin183 hat183 (g := (mkF m 404 #[.val (.long d), .second, .val (.int si), .val (.int fg), .val (.int sp), .val (.int (Int32.ofNat n)), .val (.ref b101), .val (.int (Int32.ofNat pn)), .val (.ref ar_129), .val (.ref b134), .val (.int (Int32.ofNat at__149)), .val (.ref r_152)] [(.int (1 : Int32)), (.ref r_152)])) rfl rfl (D_ at_404) _ ?_
    refine XS.iconst X182.here hx rfl (D_ at_405) ?_
    refine XS.iload X182.here hx rfl (D_ at_406) rfl ?_
    refine XS.iload X182.here hx rfl (D_ at_408) rfl ?_
    refine XS.aload X182.here hx rfl (D_ at_410) rfl rfl ?_
    refine st184 _ ?_
    refine XS.ifNo X184.here hx rfl (D_ at_415) rfl ((if0 _ _).trans (feq (by decide)).1) ?_
    refine XS.iconst X184.here hx rfl (D_ at_418) ?_
    refine XS.goto X184.here hx rfl (pc0 := 419) (pc' := 423) rfl (D_ at_419) (by decide) (by decide) ?_
    exact kt
  obtain ⟨fs, hr, hrun, hended, hRW⟩ := Jvm.Stand.leaveW X184 hS151 (by rw [eq184]; exact hk151) (v := some (.int (nar .boolean (1 : Int32)))) (fun h => by rw [Bd.returns] at h; cases h) (BodyLoose.notSynchronized Bd)
  refine ⟨_, _, W185 _ (retN X184 hx (t := .boolean) Bd.returns (by simp) (D_ at_423) hr), hrun, hended, _, _, rfl, ?_, own_chr (T := T184) R160 (CHv.at X184 hZ151 hEL R160.1) hh.symm eq184, own_rw hRW (by decide) (by decide)⟩
  show Q_law Z d si fg cS fm h0 n0 _ T184.heap _
  rw [eq184]
  exact ⟨rfl, N184, (Keep.trans (Keep.trans (Keep.trans (Keep.trans (Keep.trans (Keep.trans (Keep.trans (Keep.trans (Keep.trans (Keep.trans (Keep.refl h0 []) K101 all0) K105 (allS (Or.inr (Nat.le_of_eq g101.symm)) all0)) K111 (allS (Or.inr (Nat.le_of_eq g101.symm)) all0)) K116 (allS (Or.inr (Nat.le_of_eq g101.symm)) all0)) K122 (allS (Or.inr (Nat.le_of_eq g101.symm)) all0)) K125 (allS (Or.inr (Nat.le_of_eq g101.symm)) all0)) K128 all0) K134 all0) K140 (allS (Or.inr (Nat.le_trans (Nat.le_trans (Nat.le_trans (Nat.le_trans (Nat.le_trans (Nat.le_trans (Nat.le_trans K101.1 K105.1) K111.1) K116.1) K122.1) K125.1) K128.1) (Nat.le_of_eq g134.symm))) all0)) K151 all0)⟩
theorem own_eqint {args : Array Value} {s : State} {t : Term} {n : Int32} (h : (Jvm.Cond.eq t (Jvm.Term.int n)).value args s none s [] = some true) : t.eval args s none [] s = some (.int n) := by
  simp only [Cond.value, Term.eval] at h
  cases ht : t.eval args s none [] s with
  | none => simp [ht] at h
  | some x => cases x <;> simp [ht] at h ⊢; exact h
theorem own_eqlong {args : Array Value} {s : State} {t : Term} {n : Int64} (h : (Jvm.Cond.eq t (Jvm.Term.long n)).value args s none s [] = some true) : t.eval args s none [] s = some (.long n) := by
  simp only [Cond.value, Term.eval] at h
  cases ht : t.eval args s none [] s with
  | none => simp [ht] at h
  | some x => cases x <;> simp [ht] at h ⊢; exact h
theorem own_neint {args : Array Value} {s : State} {t : Term} {n x : Int32} (h : (Jvm.Cond.not (Jvm.Cond.eq t (Jvm.Term.int n))).value args s none s [] = some true) (e : t.eval args s none [] s = some (.int x)) : ¬ (x = n) := by
  simpa [Cond.value, Term.eval, e] using h
theorem own_eqref {args : Array Value} {s : State} {t u : Term} {b : Addr} (h : (Jvm.Cond.eq t u).value args s none s [] = some true) (hu : u.eval args s none [] s = some (.ref b)) : t.eval args s none [] s = some (.ref b) := by
  simp only [Cond.value, hu] at h
  cases ht : t.eval args s none [] s with
  | none => simp [ht] at h
  | some x => cases x <;> simp [ht] at h ⊢; exact h
theorem own_arrlen {args : Array Value} {s : State} {t : Term} {a : Addr} {cl : Cell} {ty : FieldType} {z : Int32} (ev : t.eval args s none [] s = some (.ref a)) (A : Arr s s.heap a cl ty) (h : (Term.length t).eval args s none [] s = some (.int z)) : cl.slots.size < 2 ^ 31 ∧ cl.slots.size.toInt32 = z := by
  have e := Arr.fin (U := s) (Vm.Alike.refl _) A
  simp only [Term.eval, ev, Option.bind_eq_bind, Option.bind_some, e] at h
  by_cases q : cl.slots.size < 2 ^ 31
  · simp [q] at h; exact ⟨q, h⟩
  · simp [q] at h
theorem comes_1 {Post : Tables → Env → Array Value → State → Outcome → State → Prop} (hpost : ∀ tb e args s v u, (limb_1_1.after args s (.returned v) u = true ∧ limb_1_2.after args s (.returned v) u = true ∧ True) → ReturnedEndW s (.returned v) u (Jvm.fieldLocs frame_1_writes args s ++ Jvm.arrayLocs frame_1_arrays args s ++ Jvm.staticLocs frame_1_statics s) 40 2240 → Post tb e args s (.returned v) u) :
    ArmFor flags0 classFile x code maxLocals ret World_1 tables_1 room_1 Calls_1 rest_1 Pre_1 Post := by
  intro l hfl _ _ p e ha hc hk s m args below hf hA hF happ hP
  obtain ⟨hcalls, hrest, hpre⟩ := hP
  obtain ⟨-, -, -, hnamed, -, -, -, hat⟩ := (Spec.applies_iff hf).mp happ
  obtain ⟨hg, hn⟩ := and_e (Cond.before_iff.mp (show (Jvm.Cond.and given_1 narrow_1).before args s = true from hpre))
  obtain ⟨g1, g2⟩ := and_e hg
  obtain ⟨g3, g4⟩ := and_e g2
  obtain ⟨g5, g6⟩ := and_e g4
  obtain ⟨w0, w1, w2, rfl⟩ : ∃ w0 w1 w2 : Value, args = #[w0, w1, w2] := by
    have hs : args.size = 3 := by simpa [Cond.value, given_1] using g1
    obtain ⟨L⟩ := args
    match L, hs with
    | [w0, w1, w2], _ => exact ⟨w0, w1, w2, rfl⟩
  have hw := fun d (hd : d ∈ tables_1) => atoms_spec (ws := Jvm.Cond.code x code maxLocals ret :: tables_1) hat d (List.mem_cons_of_mem _ hd)
  have hfit : Fit s := fun {y c} hc i hi => by
    obtain ⟨ha, rfl⟩ := Array.getElem?_eq_some_iff.mp hc
    have q := List.all_eq_true.mp ((Array.all_eq_true_iff_forall_mem.mp hF) _ (Array.getElem_mem ha)) i (List.mem_range.mpr hi)
    simpa [Array.getElem?_eq_getElem hi] using q
  obtain ⟨hsets, hown0⟩ := atoms_of _ (rest_1_c_eq ▸ (show rest_1_c.before _ s = true from hrest))
  obtain ⟨i0, ei0⟩ := isL_v g3
  obtain rfl : w0 = (.long i0) := Option.some.inj ei0
  obtain ⟨i1, ei1⟩ := is_v g5
  obtain rfl : w1 = (.int i1) := Option.some.inj ei1
  obtain ⟨i2, ei2⟩ := is_v g6
  obtain rfl : w2 = (.int i2) := Option.some.inj ei2
  obtain ⟨A_cS, e7⟩ := is_v (Cond.before_iff.mp (hsets _ (List.mem_of_getElem? (i := 1) rfl)))
  have B8 : Sta s s.heap "java/lang/String" "COMPACT_STRINGS" "Z" (.int A_cS) := Sta.start e7 (Or.inl (hsets _ (List.mem_of_getElem? (i := 0) rfl)))
  have B9 : ¬ (A_cS = (0 : Int32)) := own_neint (Cond.before_iff.mp (hsets _ (List.mem_of_getElem? (i := 2) rfl))) e7
  obtain ⟨A_fm, e10, e10'⟩ := isR_v (Cond.before_iff.mp (hsets _ (List.mem_of_getElem? (i := 8) rfl)))
  have B11 : Sta s s.heap "jdk/internal/util/Preconditions" "SIOOBE_FORMATTER" "Ljava/util/function/BiFunction;" A_fm := Sta.start e10 (Or.inl (hsets _ (List.mem_of_getElem? (i := 7) rfl)))
  have B12 : A_fm.isRef = true := e10'
  have e13 := own_eqint (Cond.before_iff.mp (hsets _ (List.mem_of_getElem? (i := 12) rfl)))
  have B14 : Sta s s.heap "java/lang/StringUTF16" "$assertionsDisabled" "Z" (.int (1 : Int32)) := Sta.start e13 (Or.inl (hsets _ (List.mem_of_getElem? (i := 11) rfl)))
  have e15 := own_eqint (Cond.before_iff.mp (hsets _ (List.mem_of_getElem? (i := 15) rfl)))
  have B16 : Sta s s.heap "java/lang/StringUTF16" "HI_BYTE_SHIFT" "I" (.int (0 : Int32)) := Sta.start e15 (Or.inl (hsets _ (List.mem_of_getElem? (i := 14) rfl)))
  have e17 := own_eqint (Cond.before_iff.mp (hsets _ (List.mem_of_getElem? (i := 18) rfl)))
  have B18 : Sta s s.heap "java/lang/StringUTF16" "LO_BYTE_SHIFT" "I" (.int (8 : Int32)) := Sta.start e17 (Or.inl (hsets _ (List.mem_of_getElem? (i := 17) rfl)))
  obtain ⟨n, o, h1, h2, h3, _, L, rfl, ⟨rfl, N, _⟩, -, hq⟩ := rm_law l s _ hw tables_1 i0 i1 i2 A_cS A_fm s.heap s.heap.size (Nat.le_refl _) (Old.start s) B8 B9 B11 B12 B14 B16 B18 p e ha hc hk s m _ below hf ((Spec.applies_iff_loose hf).mp happ).1 ⟨rfl, State.Warmed39.refl s, rfl, own_chv hw hcalls.1 (Cond.before_iff.mpr (Cond.before_iff.mp (hsets _ (List.mem_of_getElem? (i := 2) rfl))))⟩ trivial
  refine ⟨n, _, h1, h2, h3, hpost _ _ _ _ _ _ ⟨Cond.after_iff.mpr rfl, Cond.after_iff.mpr (eq_i res_at (Term.int_eval (1)) rfl), trivial⟩ ⟨hq.1, hq.2.1, hq.2.2.1, (hq.2.2.2.sift fun y hy => Or.inr (N y hy)).mono (by decide) (by decide)⟩⟩
theorem main_1_1 : Claimed_1_1 := comes_1 fun _ _ _ _ _ _ h hF => ⟨h.1, hF⟩
theorem main_1_2 : Claimed_1_2 := comes_1 fun _ _ _ _ _ _ h hF => ⟨h.2.1, hF⟩

end Jvm.Pilot.@@N@@
namespace Jvm.Pilot.@@N@@
open Jvm Jvm.ClassFile Sem Op Lib Jvm.Free Jvm.Stand Jvm.Pilot.@@N@@.Jvm.D
/-! MADE BY PROGRAM (witnessworld.py) out of the Statement's table words and the real class files: 24 classes; the members and pool entries that the words name. The judged class is class 1, her method 4. -/
namespace start1
open Jvm.ClassFile
def u (s : String) : CpInfo := .utf8 (stringToUtf16 s)
/-- a pool by its gaps: so many unusable entries, then the entry; so many at the end -/
def gap : Nat → List CpInfo → List CpInfo
  | 0, r => r
  | n + 1, r => .unusable :: gap n r
def poolList (es : List (Nat × CpInfo)) (last : Nat) : List CpInfo := es.foldr (fun e r => gap e.1 (e.2 :: r)) (gap last [])
def pool (es : List (Nat × CpInfo)) (last : Nat) : Array CpInfo := ⟨poolList es last⟩
def fileOf (pool : Array CpInfo) (this : Nat) (attrs : Array Attribute := #[]) (ms : Array MethodInfo := #[]) (fl : Nat := 33) (sup : Nat := 0) (ifs : Array Nat := #[]) (fds : Array FieldInfo := #[]) : ClassFile where
  minorVersion := 0
  majorVersion := 65
  constantPool := pool
  accessFlags := fl
  thisClass := this
  superClass := sup
  interfaces := ifs
  fields := fds
  methods := ms
  attributes := attrs
def plain (name : String) (sup : Option ClassId) : Class where
  name := name
  kind := .ordinary
  loader := none
  accessFlags := 33
  super := sup
  interfaces := #[]
  cf := none
  fields := #[]
  methods := #[]
  instanceTypes := #[]
  staticTypes := #[]
  resolved := #[]
  callSites := []
  init := .initialized
  statics := none
  mirror := none

def pool0 : Array CpInfo := pool [(5, u "<init>"), (0, u "()V"), (1, .class_ 10), (1, u "java/lang/Object")] 113

def k0c0 : Code := { maxStack := 0, maxLocals := 1, code := object_method_1_code, exceptionTable := #[], attributes := #[] }
def k0m0 : Method := { name := "<init>", desc := "()V", sig := { parameters := [], returnType := none }, accessFlags := 1, code := some k0c0 }
/-- java/lang/Object -/
def k0 : Class := { plain "java/lang/Object" none with
  accessFlags := 33
  interfaces := #[]
  cf := some (fileOf pool0 8 #[] #[{ accessFlags := 1, nameIndex := 5, descriptorIndex := 6, attributes := #[] }] 33 0 #[] #[])
  fields := #[]
  methods := #[k0m0]
  instanceTypes := #[]
  staticTypes := #[]
  resolved := Array.replicate 124 none
  statics := none }

def pool1 : Array CpInfo := pool [(2, .class_ 4), (1, u "java/lang/Object"), (0, u "<init>"), (0, u "()V"), (0, .long 65535), (1, .methodref 10 11), (0, .class_ 12), (0, .nameAndType 13 14), (0, u "java/lang/String"), (0, u "charAt"), (0, u "(I)C"), (0, .methodref 16 17), (0, .class_ 18), (0, .nameAndType 19 20), (0, u "com/example/patents_via_api/patentsviaapi/cli/OptionsSplitAtFirstPinLaw"), (0, u "pick"), (0, u "(JIIC)C"), (0, .methodref 10 22), (0, .nameAndType 5 23), (0, u "([C)V"), (0, .methodref 25 26), (0, .class_ 27), (0, .nameAndType 28 29), (0, u "com/example/patents_via_api/patentsviaapi/cli/Options"), (0, u "splitAtFirst"), (0, u "(Ljava/lang/String;C)[Ljava/lang/String;"), (0, .methodref 10 31), (0, .nameAndType 32 33), (0, u "length"), (0, u "()I"), (0, .methodref 16 35), (0, .nameAndType 36 37), (0, u "pre"), (0, u "(Ljava/lang/String;II[C)Z"), (0, .methodref 16 39), (0, .nameAndType 40 41), (0, u "suf"), (0, u "(Ljava/lang/String;III[C)Z"), (3, u "law"), (0, u "(JII)Z")] 6

def k1m0 : Method := { name := "<init>", desc := "()V", sig := { parameters := [], returnType := none }, accessFlags := 2, code := none }
def k1c1 : Code := { maxStack := 4, maxLocals := 5, code := method_2_code, exceptionTable := #[], attributes := #[] }
def k1m1 : Method := { name := "pick", desc := "(JIIC)C", sig := { parameters := [.long, .int, .int, .char], returnType := some .char }, accessFlags := 10, code := some k1c1 }
def k1c2 : Code := { maxStack := 3, maxLocals := 4, code := method_3_code, exceptionTable := #[], attributes := #[] }
def k1m2 : Method := { name := "pre", desc := "(Ljava/lang/String;II[C)Z", sig := { parameters := [(.object "java/lang/String"), .int, .int, (.array .char)], returnType := some .boolean }, accessFlags := 10, code := some k1c2 }
def k1c3 : Code := { maxStack := 3, maxLocals := 6, code := method_4_code, exceptionTable := #[], attributes := #[] }
def k1m3 : Method := { name := "suf", desc := "(Ljava/lang/String;III[C)Z", sig := { parameters := [(.object "java/lang/String"), .int, .int, .int, (.array .char)], returnType := some .boolean }, accessFlags := 10, code := some k1c3 }
def k1c4 : Code := { maxStack := 7, maxLocals := 12, code := code, exceptionTable := #[], attributes := #[] }
def k1m4 : Method := { name := "law", desc := "(JII)Z", sig := { parameters := [.long, .int, .int], returnType := some .boolean }, accessFlags := 9, code := some k1c4 }
/-- com/example/patents_via_api/patentsviaapi/cli/OptionsSplitAtFirstPinLaw -/
def k1 : Class := { plain "com/example/patents_via_api/patentsviaapi/cli/OptionsSplitAtFirstPinLaw" (some 0) with
  accessFlags := 49
  interfaces := #[]
  cf := some (fileOf pool1 16 #[] #[{ accessFlags := 2, nameIndex := 5, descriptorIndex := 6, attributes := #[] }, { accessFlags := 10, nameIndex := 19, descriptorIndex := 20, attributes := #[] }, { accessFlags := 10, nameIndex := 36, descriptorIndex := 37, attributes := #[] }, { accessFlags := 10, nameIndex := 40, descriptorIndex := 41, attributes := #[] }, { accessFlags := 9, nameIndex := 45, descriptorIndex := 46, attributes := #[] }] 49 2 #[] #[])
  fields := #[]
  methods := #[k1m0, k1m1, k1m2, k1m3, k1m4]
  instanceTypes := #[]
  staticTypes := #[]
  resolved := Array.replicate 53 none
  statics := none }

def pool2 : Array CpInfo := pool [(1, .class_ 2), (0, u "java/io/Serializable"), (0, .class_ 4), (0, u "java/lang/Object")] 2

/-- java/io/Serializable -/
def k2 : Class := { plain "java/io/Serializable" (some 0) with
  accessFlags := 1537
  interfaces := #[]
  cf := some (fileOf pool2 1 #[] #[] 1537 3 #[] #[])
  fields := #[]
  methods := #[]
  instanceTypes := #[]
  staticTypes := #[]
  resolved := Array.replicate 7 none
  statics := none }

def pool3 : Array CpInfo := pool [(1, .class_ 2), (0, u "java/lang/Comparable"), (0, .class_ 4), (0, u "java/lang/Object")] 7

/-- java/lang/Comparable -/
def k3 : Class := { plain "java/lang/Comparable" (some 0) with
  accessFlags := 1537
  interfaces := #[]
  cf := some (fileOf pool3 1 #[] #[] 1537 3 #[] #[])
  fields := #[]
  methods := #[]
  instanceTypes := #[]
  staticTypes := #[]
  resolved := Array.replicate 12 none
  statics := none }

def pool4 : Array CpInfo := pool [(2, .class_ 4), (1, u "java/lang/CharSequence"), (42, .class_ 48), (0, u "java/lang/CharSequence$1CodePointIterator"), (10, .class_ 60), (0, u "java/lang/CharSequence$1CharIterator"), (5, .class_ 67), (0, u "java/lang/Object")] 63

/-- java/lang/CharSequence -/
def k4 : Class := { plain "java/lang/CharSequence" (some 0) with
  accessFlags := 1537
  interfaces := #[]
  cf := some (fileOf pool4 2 #[.nestMembers #[47, 59]] #[] 1537 66 #[] #[])
  fields := #[]
  methods := #[]
  instanceTypes := #[]
  staticTypes := #[]
  resolved := Array.replicate 131 none
  statics := none }

def pool5 : Array CpInfo := pool [(1, .class_ 2), (0, u "java/lang/constant/Constable"), (0, .class_ 4), (0, u "java/lang/Object")] 6

/-- java/lang/constant/Constable -/
def k5 : Class := { plain "java/lang/constant/Constable" (some 0) with
  accessFlags := 1537
  interfaces := #[]
  cf := some (fileOf pool5 1 #[] #[] 1537 3 #[] #[])
  fields := #[]
  methods := #[]
  instanceTypes := #[]
  staticTypes := #[]
  resolved := Array.replicate 11 none
  statics := none }

def pool6 : Array CpInfo := pool [(1, .class_ 2), (0, u "java/lang/constant/ConstantDesc"), (0, .class_ 4), (0, u "java/lang/Object")] 32

/-- java/lang/constant/ConstantDesc -/
def k6 : Class := { plain "java/lang/constant/ConstantDesc" (some 0) with
  accessFlags := 1537
  interfaces := #[]
  cf := some (fileOf pool6 1 #[] #[] 1537 3 #[] #[])
  fields := #[]
  methods := #[]
  instanceTypes := #[]
  staticTypes := #[]
  resolved := Array.replicate 37 none
  statics := none }

def pool7 : Array CpInfo := pool [(1, .methodref 2 3), (0, .class_ 4), (0, .nameAndType 5 6), (0, u "java/lang/Object"), (0, u "<init>"), (0, u "()V"), (2, .fieldref 10 11), (0, .class_ 12), (0, .nameAndType 13 14), (0, u "java/lang/String"), (0, u "value"), (0, u "[B"), (0, .fieldref 10 16), (0, .nameAndType 17 18), (0, u "coder"), (0, u "B"), (2, u "hash"), (0, u "I"), (2, u "hashIsZero"), (0, u "Z"), (0, .methodref 10 28), (0, .nameAndType 5 29), (0, u "([CIILjava/lang/Void;)V"), (6, u "checkBoundsOffCount"), (0, u "(III)I"), (0, .fieldref 10 39), (0, .nameAndType 40 26), (0, u "COMPACT_STRINGS"), (1, .class_ 44), (1, u "java/lang/StringUTF16"), (0, u "compress"), (1, .methodref 42 48), (0, .nameAndType 49 50), (0, u "coderFromArrayLen"), (0, u "([BI)B"), (56, .class_ 109), (1, u "java/lang/StringLatin1"), (32, u "()Z"), (34, .methodref 42 178), (0, .nameAndType 45 179), (0, u "([CII)[B"), (31, u "([BB)V"), (122, u "()I"), (0, .methodref 10 336), (0, .nameAndType 17 337), (0, u "()B"), (25, u "([BI)C"), (27, u "(II)V"), (35, u "(I)C"), (64, .methodref 10 493), (0, .nameAndType 494 142), (0, u "isLatin1"), (0, .methodref 107 496), (0, .nameAndType 497 363), (0, u "charAt"), (0, .methodref 42 496), (2, u "checkIndex"), (3, .methodref 10 506), (0, .nameAndType 507 334), (0, u "length"), (5, u "checkFromToIndex"), (7, .methodref 10 522), (0, .nameAndType 523 524), (0, u "checkBoundsBeginEnd"), (0, u "(III)V"), (50, .class_ 576), (0, u "java/lang/CharSequence"), (22, u "CASE_INSENSITIVE_ORDER"), (0, u "Ljava/util/Comparator;"), (32, .methodref 10 634), (0, .nameAndType 635 636), (0, u "indexOf"), (0, u "(II)I"), (0, .methodref 107 638), (0, .nameAndType 635 639), (0, u "([BIII)I"), (0, .methodref 42 638), (40, .methodref 10 682), (0, .nameAndType 683 684), (0, u "substring"), (0, u "(II)Ljava/lang/String;"), (0, .methodref 107 686), (0, .nameAndType 687 688), (0, u "newString"), (0, u "([BII)Ljava/lang/String;"), (0, .methodref 42 686), (75, u "(I)I"), (126, u "(I)Ljava/lang/String;"), (117, u "([C)V"), (42, .fieldref 1054 1055), (0, .class_ 1056), (0, .nameAndType 1057 1058), (0, u "jdk/internal/util/Preconditions"), (0, u "SIOOBE_FORMATTER"), (0, u "Ljava/util/function/BiFunction;"), (0, .methodref 1054 1060), (0, .nameAndType 501 1061), (0, u "(IILjava/util/function/BiFunction;)I"), (0, .methodref 1054 1063), (0, .nameAndType 513 1064), (0, u "(IIILjava/util/function/BiFunction;)I"), (0, .methodref 1054 1066), (0, .nameAndType 1067 1064), (0, u "checkFromIndexSize"), (33, u "serialPersistentFields"), (0, u "[Ljava/io/ObjectStreamField;"), (0, .class_ 1104), (0, u "java/lang/String$CaseInsensitiveComparator"), (1, .class_ 1107), (0, u "java/io/Serializable"), (0, .class_ 1109), (0, u "java/lang/Comparable"), (0, .class_ 1111), (0, u "java/lang/constant/Constable"), (0, .class_ 1113), (0, u "java/lang/constant/ConstantDesc"), (2, u "serialVersionUID"), (0, u "J"), (3, u "REPL"), (0, u "C"), (2, u "LATIN1"), (1, u "UTF16")] 323

def k7m0 : Method := { name := "<init>", desc := "()V", sig := { parameters := [], returnType := none }, accessFlags := 1, code := none }
def k7c1 : Code := { maxStack := 5, maxLocals := 2, code := jdk_42_method_3_code, exceptionTable := #[], attributes := #[] }
def k7m1 : Method := { name := "<init>", desc := "([C)V", sig := { parameters := [(.array .char)], returnType := none }, accessFlags := 1, code := some k7c1 }
def k7c2 : Code := { maxStack := 2, maxLocals := 1, code := jdk_42_method_54_code, exceptionTable := #[], attributes := #[] }
def k7m2 : Method := { name := "length", desc := "()I", sig := { parameters := [], returnType := some .int }, accessFlags := 1, code := some k7c2 }
def k7c3 : Code := { maxStack := 2, maxLocals := 2, code := jdk_42_method_56_code, exceptionTable := #[], attributes := #[] }
def k7m3 : Method := { name := "charAt", desc := "(I)C", sig := { parameters := [.int], returnType := some .char }, accessFlags := 1, code := some k7c3 }
def k7c4 : Code := { maxStack := 3, maxLocals := 2, code := jdk_42_method_79_code, exceptionTable := #[], attributes := #[] }
def k7m4 : Method := { name := "indexOf", desc := "(I)I", sig := { parameters := [.int], returnType := some .int }, accessFlags := 1, code := some k7c4 }
def k7c5 : Code := { maxStack := 4, maxLocals := 3, code := jdk_42_method_80_code, exceptionTable := #[], attributes := #[] }
def k7m5 : Method := { name := "indexOf", desc := "(II)I", sig := { parameters := [.int, .int], returnType := some .int }, accessFlags := 1, code := some k7c5 }
def k7c6 : Code := { maxStack := 3, maxLocals := 2, code := jdk_42_method_91_code, exceptionTable := #[], attributes := #[] }
def k7m6 : Method := { name := "substring", desc := "(I)Ljava/lang/String;", sig := { parameters := [.int], returnType := some (.object "java/lang/String") }, accessFlags := 1, code := some k7c6 }
def k7c7 : Code := { maxStack := 3, maxLocals := 5, code := jdk_42_method_92_code, exceptionTable := #[], attributes := #[] }
def k7m7 : Method := { name := "substring", desc := "(II)Ljava/lang/String;", sig := { parameters := [.int, .int], returnType := some (.object "java/lang/String") }, accessFlags := 1, code := some k7c7 }
def k7c8 : Code := { maxStack := 4, maxLocals := 6, code := jdk_42_method_149_code, exceptionTable := #[], attributes := #[] }
def k7m8 : Method := { name := "<init>", desc := "([CIILjava/lang/Void;)V", sig := { parameters := [(.array .char), .int, .int, (.object "java/lang/Void")], returnType := none }, accessFlags := 2, code := some k7c8 }
def k7c9 : Code := { maxStack := 2, maxLocals := 3, code := jdk_42_method_151_code, exceptionTable := #[], attributes := #[] }
def k7m9 : Method := { name := "<init>", desc := "([BB)V", sig := { parameters := [(.array .byte), .byte], returnType := none }, accessFlags := 0, code := some k7c9 }
def k7c10 : Code := { maxStack := 1, maxLocals := 1, code := jdk_42_method_152_code, exceptionTable := #[], attributes := #[] }
def k7m10 : Method := { name := "coder", desc := "()B", sig := { parameters := [], returnType := some .byte }, accessFlags := 0, code := some k7c10 }
def k7c11 : Code := { maxStack := 1, maxLocals := 1, code := jdk_42_method_154_code, exceptionTable := #[], attributes := #[] }
def k7m11 : Method := { name := "isLatin1", desc := "()Z", sig := { parameters := [], returnType := some .boolean }, accessFlags := 0, code := some k7c11 }
def k7c12 : Code := { maxStack := 3, maxLocals := 2, code := jdk_42_method_155_code, exceptionTable := #[], attributes := #[] }
def k7m12 : Method := { name := "checkIndex", desc := "(II)V", sig := { parameters := [.int, .int], returnType := none }, accessFlags := 8, code := some k7c12 }
def k7c13 : Code := { maxStack := 4, maxLocals := 3, code := jdk_42_method_157_code, exceptionTable := #[], attributes := #[] }
def k7m13 : Method := { name := "checkBoundsOffCount", desc := "(III)I", sig := { parameters := [.int, .int, .int], returnType := some .int }, accessFlags := 8, code := some k7c13 }
def k7c14 : Code := { maxStack := 4, maxLocals := 3, code := jdk_42_method_158_code, exceptionTable := #[], attributes := #[] }
def k7m14 : Method := { name := "checkBoundsBeginEnd", desc := "(III)V", sig := { parameters := [.int, .int, .int], returnType := none }, accessFlags := 8, code := some k7c14 }
/-- java/lang/String -/
def k7 : Class := { plain "java/lang/String" (some 0) with
  accessFlags := 49
  interfaces := #[2, 3, 4, 5, 6]
  cf := some (fileOf pool7 10 #[.nestMembers #[1103]] #[{ accessFlags := 1, nameIndex := 5, descriptorIndex := 6, attributes := #[] }, { accessFlags := 1, nameIndex := 5, descriptorIndex := 1010, attributes := #[] }, { accessFlags := 1, nameIndex := 507, descriptorIndex := 334, attributes := #[] }, { accessFlags := 1, nameIndex := 497, descriptorIndex := 427, attributes := #[] }, { accessFlags := 1, nameIndex := 635, descriptorIndex := 765, attributes := #[] }, { accessFlags := 1, nameIndex := 635, descriptorIndex := 636, attributes := #[] }, { accessFlags := 1, nameIndex := 683, descriptorIndex := 892, attributes := #[] }, { accessFlags := 1, nameIndex := 683, descriptorIndex := 684, attributes := #[] }, { accessFlags := 2, nameIndex := 5, descriptorIndex := 29, attributes := #[] }, { accessFlags := 0, nameIndex := 5, descriptorIndex := 211, attributes := #[] }, { accessFlags := 0, nameIndex := 17, descriptorIndex := 337, attributes := #[] }, { accessFlags := 0, nameIndex := 494, descriptorIndex := 142, attributes := #[] }, { accessFlags := 8, nameIndex := 501, descriptorIndex := 391, attributes := #[] }, { accessFlags := 8, nameIndex := 36, descriptorIndex := 37, attributes := #[] }, { accessFlags := 8, nameIndex := 523, descriptorIndex := 524, attributes := #[] }] 49 2 #[1106, 1108, 575, 1110, 1112] #[{ accessFlags := 18, nameIndex := 13, descriptorIndex := 14, attributes := #[] }, { accessFlags := 18, nameIndex := 17, descriptorIndex := 18, attributes := #[] }, { accessFlags := 2, nameIndex := 21, descriptorIndex := 22, attributes := #[] }, { accessFlags := 2, nameIndex := 25, descriptorIndex := 26, attributes := #[] }, { accessFlags := 26, nameIndex := 1116, descriptorIndex := 1117, attributes := #[] }, { accessFlags := 24, nameIndex := 40, descriptorIndex := 26, attributes := #[] }, { accessFlags := 26, nameIndex := 1101, descriptorIndex := 1102, attributes := #[] }, { accessFlags := 26, nameIndex := 1121, descriptorIndex := 1122, attributes := #[] }, { accessFlags := 25, nameIndex := 599, descriptorIndex := 600, attributes := #[] }, { accessFlags := 24, nameIndex := 1125, descriptorIndex := 18, attributes := #[] }, { accessFlags := 24, nameIndex := 1127, descriptorIndex := 18, attributes := #[] }])
  fields := #[{ name := "value", type := (.array .byte), accessFlags := 18, slot := 0, constantValue := 0 }, { name := "coder", type := .byte, accessFlags := 18, slot := 1, constantValue := 0 }, { name := "hash", type := .int, accessFlags := 2, slot := 2, constantValue := 0 }, { name := "hashIsZero", type := .boolean, accessFlags := 2, slot := 3, constantValue := 0 }, { name := "serialVersionUID", type := .long, accessFlags := 26, slot := 0, constantValue := 0 }, { name := "COMPACT_STRINGS", type := .boolean, accessFlags := 24, slot := 1, constantValue := 0 }, { name := "serialPersistentFields", type := (.array (.object "java/io/ObjectStreamField")), accessFlags := 26, slot := 2, constantValue := 0 }, { name := "REPL", type := .char, accessFlags := 26, slot := 3, constantValue := 0 }, { name := "CASE_INSENSITIVE_ORDER", type := (.object "java/util/Comparator"), accessFlags := 25, slot := 4, constantValue := 0 }, { name := "LATIN1", type := .byte, accessFlags := 24, slot := 5, constantValue := 0 }, { name := "UTF16", type := .byte, accessFlags := 24, slot := 6, constantValue := 0 }]
  methods := #[k7m0, k7m1, k7m2, k7m3, k7m4, k7m5, k7m6, k7m7, k7m8, k7m9, k7m10, k7m11, k7m12, k7m13, k7m14]
  instanceTypes := #[(.array .byte), .byte, .int, .boolean]
  staticTypes := #[.long, .boolean, (.array (.object "java/io/ObjectStreamField")), .char, (.object "java/util/Comparator"), .byte, .byte]
  resolved := Array.replicate 1451 none
  statics := some 0 }

def pool8 : Array CpInfo := pool [(3, .class_ 4), (0, u "java/lang/String"), (1, .class_ 8), (1, u "java/lang/Object"), (0, u "<init>"), (0, u "()V"), (0, .methodref 12 13), (0, .class_ 14), (0, .nameAndType 15 16), (0, u "java/lang/StringUTF16"), (0, u "newBytesLength"), (0, u "(I)I"), (3, .integer 1073741823), (23, .fieldref 12 45), (0, .nameAndType 46 47), (0, u "$assertionsDisabled"), (0, u "Z"), (0, .methodref 12 49), (0, .nameAndType 50 51), (0, u "length"), (0, u "([B)I"), (7, .fieldref 12 60), (0, .nameAndType 61 62), (0, u "HI_BYTE_SHIFT"), (0, u "I"), (0, .fieldref 12 64), (0, .nameAndType 65 62), (0, u "LO_BYTE_SHIFT"), (1, .methodref 12 68), (0, .nameAndType 69 70), (0, u "checkIndex"), (0, u "(I[B)V"), (0, .methodref 12 72), (0, .nameAndType 73 74), (0, u "getChar"), (0, u "([BI)C"), (21, .methodref 12 97), (0, .nameAndType 98 99), (0, u "checkBoundsBeginEnd"), (0, u "(II[B)V"), (7, .methodref 12 108), (0, .nameAndType 109 110), (0, u "newBytesFor"), (0, u "(I)[B"), (0, .methodref 12 112), (0, .nameAndType 113 114), (0, u "putChar"), (0, u "([BII)V"), (0, .methodref 12 116), (0, .nameAndType 117 118), (0, u "compress"), (0, u "([CI[BII)I"), (0, .methodref 12 120), (0, .nameAndType 121 122), (0, u "toBytes"), (0, u "([CII)[B"), (0, .methodref 12 124), (0, .nameAndType 117 125), (0, u "([BI[BII)I"), (0, .methodref 127 128), (0, .class_ 129), (0, .nameAndType 130 131), (0, u "java/util/Arrays"), (0, u "copyOfRange"), (0, u "([BII)[B"), (41, .methodref 12 174), (0, .nameAndType 175 99), (0, u "checkBoundsOffCount"), (7, .methodref 184 185), (0, .class_ 186), (0, .nameAndType 187 188), (0, u "java/lang/Math"), (0, u "min"), (0, u "(II)I"), (35, .methodref 184 225), (0, .nameAndType 226 188), (0, u "max"), (0, .integer 65536), (0, .methodref 12 229), (0, .nameAndType 230 231), (0, u "indexOfChar"), (0, u "([BIII)I"), (9, .methodref 3 242), (0, .nameAndType 98 243), (0, u "(III)V"), (0, .methodref 12 245), (0, .nameAndType 246 231), (0, u "indexOfCharUnsafe"), (4, .fieldref 3 252), (0, .nameAndType 253 47), (0, u "COMPACT_STRINGS"), (3, .methodref 12 258), (0, .nameAndType 117 131), (0, .methodref 12 260), (0, .nameAndType 261 262), (0, u "coderFromArrayLen"), (0, u "([BI)B"), (0, .methodref 3 264), (0, .nameAndType 9 265), (0, u "([BB)V"), (2, u "indexOf"), (12, u "(III)I"), (13, .string 296), (0, u ""), (30, u "newString"), (0, u "([BII)Ljava/lang/String;"), (40, .class_ 371), (1, u "java/lang/StringUTF16$LinesSpliterator"), (20, u "charAt"), (21, .methodref 3 415), (0, .nameAndType 69 416), (0, u "(II)V"), (2, .methodref 3 420), (0, .nameAndType 175 281), (9, u "MAX_LENGTH"), (196, .class_ 628), (0, u "java/lang/StringUTF16$CodePointsSpliterator"), (0, .class_ 630), (0, u "java/lang/StringUTF16$CharsSpliterator")] 4

def k8m0 : Method := { name := "<init>", desc := "()V", sig := { parameters := [], returnType := none }, accessFlags := 0, code := none }
def k8c1 : Code := { maxStack := 1, maxLocals := 1, code := jdk_52_method_2_code, exceptionTable := #[], attributes := #[] }
def k8m1 : Method := { name := "newBytesFor", desc := "(I)[B", sig := { parameters := [.int], returnType := some (.array .byte) }, accessFlags := 9, code := some k8c1 }
def k8c2 : Code := { maxStack := 4, maxLocals := 1, code := jdk_52_method_3_code, exceptionTable := #[], attributes := #[] }
def k8m2 : Method := { name := "newBytesLength", desc := "(I)I", sig := { parameters := [.int], returnType := some .int }, accessFlags := 9, code := some k8c2 }
def k8c3 : Code := { maxStack := 4, maxLocals := 3, code := jdk_52_method_4_code, exceptionTable := #[], attributes := #[] }
def k8m3 : Method := { name := "putChar", desc := "([BII)V", sig := { parameters := [(.array .byte), .int, .int], returnType := none }, accessFlags := 8, code := some k8c3 }
def k8c4 : Code := { maxStack := 3, maxLocals := 2, code := jdk_52_method_5_code, exceptionTable := #[], attributes := #[] }
def k8m4 : Method := { name := "getChar", desc := "([BI)C", sig := { parameters := [(.array .byte), .int], returnType := some .char }, accessFlags := 8, code := some k8c4 }
def k8c5 : Code := { maxStack := 2, maxLocals := 1, code := jdk_52_method_6_code, exceptionTable := #[], attributes := #[] }
def k8m5 : Method := { name := "length", desc := "([B)I", sig := { parameters := [(.array .byte)], returnType := some .int }, accessFlags := 9, code := some k8c5 }
def k8c6 : Code := { maxStack := 4, maxLocals := 5, code := jdk_52_method_14_code, exceptionTable := #[], attributes := #[] }
def k8m6 : Method := { name := "toBytes", desc := "([CII)[B", sig := { parameters := [(.array .char), .int, .int], returnType := some (.array .byte) }, accessFlags := 9, code := some k8c6 }
def k8c7 : Code := { maxStack := 2, maxLocals := 2, code := jdk_52_method_15_code, exceptionTable := #[], attributes := #[] }
def k8m7 : Method := { name := "coderFromArrayLen", desc := "([BI)B", sig := { parameters := [(.array .byte), .int], returnType := some .byte }, accessFlags := 8, code := some k8c7 }
def k8c8 : Code := { maxStack := 5, maxLocals := 6, code := jdk_52_method_16_code, exceptionTable := #[], attributes := #[] }
def k8m8 : Method := { name := "compress", desc := "([CII)[B", sig := { parameters := [(.array .char), .int, .int], returnType := some (.array .byte) }, accessFlags := 9, code := some k8c8 }
def k8c9 : Code := { maxStack := 5, maxLocals := 6, code := jdk_52_method_17_code, exceptionTable := #[], attributes := #[] }
def k8m9 : Method := { name := "compress", desc := "([BII)[B", sig := { parameters := [(.array .byte), .int, .int], returnType := some (.array .byte) }, accessFlags := 9, code := some k8c9 }
def k8c10 : Code := { maxStack := 3, maxLocals := 7, code := jdk_52_method_21_code, exceptionTable := #[], attributes := #[] }
def k8m10 : Method := { name := "compress", desc := "([CI[BII)I", sig := { parameters := [(.array .char), .int, (.array .byte), .int, .int], returnType := some .int }, accessFlags := 9, code := some k8c10 }
def k8c11 : Code := { maxStack := 3, maxLocals := 7, code := jdk_52_method_22_code, exceptionTable := #[], attributes := #[] }
def k8m11 : Method := { name := "compress", desc := "([BI[BII)I", sig := { parameters := [(.array .byte), .int, (.array .byte), .int, .int], returnType := some .int }, accessFlags := 9, code := some k8c11 }
def k8c12 : Code := { maxStack := 4, maxLocals := 4, code := jdk_52_method_40_code, exceptionTable := #[], attributes := #[] }
def k8m12 : Method := { name := "indexOf", desc := "([BIII)I", sig := { parameters := [(.array .byte), .int, .int, .int], returnType := some .int }, accessFlags := 9, code := some k8c12 }
def k8c13 : Code := { maxStack := 4, maxLocals := 4, code := jdk_52_method_47_code, exceptionTable := #[], attributes := #[] }
def k8m13 : Method := { name := "indexOfChar", desc := "([BIII)I", sig := { parameters := [(.array .byte), .int, .int, .int], returnType := some .int }, accessFlags := 10, code := some k8c13 }
def k8c14 : Code := { maxStack := 2, maxLocals := 5, code := jdk_52_method_48_code, exceptionTable := #[], attributes := #[] }
def k8m14 : Method := { name := "indexOfCharUnsafe", desc := "([BIII)I", sig := { parameters := [(.array .byte), .int, .int, .int], returnType := some .int }, accessFlags := 10, code := some k8c14 }
def k8c15 : Code := { maxStack := 6, maxLocals := 5, code := jdk_52_method_69_code, exceptionTable := #[], attributes := #[] }
def k8m15 : Method := { name := "newString", desc := "([BII)Ljava/lang/String;", sig := { parameters := [(.array .byte), .int, .int], returnType := some (.object "java/lang/String") }, accessFlags := 9, code := some k8c15 }
def k8c16 : Code := { maxStack := 2, maxLocals := 2, code := jdk_52_method_83_code, exceptionTable := #[], attributes := #[] }
def k8m16 : Method := { name := "charAt", desc := "([BI)C", sig := { parameters := [(.array .byte), .int], returnType := some .char }, accessFlags := 9, code := some k8c16 }
def k8c17 : Code := { maxStack := 2, maxLocals := 2, code := jdk_52_method_91_code, exceptionTable := #[], attributes := #[] }
def k8m17 : Method := { name := "checkIndex", desc := "(I[B)V", sig := { parameters := [.int, (.array .byte)], returnType := none }, accessFlags := 9, code := some k8c17 }
def k8c18 : Code := { maxStack := 3, maxLocals := 3, code := jdk_52_method_93_code, exceptionTable := #[], attributes := #[] }
def k8m18 : Method := { name := "checkBoundsBeginEnd", desc := "(II[B)V", sig := { parameters := [.int, .int, (.array .byte)], returnType := none }, accessFlags := 9, code := some k8c18 }
def k8c19 : Code := { maxStack := 3, maxLocals := 3, code := jdk_52_method_94_code, exceptionTable := #[], attributes := #[] }
def k8m19 : Method := { name := "checkBoundsOffCount", desc := "(II[B)V", sig := { parameters := [.int, .int, (.array .byte)], returnType := none }, accessFlags := 9, code := some k8c19 }
/-- java/lang/StringUTF16 -/
def k8 : Class := { plain "java/lang/StringUTF16" (some 0) with
  accessFlags := 48
  interfaces := #[]
  cf := some (fileOf pool8 12 #[.nestMembers #[627, 629, 369]] #[{ accessFlags := 0, nameIndex := 9, descriptorIndex := 10, attributes := #[] }, { accessFlags := 9, nameIndex := 109, descriptorIndex := 110, attributes := #[] }, { accessFlags := 9, nameIndex := 15, descriptorIndex := 16, attributes := #[] }, { accessFlags := 8, nameIndex := 113, descriptorIndex := 114, attributes := #[] }, { accessFlags := 8, nameIndex := 73, descriptorIndex := 74, attributes := #[] }, { accessFlags := 9, nameIndex := 50, descriptorIndex := 51, attributes := #[] }, { accessFlags := 9, nameIndex := 121, descriptorIndex := 122, attributes := #[] }, { accessFlags := 8, nameIndex := 261, descriptorIndex := 262, attributes := #[] }, { accessFlags := 9, nameIndex := 117, descriptorIndex := 122, attributes := #[] }, { accessFlags := 9, nameIndex := 117, descriptorIndex := 131, attributes := #[] }, { accessFlags := 9, nameIndex := 117, descriptorIndex := 118, attributes := #[] }, { accessFlags := 9, nameIndex := 117, descriptorIndex := 125, attributes := #[] }, { accessFlags := 9, nameIndex := 268, descriptorIndex := 231, attributes := #[] }, { accessFlags := 10, nameIndex := 230, descriptorIndex := 231, attributes := #[] }, { accessFlags := 10, nameIndex := 246, descriptorIndex := 231, attributes := #[] }, { accessFlags := 9, nameIndex := 327, descriptorIndex := 328, attributes := #[] }, { accessFlags := 9, nameIndex := 392, descriptorIndex := 74, attributes := #[] }, { accessFlags := 9, nameIndex := 69, descriptorIndex := 70, attributes := #[] }, { accessFlags := 9, nameIndex := 98, descriptorIndex := 99, attributes := #[] }, { accessFlags := 9, nameIndex := 175, descriptorIndex := 99, attributes := #[] }] 48 6 #[] #[{ accessFlags := 26, nameIndex := 61, descriptorIndex := 62, attributes := #[] }, { accessFlags := 26, nameIndex := 65, descriptorIndex := 62, attributes := #[] }, { accessFlags := 24, nameIndex := 430, descriptorIndex := 62, attributes := #[] }, { accessFlags := 4120, nameIndex := 46, descriptorIndex := 47, attributes := #[] }])
  fields := #[{ name := "HI_BYTE_SHIFT", type := .int, accessFlags := 26, slot := 0, constantValue := 0 }, { name := "LO_BYTE_SHIFT", type := .int, accessFlags := 26, slot := 1, constantValue := 0 }, { name := "MAX_LENGTH", type := .int, accessFlags := 24, slot := 2, constantValue := 0 }, { name := "$assertionsDisabled", type := .boolean, accessFlags := 4120, slot := 3, constantValue := 0 }]
  methods := #[k8m0, k8m1, k8m2, k8m3, k8m4, k8m5, k8m6, k8m7, k8m8, k8m9, k8m10, k8m11, k8m12, k8m13, k8m14, k8m15, k8m16, k8m17, k8m18, k8m19]
  instanceTypes := #[]
  staticTypes := #[.int, .int, .int, .boolean]
  resolved := Array.replicate 635 none
  statics := some 1 }

def pool9 : Array CpInfo := pool [(2, .class_ 4), (1, u "java/lang/Object"), (3, .class_ 10), (1, u "com/example/patents_via_api/patentsviaapi/cli/Options"), (0, u "given"), (0, u "Ljava/util/Map;"), (8, u "operands"), (0, u "Ljava/util/List;"), (16, .class_ 40), (0, u "java/lang/String"), (6, .methodref 39 48), (0, .nameAndType 49 50), (0, u "substring"), (0, u "(I)Ljava/lang/String;"), (5, .class_ 57), (0, u "com/example/patents_via_api/patentsviaapi/cli/Options$Kind"), (92, u "(II)Ljava/lang/String;"), (23, .methodref 39 175), (0, .nameAndType 176 177), (0, u "indexOf"), (0, u "(I)I"), (4, .methodref 39 183), (0, .nameAndType 49 150), (6, u "MAX_QUOTED_LENGTH"), (0, u "I"), (22, u "splitAtFirst"), (0, u "(Ljava/lang/String;C)[Ljava/lang/String;")] 47

def k9c0 : Code := { maxStack := 6, maxLocals := 3, code := prog_2_method_10_code, exceptionTable := #[], attributes := #[] }
def k9m0 : Method := { name := "splitAtFirst", desc := "(Ljava/lang/String;C)[Ljava/lang/String;", sig := { parameters := [(.object "java/lang/String"), .char], returnType := some (.array (.object "java/lang/String")) }, accessFlags := 9, code := some k9c0 }
/-- com/example/patents_via_api/patentsviaapi/cli/Options -/
def k9 : Class := { plain "com/example/patents_via_api/patentsviaapi/cli/Options" (some 0) with
  accessFlags := 33
  interfaces := #[]
  cf := some (fileOf pool9 8 #[.nestMembers #[56]] #[{ accessFlags := 9, nameIndex := 214, descriptorIndex := 215, attributes := #[] }] 33 2 #[] #[{ accessFlags := 26, nameIndex := 190, descriptorIndex := 191, attributes := #[] }, { accessFlags := 18, nameIndex := 11, descriptorIndex := 12, attributes := #[] }, { accessFlags := 18, nameIndex := 21, descriptorIndex := 22, attributes := #[] }])
  fields := #[{ name := "MAX_QUOTED_LENGTH", type := .int, accessFlags := 26, slot := 0, constantValue := 0 }, { name := "given", type := (.object "java/util/Map"), accessFlags := 18, slot := 0, constantValue := 0 }, { name := "operands", type := (.object "java/util/List"), accessFlags := 18, slot := 1, constantValue := 0 }]
  methods := #[k9m0]
  instanceTypes := #[(.object "java/util/Map"), (.object "java/util/List")]
  staticTypes := #[.int]
  resolved := Array.replicate 263 none
  statics := none }

def pool10 : Array CpInfo := pool [(1, .class_ 2), (0, u "java/lang/String"), (1, .class_ 6), (1, u "java/lang/Object"), (0, u "<init>"), (0, u "()V"), (0, .methodref 1 10), (0, .nameAndType 11 12), (0, u "checkIndex"), (0, u "(II)V"), (1, .class_ 16), (1, u "java/lang/StringLatin1"), (21, .methodref 39 40), (0, .class_ 41), (0, .nameAndType 42 43), (0, u "java/lang/Math"), (0, u "min"), (0, u "(II)I"), (9, u "([BI)C"), (34, .methodref 14 89), (0, .nameAndType 90 91), (0, u "canEncode"), (0, u "(I)Z"), (0, .methodref 39 93), (0, .nameAndType 94 43), (0, u "max"), (0, .methodref 14 96), (0, .nameAndType 97 98), (0, u "indexOfChar"), (0, u "([BIII)I"), (2, u "indexOf"), (10, .methodref 1 113), (0, .nameAndType 7 114), (0, u "([BB)V"), (6, u "$assertionsDisabled"), (0, u "Z"), (8, .class_ 133), (1, u "java/util/Arrays"), (17, .string 152), (0, u ""), (43, u "newString"), (0, u "([BII)Ljava/lang/String;"), (23, .class_ 223), (1, u "java/lang/StringLatin1$LinesSpliterator"), (8, .methodref 131 233), (0, .nameAndType 234 235), (0, u "copyOfRange"), (0, u "([BII)[B"), (16, u "charAt"), (137, .class_ 391), (0, u "java/lang/StringLatin1$CharsSpliterator")] 3

def k10m0 : Method := { name := "<init>", desc := "()V", sig := { parameters := [], returnType := none }, accessFlags := 0, code := none }
def k10c1 : Code := { maxStack := 2, maxLocals := 2, code := jdk_43_method_2_code, exceptionTable := #[], attributes := #[] }
def k10m1 : Method := { name := "charAt", desc := "([BI)C", sig := { parameters := [(.array .byte), .int], returnType := some .char }, accessFlags := 9, code := some k10c1 }
def k10c2 : Code := { maxStack := 2, maxLocals := 1, code := jdk_43_method_4_code, exceptionTable := #[], attributes := #[] }
def k10m2 : Method := { name := "canEncode", desc := "(I)Z", sig := { parameters := [.int], returnType := some .boolean }, accessFlags := 9, code := some k10c2 }
def k10c3 : Code := { maxStack := 4, maxLocals := 4, code := jdk_43_method_22_code, exceptionTable := #[], attributes := #[] }
def k10m3 : Method := { name := "indexOf", desc := "([BIII)I", sig := { parameters := [(.array .byte), .int, .int, .int], returnType := some .int }, accessFlags := 9, code := some k10c3 }
def k10c4 : Code := { maxStack := 2, maxLocals := 6, code := jdk_43_method_23_code, exceptionTable := #[], attributes := #[] }
def k10m4 : Method := { name := "indexOfChar", desc := "([BIII)I", sig := { parameters := [(.array .byte), .int, .int, .int], returnType := some .int }, accessFlags := 10, code := some k10c4 }
def k10c5 : Code := { maxStack := 6, maxLocals := 3, code := jdk_43_method_47_code, exceptionTable := #[], attributes := #[] }
def k10m5 : Method := { name := "newString", desc := "([BII)Ljava/lang/String;", sig := { parameters := [(.array .byte), .int, .int], returnType := some (.object "java/lang/String") }, accessFlags := 9, code := some k10c5 }
/-- java/lang/StringLatin1 -/
def k10 : Class := { plain "java/lang/StringLatin1" (some 0) with
  accessFlags := 48
  interfaces := #[]
  cf := some (fileOf pool10 14 #[.nestMembers #[390, 221]] #[{ accessFlags := 0, nameIndex := 7, descriptorIndex := 8, attributes := #[] }, { accessFlags := 9, nameIndex := 252, descriptorIndex := 53, attributes := #[] }, { accessFlags := 9, nameIndex := 90, descriptorIndex := 91, attributes := #[] }, { accessFlags := 9, nameIndex := 101, descriptorIndex := 98, attributes := #[] }, { accessFlags := 10, nameIndex := 97, descriptorIndex := 98, attributes := #[] }, { accessFlags := 9, nameIndex := 196, descriptorIndex := 197, attributes := #[] }] 48 4 #[] #[{ accessFlags := 4120, nameIndex := 121, descriptorIndex := 122, attributes := #[] }])
  fields := #[{ name := "$assertionsDisabled", type := .boolean, accessFlags := 4120, slot := 0, constantValue := 0 }]
  methods := #[k10m0, k10m1, k10m2, k10m3, k10m4, k10m5]
  instanceTypes := #[]
  staticTypes := #[.boolean]
  resolved := Array.replicate 395 none
  statics := none }

def pool11 : Array CpInfo := pool [(1, .class_ 2), (0, u "java/lang/Math"), (1, .class_ 6), (1, u "java/lang/Object"), (0, u "<init>"), (0, u "()V"), (89, .class_ 100), (1, u "java/lang/Math$RandomNumberGeneratorHolder"), (71, u "negativeZeroFloatBits"), (0, u "J"), (2, u "negativeZeroDoubleBits"), (21, u "max"), (2, u "min"), (43, u "$assertionsDisabled"), (0, u "Z"), (88, u "(II)I"), (2, u "twoToTheDoubleScaleDown"), (0, u "D"), (4, u "twoToTheDoubleScaleUp"), (9, u "E"), (3, u "PI"), (2, u "TAU"), (2, u "DEGREES_TO_RADIANS"), (0, u "RADIANS_TO_DEGREES")] 94

def k11m0 : Method := { name := "<init>", desc := "()V", sig := { parameters := [], returnType := none }, accessFlags := 2, code := none }
def k11c1 : Code := { maxStack := 2, maxLocals := 2, code := jdk_29_method_65_code, exceptionTable := #[], attributes := #[] }
def k11m1 : Method := { name := "max", desc := "(II)I", sig := { parameters := [.int, .int], returnType := some .int }, accessFlags := 9, code := some k11c1 }
def k11c2 : Code := { maxStack := 2, maxLocals := 2, code := jdk_29_method_69_code, exceptionTable := #[], attributes := #[] }
def k11m2 : Method := { name := "min", desc := "(II)I", sig := { parameters := [.int, .int], returnType := some .int }, accessFlags := 9, code := some k11c2 }
/-- java/lang/Math -/
def k11 : Class := { plain "java/lang/Math" (some 0) with
  accessFlags := 49
  interfaces := #[]
  cf := some (fileOf pool11 1 #[.nestMembers #[98]] #[{ accessFlags := 2, nameIndex := 7, descriptorIndex := 8, attributes := #[] }, { accessFlags := 9, nameIndex := 198, descriptorIndex := 335, attributes := #[] }, { accessFlags := 9, nameIndex := 201, descriptorIndex := 335, attributes := #[] }] 49 4 #[] #[{ accessFlags := 25, nameIndex := 354, descriptorIndex := 339, attributes := #[] }, { accessFlags := 25, nameIndex := 358, descriptorIndex := 339, attributes := #[] }, { accessFlags := 25, nameIndex := 361, descriptorIndex := 339, attributes := #[] }, { accessFlags := 26, nameIndex := 364, descriptorIndex := 339, attributes := #[] }, { accessFlags := 26, nameIndex := 365, descriptorIndex := 339, attributes := #[] }, { accessFlags := 26, nameIndex := 172, descriptorIndex := 173, attributes := #[] }, { accessFlags := 26, nameIndex := 176, descriptorIndex := 173, attributes := #[] }, { accessFlags := 8, nameIndex := 344, descriptorIndex := 339, attributes := #[] }, { accessFlags := 8, nameIndex := 338, descriptorIndex := 339, attributes := #[] }, { accessFlags := 4120, nameIndex := 245, descriptorIndex := 246, attributes := #[] }])
  fields := #[{ name := "E", type := .double, accessFlags := 25, slot := 0, constantValue := 0 }, { name := "PI", type := .double, accessFlags := 25, slot := 1, constantValue := 0 }, { name := "TAU", type := .double, accessFlags := 25, slot := 2, constantValue := 0 }, { name := "DEGREES_TO_RADIANS", type := .double, accessFlags := 26, slot := 3, constantValue := 0 }, { name := "RADIANS_TO_DEGREES", type := .double, accessFlags := 26, slot := 4, constantValue := 0 }, { name := "negativeZeroFloatBits", type := .long, accessFlags := 26, slot := 5, constantValue := 0 }, { name := "negativeZeroDoubleBits", type := .long, accessFlags := 26, slot := 6, constantValue := 0 }, { name := "twoToTheDoubleScaleUp", type := .double, accessFlags := 8, slot := 7, constantValue := 0 }, { name := "twoToTheDoubleScaleDown", type := .double, accessFlags := 8, slot := 8, constantValue := 0 }, { name := "$assertionsDisabled", type := .boolean, accessFlags := 4120, slot := 9, constantValue := 0 }]
  methods := #[k11m0, k11m1, k11m2]
  instanceTypes := #[]
  staticTypes := #[.double, .double, .double, .double, .double, .long, .long, .double, .double, .boolean]
  resolved := Array.replicate 460 none
  statics := none }

def pool12 : Array CpInfo := pool [(2, .class_ 4), (1, u "java/lang/Object"), (0, u "<init>"), (0, u "()V"), (17, .class_ 26), (1, u "jdk/internal/util/Preconditions"), (6, u "checkIndex"), (13, u "checkFromToIndex"), (1, u "checkFromIndexSize"), (5, .class_ 56), (0, u "jdk/internal/util/Preconditions$4"), (57, .class_ 115), (0, u "jdk/internal/util/Preconditions$1"), (7, u "SIOOBE_FORMATTER"), (0, u "Ljava/util/function/BiFunction;"), (0, .class_ 126), (0, u "jdk/internal/util/Preconditions$2"), (3, u "AIOOBE_FORMATTER"), (0, .class_ 132), (0, u "jdk/internal/util/Preconditions$3"), (3, u "IOOBE_FORMATTER"), (41, u "(IILjava/util/function/BiFunction;)I"), (4, u "(IIILjava/util/function/BiFunction;)I")] 10

def k12m0 : Method := { name := "<init>", desc := "()V", sig := { parameters := [], returnType := none }, accessFlags := 1, code := none }
def k12c1 : Code := { maxStack := 3, maxLocals := 3, code := jdk_41_method_11_code, exceptionTable := #[], attributes := #[] }
def k12m1 : Method := { name := "checkIndex", desc := "(IILjava/util/function/BiFunction;)I", sig := { parameters := [.int, .int, (.object "java/util/function/BiFunction")], returnType := some .int }, accessFlags := 9, code := some k12c1 }
def k12c2 : Code := { maxStack := 4, maxLocals := 4, code := jdk_41_method_12_code, exceptionTable := #[], attributes := #[] }
def k12m2 : Method := { name := "checkFromToIndex", desc := "(IIILjava/util/function/BiFunction;)I", sig := { parameters := [.int, .int, .int, (.object "java/util/function/BiFunction")], returnType := some .int }, accessFlags := 9, code := some k12c2 }
def k12c3 : Code := { maxStack := 4, maxLocals := 4, code := jdk_41_method_13_code, exceptionTable := #[], attributes := #[] }
def k12m3 : Method := { name := "checkFromIndexSize", desc := "(IIILjava/util/function/BiFunction;)I", sig := { parameters := [.int, .int, .int, (.object "java/util/function/BiFunction")], returnType := some .int }, accessFlags := 9, code := some k12c3 }
/-- jdk/internal/util/Preconditions -/
def k12 : Class := { plain "jdk/internal/util/Preconditions" (some 0) with
  accessFlags := 33
  interfaces := #[]
  cf := some (fileOf pool12 24 #[.nestMembers #[55, 131, 125, 114]] #[{ accessFlags := 1, nameIndex := 5, descriptorIndex := 6, attributes := #[] }, { accessFlags := 9, nameIndex := 33, descriptorIndex := 178, attributes := #[] }, { accessFlags := 9, nameIndex := 47, descriptorIndex := 183, attributes := #[] }, { accessFlags := 9, nameIndex := 49, descriptorIndex := 183, attributes := #[] }] 33 2 #[] #[{ accessFlags := 25, nameIndex := 123, descriptorIndex := 124, attributes := #[] }, { accessFlags := 25, nameIndex := 130, descriptorIndex := 124, attributes := #[] }, { accessFlags := 25, nameIndex := 136, descriptorIndex := 124, attributes := #[] }])
  fields := #[{ name := "SIOOBE_FORMATTER", type := (.object "java/util/function/BiFunction"), accessFlags := 25, slot := 0, constantValue := 0 }, { name := "AIOOBE_FORMATTER", type := (.object "java/util/function/BiFunction"), accessFlags := 25, slot := 1, constantValue := 0 }, { name := "IOOBE_FORMATTER", type := (.object "java/util/function/BiFunction"), accessFlags := 25, slot := 2, constantValue := 0 }]
  methods := #[k12m0, k12m1, k12m2, k12m3]
  instanceTypes := #[]
  staticTypes := #[(.object "java/util/function/BiFunction"), (.object "java/util/function/BiFunction"), (.object "java/util/function/BiFunction")]
  resolved := Array.replicate 194 none
  statics := some 2 }

def pool13 : Array CpInfo := pool [(2, .class_ 4), (1, u "java/lang/Object"), (0, u "<init>"), (0, u "()V"), (7, .class_ 16), (1, u "java/util/Arrays"), (57, .class_ 76), (1, u "java/util/Arrays$NaturalOrder"), (36, .class_ 115), (1, u "java/util/Arrays$LegacyMergeSort"), (1, u "Z"), (21, u "copyOfRange"), (10, .methodref 151 152), (0, .class_ 153), (0, .nameAndType 154 155), (0, u "java/lang/System"), (0, u "arraycopy"), (0, u "(Ljava/lang/Object;ILjava/lang/Object;II)V"), (148, .methodref 305 306), (0, .class_ 307), (0, .nameAndType 308 309), (0, u "java/lang/Math"), (0, u "min"), (0, u "(II)I"), (29, .methodref 14 340), (0, .nameAndType 341 342), (0, u "copyOfRangeByte"), (0, u "([BII)[B"), (0, .methodref 14 344), (0, .nameAndType 345 346), (0, u "checkLength"), (0, u "(II)V"), (28, .class_ 376), (0, u "java/util/Arrays$ArrayList"), (68, u "$assertionsDisabled"), (269, u "MIN_ARRAY_SORT_GRAN"), (0, u "I"), (2, u "INSERTIONSORT_THRESHOLD"), (255, .class_ 976), (0, u "java/util/Arrays$ArrayItr")] 52

def k13m0 : Method := { name := "<init>", desc := "()V", sig := { parameters := [], returnType := none }, accessFlags := 2, code := none }
def k13c1 : Code := { maxStack := 4, maxLocals := 2, code := jdk_65_method_131_code, exceptionTable := #[], attributes := #[] }
def k13m1 : Method := { name := "checkLength", desc := "(II)V", sig := { parameters := [.int, .int], returnType := none }, accessFlags := 10, code := some k13c1 }
def k13c2 : Code := { maxStack := 3, maxLocals := 3, code := jdk_65_method_132_code, exceptionTable := #[], attributes := #[] }
def k13m2 : Method := { name := "copyOfRange", desc := "([BII)[B", sig := { parameters := [(.array .byte), .int, .int], returnType := some (.array .byte) }, accessFlags := 9, code := some k13c2 }
def k13c3 : Code := { maxStack := 6, maxLocals := 5, code := jdk_65_method_133_code, exceptionTable := #[], attributes := #[] }
def k13m3 : Method := { name := "copyOfRangeByte", desc := "([BII)[B", sig := { parameters := [(.array .byte), .int, .int], returnType := some (.array .byte) }, accessFlags := 10, code := some k13c3 }
/-- java/util/Arrays -/
def k13 : Class := { plain "java/util/Arrays" (some 0) with
  accessFlags := 49
  interfaces := #[]
  cf := some (fileOf pool13 14 #[.nestMembers #[975, 375, 113, 74]] #[{ accessFlags := 2, nameIndex := 5, descriptorIndex := 6, attributes := #[] }, { accessFlags := 10, nameIndex := 345, descriptorIndex := 346, attributes := #[] }, { accessFlags := 9, nameIndex := 139, descriptorIndex := 342, attributes := #[] }, { accessFlags := 10, nameIndex := 341, descriptorIndex := 342, attributes := #[] }] 49 2 #[] #[{ accessFlags := 26, nameIndex := 715, descriptorIndex := 716, attributes := #[] }, { accessFlags := 26, nameIndex := 719, descriptorIndex := 716, attributes := #[] }, { accessFlags := 4120, nameIndex := 445, descriptorIndex := 117, attributes := #[] }])
  fields := #[{ name := "MIN_ARRAY_SORT_GRAN", type := .int, accessFlags := 26, slot := 0, constantValue := 0 }, { name := "INSERTIONSORT_THRESHOLD", type := .int, accessFlags := 26, slot := 1, constantValue := 0 }, { name := "$assertionsDisabled", type := .boolean, accessFlags := 4120, slot := 2, constantValue := 0 }]
  methods := #[k13m0, k13m1, k13m2, k13m3]
  instanceTypes := #[]
  staticTypes := #[.int, .int, .boolean]
  resolved := Array.replicate 1029 none
  statics := none }

def pool14 : Array CpInfo := pool [(2, .class_ 4), (1, u "java/lang/Object"), (0, u "<init>"), (0, u "()V"), (1, .class_ 10), (1, u "java/lang/System"), (0, u "allowSecurityManager"), (0, u "I"), (16, u "cons"), (0, u "Ljava/io/Console;"), (77, .class_ 110), (1, u "java/lang/System$CallersHolder"), (43, u "initialErrStream"), (0, u "Ljava/io/PrintStream;"), (19, u "security"), (0, u "Ljava/lang/SecurityManager;"), (31, .class_ 209), (0, u "java/lang/System$1"), (7, u "props"), (0, u "Ljava/util/Properties;"), (2, u "lineSeparator"), (0, u "Ljava/lang/String;"), (96, .class_ 321), (1, u "java/lang/System$LoggerFinder"), (5, .class_ 328), (0, u "java/lang/System$Logger"), (67, u "err"), (2, u "out"), (91, u "notSupportedJnuEncoding"), (15, u "in"), (17, u "initialIn"), (0, u "Ljava/io/InputStream;"), (35, u "bootLayer"), (0, u "Ljava/lang/ModuleLayer;"), (99, .class_ 664), (0, u "java/lang/System$2"), (9, u "NEVER"), (2, u "MAYBE"), (49, u "arraycopy"), (0, u "(Ljava/lang/Object;ILjava/lang/Object;II)V"), (72, .class_ 802), (0, u "java/lang/System$Logger$Level")] 31

def k14m0 : Method := { name := "<init>", desc := "()V", sig := { parameters := [], returnType := none }, accessFlags := 2, code := none }
def k14m1 : Method := { name := "arraycopy", desc := "(Ljava/lang/Object;ILjava/lang/Object;II)V", sig := { parameters := [(.object "java/lang/Object"), .int, (.object "java/lang/Object"), .int, .int], returnType := none }, accessFlags := 265, code := none }
/-- java/lang/System -/
def k14 : Class := { plain "java/lang/System" (some 0) with
  accessFlags := 49
  interfaces := #[]
  cf := some (fileOf pool14 8 #[.nestMembers #[319, 327, 801, 108, 663, 208]] #[{ accessFlags := 2, nameIndex := 5, descriptorIndex := 6, attributes := #[] }, { accessFlags := 265, nameIndex := 727, descriptorIndex := 728, attributes := #[] }] 49 2 #[] #[{ accessFlags := 25, nameIndex := 507, descriptorIndex := 526, attributes := #[] }, { accessFlags := 25, nameIndex := 399, descriptorIndex := 155, attributes := #[] }, { accessFlags := 25, nameIndex := 396, descriptorIndex := 155, attributes := #[] }, { accessFlags := 10, nameIndex := 525, descriptorIndex := 526, attributes := #[] }, { accessFlags := 26, nameIndex := 674, descriptorIndex := 12, attributes := #[] }, { accessFlags := 26, nameIndex := 677, descriptorIndex := 12, attributes := #[] }, { accessFlags := 10, nameIndex := 11, descriptorIndex := 12, attributes := #[] }, { accessFlags := 74, nameIndex := 175, descriptorIndex := 176, attributes := #[] }, { accessFlags := 10, nameIndex := 491, descriptorIndex := 222, attributes := #[] }, { accessFlags := 74, nameIndex := 29, descriptorIndex := 30, attributes := #[] }, { accessFlags := 74, nameIndex := 154, descriptorIndex := 155, attributes := #[] }, { accessFlags := 10, nameIndex := 217, descriptorIndex := 218, attributes := #[] }, { accessFlags := 10, nameIndex := 221, descriptorIndex := 222, attributes := #[] }, { accessFlags := 8, nameIndex := 562, descriptorIndex := 563, attributes := #[] }])
  fields := #[{ name := "in", type := (.object "java/io/InputStream"), accessFlags := 25, slot := 0, constantValue := 0 }, { name := "out", type := (.object "java/io/PrintStream"), accessFlags := 25, slot := 1, constantValue := 0 }, { name := "err", type := (.object "java/io/PrintStream"), accessFlags := 25, slot := 2, constantValue := 0 }, { name := "initialIn", type := (.object "java/io/InputStream"), accessFlags := 10, slot := 3, constantValue := 0 }, { name := "NEVER", type := .int, accessFlags := 26, slot := 4, constantValue := 0 }, { name := "MAYBE", type := .int, accessFlags := 26, slot := 5, constantValue := 0 }, { name := "allowSecurityManager", type := .int, accessFlags := 10, slot := 6, constantValue := 0 }, { name := "security", type := (.object "java/lang/SecurityManager"), accessFlags := 74, slot := 7, constantValue := 0 }, { name := "notSupportedJnuEncoding", type := (.object "java/lang/String"), accessFlags := 10, slot := 8, constantValue := 0 }, { name := "cons", type := (.object "java/io/Console"), accessFlags := 74, slot := 9, constantValue := 0 }, { name := "initialErrStream", type := (.object "java/io/PrintStream"), accessFlags := 74, slot := 10, constantValue := 0 }, { name := "props", type := (.object "java/util/Properties"), accessFlags := 10, slot := 11, constantValue := 0 }, { name := "lineSeparator", type := (.object "java/lang/String"), accessFlags := 10, slot := 12, constantValue := 0 }, { name := "bootLayer", type := (.object "java/lang/ModuleLayer"), accessFlags := 8, slot := 13, constantValue := 0 }]
  methods := #[k14m0, k14m1]
  instanceTypes := #[]
  staticTypes := #[(.object "java/io/InputStream"), (.object "java/io/PrintStream"), (.object "java/io/PrintStream"), (.object "java/io/InputStream"), .int, .int, .int, (.object "java/lang/SecurityManager"), (.object "java/lang/String"), (.object "java/io/Console"), (.object "java/io/PrintStream"), (.object "java/util/Properties"), (.object "java/lang/String"), (.object "java/lang/ModuleLayer")]
  resolved := Array.replicate 834 none
  statics := none }

def pool15 : Array CpInfo := pool [(9, u "<init>"), (6, .class_ 18), (1, u "java/lang/Object"), (0, u "()V"), (1, .class_ 23), (1, u "jdk/internal/util/ArraysSupport"), (0, u "LOG2_ARRAY_LONG_INDEX_SCALE"), (0, u "I"), (2, u "U"), (0, u "Ljdk/internal/misc/Unsafe;"), (8, u "BIG_ENDIAN"), (0, u "Z"), (8, u "LOG2_BYTE_BIT_SIZE"), (4, u "LOG2_ARRAY_INT_INDEX_SCALE"), (54, u "JLA"), (0, u "Ljdk/internal/access/JavaLangAccess;"), (11, u "LOG2_ARRAY_BOOLEAN_INDEX_SCALE"), (9, u "LOG2_ARRAY_BYTE_INDEX_SCALE"), (5, u "LOG2_ARRAY_CHAR_INDEX_SCALE"), (5, u "LOG2_ARRAY_SHORT_INDEX_SCALE"), (18, u "LOG2_ARRAY_FLOAT_INDEX_SCALE"), (24, u "LOG2_ARRAY_DOUBLE_INDEX_SCALE"), (89, u "T_BOOLEAN"), (2, u "T_CHAR"), (1, u "T_FLOAT"), (1, u "T_DOUBLE"), (1, u "T_BYTE"), (1, u "T_SHORT"), (1, u "T_INT"), (1, u "T_LONG"), (1, u "SOFT_MAX_ARRAY_LENGTH")] 83

def k15m0 : Method := { name := "<init>", desc := "()V", sig := { parameters := [], returnType := none }, accessFlags := 2, code := none }
/-- jdk/internal/util/ArraysSupport -/
def k15 : Class := { plain "jdk/internal/util/ArraysSupport" (some 0) with
  accessFlags := 33
  interfaces := #[]
  cf := some (fileOf pool15 21 #[] #[{ accessFlags := 2, nameIndex := 9, descriptorIndex := 19, attributes := #[] }] 33 16 #[] #[{ accessFlags := 24, nameIndex := 28, descriptorIndex := 29, attributes := #[] }, { accessFlags := 26, nameIndex := 38, descriptorIndex := 39, attributes := #[] }, { accessFlags := 25, nameIndex := 121, descriptorIndex := 25, attributes := #[] }, { accessFlags := 25, nameIndex := 131, descriptorIndex := 25, attributes := #[] }, { accessFlags := 25, nameIndex := 137, descriptorIndex := 25, attributes := #[] }, { accessFlags := 25, nameIndex := 143, descriptorIndex := 25, attributes := #[] }, { accessFlags := 25, nameIndex := 53, descriptorIndex := 25, attributes := #[] }, { accessFlags := 25, nameIndex := 24, descriptorIndex := 25, attributes := #[] }, { accessFlags := 25, nameIndex := 162, descriptorIndex := 25, attributes := #[] }, { accessFlags := 25, nameIndex := 187, descriptorIndex := 25, attributes := #[] }, { accessFlags := 26, nameIndex := 48, descriptorIndex := 25, attributes := #[] }, { accessFlags := 25, nameIndex := 277, descriptorIndex := 25, attributes := #[] }, { accessFlags := 25, nameIndex := 280, descriptorIndex := 25, attributes := #[] }, { accessFlags := 25, nameIndex := 282, descriptorIndex := 25, attributes := #[] }, { accessFlags := 25, nameIndex := 284, descriptorIndex := 25, attributes := #[] }, { accessFlags := 25, nameIndex := 286, descriptorIndex := 25, attributes := #[] }, { accessFlags := 25, nameIndex := 288, descriptorIndex := 25, attributes := #[] }, { accessFlags := 25, nameIndex := 290, descriptorIndex := 25, attributes := #[] }, { accessFlags := 25, nameIndex := 292, descriptorIndex := 25, attributes := #[] }, { accessFlags := 26, nameIndex := 108, descriptorIndex := 109, attributes := #[] }, { accessFlags := 25, nameIndex := 294, descriptorIndex := 25, attributes := #[] }])
  fields := #[{ name := "U", type := (.object "jdk/internal/misc/Unsafe"), accessFlags := 24, slot := 0, constantValue := 0 }, { name := "BIG_ENDIAN", type := .boolean, accessFlags := 26, slot := 1, constantValue := 0 }, { name := "LOG2_ARRAY_BOOLEAN_INDEX_SCALE", type := .int, accessFlags := 25, slot := 2, constantValue := 0 }, { name := "LOG2_ARRAY_BYTE_INDEX_SCALE", type := .int, accessFlags := 25, slot := 3, constantValue := 0 }, { name := "LOG2_ARRAY_CHAR_INDEX_SCALE", type := .int, accessFlags := 25, slot := 4, constantValue := 0 }, { name := "LOG2_ARRAY_SHORT_INDEX_SCALE", type := .int, accessFlags := 25, slot := 5, constantValue := 0 }, { name := "LOG2_ARRAY_INT_INDEX_SCALE", type := .int, accessFlags := 25, slot := 6, constantValue := 0 }, { name := "LOG2_ARRAY_LONG_INDEX_SCALE", type := .int, accessFlags := 25, slot := 7, constantValue := 0 }, { name := "LOG2_ARRAY_FLOAT_INDEX_SCALE", type := .int, accessFlags := 25, slot := 8, constantValue := 0 }, { name := "LOG2_ARRAY_DOUBLE_INDEX_SCALE", type := .int, accessFlags := 25, slot := 9, constantValue := 0 }, { name := "LOG2_BYTE_BIT_SIZE", type := .int, accessFlags := 26, slot := 10, constantValue := 0 }, { name := "T_BOOLEAN", type := .int, accessFlags := 25, slot := 11, constantValue := 0 }, { name := "T_CHAR", type := .int, accessFlags := 25, slot := 12, constantValue := 0 }, { name := "T_FLOAT", type := .int, accessFlags := 25, slot := 13, constantValue := 0 }, { name := "T_DOUBLE", type := .int, accessFlags := 25, slot := 14, constantValue := 0 }, { name := "T_BYTE", type := .int, accessFlags := 25, slot := 15, constantValue := 0 }, { name := "T_SHORT", type := .int, accessFlags := 25, slot := 16, constantValue := 0 }, { name := "T_INT", type := .int, accessFlags := 25, slot := 17, constantValue := 0 }, { name := "T_LONG", type := .int, accessFlags := 25, slot := 18, constantValue := 0 }, { name := "JLA", type := (.object "jdk/internal/access/JavaLangAccess"), accessFlags := 26, slot := 19, constantValue := 0 }, { name := "SOFT_MAX_ARRAY_LENGTH", type := .int, accessFlags := 25, slot := 20, constantValue := 0 }]
  methods := #[k15m0]
  instanceTypes := #[]
  staticTypes := #[(.object "jdk/internal/misc/Unsafe"), .boolean, .int, .int, .int, .int, .int, .int, .int, .int, .int, .int, .int, .int, .int, .int, .int, .int, .int, (.object "jdk/internal/access/JavaLangAccess"), .int]
  resolved := Array.replicate 378 none
  statics := none }

def pool16 : Array CpInfo := pool [(1, u "java/lang/Cloneable"), (0, .class_ 1), (0, u "java/lang/Object"), (0, .class_ 3)] 3

/-- java/lang/Cloneable -/
def k16 : Class := { plain "java/lang/Cloneable" (some 0) with
  accessFlags := 1537
  interfaces := #[]
  cf := some (fileOf pool16 2 #[] #[] 1537 4 #[] #[])
  fields := #[]
  methods := #[]
  instanceTypes := #[]
  staticTypes := #[]
  resolved := Array.replicate 8 none
  statics := none }

/-- the primitive byte -/
def k17 : Class := { plain "byte" none with kind := .primitive 'B', accessFlags := 0x411 }
/-- [B -/
def k18 : Class := { plain "[B" (some 0) with kind := .array 17 .byte, interfaces := #[16, 2], accessFlags := 1041 }

/-- the primitive char -/
def k19 : Class := { plain "char" none with kind := .primitive 'C', accessFlags := 0x411 }
/-- [C -/
def k20 : Class := { plain "[C" (some 0) with kind := .array 19 .char, interfaces := #[16, 2], accessFlags := 1041 }

/-- the primitive int -/
def k21 : Class := { plain "int" none with kind := .primitive 'I', accessFlags := 0x411 }
/-- [I -/
def k22 : Class := { plain "[I" (some 0) with kind := .array 21 .int, interfaces := #[16, 2], accessFlags := 1041 }

/-- [Ljava/lang/String; -/
def k23 : Class := { plain "[Ljava/lang/String;" (some 0) with kind := .array 7 (.object "java/lang/String"), interfaces := #[16, 2], accessFlags := 1041 }

def heap : Heap := #[{ cls := 7, slots := #[.long 0, .int 1, .null, .int 0, .null, .int 0, .int 0], vm := .statics 7 },
  { cls := 8, slots := #[.int 0, .int 8, .int 0, .int 1], vm := .statics 8 },
  { cls := 12, slots := #[.null, .null, .null], vm := .statics 12 }]
def classes : Array Class := #[k0, k1, k2, k3, k4, k5, k6, k7, k8, k9, k10, k11, k12, k13, k14, k15, k16, k17, k18, k19, k20, k21, k22, k23]
def interned : List (Array UInt16 × Addr) := []
def slotsUsed : Nat := 14
def theMethod : MethodId := ⟨1, 4⟩
def args0 : Array Value := #[.long 5, .int 5, .int 5]
def aboutOver (below : List Frame) : State where
  vm := { classes := classes, interned := interned.toArray }
  heap := heap
  slotsUsed := slotsUsed
  threads := #[{ frames := .invoking theMethod args0 :: below }]
def below0 : List Frame := [.native { method := ⟨0, 0⟩, args := #[] }]
def about1 : State := aboutOver below0
def p0 : Program := .bare "" "" ""
def e0 : Env := launch0.env 0 0 0
theorem w_frames : about1.frames = Frame.invoking theMethod args0 :: below0 := rfl
set_option maxRecDepth 65536 in
theorem w_args : argsFit about1.vm theMethod args0 = true := by decide +kernel
set_option maxRecDepth 65536 in
theorem w_heap : heapFits about1 = true := by decide +kernel
set_option maxRecDepth 65536 in
theorem w_runnable : about1.curStatus? = some .runnable := by decide +kernel
set_option maxRecDepth 65536 in
theorem w_alone : about1.alone = true := by decide +kernel
set_option maxRecDepth 65536 in
theorem w_named : about1.methodNamed? x = some theMethod := by decide +kernel
set_option maxRecDepth 65536 in
theorem w_hears : about1.hears theMethod below0 = true := by decide +kernel
set_option maxRecDepth 65536 in
theorem w_ripe : about1.ripe theMethod args0 below0 = true := by decide +kernel
theorem w_running : about1.status = .running := rfl
set_option maxRecDepth 65536 in
theorem w_room : about1.hasRoom e0.platform room_1 = true :=
  launch0.hasRoom_least _ room_1 (by decide +kernel) (by decide +kernel) (by decide +kernel) (by decide +kernel) (by decide +kernel) (by decide +kernel)
theorem allAtoms_all (ts : List Jvm.Cond) (a : Array Jvm.Value) (st : Jvm.State) : (allAtoms ts).before a st = ts.all (fun c => c.before a st) := by
  induction ts with
  | nil => rfl
  | cons c t ih =>
    show (Jvm.Cond.and c (allAtoms t)).before a st = _
    rw [Jvm.Cond.before_and, ih, List.all_cons]
def words1 : List Jvm.Cond := Jvm.Cond.code x code maxLocals ret :: tables_1
/-- a 'code' word, met by the world's own term for the bytes: nothing is compared byte by byte -/
theorem code_word {y : MethodName} {bytes : ByteArray} {mx : Nat} {rt : Option FieldType} {a : Array Value} {s : State} {m : MethodId} {meth : Method} {c : Code} (h1 : s.methodNamed? y = some m) (h2 : s.vm.method? m = some meth) (h3 : meth.code = some c) (h4 : c.code = bytes)
    (h5 : (c.maxLocals == mx && c.exceptionTable.isEmpty && decide (c.maxStack ≤ mostOperands) && decide (meth.sig.returnType = rt) && !meth.locks && decide (parseMethodDescriptor y.desc = some meth.sig)) = true) : (Jvm.Cond.code y bytes mx rt).before a s = true := by
  simp only [Bool.and_eq_true, beq_iff_eq, Bool.not_eq_true', decide_eq_true_eq] at h5
  obtain ⟨⟨⟨⟨⟨g1, g2⟩, g3⟩, g4⟩, g5⟩, g6⟩ := h5
  simp [Cond.before, Cond.holds, Cond.value, h1, h2, h3, h4, g1, g2, g3, g4, g5, g6]
def isCode : Jvm.Cond → Bool
  | .code _ _ _ _ => true
  | _ => false
theorem all_split {L : List Jvm.Cond} {P : Jvm.Cond → Bool} (h1 : L.all (fun c => isCode c || P c) = true) (h2 : ∀ c ∈ L.filter isCode, P c = true) : L.all P = true := by
  refine List.all_eq_true.mpr fun c hc => ?_
  have h := List.all_eq_true.mp h1 c hc
  rcases Bool.eq_false_or_eq_true (isCode c) with hi | hi
  · exact h2 c (List.mem_filter.mpr ⟨hc, hi⟩)
  · simpa [hi] using h
set_option maxRecDepth 65536 in
theorem w_c0 : (Jvm.Cond.code x code maxLocals ret).before args0 about1 = true := code_word (m := ⟨1, 4⟩) (meth := k1m4) (c := k1c4) (by decide +kernel) rfl rfl rfl (by decide +kernel)
set_option maxRecDepth 65536 in
theorem w_c1 : (Jvm.Cond.code ({ cls := "com/example/patents_via_api/patentsviaapi/cli/OptionsSplitAtFirstPinLaw", name := "pick", desc := "(JIIC)C" } : Jvm.MethodName) method_2_code (5 : Nat) (Option.some Jvm.ClassFile.FieldType.char)).before args0 about1 = true := code_word (m := ⟨1, 1⟩) (meth := k1m1) (c := k1c1) (by decide +kernel) rfl rfl rfl (by decide +kernel)
set_option maxRecDepth 65536 in
theorem w_c2 : (Jvm.Cond.code ({ cls := "java/lang/String", name := "<init>", desc := "([C)V" } : Jvm.MethodName) jdk_42_method_3_code (2 : Nat) (Option.none : Option Jvm.ClassFile.FieldType)).before args0 about1 = true := code_word (m := ⟨7, 1⟩) (meth := k7m1) (c := k7c1) (by decide +kernel) rfl rfl rfl (by decide +kernel)
set_option maxRecDepth 65536 in
theorem w_c3 : (Jvm.Cond.code ({ cls := "java/lang/String", name := "<init>", desc := "([CIILjava/lang/Void;)V" } : Jvm.MethodName) jdk_42_method_149_code (6 : Nat) (Option.none : Option Jvm.ClassFile.FieldType)).before args0 about1 = true := code_word (m := ⟨7, 8⟩) (meth := k7m8) (c := k7c8) (by decide +kernel) rfl rfl rfl (by decide +kernel)
set_option maxRecDepth 65536 in
theorem w_c4 : (Jvm.Cond.code ({ cls := "java/lang/Object", name := "<init>", desc := "()V" } : Jvm.MethodName) object_method_1_code (1 : Nat) (Option.none : Option Jvm.ClassFile.FieldType)).before args0 about1 = true := code_word (m := ⟨0, 0⟩) (meth := k0m0) (c := k0c0) (by decide +kernel) rfl rfl rfl (by decide +kernel)
set_option maxRecDepth 65536 in
theorem w_c5 : (Jvm.Cond.code ({ cls := "java/lang/StringUTF16", name := "compress", desc := "([CII)[B" } : Jvm.MethodName) jdk_52_method_16_code (6 : Nat) (Option.some (Jvm.ClassFile.FieldType.array Jvm.ClassFile.FieldType.byte))).before args0 about1 = true := code_word (m := ⟨8, 8⟩) (meth := k8m8) (c := k8c8) (by decide +kernel) rfl rfl rfl (by decide +kernel)
set_option maxRecDepth 65536 in
theorem w_c6 : (Jvm.Cond.code ({ cls := "java/lang/StringUTF16", name := "compress", desc := "([CI[BII)I" } : Jvm.MethodName) jdk_52_method_21_code (7 : Nat) (Option.some Jvm.ClassFile.FieldType.int)).before args0 about1 = true := code_word (m := ⟨8, 10⟩) (meth := k8m10) (c := k8c10) (by decide +kernel) rfl rfl rfl (by decide +kernel)
set_option maxRecDepth 65536 in
theorem w_c7 : (Jvm.Cond.code ({ cls := "java/lang/StringUTF16", name := "coderFromArrayLen", desc := "([BI)B" } : Jvm.MethodName) jdk_52_method_15_code (2 : Nat) (Option.some Jvm.ClassFile.FieldType.byte)).before args0 about1 = true := code_word (m := ⟨8, 7⟩) (meth := k8m7) (c := k8c7) (by decide +kernel) rfl rfl rfl (by decide +kernel)
set_option maxRecDepth 65536 in
theorem w_c8 : (Jvm.Cond.code ({ cls := "com/example/patents_via_api/patentsviaapi/cli/Options", name := "splitAtFirst", desc := "(Ljava/lang/String;C)[Ljava/lang/String;" } : Jvm.MethodName) prog_2_method_10_code (3 : Nat) (Option.some (Jvm.ClassFile.FieldType.array (Jvm.ClassFile.FieldType.object "java/lang/String")))).before args0 about1 = true := code_word (m := ⟨9, 0⟩) (meth := k9m0) (c := k9c0) (by decide +kernel) rfl rfl rfl (by decide +kernel)
set_option maxRecDepth 65536 in
theorem w_c9 : (Jvm.Cond.code ({ cls := "java/lang/String", name := "indexOf", desc := "(I)I" } : Jvm.MethodName) jdk_42_method_79_code (2 : Nat) (Option.some Jvm.ClassFile.FieldType.int)).before args0 about1 = true := code_word (m := ⟨7, 4⟩) (meth := k7m4) (c := k7c4) (by decide +kernel) rfl rfl rfl (by decide +kernel)
set_option maxRecDepth 65536 in
theorem w_c10 : (Jvm.Cond.code ({ cls := "java/lang/String", name := "indexOf", desc := "(II)I" } : Jvm.MethodName) jdk_42_method_80_code (3 : Nat) (Option.some Jvm.ClassFile.FieldType.int)).before args0 about1 = true := code_word (m := ⟨7, 5⟩) (meth := k7m5) (c := k7c5) (by decide +kernel) rfl rfl rfl (by decide +kernel)
set_option maxRecDepth 65536 in
theorem w_c11 : (Jvm.Cond.code ({ cls := "java/lang/String", name := "isLatin1", desc := "()Z" } : Jvm.MethodName) jdk_42_method_154_code (1 : Nat) (Option.some Jvm.ClassFile.FieldType.boolean)).before args0 about1 = true := code_word (m := ⟨7, 11⟩) (meth := k7m11) (c := k7c11) (by decide +kernel) rfl rfl rfl (by decide +kernel)
set_option maxRecDepth 65536 in
theorem w_c12 : (Jvm.Cond.code ({ cls := "java/lang/String", name := "length", desc := "()I" } : Jvm.MethodName) jdk_42_method_54_code (1 : Nat) (Option.some Jvm.ClassFile.FieldType.int)).before args0 about1 = true := code_word (m := ⟨7, 2⟩) (meth := k7m2) (c := k7c2) (by decide +kernel) rfl rfl rfl (by decide +kernel)
set_option maxRecDepth 65536 in
theorem w_c13 : (Jvm.Cond.code ({ cls := "java/lang/String", name := "coder", desc := "()B" } : Jvm.MethodName) jdk_42_method_152_code (1 : Nat) (Option.some Jvm.ClassFile.FieldType.byte)).before args0 about1 = true := code_word (m := ⟨7, 10⟩) (meth := k7m10) (c := k7c10) (by decide +kernel) rfl rfl rfl (by decide +kernel)
set_option maxRecDepth 65536 in
theorem w_c14 : (Jvm.Cond.code ({ cls := "java/lang/StringLatin1", name := "indexOf", desc := "([BIII)I" } : Jvm.MethodName) jdk_43_method_22_code (4 : Nat) (Option.some Jvm.ClassFile.FieldType.int)).before args0 about1 = true := code_word (m := ⟨10, 3⟩) (meth := k10m3) (c := k10c3) (by decide +kernel) rfl rfl rfl (by decide +kernel)
set_option maxRecDepth 65536 in
theorem w_c15 : (Jvm.Cond.code ({ cls := "java/lang/StringLatin1", name := "canEncode", desc := "(I)Z" } : Jvm.MethodName) jdk_43_method_4_code (1 : Nat) (Option.some Jvm.ClassFile.FieldType.boolean)).before args0 about1 = true := code_word (m := ⟨10, 2⟩) (meth := k10m2) (c := k10c2) (by decide +kernel) rfl rfl rfl (by decide +kernel)
set_option maxRecDepth 65536 in
theorem w_c16 : (Jvm.Cond.code ({ cls := "java/lang/Math", name := "max", desc := "(II)I" } : Jvm.MethodName) jdk_29_method_65_code (2 : Nat) (Option.some Jvm.ClassFile.FieldType.int)).before args0 about1 = true := code_word (m := ⟨11, 1⟩) (meth := k11m1) (c := k11c1) (by decide +kernel) rfl rfl rfl (by decide +kernel)
set_option maxRecDepth 65536 in
theorem w_c17 : (Jvm.Cond.code ({ cls := "java/lang/Math", name := "min", desc := "(II)I" } : Jvm.MethodName) jdk_29_method_69_code (2 : Nat) (Option.some Jvm.ClassFile.FieldType.int)).before args0 about1 = true := code_word (m := ⟨11, 2⟩) (meth := k11m2) (c := k11c2) (by decide +kernel) rfl rfl rfl (by decide +kernel)
set_option maxRecDepth 65536 in
theorem w_c18 : (Jvm.Cond.code ({ cls := "java/lang/StringLatin1", name := "indexOfChar", desc := "([BIII)I" } : Jvm.MethodName) jdk_43_method_23_code (6 : Nat) (Option.some Jvm.ClassFile.FieldType.int)).before args0 about1 = true := code_word (m := ⟨10, 4⟩) (meth := k10m4) (c := k10c4) (by decide +kernel) rfl rfl rfl (by decide +kernel)
set_option maxRecDepth 65536 in
theorem w_c19 : (Jvm.Cond.code ({ cls := "java/lang/String", name := "substring", desc := "(II)Ljava/lang/String;" } : Jvm.MethodName) jdk_42_method_92_code (5 : Nat) (Option.some (Jvm.ClassFile.FieldType.object "java/lang/String"))).before args0 about1 = true := code_word (m := ⟨7, 7⟩) (meth := k7m7) (c := k7c7) (by decide +kernel) rfl rfl rfl (by decide +kernel)
set_option maxRecDepth 65536 in
theorem w_c20 : (Jvm.Cond.code ({ cls := "java/lang/String", name := "checkBoundsBeginEnd", desc := "(III)V" } : Jvm.MethodName) jdk_42_method_158_code (3 : Nat) (Option.none : Option Jvm.ClassFile.FieldType)).before args0 about1 = true := code_word (m := ⟨7, 14⟩) (meth := k7m14) (c := k7c14) (by decide +kernel) rfl rfl rfl (by decide +kernel)
set_option maxRecDepth 65536 in
theorem w_c21 : (Jvm.Cond.code ({ cls := "jdk/internal/util/Preconditions", name := "checkFromToIndex", desc := "(IIILjava/util/function/BiFunction;)I" } : Jvm.MethodName) jdk_41_method_12_code (4 : Nat) (Option.some Jvm.ClassFile.FieldType.int)).before args0 about1 = true := code_word (m := ⟨12, 2⟩) (meth := k12m2) (c := k12c2) (by decide +kernel) rfl rfl rfl (by decide +kernel)
set_option maxRecDepth 65536 in
theorem w_c22 : (Jvm.Cond.code ({ cls := "java/lang/StringLatin1", name := "newString", desc := "([BII)Ljava/lang/String;" } : Jvm.MethodName) jdk_43_method_47_code (3 : Nat) (Option.some (Jvm.ClassFile.FieldType.object "java/lang/String"))).before args0 about1 = true := code_word (m := ⟨10, 5⟩) (meth := k10m5) (c := k10c5) (by decide +kernel) rfl rfl rfl (by decide +kernel)
set_option maxRecDepth 65536 in
theorem w_c23 : (Jvm.Cond.code ({ cls := "java/lang/String", name := "substring", desc := "(I)Ljava/lang/String;" } : Jvm.MethodName) jdk_42_method_91_code (2 : Nat) (Option.some (Jvm.ClassFile.FieldType.object "java/lang/String"))).before args0 about1 = true := code_word (m := ⟨7, 6⟩) (meth := k7m6) (c := k7c6) (by decide +kernel) rfl rfl rfl (by decide +kernel)
set_option maxRecDepth 65536 in
theorem w_c24 : (Jvm.Cond.code ({ cls := "com/example/patents_via_api/patentsviaapi/cli/OptionsSplitAtFirstPinLaw", name := "pre", desc := "(Ljava/lang/String;II[C)Z" } : Jvm.MethodName) method_3_code (4 : Nat) (Option.some Jvm.ClassFile.FieldType.boolean)).before args0 about1 = true := code_word (m := ⟨1, 2⟩) (meth := k1m2) (c := k1c2) (by decide +kernel) rfl rfl rfl (by decide +kernel)
set_option maxRecDepth 65536 in
theorem w_c25 : (Jvm.Cond.code ({ cls := "com/example/patents_via_api/patentsviaapi/cli/OptionsSplitAtFirstPinLaw", name := "suf", desc := "(Ljava/lang/String;III[C)Z" } : Jvm.MethodName) method_4_code (6 : Nat) (Option.some Jvm.ClassFile.FieldType.boolean)).before args0 about1 = true := code_word (m := ⟨1, 3⟩) (meth := k1m3) (c := k1c3) (by decide +kernel) rfl rfl rfl (by decide +kernel)
set_option maxRecDepth 65536 in
theorem w_c26 : (Jvm.Cond.code ({ cls := "java/util/Arrays", name := "copyOfRange", desc := "([BII)[B" } : Jvm.MethodName) jdk_65_method_132_code (3 : Nat) (Option.some (Jvm.ClassFile.FieldType.array Jvm.ClassFile.FieldType.byte))).before args0 about1 = true := code_word (m := ⟨13, 2⟩) (meth := k13m2) (c := k13c2) (by decide +kernel) rfl rfl rfl (by decide +kernel)
set_option maxRecDepth 65536 in
theorem w_c27 : (Jvm.Cond.code ({ cls := "java/util/Arrays", name := "copyOfRangeByte", desc := "([BII)[B" } : Jvm.MethodName) jdk_65_method_133_code (5 : Nat) (Option.some (Jvm.ClassFile.FieldType.array Jvm.ClassFile.FieldType.byte))).before args0 about1 = true := code_word (m := ⟨13, 3⟩) (meth := k13m3) (c := k13c3) (by decide +kernel) rfl rfl rfl (by decide +kernel)
set_option maxRecDepth 65536 in
theorem w_c28 : (Jvm.Cond.code ({ cls := "java/util/Arrays", name := "checkLength", desc := "(II)V" } : Jvm.MethodName) jdk_65_method_131_code (2 : Nat) (Option.none : Option Jvm.ClassFile.FieldType)).before args0 about1 = true := code_word (m := ⟨13, 1⟩) (meth := k13m1) (c := k13c1) (by decide +kernel) rfl rfl rfl (by decide +kernel)
set_option maxRecDepth 65536 in
theorem w_c29 : (Jvm.Cond.code ({ cls := "java/lang/String", name := "<init>", desc := "([BB)V" } : Jvm.MethodName) jdk_42_method_151_code (3 : Nat) (Option.none : Option Jvm.ClassFile.FieldType)).before args0 about1 = true := code_word (m := ⟨7, 9⟩) (meth := k7m9) (c := k7c9) (by decide +kernel) rfl rfl rfl (by decide +kernel)
set_option maxRecDepth 65536 in
theorem w_c30 : (Jvm.Cond.code ({ cls := "java/lang/String", name := "charAt", desc := "(I)C" } : Jvm.MethodName) jdk_42_method_56_code (2 : Nat) (Option.some Jvm.ClassFile.FieldType.char)).before args0 about1 = true := code_word (m := ⟨7, 3⟩) (meth := k7m3) (c := k7c3) (by decide +kernel) rfl rfl rfl (by decide +kernel)
set_option maxRecDepth 65536 in
theorem w_c31 : (Jvm.Cond.code ({ cls := "java/lang/StringLatin1", name := "charAt", desc := "([BI)C" } : Jvm.MethodName) jdk_43_method_2_code (2 : Nat) (Option.some Jvm.ClassFile.FieldType.char)).before args0 about1 = true := code_word (m := ⟨10, 1⟩) (meth := k10m1) (c := k10c1) (by decide +kernel) rfl rfl rfl (by decide +kernel)
set_option maxRecDepth 65536 in
theorem w_c32 : (Jvm.Cond.code ({ cls := "java/lang/String", name := "checkIndex", desc := "(II)V" } : Jvm.MethodName) jdk_42_method_155_code (2 : Nat) (Option.none : Option Jvm.ClassFile.FieldType)).before args0 about1 = true := code_word (m := ⟨7, 12⟩) (meth := k7m12) (c := k7c12) (by decide +kernel) rfl rfl rfl (by decide +kernel)
set_option maxRecDepth 65536 in
theorem w_c33 : (Jvm.Cond.code ({ cls := "jdk/internal/util/Preconditions", name := "checkIndex", desc := "(IILjava/util/function/BiFunction;)I" } : Jvm.MethodName) jdk_41_method_11_code (3 : Nat) (Option.some Jvm.ClassFile.FieldType.int)).before args0 about1 = true := code_word (m := ⟨12, 1⟩) (meth := k12m1) (c := k12c1) (by decide +kernel) rfl rfl rfl (by decide +kernel)
set_option maxRecDepth 65536 in
theorem w_c34 : (Jvm.Cond.code ({ cls := "java/lang/StringUTF16", name := "toBytes", desc := "([CII)[B" } : Jvm.MethodName) jdk_52_method_14_code (5 : Nat) (Option.some (Jvm.ClassFile.FieldType.array Jvm.ClassFile.FieldType.byte))).before args0 about1 = true := code_word (m := ⟨8, 6⟩) (meth := k8m6) (c := k8c6) (by decide +kernel) rfl rfl rfl (by decide +kernel)
set_option maxRecDepth 65536 in
theorem w_c35 : (Jvm.Cond.code ({ cls := "java/lang/StringUTF16", name := "newBytesFor", desc := "(I)[B" } : Jvm.MethodName) jdk_52_method_2_code (1 : Nat) (Option.some (Jvm.ClassFile.FieldType.array Jvm.ClassFile.FieldType.byte))).before args0 about1 = true := code_word (m := ⟨8, 1⟩) (meth := k8m1) (c := k8c1) (by decide +kernel) rfl rfl rfl (by decide +kernel)
set_option maxRecDepth 65536 in
theorem w_c36 : (Jvm.Cond.code ({ cls := "java/lang/StringUTF16", name := "newBytesLength", desc := "(I)I" } : Jvm.MethodName) jdk_52_method_3_code (1 : Nat) (Option.some Jvm.ClassFile.FieldType.int)).before args0 about1 = true := code_word (m := ⟨8, 2⟩) (meth := k8m2) (c := k8c2) (by decide +kernel) rfl rfl rfl (by decide +kernel)
set_option maxRecDepth 65536 in
theorem w_c37 : (Jvm.Cond.code ({ cls := "java/lang/StringUTF16", name := "putChar", desc := "([BII)V" } : Jvm.MethodName) jdk_52_method_4_code (3 : Nat) (Option.none : Option Jvm.ClassFile.FieldType)).before args0 about1 = true := code_word (m := ⟨8, 3⟩) (meth := k8m3) (c := k8c3) (by decide +kernel) rfl rfl rfl (by decide +kernel)
set_option maxRecDepth 65536 in
theorem w_c38 : (Jvm.Cond.code ({ cls := "java/lang/StringUTF16", name := "getChar", desc := "([BI)C" } : Jvm.MethodName) jdk_52_method_5_code (2 : Nat) (Option.some Jvm.ClassFile.FieldType.char)).before args0 about1 = true := code_word (m := ⟨8, 4⟩) (meth := k8m4) (c := k8c4) (by decide +kernel) rfl rfl rfl (by decide +kernel)
set_option maxRecDepth 65536 in
theorem w_c39 : (Jvm.Cond.code ({ cls := "java/lang/StringUTF16", name := "indexOf", desc := "([BIII)I" } : Jvm.MethodName) jdk_52_method_40_code (4 : Nat) (Option.some Jvm.ClassFile.FieldType.int)).before args0 about1 = true := code_word (m := ⟨8, 12⟩) (meth := k8m12) (c := k8c12) (by decide +kernel) rfl rfl rfl (by decide +kernel)
set_option maxRecDepth 65536 in
theorem w_c40 : (Jvm.Cond.code ({ cls := "java/lang/StringUTF16", name := "indexOfChar", desc := "([BIII)I" } : Jvm.MethodName) jdk_52_method_47_code (4 : Nat) (Option.some Jvm.ClassFile.FieldType.int)).before args0 about1 = true := code_word (m := ⟨8, 13⟩) (meth := k8m13) (c := k8c13) (by decide +kernel) rfl rfl rfl (by decide +kernel)
set_option maxRecDepth 65536 in
theorem w_c41 : (Jvm.Cond.code ({ cls := "java/lang/StringUTF16", name := "checkBoundsBeginEnd", desc := "(II[B)V" } : Jvm.MethodName) jdk_52_method_93_code (3 : Nat) (Option.none : Option Jvm.ClassFile.FieldType)).before args0 about1 = true := code_word (m := ⟨8, 18⟩) (meth := k8m18) (c := k8c18) (by decide +kernel) rfl rfl rfl (by decide +kernel)
set_option maxRecDepth 65536 in
theorem w_c42 : (Jvm.Cond.code ({ cls := "java/lang/StringUTF16", name := "length", desc := "([B)I" } : Jvm.MethodName) jdk_52_method_6_code (1 : Nat) (Option.some Jvm.ClassFile.FieldType.int)).before args0 about1 = true := code_word (m := ⟨8, 5⟩) (meth := k8m5) (c := k8c5) (by decide +kernel) rfl rfl rfl (by decide +kernel)
set_option maxRecDepth 65536 in
theorem w_c43 : (Jvm.Cond.code ({ cls := "java/lang/StringUTF16", name := "indexOfCharUnsafe", desc := "([BIII)I" } : Jvm.MethodName) jdk_52_method_48_code (5 : Nat) (Option.some Jvm.ClassFile.FieldType.int)).before args0 about1 = true := code_word (m := ⟨8, 14⟩) (meth := k8m14) (c := k8c14) (by decide +kernel) rfl rfl rfl (by decide +kernel)
set_option maxRecDepth 65536 in
theorem w_c44 : (Jvm.Cond.code ({ cls := "java/lang/StringUTF16", name := "newString", desc := "([BII)Ljava/lang/String;" } : Jvm.MethodName) jdk_52_method_69_code (5 : Nat) (Option.some (Jvm.ClassFile.FieldType.object "java/lang/String"))).before args0 about1 = true := code_word (m := ⟨8, 15⟩) (meth := k8m15) (c := k8c15) (by decide +kernel) rfl rfl rfl (by decide +kernel)
set_option maxRecDepth 65536 in
theorem w_c45 : (Jvm.Cond.code ({ cls := "java/lang/StringUTF16", name := "compress", desc := "([BII)[B" } : Jvm.MethodName) jdk_52_method_17_code (6 : Nat) (Option.some (Jvm.ClassFile.FieldType.array Jvm.ClassFile.FieldType.byte))).before args0 about1 = true := code_word (m := ⟨8, 9⟩) (meth := k8m9) (c := k8c9) (by decide +kernel) rfl rfl rfl (by decide +kernel)
set_option maxRecDepth 65536 in
theorem w_c46 : (Jvm.Cond.code ({ cls := "java/lang/StringUTF16", name := "compress", desc := "([BI[BII)I" } : Jvm.MethodName) jdk_52_method_22_code (7 : Nat) (Option.some Jvm.ClassFile.FieldType.int)).before args0 about1 = true := code_word (m := ⟨8, 11⟩) (meth := k8m11) (c := k8c11) (by decide +kernel) rfl rfl rfl (by decide +kernel)
set_option maxRecDepth 65536 in
theorem w_c47 : (Jvm.Cond.code ({ cls := "java/lang/StringUTF16", name := "checkBoundsOffCount", desc := "(II[B)V" } : Jvm.MethodName) jdk_52_method_94_code (3 : Nat) (Option.none : Option Jvm.ClassFile.FieldType)).before args0 about1 = true := code_word (m := ⟨8, 19⟩) (meth := k8m19) (c := k8c19) (by decide +kernel) rfl rfl rfl (by decide +kernel)
set_option maxRecDepth 65536 in
theorem w_c48 : (Jvm.Cond.code ({ cls := "java/lang/String", name := "checkBoundsOffCount", desc := "(III)I" } : Jvm.MethodName) jdk_42_method_157_code (3 : Nat) (Option.some Jvm.ClassFile.FieldType.int)).before args0 about1 = true := code_word (m := ⟨7, 13⟩) (meth := k7m13) (c := k7c13) (by decide +kernel) rfl rfl rfl (by decide +kernel)
set_option maxRecDepth 65536 in
theorem w_c49 : (Jvm.Cond.code ({ cls := "jdk/internal/util/Preconditions", name := "checkFromIndexSize", desc := "(IIILjava/util/function/BiFunction;)I" } : Jvm.MethodName) jdk_41_method_13_code (4 : Nat) (Option.some Jvm.ClassFile.FieldType.int)).before args0 about1 = true := code_word (m := ⟨12, 3⟩) (meth := k12m3) (c := k12c3) (by decide +kernel) rfl rfl rfl (by decide +kernel)
set_option maxRecDepth 65536 in
theorem w_c50 : (Jvm.Cond.code ({ cls := "java/lang/StringUTF16", name := "charAt", desc := "([BI)C" } : Jvm.MethodName) jdk_52_method_83_code (2 : Nat) (Option.some Jvm.ClassFile.FieldType.char)).before args0 about1 = true := code_word (m := ⟨8, 16⟩) (meth := k8m16) (c := k8c16) (by decide +kernel) rfl rfl rfl (by decide +kernel)
set_option maxRecDepth 65536 in
theorem w_c51 : (Jvm.Cond.code ({ cls := "java/lang/StringUTF16", name := "checkIndex", desc := "(I[B)V" } : Jvm.MethodName) jdk_52_method_91_code (2 : Nat) (Option.none : Option Jvm.ClassFile.FieldType)).before args0 about1 = true := code_word (m := ⟨8, 17⟩) (meth := k8m17) (c := k8c17) (by decide +kernel) rfl rfl rfl (by decide +kernel)
def codes1 : List Jvm.Cond := [Jvm.Cond.code x code maxLocals ret, Jvm.Cond.code ({ cls := "com/example/patents_via_api/patentsviaapi/cli/OptionsSplitAtFirstPinLaw", name := "pick", desc := "(JIIC)C" } : Jvm.MethodName) method_2_code (5 : Nat) (Option.some Jvm.ClassFile.FieldType.char), Jvm.Cond.code ({ cls := "java/lang/String", name := "<init>", desc := "([C)V" } : Jvm.MethodName) jdk_42_method_3_code (2 : Nat) (Option.none : Option Jvm.ClassFile.FieldType), Jvm.Cond.code ({ cls := "java/lang/String", name := "<init>", desc := "([CIILjava/lang/Void;)V" } : Jvm.MethodName) jdk_42_method_149_code (6 : Nat) (Option.none : Option Jvm.ClassFile.FieldType), Jvm.Cond.code ({ cls := "java/lang/Object", name := "<init>", desc := "()V" } : Jvm.MethodName) object_method_1_code (1 : Nat) (Option.none : Option Jvm.ClassFile.FieldType), Jvm.Cond.code ({ cls := "java/lang/StringUTF16", name := "compress", desc := "([CII)[B" } : Jvm.MethodName) jdk_52_method_16_code (6 : Nat) (Option.some (Jvm.ClassFile.FieldType.array Jvm.ClassFile.FieldType.byte)), Jvm.Cond.code ({ cls := "java/lang/StringUTF16", name := "compress", desc := "([CI[BII)I" } : Jvm.MethodName) jdk_52_method_21_code (7 : Nat) (Option.some Jvm.ClassFile.FieldType.int), Jvm.Cond.code ({ cls := "java/lang/StringUTF16", name := "coderFromArrayLen", desc := "([BI)B" } : Jvm.MethodName) jdk_52_method_15_code (2 : Nat) (Option.some Jvm.ClassFile.FieldType.byte), Jvm.Cond.code ({ cls := "com/example/patents_via_api/patentsviaapi/cli/Options", name := "splitAtFirst", desc := "(Ljava/lang/String;C)[Ljava/lang/String;" } : Jvm.MethodName) prog_2_method_10_code (3 : Nat) (Option.some (Jvm.ClassFile.FieldType.array (Jvm.ClassFile.FieldType.object "java/lang/String"))), Jvm.Cond.code ({ cls := "java/lang/String", name := "indexOf", desc := "(I)I" } : Jvm.MethodName) jdk_42_method_79_code (2 : Nat) (Option.some Jvm.ClassFile.FieldType.int), Jvm.Cond.code ({ cls := "java/lang/String", name := "indexOf", desc := "(II)I" } : Jvm.MethodName) jdk_42_method_80_code (3 : Nat) (Option.some Jvm.ClassFile.FieldType.int), Jvm.Cond.code ({ cls := "java/lang/String", name := "isLatin1", desc := "()Z" } : Jvm.MethodName) jdk_42_method_154_code (1 : Nat) (Option.some Jvm.ClassFile.FieldType.boolean), Jvm.Cond.code ({ cls := "java/lang/String", name := "length", desc := "()I" } : Jvm.MethodName) jdk_42_method_54_code (1 : Nat) (Option.some Jvm.ClassFile.FieldType.int), Jvm.Cond.code ({ cls := "java/lang/String", name := "coder", desc := "()B" } : Jvm.MethodName) jdk_42_method_152_code (1 : Nat) (Option.some Jvm.ClassFile.FieldType.byte), Jvm.Cond.code ({ cls := "java/lang/StringLatin1", name := "indexOf", desc := "([BIII)I" } : Jvm.MethodName) jdk_43_method_22_code (4 : Nat) (Option.some Jvm.ClassFile.FieldType.int), Jvm.Cond.code ({ cls := "java/lang/StringLatin1", name := "canEncode", desc := "(I)Z" } : Jvm.MethodName) jdk_43_method_4_code (1 : Nat) (Option.some Jvm.ClassFile.FieldType.boolean), Jvm.Cond.code ({ cls := "java/lang/Math", name := "max", desc := "(II)I" } : Jvm.MethodName) jdk_29_method_65_code (2 : Nat) (Option.some Jvm.ClassFile.FieldType.int), Jvm.Cond.code ({ cls := "java/lang/Math", name := "min", desc := "(II)I" } : Jvm.MethodName) jdk_29_method_69_code (2 : Nat) (Option.some Jvm.ClassFile.FieldType.int), Jvm.Cond.code ({ cls := "java/lang/StringLatin1", name := "indexOfChar", desc := "([BIII)I" } : Jvm.MethodName) jdk_43_method_23_code (6 : Nat) (Option.some Jvm.ClassFile.FieldType.int), Jvm.Cond.code ({ cls := "java/lang/String", name := "substring", desc := "(II)Ljava/lang/String;" } : Jvm.MethodName) jdk_42_method_92_code (5 : Nat) (Option.some (Jvm.ClassFile.FieldType.object "java/lang/String")), Jvm.Cond.code ({ cls := "java/lang/String", name := "checkBoundsBeginEnd", desc := "(III)V" } : Jvm.MethodName) jdk_42_method_158_code (3 : Nat) (Option.none : Option Jvm.ClassFile.FieldType), Jvm.Cond.code ({ cls := "jdk/internal/util/Preconditions", name := "checkFromToIndex", desc := "(IIILjava/util/function/BiFunction;)I" } : Jvm.MethodName) jdk_41_method_12_code (4 : Nat) (Option.some Jvm.ClassFile.FieldType.int), Jvm.Cond.code ({ cls := "java/lang/StringLatin1", name := "newString", desc := "([BII)Ljava/lang/String;" } : Jvm.MethodName) jdk_43_method_47_code (3 : Nat) (Option.some (Jvm.ClassFile.FieldType.object "java/lang/String")), Jvm.Cond.code ({ cls := "java/lang/String", name := "substring", desc := "(I)Ljava/lang/String;" } : Jvm.MethodName) jdk_42_method_91_code (2 : Nat) (Option.some (Jvm.ClassFile.FieldType.object "java/lang/String")), Jvm.Cond.code ({ cls := "com/example/patents_via_api/patentsviaapi/cli/OptionsSplitAtFirstPinLaw", name := "pre", desc := "(Ljava/lang/String;II[C)Z" } : Jvm.MethodName) method_3_code (4 : Nat) (Option.some Jvm.ClassFile.FieldType.boolean), Jvm.Cond.code ({ cls := "com/example/patents_via_api/patentsviaapi/cli/OptionsSplitAtFirstPinLaw", name := "suf", desc := "(Ljava/lang/String;III[C)Z" } : Jvm.MethodName) method_4_code (6 : Nat) (Option.some Jvm.ClassFile.FieldType.boolean), Jvm.Cond.code ({ cls := "java/util/Arrays", name := "copyOfRange", desc := "([BII)[B" } : Jvm.MethodName) jdk_65_method_132_code (3 : Nat) (Option.some (Jvm.ClassFile.FieldType.array Jvm.ClassFile.FieldType.byte)), Jvm.Cond.code ({ cls := "java/util/Arrays", name := "copyOfRangeByte", desc := "([BII)[B" } : Jvm.MethodName) jdk_65_method_133_code (5 : Nat) (Option.some (Jvm.ClassFile.FieldType.array Jvm.ClassFile.FieldType.byte)), Jvm.Cond.code ({ cls := "java/util/Arrays", name := "checkLength", desc := "(II)V" } : Jvm.MethodName) jdk_65_method_131_code (2 : Nat) (Option.none : Option Jvm.ClassFile.FieldType), Jvm.Cond.code ({ cls := "java/lang/String", name := "<init>", desc := "([BB)V" } : Jvm.MethodName) jdk_42_method_151_code (3 : Nat) (Option.none : Option Jvm.ClassFile.FieldType), Jvm.Cond.code ({ cls := "java/lang/String", name := "charAt", desc := "(I)C" } : Jvm.MethodName) jdk_42_method_56_code (2 : Nat) (Option.some Jvm.ClassFile.FieldType.char), Jvm.Cond.code ({ cls := "java/lang/StringLatin1", name := "charAt", desc := "([BI)C" } : Jvm.MethodName) jdk_43_method_2_code (2 : Nat) (Option.some Jvm.ClassFile.FieldType.char), Jvm.Cond.code ({ cls := "java/lang/String", name := "checkIndex", desc := "(II)V" } : Jvm.MethodName) jdk_42_method_155_code (2 : Nat) (Option.none : Option Jvm.ClassFile.FieldType), Jvm.Cond.code ({ cls := "jdk/internal/util/Preconditions", name := "checkIndex", desc := "(IILjava/util/function/BiFunction;)I" } : Jvm.MethodName) jdk_41_method_11_code (3 : Nat) (Option.some Jvm.ClassFile.FieldType.int), Jvm.Cond.code ({ cls := "java/lang/StringUTF16", name := "toBytes", desc := "([CII)[B" } : Jvm.MethodName) jdk_52_method_14_code (5 : Nat) (Option.some (Jvm.ClassFile.FieldType.array Jvm.ClassFile.FieldType.byte)), Jvm.Cond.code ({ cls := "java/lang/StringUTF16", name := "newBytesFor", desc := "(I)[B" } : Jvm.MethodName) jdk_52_method_2_code (1 : Nat) (Option.some (Jvm.ClassFile.FieldType.array Jvm.ClassFile.FieldType.byte)), Jvm.Cond.code ({ cls := "java/lang/StringUTF16", name := "newBytesLength", desc := "(I)I" } : Jvm.MethodName) jdk_52_method_3_code (1 : Nat) (Option.some Jvm.ClassFile.FieldType.int), Jvm.Cond.code ({ cls := "java/lang/StringUTF16", name := "putChar", desc := "([BII)V" } : Jvm.MethodName) jdk_52_method_4_code (3 : Nat) (Option.none : Option Jvm.ClassFile.FieldType), Jvm.Cond.code ({ cls := "java/lang/StringUTF16", name := "getChar", desc := "([BI)C" } : Jvm.MethodName) jdk_52_method_5_code (2 : Nat) (Option.some Jvm.ClassFile.FieldType.char), Jvm.Cond.code ({ cls := "java/lang/StringUTF16", name := "indexOf", desc := "([BIII)I" } : Jvm.MethodName) jdk_52_method_40_code (4 : Nat) (Option.some Jvm.ClassFile.FieldType.int), Jvm.Cond.code ({ cls := "java/lang/StringUTF16", name := "indexOfChar", desc := "([BIII)I" } : Jvm.MethodName) jdk_52_method_47_code (4 : Nat) (Option.some Jvm.ClassFile.FieldType.int), Jvm.Cond.code ({ cls := "java/lang/StringUTF16", name := "checkBoundsBeginEnd", desc := "(II[B)V" } : Jvm.MethodName) jdk_52_method_93_code (3 : Nat) (Option.none : Option Jvm.ClassFile.FieldType), Jvm.Cond.code ({ cls := "java/lang/StringUTF16", name := "length", desc := "([B)I" } : Jvm.MethodName) jdk_52_method_6_code (1 : Nat) (Option.some Jvm.ClassFile.FieldType.int), Jvm.Cond.code ({ cls := "java/lang/StringUTF16", name := "indexOfCharUnsafe", desc := "([BIII)I" } : Jvm.MethodName) jdk_52_method_48_code (5 : Nat) (Option.some Jvm.ClassFile.FieldType.int), Jvm.Cond.code ({ cls := "java/lang/StringUTF16", name := "newString", desc := "([BII)Ljava/lang/String;" } : Jvm.MethodName) jdk_52_method_69_code (5 : Nat) (Option.some (Jvm.ClassFile.FieldType.object "java/lang/String")), Jvm.Cond.code ({ cls := "java/lang/StringUTF16", name := "compress", desc := "([BII)[B" } : Jvm.MethodName) jdk_52_method_17_code (6 : Nat) (Option.some (Jvm.ClassFile.FieldType.array Jvm.ClassFile.FieldType.byte)), Jvm.Cond.code ({ cls := "java/lang/StringUTF16", name := "compress", desc := "([BI[BII)I" } : Jvm.MethodName) jdk_52_method_22_code (7 : Nat) (Option.some Jvm.ClassFile.FieldType.int), Jvm.Cond.code ({ cls := "java/lang/StringUTF16", name := "checkBoundsOffCount", desc := "(II[B)V" } : Jvm.MethodName) jdk_52_method_94_code (3 : Nat) (Option.none : Option Jvm.ClassFile.FieldType), Jvm.Cond.code ({ cls := "java/lang/String", name := "checkBoundsOffCount", desc := "(III)I" } : Jvm.MethodName) jdk_42_method_157_code (3 : Nat) (Option.some Jvm.ClassFile.FieldType.int), Jvm.Cond.code ({ cls := "jdk/internal/util/Preconditions", name := "checkFromIndexSize", desc := "(IIILjava/util/function/BiFunction;)I" } : Jvm.MethodName) jdk_41_method_13_code (4 : Nat) (Option.some Jvm.ClassFile.FieldType.int), Jvm.Cond.code ({ cls := "java/lang/StringUTF16", name := "charAt", desc := "([BI)C" } : Jvm.MethodName) jdk_52_method_83_code (2 : Nat) (Option.some Jvm.ClassFile.FieldType.char), Jvm.Cond.code ({ cls := "java/lang/StringUTF16", name := "checkIndex", desc := "(I[B)V" } : Jvm.MethodName) jdk_52_method_91_code (2 : Nat) (Option.none : Option Jvm.ClassFile.FieldType)]
set_option maxRecDepth 65536 in
theorem codes_eq : words1.filter isCode = codes1 := rfl
theorem w_codes : ∀ c ∈ words1.filter isCode, c.before args0 about1 = true := by
  rw [codes_eq]
  intro c hc
  simp only [codes1, List.mem_cons, List.not_mem_nil, or_false] at hc
  rcases hc with rfl | rfl | rfl | rfl | rfl | rfl | rfl | rfl | rfl | rfl | rfl | rfl | rfl | rfl | rfl | rfl | rfl | rfl | rfl | rfl | rfl | rfl | rfl | rfl | rfl | rfl | rfl | rfl | rfl | rfl | rfl | rfl | rfl | rfl | rfl | rfl | rfl | rfl | rfl | rfl | rfl | rfl | rfl | rfl | rfl | rfl | rfl | rfl | rfl | rfl | rfl | rfl
  · exact w_c0
  · exact w_c1
  · exact w_c2
  · exact w_c3
  · exact w_c4
  · exact w_c5
  · exact w_c6
  · exact w_c7
  · exact w_c8
  · exact w_c9
  · exact w_c10
  · exact w_c11
  · exact w_c12
  · exact w_c13
  · exact w_c14
  · exact w_c15
  · exact w_c16
  · exact w_c17
  · exact w_c18
  · exact w_c19
  · exact w_c20
  · exact w_c21
  · exact w_c22
  · exact w_c23
  · exact w_c24
  · exact w_c25
  · exact w_c26
  · exact w_c27
  · exact w_c28
  · exact w_c29
  · exact w_c30
  · exact w_c31
  · exact w_c32
  · exact w_c33
  · exact w_c34
  · exact w_c35
  · exact w_c36
  · exact w_c37
  · exact w_c38
  · exact w_c39
  · exact w_c40
  · exact w_c41
  · exact w_c42
  · exact w_c43
  · exact w_c44
  · exact w_c45
  · exact w_c46
  · exact w_c47
  · exact w_c48
  · exact w_c49
  · exact w_c50
  · exact w_c51
set_option maxRecDepth 65536 in
theorem w_t1 : (words1.take 24).all (fun c => isCode c || c.before args0 about1) = true := by decide +kernel
set_option maxRecDepth 65536 in
theorem w_t2 : ((words1.drop 24).take 24).all (fun c => isCode c || c.before args0 about1) = true := by decide +kernel
set_option maxRecDepth 65536 in
theorem w_t3 : (((words1.drop 24).drop 24).take 24).all (fun c => isCode c || c.before args0 about1) = true := by decide +kernel
set_option maxRecDepth 65536 in
theorem w_t4 : ((((words1.drop 24).drop 24).drop 24).take 24).all (fun c => isCode c || c.before args0 about1) = true := by decide +kernel
set_option maxRecDepth 65536 in
theorem w_t5 : (((((words1.drop 24).drop 24).drop 24).drop 24).take 24).all (fun c => isCode c || c.before args0 about1) = true := by decide +kernel
set_option maxRecDepth 65536 in
theorem w_t6 : ((((((words1.drop 24).drop 24).drop 24).drop 24).drop 24).take 24).all (fun c => isCode c || c.before args0 about1) = true := by decide +kernel
set_option maxRecDepth 65536 in
theorem w_t7 : (((((((words1.drop 24).drop 24).drop 24).drop 24).drop 24).drop 24).take 24).all (fun c => isCode c || c.before args0 about1) = true := by decide +kernel
set_option maxRecDepth 65536 in
theorem w_t8 : ((((((((words1.drop 24).drop 24).drop 24).drop 24).drop 24).drop 24).drop 24).take 24).all (fun c => isCode c || c.before args0 about1) = true := by decide +kernel
set_option maxRecDepth 65536 in
theorem w_t9 : (((((((((words1.drop 24).drop 24).drop 24).drop 24).drop 24).drop 24).drop 24).drop 24).take 24).all (fun c => isCode c || c.before args0 about1) = true := by decide +kernel
set_option maxRecDepth 65536 in
theorem w_t10 : (((((((((words1.drop 24).drop 24).drop 24).drop 24).drop 24).drop 24).drop 24).drop 24).drop 24).all (fun c => isCode c || c.before args0 about1) = true := by decide +kernel
theorem w_tables : (allAtoms (Jvm.Cond.code x code maxLocals ret :: tables_1)).before args0 about1 = true := by
  rw [allAtoms_all]
  show words1.all (fun c => c.before args0 about1) = true
  refine all_split ?_ w_codes
  rw [← List.take_append_drop 24 words1, List.all_append, w_t1, ← List.take_append_drop 24 (words1.drop 24), List.all_append, w_t2, ← List.take_append_drop 24 ((words1.drop 24).drop 24), List.all_append, w_t3, ← List.take_append_drop 24 (((words1.drop 24).drop 24).drop 24), List.all_append, w_t4, ← List.take_append_drop 24 ((((words1.drop 24).drop 24).drop 24).drop 24), List.all_append, w_t5, ← List.take_append_drop 24 (((((words1.drop 24).drop 24).drop 24).drop 24).drop 24), List.all_append, w_t6, ← List.take_append_drop 24 ((((((words1.drop 24).drop 24).drop 24).drop 24).drop 24).drop 24), List.all_append, w_t7, ← List.take_append_drop 24 (((((((words1.drop 24).drop 24).drop 24).drop 24).drop 24).drop 24).drop 24), List.all_append, w_t8, ← List.take_append_drop 24 ((((((((words1.drop 24).drop 24).drop 24).drop 24).drop 24).drop 24).drop 24).drop 24), List.all_append, w_t9, w_t10]
  rfl
set_option maxRecDepth 65536 in
theorem w_rest : rest_1_c.before args0 about1 = true := by decide +kernel
set_option maxRecDepth 65536 in
theorem w_case : (Jvm.Cond.and given_1 narrow_1).before args0 about1 = true := by decide +kernel
set_option maxRecDepth 65536 in
theorem w_consts : constsHeld consts_1 about1 := Jvm.Lit.constsHeldB_iff.mp (by decide +kernel)
theorem w_applies : (headSpec (Jvm.Cond.code x code maxLocals ret :: tables_1) room_1).applies x e0.platform about1 = true :=
  (Spec.applies_iff w_frames).mpr ⟨w_running, w_runnable, w_alone, w_named, w_hears, w_ripe, w_room, w_tables⟩
theorem atStart : AtStart classFile x code maxLocals ret World_1 tables_1 room_1 Calls_1 rest_1 Pre_1 launch0 p0 e0 about1 theMethod args0 below0 :=
  ⟨lists_1, trivial, launch0.admits_env _ _ _, launch0.least_env, fairChoices_fair.cas, fairChoices_fair.clock, w_frames, w_args, w_heap, w_applies, ⟨w_consts, trivial⟩, w_rest, w_case⟩
end start1
theorem witness_1 : WitnessClaimed_1 := ⟨start1.p0, start1.e0, start1.about1, start1.theMethod, start1.args0, start1.below0, start1.atStart⟩
end Jvm.Pilot.@@N@@
