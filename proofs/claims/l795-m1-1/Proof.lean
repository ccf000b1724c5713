import JvmDerived
import JvmDerived.Pilot.@@N@@Statement
import JvmDerived.Pilot.@@N@@Code
set_option linter.unusedVariables false
set_option linter.unusedSimpArgs false
namespace Jvm.RoadKit
open Sem ClassFile Op Lib Jvm.Stand Jvm.Free Jvm.LawKit
section New
variable {p : Program} {l : Launch} {e : Env} {R : Room} {s : State} {m : MethodId} {args : Array Value} {below : List Frame} {meth : Method} {c : Code} {T : State} {locs : List Loc} {cells slots : Nat}
theorem retI (X : Stand p l e R s m args below meth c T locs cells slots) (hx : p.tables.exec = Jvm.exec) {pc : Nat} {Ls : Array Slot} {z : Int32} {rest : List Value} (hret : meth.sig.returnType = some .int) (hd : decode c.code pc = .ok (.ireturn, 1)) {fs : List Frame}
    (hl : ∀ (f : JFrame) (acts : List Action), f.method = m → f.locked = none → f.entered = [] → (doReturn e (T.setTop f) acts (some (.int z))).1 = T.setFrames fs) : Steps p.tables e below (T.setTop (mkF m pc Ls (.int z :: rest))) (T.setFrames fs) := by
  have hm' : T.vm.method? m = some meth := X.method'
  have hn : narrow .int (.int z) = .int z := rfl
  show Steps p.tables e below (T.setTop { method := m, pc := pc, locals := Ls, stack := _ :: rest, locked := none }) _
  jvm_step X.here [X.here.top, hx, hd, hm', hret, hn]
  first | (intro acts; rw [hl _ acts rfl rfl rfl]) | rw [hl _ _ rfl rfl rfl]
  exact Steps.refl _
theorem own_retR (X : Stand p l e R s m args below meth c T locs cells slots) (hx : p.tables.exec = Jvm.exec) {pc : Nat} {Ls : Array Slot} {w : Value} {t : FieldType} {rest : List Value} (hret : meth.sig.returnType = some t) (ht : t.isReference = true) (hw : w.isRef = true) (hd : decode c.code pc = .ok (.areturn, 1)) {fs : List Frame}
    (hl : ∀ (f : JFrame) (acts : List Action), f.method = m → f.locked = none → f.entered = [] → (doReturn e (T.setTop f) acts (some w)).1 = T.setFrames fs) : Steps p.tables e below (T.setTop (mkF m pc Ls (w :: rest))) (T.setFrames fs) := by
  have hm' : T.vm.method? m = some meth := X.method'
  rcases ref_cases hw with rfl | ⟨a, rfl⟩
  all_goals
    show Steps p.tables e below (T.setTop { method := m, pc := pc, locals := Ls, stack := _ :: rest, locked := none }) _
    jvm_step X.here [X.here.top, hx, hd, hm', hret, ht, Value.isRef]
    first | (intro acts; rw [hl _ acts rfl rfl rfl]) | rw [hl _ _ rfl rfl rfl]
    exact Steps.refl _
end New
end Jvm.RoadKit
namespace Jvm.Pilot.@@N@@
open Jvm Jvm.ClassFile Sem Op Lib Jvm.Free Jvm.Stand Jvm.LawKit Jvm.RoadKit Bundle Jvm.Pilot.@@N@@.Jvm.D
set_option maxRecDepth 65536
set_option maxHeartbeats 40000000
theorem wq {a b : Nat} (h : a = b) : 2 * 0 + a ≤ b := by omega
abbrev SS (p : Program) (e : Env) (below : List Frame) (T : State) (m : MethodId) (pc : Nat) (ls : Array Slot) (st : List Value) (t : State) : Prop := Steps p.tables e below (T.setTop (mkF m pc ls st)) t
theorem own_bool {P : Prop} [Decidable P] : nar .boolean (if P then (1 : Int32) else (0 : Int32)) = if P then (1 : Int32) else (0 : Int32) := by split <;> decide
abbrev HW (a0 : Array Value) (Z : State) : Prop := ∀ d ∈ tables_1, d.before a0 Z = true
section
variable {a0 : Array Value} {Z : State}
theorem mw (hw : HW a0 Z) {d : Jvm.Cond} (i : Nat) (h : tables_1[i]? = some d) : d.before a0 Z = true := hw d (List.mem_of_getElem? h)
theorem w0 (hw : HW a0 Z) : (Jvm.Cond.classLink "com/example/patents_via_api/patentsviaapi/http/QueryStringIsEmptyPinLaw" (7 : Nat) "com/example/patents_via_api/patentsviaapi/http/QueryString").before a0 Z = true := mw hw 0 rfl
theorem w1 (hw : HW a0 Z) : (Jvm.Cond.instantiable "com/example/patents_via_api/patentsviaapi/http/QueryString" (1 : Nat)).before a0 Z = true := mw hw 1 rfl
theorem w2 (hw : HW a0 Z) : (Jvm.Cond.initialized "com/example/patents_via_api/patentsviaapi/http/QueryString").before a0 Z = true := mw hw 2 rfl
theorem w3 (hw : HW a0 Z) : (Jvm.Cond.methodLink "com/example/patents_via_api/patentsviaapi/http/QueryStringIsEmptyPinLaw" (9 : Nat) ({ cls := "com/example/patents_via_api/patentsviaapi/http/QueryString", name := "<init>", desc := "()V" } : Jvm.MethodName)).before a0 Z = true := mw hw 3 rfl
theorem w4 (hw : HW a0 Z) : (Jvm.Cond.instanceMethod ({ cls := "com/example/patents_via_api/patentsviaapi/http/QueryString", name := "<init>", desc := "()V" } : Jvm.MethodName)).before a0 Z = true := mw hw 4 rfl
theorem w5 (hw : HW a0 Z) : (Jvm.Cond.code ({ cls := "com/example/patents_via_api/patentsviaapi/http/QueryString", name := "<init>", desc := "()V" } : Jvm.MethodName) prog_16_method_1_code (1 : Nat) (Option.none : Option Jvm.ClassFile.FieldType)).before a0 Z = true := mw hw 5 rfl
theorem w6 (hw : HW a0 Z) : (Jvm.Cond.methodLink "com/example/patents_via_api/patentsviaapi/http/QueryString" (1 : Nat) ({ cls := "java/lang/Object", name := "<init>", desc := "()V" } : Jvm.MethodName)).before a0 Z = true := mw hw 6 rfl
theorem w7 (hw : HW a0 Z) : (Jvm.Cond.instanceMethod ({ cls := "java/lang/Object", name := "<init>", desc := "()V" } : Jvm.MethodName)).before a0 Z = true := mw hw 7 rfl
theorem w8 (hw : HW a0 Z) : (Jvm.Cond.code ({ cls := "java/lang/Object", name := "<init>", desc := "()V" } : Jvm.MethodName) object_method_1_code (1 : Nat) (Option.none : Option Jvm.ClassFile.FieldType)).before a0 Z = true := mw hw 8 rfl
theorem w9 (hw : HW a0 Z) : (Jvm.Cond.classLink "com/example/patents_via_api/patentsviaapi/http/QueryString" (7 : Nat) "java/lang/StringBuilder").before a0 Z = true := mw hw 9 rfl
theorem w10 (hw : HW a0 Z) : (Jvm.Cond.instantiable "java/lang/StringBuilder" (4 : Nat)).before a0 Z = true := mw hw 10 rfl
theorem w11 (hw : HW a0 Z) : (Jvm.Cond.initialized "java/lang/StringBuilder").before a0 Z = true := mw hw 11 rfl
theorem w12 (hw : HW a0 Z) : (Jvm.Cond.methodLink "com/example/patents_via_api/patentsviaapi/http/QueryString" (9 : Nat) ({ cls := "java/lang/StringBuilder", name := "<init>", desc := "()V" } : Jvm.MethodName)).before a0 Z = true := mw hw 12 rfl
theorem w13 (hw : HW a0 Z) : (Jvm.Cond.instanceMethod ({ cls := "java/lang/StringBuilder", name := "<init>", desc := "()V" } : Jvm.MethodName)).before a0 Z = true := mw hw 13 rfl
theorem w14 (hw : HW a0 Z) : (Jvm.Cond.code ({ cls := "java/lang/StringBuilder", name := "<init>", desc := "()V" } : Jvm.MethodName) jdk_67_method_1_code (1 : Nat) (Option.none : Option Jvm.ClassFile.FieldType)).before a0 Z = true := mw hw 14 rfl
theorem w15 (hw : HW a0 Z) : (Jvm.Cond.methodLink "java/lang/StringBuilder" (1 : Nat) ({ cls := "java/lang/AbstractStringBuilder", name := "<init>", desc := "(I)V" } : Jvm.MethodName)).before a0 Z = true := mw hw 15 rfl
theorem w16 (hw : HW a0 Z) : (Jvm.Cond.instanceMethod ({ cls := "java/lang/AbstractStringBuilder", name := "<init>", desc := "(I)V" } : Jvm.MethodName)).before a0 Z = true := mw hw 16 rfl
theorem w19 (hw : HW a0 Z) : (Jvm.Cond.initialized "java/lang/AbstractStringBuilder").before a0 Z = true := mw hw 19 rfl
theorem w20 (hw : HW a0 Z) : (Jvm.Cond.code ({ cls := "java/lang/AbstractStringBuilder", name := "<init>", desc := "(I)V" } : Jvm.MethodName) jdk_68_method_2_code (2 : Nat) (Option.none : Option Jvm.ClassFile.FieldType)).before a0 Z = true := mw hw 20 rfl
theorem w21 (hw : HW a0 Z) : (Jvm.Cond.methodLink "java/lang/AbstractStringBuilder" (3 : Nat) ({ cls := "java/lang/Object", name := "<init>", desc := "()V" } : Jvm.MethodName)).before a0 Z = true := mw hw 21 rfl
theorem w22 (hw : HW a0 Z) : (Jvm.Cond.fieldLink "java/lang/AbstractStringBuilder" (18 : Nat) "java/lang/String" "COMPACT_STRINGS" "Z").before a0 Z = true := mw hw 22 rfl
theorem w23 (hw : HW a0 Z) : (Jvm.Cond.initialized "java/lang/String").before a0 Z = true := mw hw 23 rfl
theorem w24 (hw : HW a0 Z) : (Jvm.Cond.arrayClass Jvm.ClassFile.FieldType.byte).before a0 Z = true := mw hw 24 rfl
theorem w25 (hw : HW a0 Z) : (Jvm.Cond.fieldLink "java/lang/AbstractStringBuilder" (15 : Nat) "java/lang/AbstractStringBuilder" "value" "[B").before a0 Z = true := mw hw 25 rfl
theorem w26 (hw : HW a0 Z) : (Jvm.Cond.lays "java/lang/StringBuilder" "java/lang/AbstractStringBuilder" "value" "[B").before a0 Z = true := mw hw 26 rfl
theorem w27 (hw : HW a0 Z) : (Jvm.Cond.fieldLink "java/lang/AbstractStringBuilder" (22 : Nat) "java/lang/AbstractStringBuilder" "coder" "B").before a0 Z = true := mw hw 27 rfl
theorem w28 (hw : HW a0 Z) : (Jvm.Cond.lays "java/lang/StringBuilder" "java/lang/AbstractStringBuilder" "coder" "B").before a0 Z = true := mw hw 28 rfl
theorem w29 (hw : HW a0 Z) : (Jvm.Cond.fieldLink "com/example/patents_via_api/patentsviaapi/http/QueryString" (10 : Nat) "com/example/patents_via_api/patentsviaapi/http/QueryString" "query" "Ljava/lang/StringBuilder;").before a0 Z = true := mw hw 29 rfl
theorem w30 (hw : HW a0 Z) : (Jvm.Cond.laysFinal "com/example/patents_via_api/patentsviaapi/http/QueryString" "com/example/patents_via_api/patentsviaapi/http/QueryString" "query" "Ljava/lang/StringBuilder;").before a0 Z = true := mw hw 30 rfl
theorem w31 (hw : HW a0 Z) : (Jvm.Cond.methodLink "com/example/patents_via_api/patentsviaapi/http/QueryStringIsEmptyPinLaw" (10 : Nat) ({ cls := "com/example/patents_via_api/patentsviaapi/http/QueryString", name := "isEmpty", desc := "()Z" } : Jvm.MethodName)).before a0 Z = true := mw hw 31 rfl
theorem w32 (hw : HW a0 Z) : (Jvm.Cond.declares ({ cls := "com/example/patents_via_api/patentsviaapi/http/QueryString", name := "isEmpty", desc := "()Z" } : Jvm.MethodName)).before a0 Z = true := mw hw 32 rfl
theorem w33 (hw : HW a0 Z) : (Jvm.Cond.instanceMethod ({ cls := "com/example/patents_via_api/patentsviaapi/http/QueryString", name := "isEmpty", desc := "()Z" } : Jvm.MethodName)).before a0 Z = true := mw hw 33 rfl
theorem w34 (hw : HW a0 Z) : (Jvm.Cond.selects "com/example/patents_via_api/patentsviaapi/http/QueryString" ({ cls := "com/example/patents_via_api/patentsviaapi/http/QueryString", name := "isEmpty", desc := "()Z" } : Jvm.MethodName) ({ cls := "com/example/patents_via_api/patentsviaapi/http/QueryString", name := "isEmpty", desc := "()Z" } : Jvm.MethodName)).before a0 Z = true := mw hw 34 rfl
theorem w35 (hw : HW a0 Z) : (Jvm.Cond.code ({ cls := "com/example/patents_via_api/patentsviaapi/http/QueryString", name := "isEmpty", desc := "()Z" } : Jvm.MethodName) prog_16_method_4_code (1 : Nat) (Option.some Jvm.ClassFile.FieldType.boolean)).before a0 Z = true := mw hw 35 rfl
theorem w36 (hw : HW a0 Z) : (Jvm.Cond.methodLink "com/example/patents_via_api/patentsviaapi/http/QueryString" (20 : Nat) ({ cls := "java/lang/StringBuilder", name := "length", desc := "()I" } : Jvm.MethodName)).before a0 Z = true := mw hw 36 rfl
theorem w37 (hw : HW a0 Z) : (Jvm.Cond.declares ({ cls := "java/lang/StringBuilder", name := "length", desc := "()I" } : Jvm.MethodName)).before a0 Z = true := mw hw 37 rfl
theorem w38 (hw : HW a0 Z) : (Jvm.Cond.instanceMethod ({ cls := "java/lang/StringBuilder", name := "length", desc := "()I" } : Jvm.MethodName)).before a0 Z = true := mw hw 38 rfl
theorem w39 (hw : HW a0 Z) : (Jvm.Cond.selects "java/lang/StringBuilder" ({ cls := "java/lang/StringBuilder", name := "length", desc := "()I" } : Jvm.MethodName) ({ cls := "java/lang/StringBuilder", name := "length", desc := "()I" } : Jvm.MethodName)).before a0 Z = true := mw hw 39 rfl
theorem w40 (hw : HW a0 Z) : (Jvm.Cond.code ({ cls := "java/lang/StringBuilder", name := "length", desc := "()I" } : Jvm.MethodName) jdk_67_method_93_code (1 : Nat) (Option.some Jvm.ClassFile.FieldType.int)).before a0 Z = true := mw hw 40 rfl
theorem w41 (hw : HW a0 Z) : (Jvm.Cond.methodLink "java/lang/StringBuilder" (343 : Nat) ({ cls := "java/lang/AbstractStringBuilder", name := "length", desc := "()I" } : Jvm.MethodName)).before a0 Z = true := mw hw 41 rfl
theorem w42 (hw : HW a0 Z) : (Jvm.Cond.instanceMethod ({ cls := "java/lang/AbstractStringBuilder", name := "length", desc := "()I" } : Jvm.MethodName)).before a0 Z = true := mw hw 42 rfl
theorem w43 (hw : HW a0 Z) : (Jvm.Cond.superclass "java/lang/StringBuilder" "java/lang/AbstractStringBuilder").before a0 Z = true := mw hw 43 rfl
theorem w44 (hw : HW a0 Z) : (Jvm.Cond.declares ({ cls := "java/lang/AbstractStringBuilder", name := "length", desc := "()I" } : Jvm.MethodName)).before a0 Z = true := mw hw 44 rfl
theorem w45 (hw : HW a0 Z) : (Jvm.Cond.code ({ cls := "java/lang/AbstractStringBuilder", name := "length", desc := "()I" } : Jvm.MethodName) jdk_68_method_6_code (1 : Nat) (Option.some Jvm.ClassFile.FieldType.int)).before a0 Z = true := mw hw 45 rfl
theorem w46 (hw : HW a0 Z) : (Jvm.Cond.fieldLink "java/lang/AbstractStringBuilder" (79 : Nat) "java/lang/AbstractStringBuilder" "count" "I").before a0 Z = true := mw hw 46 rfl
theorem w47 (hw : HW a0 Z) : (Jvm.Cond.lays "java/lang/StringBuilder" "java/lang/AbstractStringBuilder" "count" "I").before a0 Z = true := mw hw 47 rfl
theorem w48 (hw : HW a0 Z) : (Jvm.Cond.methodLink "com/example/patents_via_api/patentsviaapi/http/QueryStringIsEmptyPinLaw" (20 : Nat) ({ cls := "com/example/patents_via_api/patentsviaapi/http/QueryString", name := "toString", desc := "()Ljava/lang/String;" } : Jvm.MethodName)).before a0 Z = true := mw hw 48 rfl
theorem w49 (hw : HW a0 Z) : (Jvm.Cond.declares ({ cls := "com/example/patents_via_api/patentsviaapi/http/QueryString", name := "toString", desc := "()Ljava/lang/String;" } : Jvm.MethodName)).before a0 Z = true := mw hw 49 rfl
theorem w50 (hw : HW a0 Z) : (Jvm.Cond.instanceMethod ({ cls := "com/example/patents_via_api/patentsviaapi/http/QueryString", name := "toString", desc := "()Ljava/lang/String;" } : Jvm.MethodName)).before a0 Z = true := mw hw 50 rfl
theorem w51 (hw : HW a0 Z) : (Jvm.Cond.selects "com/example/patents_via_api/patentsviaapi/http/QueryString" ({ cls := "com/example/patents_via_api/patentsviaapi/http/QueryString", name := "toString", desc := "()Ljava/lang/String;" } : Jvm.MethodName) ({ cls := "com/example/patents_via_api/patentsviaapi/http/QueryString", name := "toString", desc := "()Ljava/lang/String;" } : Jvm.MethodName)).before a0 Z = true := mw hw 51 rfl
theorem w52 (hw : HW a0 Z) : (Jvm.Cond.code ({ cls := "com/example/patents_via_api/patentsviaapi/http/QueryString", name := "toString", desc := "()Ljava/lang/String;" } : Jvm.MethodName) prog_16_method_5_code (1 : Nat) (Option.some (Jvm.ClassFile.FieldType.object "java/lang/String"))).before a0 Z = true := mw hw 52 rfl
theorem w53 (hw : HW a0 Z) : (Jvm.Cond.methodLink "com/example/patents_via_api/patentsviaapi/http/QueryString" (24 : Nat) ({ cls := "java/lang/StringBuilder", name := "toString", desc := "()Ljava/lang/String;" } : Jvm.MethodName)).before a0 Z = true := mw hw 53 rfl
theorem w54 (hw : HW a0 Z) : (Jvm.Cond.declares ({ cls := "java/lang/StringBuilder", name := "toString", desc := "()Ljava/lang/String;" } : Jvm.MethodName)).before a0 Z = true := mw hw 54 rfl
theorem w55 (hw : HW a0 Z) : (Jvm.Cond.instanceMethod ({ cls := "java/lang/StringBuilder", name := "toString", desc := "()Ljava/lang/String;" } : Jvm.MethodName)).before a0 Z = true := mw hw 55 rfl
theorem w56 (hw : HW a0 Z) : (Jvm.Cond.selects "java/lang/StringBuilder" ({ cls := "java/lang/StringBuilder", name := "toString", desc := "()Ljava/lang/String;" } : Jvm.MethodName) ({ cls := "java/lang/StringBuilder", name := "toString", desc := "()Ljava/lang/String;" } : Jvm.MethodName)).before a0 Z = true := mw hw 56 rfl
theorem w57 (hw : HW a0 Z) : (Jvm.Cond.code ({ cls := "java/lang/StringBuilder", name := "toString", desc := "()Ljava/lang/String;" } : Jvm.MethodName) jdk_67_method_42_code (1 : Nat) (Option.some (Jvm.ClassFile.FieldType.object "java/lang/String"))).before a0 Z = true := mw hw 57 rfl
theorem w58 (hw : HW a0 Z) : (Jvm.Cond.classLink "java/lang/StringBuilder" (18 : Nat) "java/lang/String").before a0 Z = true := mw hw 58 rfl
theorem w59 (hw : HW a0 Z) : (Jvm.Cond.instantiable "java/lang/String" (4 : Nat)).before a0 Z = true := mw hw 59 rfl
theorem w60 (hw : HW a0 Z) : (Jvm.Cond.methodLink "java/lang/StringBuilder" (137 : Nat) ({ cls := "java/lang/String", name := "<init>", desc := "(Ljava/lang/StringBuilder;)V" } : Jvm.MethodName)).before a0 Z = true := mw hw 60 rfl
theorem w61 (hw : HW a0 Z) : (Jvm.Cond.instanceMethod ({ cls := "java/lang/String", name := "<init>", desc := "(Ljava/lang/StringBuilder;)V" } : Jvm.MethodName)).before a0 Z = true := mw hw 61 rfl
theorem w63 (hw : HW a0 Z) : (Jvm.Cond.code ({ cls := "java/lang/String", name := "<init>", desc := "(Ljava/lang/StringBuilder;)V" } : Jvm.MethodName) jdk_42_method_53_code (2 : Nat) (Option.none : Option Jvm.ClassFile.FieldType)).before a0 Z = true := mw hw 63 rfl
theorem w64 (hw : HW a0 Z) : (Jvm.Cond.methodLink "java/lang/String" (489 : Nat) ({ cls := "java/lang/String", name := "<init>", desc := "(Ljava/lang/AbstractStringBuilder;Ljava/lang/Void;)V" } : Jvm.MethodName)).before a0 Z = true := mw hw 64 rfl
theorem w65 (hw : HW a0 Z) : (Jvm.Cond.instanceMethod ({ cls := "java/lang/String", name := "<init>", desc := "(Ljava/lang/AbstractStringBuilder;Ljava/lang/Void;)V" } : Jvm.MethodName)).before a0 Z = true := mw hw 65 rfl
theorem w66 (hw : HW a0 Z) : (Jvm.Cond.code ({ cls := "java/lang/String", name := "<init>", desc := "(Ljava/lang/AbstractStringBuilder;Ljava/lang/Void;)V" } : Jvm.MethodName) jdk_42_method_150_code (5 : Nat) (Option.none : Option Jvm.ClassFile.FieldType)).before a0 Z = true := mw hw 66 rfl
theorem w67 (hw : HW a0 Z) : (Jvm.Cond.methodLink "java/lang/String" (1 : Nat) ({ cls := "java/lang/Object", name := "<init>", desc := "()V" } : Jvm.MethodName)).before a0 Z = true := mw hw 67 rfl
theorem w68 (hw : HW a0 Z) : (Jvm.Cond.methodLink "java/lang/String" (552 : Nat) ({ cls := "java/lang/AbstractStringBuilder", name := "getValue", desc := "()[B" } : Jvm.MethodName)).before a0 Z = true := mw hw 68 rfl
theorem w69 (hw : HW a0 Z) : (Jvm.Cond.declares ({ cls := "java/lang/AbstractStringBuilder", name := "getValue", desc := "()[B" } : Jvm.MethodName)).before a0 Z = true := mw hw 69 rfl
theorem w70 (hw : HW a0 Z) : (Jvm.Cond.instanceMethod ({ cls := "java/lang/AbstractStringBuilder", name := "getValue", desc := "()[B" } : Jvm.MethodName)).before a0 Z = true := mw hw 70 rfl
theorem w71 (hw : HW a0 Z) : (Jvm.Cond.selects "java/lang/StringBuilder" ({ cls := "java/lang/AbstractStringBuilder", name := "getValue", desc := "()[B" } : Jvm.MethodName) ({ cls := "java/lang/AbstractStringBuilder", name := "getValue", desc := "()[B" } : Jvm.MethodName)).before a0 Z = true := mw hw 71 rfl
theorem w72 (hw : HW a0 Z) : (Jvm.Cond.code ({ cls := "java/lang/AbstractStringBuilder", name := "getValue", desc := "()[B" } : Jvm.MethodName) jdk_68_method_64_code (1 : Nat) (Option.some (Jvm.ClassFile.FieldType.array Jvm.ClassFile.FieldType.byte))).before a0 Z = true := mw hw 72 rfl
theorem w73 (hw : HW a0 Z) : (Jvm.Cond.methodLink "java/lang/String" (549 : Nat) ({ cls := "java/lang/AbstractStringBuilder", name := "length", desc := "()I" } : Jvm.MethodName)).before a0 Z = true := mw hw 73 rfl
theorem w74 (hw : HW a0 Z) : (Jvm.Cond.selects "java/lang/StringBuilder" ({ cls := "java/lang/AbstractStringBuilder", name := "length", desc := "()I" } : Jvm.MethodName) ({ cls := "java/lang/StringBuilder", name := "length", desc := "()I" } : Jvm.MethodName)).before a0 Z = true := mw hw 74 rfl
theorem w75 (hw : HW a0 Z) : (Jvm.Cond.methodLink "java/lang/String" (1047 : Nat) ({ cls := "java/lang/AbstractStringBuilder", name := "isLatin1", desc := "()Z" } : Jvm.MethodName)).before a0 Z = true := mw hw 75 rfl
theorem w76 (hw : HW a0 Z) : (Jvm.Cond.declares ({ cls := "java/lang/AbstractStringBuilder", name := "isLatin1", desc := "()Z" } : Jvm.MethodName)).before a0 Z = true := mw hw 76 rfl
theorem w77 (hw : HW a0 Z) : (Jvm.Cond.instanceMethod ({ cls := "java/lang/AbstractStringBuilder", name := "isLatin1", desc := "()Z" } : Jvm.MethodName)).before a0 Z = true := mw hw 77 rfl
theorem w78 (hw : HW a0 Z) : (Jvm.Cond.selects "java/lang/StringBuilder" ({ cls := "java/lang/AbstractStringBuilder", name := "isLatin1", desc := "()Z" } : Jvm.MethodName) ({ cls := "java/lang/AbstractStringBuilder", name := "isLatin1", desc := "()Z" } : Jvm.MethodName)).before a0 Z = true := mw hw 78 rfl
theorem w79 (hw : HW a0 Z) : (Jvm.Cond.code ({ cls := "java/lang/AbstractStringBuilder", name := "isLatin1", desc := "()Z" } : Jvm.MethodName) jdk_68_method_68_code (1 : Nat) (Option.some Jvm.ClassFile.FieldType.boolean)).before a0 Z = true := mw hw 79 rfl
theorem w80 (hw : HW a0 Z) : (Jvm.Cond.fieldLink "java/lang/String" (15 : Nat) "java/lang/String" "coder" "B").before a0 Z = true := mw hw 80 rfl
theorem w81 (hw : HW a0 Z) : (Jvm.Cond.laysFinal "java/lang/String" "java/lang/String" "coder" "B").before a0 Z = true := mw hw 81 rfl
theorem w82 (hw : HW a0 Z) : (Jvm.Cond.methodLink "java/lang/String" (54 : Nat) ({ cls := "java/util/Arrays", name := "copyOfRange", desc := "([BII)[B" } : Jvm.MethodName)).before a0 Z = true := mw hw 82 rfl
theorem w83 (hw : HW a0 Z) : (Jvm.Cond.static ({ cls := "java/util/Arrays", name := "copyOfRange", desc := "([BII)[B" } : Jvm.MethodName)).before a0 Z = true := mw hw 83 rfl
theorem w84 (hw : HW a0 Z) : (Jvm.Cond.initialized "java/util/Arrays").before a0 Z = true := mw hw 84 rfl
theorem w85 (hw : HW a0 Z) : (Jvm.Cond.code ({ cls := "java/util/Arrays", name := "copyOfRange", desc := "([BII)[B" } : Jvm.MethodName) jdk_65_method_132_code (3 : Nat) (Option.some (Jvm.ClassFile.FieldType.array Jvm.ClassFile.FieldType.byte))).before a0 Z = true := mw hw 85 rfl
theorem w86 (hw : HW a0 Z) : (Jvm.Cond.methodLink "java/util/Arrays" (339 : Nat) ({ cls := "java/util/Arrays", name := "copyOfRangeByte", desc := "([BII)[B" } : Jvm.MethodName)).before a0 Z = true := mw hw 86 rfl
theorem w87 (hw : HW a0 Z) : (Jvm.Cond.static ({ cls := "java/util/Arrays", name := "copyOfRangeByte", desc := "([BII)[B" } : Jvm.MethodName)).before a0 Z = true := mw hw 87 rfl
theorem w88 (hw : HW a0 Z) : (Jvm.Cond.code ({ cls := "java/util/Arrays", name := "copyOfRangeByte", desc := "([BII)[B" } : Jvm.MethodName) jdk_65_method_133_code (5 : Nat) (Option.some (Jvm.ClassFile.FieldType.array Jvm.ClassFile.FieldType.byte))).before a0 Z = true := mw hw 88 rfl
theorem w89 (hw : HW a0 Z) : (Jvm.Cond.methodLink "java/util/Arrays" (343 : Nat) ({ cls := "java/util/Arrays", name := "checkLength", desc := "(II)V" } : Jvm.MethodName)).before a0 Z = true := mw hw 89 rfl
theorem w90 (hw : HW a0 Z) : (Jvm.Cond.static ({ cls := "java/util/Arrays", name := "checkLength", desc := "(II)V" } : Jvm.MethodName)).before a0 Z = true := mw hw 90 rfl
theorem w91 (hw : HW a0 Z) : (Jvm.Cond.code ({ cls := "java/util/Arrays", name := "checkLength", desc := "(II)V" } : Jvm.MethodName) jdk_65_method_131_code (2 : Nat) (Option.none : Option Jvm.ClassFile.FieldType)).before a0 Z = true := mw hw 91 rfl
theorem w92 (hw : HW a0 Z) : (Jvm.Cond.methodLink "java/util/Arrays" (304 : Nat) ({ cls := "java/lang/Math", name := "min", desc := "(II)I" } : Jvm.MethodName)).before a0 Z = true := mw hw 92 rfl
theorem w93 (hw : HW a0 Z) : (Jvm.Cond.static ({ cls := "java/lang/Math", name := "min", desc := "(II)I" } : Jvm.MethodName)).before a0 Z = true := mw hw 93 rfl
theorem w94 (hw : HW a0 Z) : (Jvm.Cond.initialized "java/lang/Math").before a0 Z = true := mw hw 94 rfl
theorem w95 (hw : HW a0 Z) : (Jvm.Cond.code ({ cls := "java/lang/Math", name := "min", desc := "(II)I" } : Jvm.MethodName) jdk_29_method_69_code (2 : Nat) (Option.some Jvm.ClassFile.FieldType.int)).before a0 Z = true := mw hw 95 rfl
theorem w96 (hw : HW a0 Z) : (Jvm.Cond.methodLink "java/util/Arrays" (150 : Nat) ({ cls := "java/lang/System", name := "arraycopy", desc := "(Ljava/lang/Object;ILjava/lang/Object;II)V" } : Jvm.MethodName)).before a0 Z = true := mw hw 96 rfl
theorem w97 (hw : HW a0 Z) : (Jvm.Cond.static ({ cls := "java/lang/System", name := "arraycopy", desc := "(Ljava/lang/Object;ILjava/lang/Object;II)V" } : Jvm.MethodName)).before a0 Z = true := mw hw 97 rfl
theorem w98 (hw : HW a0 Z) : (Jvm.Cond.initialized "java/lang/System").before a0 Z = true := mw hw 98 rfl
theorem w99 (hw : HW a0 Z) : (Jvm.Cond.native ({ cls := "java/lang/System", name := "arraycopy", desc := "(Ljava/lang/Object;ILjava/lang/Object;II)V" } : Jvm.MethodName)).before a0 Z = true := mw hw 99 rfl
theorem w100 (hw : HW a0 Z) : (Jvm.Cond.fieldLink "java/lang/String" (9 : Nat) "java/lang/String" "value" "[B").before a0 Z = true := mw hw 100 rfl
theorem w101 (hw : HW a0 Z) : (Jvm.Cond.laysFinal "java/lang/String" "java/lang/String" "value" "[B").before a0 Z = true := mw hw 101 rfl
theorem w102 (hw : HW a0 Z) : (Jvm.Cond.methodLink "com/example/patents_via_api/patentsviaapi/http/QueryStringIsEmptyPinLaw" (24 : Nat) ({ cls := "java/lang/String", name := "isEmpty", desc := "()Z" } : Jvm.MethodName)).before a0 Z = true := mw hw 102 rfl
theorem w103 (hw : HW a0 Z) : (Jvm.Cond.declares ({ cls := "java/lang/String", name := "isEmpty", desc := "()Z" } : Jvm.MethodName)).before a0 Z = true := mw hw 103 rfl
theorem w104 (hw : HW a0 Z) : (Jvm.Cond.instanceMethod ({ cls := "java/lang/String", name := "isEmpty", desc := "()Z" } : Jvm.MethodName)).before a0 Z = true := mw hw 104 rfl
theorem w105 (hw : HW a0 Z) : (Jvm.Cond.selects "java/lang/String" ({ cls := "java/lang/String", name := "isEmpty", desc := "()Z" } : Jvm.MethodName) ({ cls := "java/lang/String", name := "isEmpty", desc := "()Z" } : Jvm.MethodName)).before a0 Z = true := mw hw 105 rfl
theorem w106 (hw : HW a0 Z) : (Jvm.Cond.code ({ cls := "java/lang/String", name := "isEmpty", desc := "()Z" } : Jvm.MethodName) jdk_42_method_55_code (1 : Nat) (Option.some Jvm.ClassFile.FieldType.boolean)).before a0 Z = true := mw hw 106 rfl
theorem w107 (hw : HW a0 Z) : (Jvm.Cond.methodLink "com/example/patents_via_api/patentsviaapi/http/QueryStringIsEmptyPinLaw" (14 : Nat) ({ cls := "com/example/patents_via_api/patentsviaapi/http/QueryStringIsEmptyPinLaw", name := "addOne", desc := "(Lcom/example/patents_via_api/patentsviaapi/http/QueryString;III)V" } : Jvm.MethodName)).before a0 Z = true := mw hw 107 rfl
theorem w108 (hw : HW a0 Z) : (Jvm.Cond.static ({ cls := "com/example/patents_via_api/patentsviaapi/http/QueryStringIsEmptyPinLaw", name := "addOne", desc := "(Lcom/example/patents_via_api/patentsviaapi/http/QueryString;III)V" } : Jvm.MethodName)).before a0 Z = true := mw hw 108 rfl
theorem w109 (hw : HW a0 Z) : (Jvm.Cond.initialized "com/example/patents_via_api/patentsviaapi/http/QueryStringIsEmptyPinLaw").before a0 Z = true := mw hw 109 rfl
theorem w110 (hw : HW a0 Z) : (Jvm.Cond.code ({ cls := "com/example/patents_via_api/patentsviaapi/http/QueryStringIsEmptyPinLaw", name := "addOne", desc := "(Lcom/example/patents_via_api/patentsviaapi/http/QueryString;III)V" } : Jvm.MethodName) method_3_code (6 : Nat) (Option.none : Option Jvm.ClassFile.FieldType)).before a0 Z = true := mw hw 110 rfl
theorem w111 (hw : HW a0 Z) : (Jvm.Cond.methodLink "com/example/patents_via_api/patentsviaapi/http/QueryStringIsEmptyPinLaw" (27 : Nat) ({ cls := "com/example/patents_via_api/patentsviaapi/http/QueryStringIsEmptyPinLaw", name := "text", desc := "(II)Ljava/lang/String;" } : Jvm.MethodName)).before a0 Z = true := mw hw 111 rfl
theorem w112 (hw : HW a0 Z) : (Jvm.Cond.static ({ cls := "com/example/patents_via_api/patentsviaapi/http/QueryStringIsEmptyPinLaw", name := "text", desc := "(II)Ljava/lang/String;" } : Jvm.MethodName)).before a0 Z = true := mw hw 112 rfl
theorem w113 (hw : HW a0 Z) : (Jvm.Cond.code ({ cls := "com/example/patents_via_api/patentsviaapi/http/QueryStringIsEmptyPinLaw", name := "text", desc := "(II)Ljava/lang/String;" } : Jvm.MethodName) method_4_code (2 : Nat) (Option.some (Jvm.ClassFile.FieldType.object "java/lang/String"))).before a0 Z = true := mw hw 113 rfl
theorem w114 (hw : HW a0 Z) : (Jvm.Cond.methodLink "com/example/patents_via_api/patentsviaapi/http/QueryStringIsEmptyPinLaw" (40 : Nat) ({ cls := "java/lang/String", name := "valueOf", desc := "(C)Ljava/lang/String;" } : Jvm.MethodName)).before a0 Z = true := mw hw 114 rfl
theorem w115 (hw : HW a0 Z) : (Jvm.Cond.static ({ cls := "java/lang/String", name := "valueOf", desc := "(C)Ljava/lang/String;" } : Jvm.MethodName)).before a0 Z = true := mw hw 115 rfl
theorem w116 (hw : HW a0 Z) : (Jvm.Cond.code ({ cls := "java/lang/String", name := "valueOf", desc := "(C)Ljava/lang/String;" } : Jvm.MethodName) jdk_42_method_139_code (1 : Nat) (Option.some (Jvm.ClassFile.FieldType.object "java/lang/String"))).before a0 Z = true := mw hw 116 rfl
theorem w117 (hw : HW a0 Z) : (Jvm.Cond.fieldLink "java/lang/String" (38 : Nat) "java/lang/String" "COMPACT_STRINGS" "Z").before a0 Z = true := mw hw 117 rfl
theorem w118 (hw : HW a0 Z) : (Jvm.Cond.methodLink "java/lang/String" (1015 : Nat) ({ cls := "java/lang/StringLatin1", name := "canEncode", desc := "(C)Z" } : Jvm.MethodName)).before a0 Z = true := mw hw 118 rfl
theorem w119 (hw : HW a0 Z) : (Jvm.Cond.static ({ cls := "java/lang/StringLatin1", name := "canEncode", desc := "(C)Z" } : Jvm.MethodName)).before a0 Z = true := mw hw 119 rfl
theorem w120 (hw : HW a0 Z) : (Jvm.Cond.initialized "java/lang/StringLatin1").before a0 Z = true := mw hw 120 rfl
theorem w121 (hw : HW a0 Z) : (Jvm.Cond.code ({ cls := "java/lang/StringLatin1", name := "canEncode", desc := "(C)Z" } : Jvm.MethodName) jdk_43_method_3_code (1 : Nat) (Option.some Jvm.ClassFile.FieldType.boolean)).before a0 Z = true := mw hw 121 rfl
theorem w122 (hw : HW a0 Z) : (Jvm.Cond.classLink "java/lang/String" (10 : Nat) "java/lang/String").before a0 Z = true := mw hw 122 rfl
theorem w123 (hw : HW a0 Z) : (Jvm.Cond.methodLink "java/lang/String" (1018 : Nat) ({ cls := "java/lang/StringLatin1", name := "toBytes", desc := "(C)[B" } : Jvm.MethodName)).before a0 Z = true := mw hw 123 rfl
theorem w124 (hw : HW a0 Z) : (Jvm.Cond.static ({ cls := "java/lang/StringLatin1", name := "toBytes", desc := "(C)[B" } : Jvm.MethodName)).before a0 Z = true := mw hw 124 rfl
theorem w125 (hw : HW a0 Z) : (Jvm.Cond.code ({ cls := "java/lang/StringLatin1", name := "toBytes", desc := "(C)[B" } : Jvm.MethodName) jdk_43_method_46_code (1 : Nat) (Option.some (Jvm.ClassFile.FieldType.array Jvm.ClassFile.FieldType.byte))).before a0 Z = true := mw hw 125 rfl
theorem w126 (hw : HW a0 Z) : (Jvm.Cond.methodLink "java/lang/String" (209 : Nat) ({ cls := "java/lang/String", name := "<init>", desc := "([BB)V" } : Jvm.MethodName)).before a0 Z = true := mw hw 126 rfl
theorem w127 (hw : HW a0 Z) : (Jvm.Cond.instanceMethod ({ cls := "java/lang/String", name := "<init>", desc := "([BB)V" } : Jvm.MethodName)).before a0 Z = true := mw hw 127 rfl
theorem w128 (hw : HW a0 Z) : (Jvm.Cond.code ({ cls := "java/lang/String", name := "<init>", desc := "([BB)V" } : Jvm.MethodName) jdk_42_method_151_code (3 : Nat) (Option.none : Option Jvm.ClassFile.FieldType)).before a0 Z = true := mw hw 128 rfl
theorem w129 (hw : HW a0 Z) : (Jvm.Cond.methodLink "com/example/patents_via_api/patentsviaapi/http/QueryStringIsEmptyPinLaw" (31 : Nat) ({ cls := "com/example/patents_via_api/patentsviaapi/http/QueryString", name := "addAllowingReserved", desc := "(Ljava/lang/String;Ljava/lang/String;)Lcom/example/patents_via_api/patentsviaapi/http/QueryString;" } : Jvm.MethodName)).before a0 Z = true := mw hw 129 rfl
theorem w130 (hw : HW a0 Z) : (Jvm.Cond.declares ({ cls := "com/example/patents_via_api/patentsviaapi/http/QueryString", name := "addAllowingReserved", desc := "(Ljava/lang/String;Ljava/lang/String;)Lcom/example/patents_via_api/patentsviaapi/http/QueryString;" } : Jvm.MethodName)).before a0 Z = true := mw hw 130 rfl
theorem w131 (hw : HW a0 Z) : (Jvm.Cond.instanceMethod ({ cls := "com/example/patents_via_api/patentsviaapi/http/QueryString", name := "addAllowingReserved", desc := "(Ljava/lang/String;Ljava/lang/String;)Lcom/example/patents_via_api/patentsviaapi/http/QueryString;" } : Jvm.MethodName)).before a0 Z = true := mw hw 131 rfl
theorem w132 (hw : HW a0 Z) : (Jvm.Cond.selects "com/example/patents_via_api/patentsviaapi/http/QueryString" ({ cls := "com/example/patents_via_api/patentsviaapi/http/QueryString", name := "addAllowingReserved", desc := "(Ljava/lang/String;Ljava/lang/String;)Lcom/example/patents_via_api/patentsviaapi/http/QueryString;" } : Jvm.MethodName) ({ cls := "com/example/patents_via_api/patentsviaapi/http/QueryString", name := "addAllowingReserved", desc := "(Ljava/lang/String;Ljava/lang/String;)Lcom/example/patents_via_api/patentsviaapi/http/QueryString;" } : Jvm.MethodName)).before a0 Z = true := mw hw 132 rfl
theorem w133 (hw : HW a0 Z) : (Jvm.Cond.code ({ cls := "com/example/patents_via_api/patentsviaapi/http/QueryString", name := "addAllowingReserved", desc := "(Ljava/lang/String;Ljava/lang/String;)Lcom/example/patents_via_api/patentsviaapi/http/QueryString;" } : Jvm.MethodName) prog_16_method_3_code (3 : Nat) (Option.some (Jvm.ClassFile.FieldType.object "com/example/patents_via_api/patentsviaapi/http/QueryString"))).before a0 Z = true := mw hw 133 rfl
theorem w134 (hw : HW a0 Z) : (Jvm.Cond.methodLink "com/example/patents_via_api/patentsviaapi/http/QueryString" (16 : Nat) ({ cls := "com/example/patents_via_api/patentsviaapi/http/QueryString", name := "append", desc := "(Ljava/lang/String;Ljava/lang/String;Z)Lcom/example/patents_via_api/patentsviaapi/http/QueryString;" } : Jvm.MethodName)).before a0 Z = true := mw hw 134 rfl
theorem w135 (hw : HW a0 Z) : (Jvm.Cond.instanceMethod ({ cls := "com/example/patents_via_api/patentsviaapi/http/QueryString", name := "append", desc := "(Ljava/lang/String;Ljava/lang/String;Z)Lcom/example/patents_via_api/patentsviaapi/http/QueryString;" } : Jvm.MethodName)).before a0 Z = true := mw hw 135 rfl
theorem w136 (hw : HW a0 Z) : (Jvm.Cond.privateMethod ({ cls := "com/example/patents_via_api/patentsviaapi/http/QueryString", name := "append", desc := "(Ljava/lang/String;Ljava/lang/String;Z)Lcom/example/patents_via_api/patentsviaapi/http/QueryString;" } : Jvm.MethodName)).before a0 Z = true := mw hw 136 rfl
theorem w137 (hw : HW a0 Z) : (Jvm.Cond.code ({ cls := "com/example/patents_via_api/patentsviaapi/http/QueryString", name := "append", desc := "(Ljava/lang/String;Ljava/lang/String;Z)Lcom/example/patents_via_api/patentsviaapi/http/QueryString;" } : Jvm.MethodName) prog_16_method_6_code (4 : Nat) (Option.some (Jvm.ClassFile.FieldType.object "com/example/patents_via_api/patentsviaapi/http/QueryString"))).before a0 Z = true := mw hw 137 rfl
theorem w138 (hw : HW a0 Z) : (Jvm.Cond.stringLink "com/example/patents_via_api/patentsviaapi/http/QueryString" (31 : Nat) "").before a0 Z = true := mw hw 138 rfl
theorem w139 (hw : HW a0 Z) : (Jvm.Cond.soleField "java/lang/String" "value").before a0 Z = true := mw hw 139 rfl
theorem w140 (hw : HW a0 Z) : (Jvm.Cond.soleField "java/lang/String" "coder").before a0 Z = true := mw hw 140 rfl
theorem w141 (hw : HW a0 Z) : (Jvm.Cond.methodLink "com/example/patents_via_api/patentsviaapi/http/QueryString" (33 : Nat) ({ cls := "com/example/patents_via_api/patentsviaapi/http/PercentEncoding", name := "encode", desc := "(Ljava/lang/String;Ljava/lang/String;)Ljava/lang/String;" } : Jvm.MethodName)).before a0 Z = true := mw hw 141 rfl
theorem w142 (hw : HW a0 Z) : (Jvm.Cond.static ({ cls := "com/example/patents_via_api/patentsviaapi/http/PercentEncoding", name := "encode", desc := "(Ljava/lang/String;Ljava/lang/String;)Ljava/lang/String;" } : Jvm.MethodName)).before a0 Z = true := mw hw 142 rfl
theorem w143 (hw : HW a0 Z) : (Jvm.Cond.initialized "com/example/patents_via_api/patentsviaapi/http/PercentEncoding").before a0 Z = true := mw hw 143 rfl
theorem w144 (hw : HW a0 Z) : (Jvm.Cond.code ({ cls := "com/example/patents_via_api/patentsviaapi/http/PercentEncoding", name := "encode", desc := "(Ljava/lang/String;Ljava/lang/String;)Ljava/lang/String;" } : Jvm.MethodName) prog_15_method_2_code (8 : Nat) (Option.some (Jvm.ClassFile.FieldType.object "java/lang/String"))).before a0 Z = true := mw hw 144 rfl
theorem w145 (hw : HW a0 Z) : (Jvm.Cond.classLink "com/example/patents_via_api/patentsviaapi/http/PercentEncoding" (7 : Nat) "java/lang/StringBuilder").before a0 Z = true := mw hw 145 rfl
theorem w146 (hw : HW a0 Z) : (Jvm.Cond.methodLink "com/example/patents_via_api/patentsviaapi/http/PercentEncoding" (9 : Nat) ({ cls := "java/lang/String", name := "length", desc := "()I" } : Jvm.MethodName)).before a0 Z = true := mw hw 146 rfl
theorem w147 (hw : HW a0 Z) : (Jvm.Cond.declares ({ cls := "java/lang/String", name := "length", desc := "()I" } : Jvm.MethodName)).before a0 Z = true := mw hw 147 rfl
theorem w148 (hw : HW a0 Z) : (Jvm.Cond.instanceMethod ({ cls := "java/lang/String", name := "length", desc := "()I" } : Jvm.MethodName)).before a0 Z = true := mw hw 148 rfl
theorem w149 (hw : HW a0 Z) : (Jvm.Cond.selects "java/lang/String" ({ cls := "java/lang/String", name := "length", desc := "()I" } : Jvm.MethodName) ({ cls := "java/lang/String", name := "length", desc := "()I" } : Jvm.MethodName)).before a0 Z = true := mw hw 149 rfl
theorem w150 (hw : HW a0 Z) : (Jvm.Cond.code ({ cls := "java/lang/String", name := "length", desc := "()I" } : Jvm.MethodName) jdk_42_method_54_code (1 : Nat) (Option.some Jvm.ClassFile.FieldType.int)).before a0 Z = true := mw hw 150 rfl
theorem w151 (hw : HW a0 Z) : (Jvm.Cond.methodLink "java/lang/String" (335 : Nat) ({ cls := "java/lang/String", name := "coder", desc := "()B" } : Jvm.MethodName)).before a0 Z = true := mw hw 151 rfl
theorem w152 (hw : HW a0 Z) : (Jvm.Cond.declares ({ cls := "java/lang/String", name := "coder", desc := "()B" } : Jvm.MethodName)).before a0 Z = true := mw hw 152 rfl
theorem w153 (hw : HW a0 Z) : (Jvm.Cond.instanceMethod ({ cls := "java/lang/String", name := "coder", desc := "()B" } : Jvm.MethodName)).before a0 Z = true := mw hw 153 rfl
theorem w154 (hw : HW a0 Z) : (Jvm.Cond.selects "java/lang/String" ({ cls := "java/lang/String", name := "coder", desc := "()B" } : Jvm.MethodName) ({ cls := "java/lang/String", name := "coder", desc := "()B" } : Jvm.MethodName)).before a0 Z = true := mw hw 154 rfl
theorem w155 (hw : HW a0 Z) : (Jvm.Cond.code ({ cls := "java/lang/String", name := "coder", desc := "()B" } : Jvm.MethodName) jdk_42_method_152_code (1 : Nat) (Option.some Jvm.ClassFile.FieldType.byte)).before a0 Z = true := mw hw 155 rfl
theorem w156 (hw : HW a0 Z) : (Jvm.Cond.methodLink "com/example/patents_via_api/patentsviaapi/http/PercentEncoding" (15 : Nat) ({ cls := "java/lang/StringBuilder", name := "<init>", desc := "(I)V" } : Jvm.MethodName)).before a0 Z = true := mw hw 156 rfl
theorem w157 (hw : HW a0 Z) : (Jvm.Cond.instanceMethod ({ cls := "java/lang/StringBuilder", name := "<init>", desc := "(I)V" } : Jvm.MethodName)).before a0 Z = true := mw hw 157 rfl
theorem w158 (hw : HW a0 Z) : (Jvm.Cond.code ({ cls := "java/lang/StringBuilder", name := "<init>", desc := "(I)V" } : Jvm.MethodName) jdk_67_method_2_code (2 : Nat) (Option.none : Option Jvm.ClassFile.FieldType)).before a0 Z = true := mw hw 158 rfl
theorem w159 (hw : HW a0 Z) : (Jvm.Cond.fieldLink "com/example/patents_via_api/patentsviaapi/http/PercentEncoding" (18 : Nat) "java/nio/charset/StandardCharsets" "UTF_8" "Ljava/nio/charset/Charset;").before a0 Z = true := mw hw 159 rfl
theorem w161 (hw : HW a0 Z) : (Jvm.Cond.methodLink "com/example/patents_via_api/patentsviaapi/http/PercentEncoding" (24 : Nat) ({ cls := "java/lang/String", name := "getBytes", desc := "(Ljava/nio/charset/Charset;)[B" } : Jvm.MethodName)).before a0 Z = true := mw hw 161 rfl
theorem w162 (hw : HW a0 Z) : (Jvm.Cond.declares ({ cls := "java/lang/String", name := "getBytes", desc := "(Ljava/nio/charset/Charset;)[B" } : Jvm.MethodName)).before a0 Z = true := mw hw 162 rfl
theorem w163 (hw : HW a0 Z) : (Jvm.Cond.instanceMethod ({ cls := "java/lang/String", name := "getBytes", desc := "(Ljava/nio/charset/Charset;)[B" } : Jvm.MethodName)).before a0 Z = true := mw hw 163 rfl
theorem w164 (hw : HW a0 Z) : (Jvm.Cond.selects "java/lang/String" ({ cls := "java/lang/String", name := "getBytes", desc := "(Ljava/nio/charset/Charset;)[B" } : Jvm.MethodName) ({ cls := "java/lang/String", name := "getBytes", desc := "(Ljava/nio/charset/Charset;)[B" } : Jvm.MethodName)).before a0 Z = true := mw hw 164 rfl
theorem w165 (hw : HW a0 Z) : (Jvm.Cond.code ({ cls := "java/lang/String", name := "getBytes", desc := "(Ljava/nio/charset/Charset;)[B" } : Jvm.MethodName) jdk_42_method_64_code (2 : Nat) (Option.some (Jvm.ClassFile.FieldType.array Jvm.ClassFile.FieldType.byte))).before a0 Z = true := mw hw 165 rfl
theorem w166 (hw : HW a0 Z) : (Jvm.Cond.methodLink "java/lang/String" (535 : Nat) ({ cls := "java/lang/String", name := "encode", desc := "(Ljava/nio/charset/Charset;B[B)[B" } : Jvm.MethodName)).before a0 Z = true := mw hw 166 rfl
theorem w167 (hw : HW a0 Z) : (Jvm.Cond.static ({ cls := "java/lang/String", name := "encode", desc := "(Ljava/nio/charset/Charset;B[B)[B" } : Jvm.MethodName)).before a0 Z = true := mw hw 167 rfl
theorem w168 (hw : HW a0 Z) : (Jvm.Cond.code ({ cls := "java/lang/String", name := "encode", desc := "(Ljava/nio/charset/Charset;B[B)[B" } : Jvm.MethodName) jdk_42_method_18_code (3 : Nat) (Option.some (Jvm.ClassFile.FieldType.array Jvm.ClassFile.FieldType.byte))).before a0 Z = true := mw hw 168 rfl
theorem w169 (hw : HW a0 Z) : (Jvm.Cond.fieldLink "java/lang/String" (86 : Nat) "sun/nio/cs/UTF_8" "INSTANCE" "Lsun/nio/cs/UTF_8;").before a0 Z = true := mw hw 169 rfl
theorem w171 (hw : HW a0 Z) : (Jvm.Cond.methodLink "java/lang/String" (252 : Nat) ({ cls := "java/lang/String", name := "encodeUTF8", desc := "(B[BZ)[B" } : Jvm.MethodName)).before a0 Z = true := mw hw 171 rfl
theorem w172 (hw : HW a0 Z) : (Jvm.Cond.static ({ cls := "java/lang/String", name := "encodeUTF8", desc := "(B[BZ)[B" } : Jvm.MethodName)).before a0 Z = true := mw hw 172 rfl
theorem w173 (hw : HW a0 Z) : (Jvm.Cond.code ({ cls := "java/lang/String", name := "encodeUTF8", desc := "(B[BZ)[B" } : Jvm.MethodName) jdk_42_method_46_code (9 : Nat) (Option.some (Jvm.ClassFile.FieldType.array Jvm.ClassFile.FieldType.byte))).before a0 Z = true := mw hw 173 rfl
theorem w174 (hw : HW a0 Z) : (Jvm.Cond.methodLink "java/lang/String" (128 : Nat) ({ cls := "java/lang/StringCoding", name := "hasNegatives", desc := "([BII)Z" } : Jvm.MethodName)).before a0 Z = true := mw hw 174 rfl
theorem w175 (hw : HW a0 Z) : (Jvm.Cond.static ({ cls := "java/lang/StringCoding", name := "hasNegatives", desc := "([BII)Z" } : Jvm.MethodName)).before a0 Z = true := mw hw 175 rfl
theorem w176 (hw : HW a0 Z) : (Jvm.Cond.initialized "java/lang/StringCoding").before a0 Z = true := mw hw 176 rfl
theorem w177 (hw : HW a0 Z) : (Jvm.Cond.code ({ cls := "java/lang/StringCoding", name := "hasNegatives", desc := "([BII)Z" } : Jvm.MethodName) jdk_123_method_2_code (3 : Nat) (Option.some Jvm.ClassFile.FieldType.boolean)).before a0 Z = true := mw hw 177 rfl
theorem w178 (hw : HW a0 Z) : (Jvm.Cond.methodLink "java/lang/StringCoding" (7 : Nat) ({ cls := "java/lang/StringCoding", name := "countPositives", desc := "([BII)I" } : Jvm.MethodName)).before a0 Z = true := mw hw 178 rfl
theorem w179 (hw : HW a0 Z) : (Jvm.Cond.static ({ cls := "java/lang/StringCoding", name := "countPositives", desc := "([BII)I" } : Jvm.MethodName)).before a0 Z = true := mw hw 179 rfl
theorem w180 (hw : HW a0 Z) : (Jvm.Cond.code ({ cls := "java/lang/StringCoding", name := "countPositives", desc := "([BII)I" } : Jvm.MethodName) jdk_123_method_3_code (5 : Nat) (Option.some Jvm.ClassFile.FieldType.int)).before a0 Z = true := mw hw 180 rfl
theorem w181 (hw : HW a0 Z) : (Jvm.Cond.methodLink "java/lang/String" (60 : Nat) ({ cls := "java/lang/StringUTF16", name := "newBytesFor", desc := "(I)[B" } : Jvm.MethodName)).before a0 Z = true := mw hw 181 rfl
theorem w182 (hw : HW a0 Z) : (Jvm.Cond.static ({ cls := "java/lang/StringUTF16", name := "newBytesFor", desc := "(I)[B" } : Jvm.MethodName)).before a0 Z = true := mw hw 182 rfl
theorem w183 (hw : HW a0 Z) : (Jvm.Cond.initialized "java/lang/StringUTF16").before a0 Z = true := mw hw 183 rfl
theorem w184 (hw : HW a0 Z) : (Jvm.Cond.code ({ cls := "java/lang/StringUTF16", name := "newBytesFor", desc := "(I)[B" } : Jvm.MethodName) jdk_52_method_2_code (1 : Nat) (Option.some (Jvm.ClassFile.FieldType.array Jvm.ClassFile.FieldType.byte))).before a0 Z = true := mw hw 184 rfl
theorem w185 (hw : HW a0 Z) : (Jvm.Cond.methodLink "java/lang/StringUTF16" (11 : Nat) ({ cls := "java/lang/StringUTF16", name := "newBytesLength", desc := "(I)I" } : Jvm.MethodName)).before a0 Z = true := mw hw 185 rfl
theorem w186 (hw : HW a0 Z) : (Jvm.Cond.static ({ cls := "java/lang/StringUTF16", name := "newBytesLength", desc := "(I)I" } : Jvm.MethodName)).before a0 Z = true := mw hw 186 rfl
theorem w187 (hw : HW a0 Z) : (Jvm.Cond.code ({ cls := "java/lang/StringUTF16", name := "newBytesLength", desc := "(I)I" } : Jvm.MethodName) jdk_52_method_3_code (1 : Nat) (Option.some Jvm.ClassFile.FieldType.int)).before a0 Z = true := mw hw 187 rfl
theorem w188 (hw : HW a0 Z) : (Jvm.Cond.constant "java/lang/StringUTF16" (20 : Nat) (1073741823 : Int32)).before a0 Z = true := mw hw 188 rfl
theorem w189 (hw : HW a0 Z) : (Jvm.Cond.methodLink "com/example/patents_via_api/patentsviaapi/http/PercentEncoding" (28 : Nat) ({ cls := "com/example/patents_via_api/patentsviaapi/http/PercentEncoding", name := "isUnreserved", desc := "(C)Z" } : Jvm.MethodName)).before a0 Z = true := mw hw 189 rfl
theorem w190 (hw : HW a0 Z) : (Jvm.Cond.static ({ cls := "com/example/patents_via_api/patentsviaapi/http/PercentEncoding", name := "isUnreserved", desc := "(C)Z" } : Jvm.MethodName)).before a0 Z = true := mw hw 190 rfl
theorem w191 (hw : HW a0 Z) : (Jvm.Cond.code ({ cls := "com/example/patents_via_api/patentsviaapi/http/PercentEncoding", name := "isUnreserved", desc := "(C)Z" } : Jvm.MethodName) prog_15_method_3_code (1 : Nat) (Option.some Jvm.ClassFile.FieldType.boolean)).before a0 Z = true := mw hw 191 rfl
theorem w192 (hw : HW a0 Z) : (Jvm.Cond.methodLink "com/example/patents_via_api/patentsviaapi/http/PercentEncoding" (34 : Nat) ({ cls := "java/lang/String", name := "indexOf", desc := "(I)I" } : Jvm.MethodName)).before a0 Z = true := mw hw 192 rfl
theorem w193 (hw : HW a0 Z) : (Jvm.Cond.declares ({ cls := "java/lang/String", name := "indexOf", desc := "(I)I" } : Jvm.MethodName)).before a0 Z = true := mw hw 193 rfl
theorem w194 (hw : HW a0 Z) : (Jvm.Cond.instanceMethod ({ cls := "java/lang/String", name := "indexOf", desc := "(I)I" } : Jvm.MethodName)).before a0 Z = true := mw hw 194 rfl
theorem w195 (hw : HW a0 Z) : (Jvm.Cond.selects "java/lang/String" ({ cls := "java/lang/String", name := "indexOf", desc := "(I)I" } : Jvm.MethodName) ({ cls := "java/lang/String", name := "indexOf", desc := "(I)I" } : Jvm.MethodName)).before a0 Z = true := mw hw 195 rfl
theorem w196 (hw : HW a0 Z) : (Jvm.Cond.code ({ cls := "java/lang/String", name := "indexOf", desc := "(I)I" } : Jvm.MethodName) jdk_42_method_79_code (2 : Nat) (Option.some Jvm.ClassFile.FieldType.int)).before a0 Z = true := mw hw 196 rfl
theorem w197 (hw : HW a0 Z) : (Jvm.Cond.methodLink "java/lang/String" (633 : Nat) ({ cls := "java/lang/String", name := "indexOf", desc := "(II)I" } : Jvm.MethodName)).before a0 Z = true := mw hw 197 rfl
theorem w198 (hw : HW a0 Z) : (Jvm.Cond.declares ({ cls := "java/lang/String", name := "indexOf", desc := "(II)I" } : Jvm.MethodName)).before a0 Z = true := mw hw 198 rfl
theorem w199 (hw : HW a0 Z) : (Jvm.Cond.instanceMethod ({ cls := "java/lang/String", name := "indexOf", desc := "(II)I" } : Jvm.MethodName)).before a0 Z = true := mw hw 199 rfl
theorem w200 (hw : HW a0 Z) : (Jvm.Cond.selects "java/lang/String" ({ cls := "java/lang/String", name := "indexOf", desc := "(II)I" } : Jvm.MethodName) ({ cls := "java/lang/String", name := "indexOf", desc := "(II)I" } : Jvm.MethodName)).before a0 Z = true := mw hw 200 rfl
theorem w201 (hw : HW a0 Z) : (Jvm.Cond.code ({ cls := "java/lang/String", name := "indexOf", desc := "(II)I" } : Jvm.MethodName) jdk_42_method_80_code (3 : Nat) (Option.some Jvm.ClassFile.FieldType.int)).before a0 Z = true := mw hw 201 rfl
theorem w202 (hw : HW a0 Z) : (Jvm.Cond.methodLink "java/lang/String" (492 : Nat) ({ cls := "java/lang/String", name := "isLatin1", desc := "()Z" } : Jvm.MethodName)).before a0 Z = true := mw hw 202 rfl
theorem w203 (hw : HW a0 Z) : (Jvm.Cond.declares ({ cls := "java/lang/String", name := "isLatin1", desc := "()Z" } : Jvm.MethodName)).before a0 Z = true := mw hw 203 rfl
theorem w204 (hw : HW a0 Z) : (Jvm.Cond.instanceMethod ({ cls := "java/lang/String", name := "isLatin1", desc := "()Z" } : Jvm.MethodName)).before a0 Z = true := mw hw 204 rfl
theorem w205 (hw : HW a0 Z) : (Jvm.Cond.selects "java/lang/String" ({ cls := "java/lang/String", name := "isLatin1", desc := "()Z" } : Jvm.MethodName) ({ cls := "java/lang/String", name := "isLatin1", desc := "()Z" } : Jvm.MethodName)).before a0 Z = true := mw hw 205 rfl
theorem w206 (hw : HW a0 Z) : (Jvm.Cond.code ({ cls := "java/lang/String", name := "isLatin1", desc := "()Z" } : Jvm.MethodName) jdk_42_method_154_code (1 : Nat) (Option.some Jvm.ClassFile.FieldType.boolean)).before a0 Z = true := mw hw 206 rfl
theorem w207 (hw : HW a0 Z) : (Jvm.Cond.methodLink "java/lang/String" (505 : Nat) ({ cls := "java/lang/String", name := "length", desc := "()I" } : Jvm.MethodName)).before a0 Z = true := mw hw 207 rfl
theorem w208 (hw : HW a0 Z) : (Jvm.Cond.methodLink "java/lang/String" (637 : Nat) ({ cls := "java/lang/StringLatin1", name := "indexOf", desc := "([BIII)I" } : Jvm.MethodName)).before a0 Z = true := mw hw 208 rfl
theorem w209 (hw : HW a0 Z) : (Jvm.Cond.static ({ cls := "java/lang/StringLatin1", name := "indexOf", desc := "([BIII)I" } : Jvm.MethodName)).before a0 Z = true := mw hw 209 rfl
theorem w210 (hw : HW a0 Z) : (Jvm.Cond.code ({ cls := "java/lang/StringLatin1", name := "indexOf", desc := "([BIII)I" } : Jvm.MethodName) jdk_43_method_22_code (4 : Nat) (Option.some Jvm.ClassFile.FieldType.int)).before a0 Z = true := mw hw 210 rfl
theorem w211 (hw : HW a0 Z) : (Jvm.Cond.methodLink "java/lang/StringLatin1" (88 : Nat) ({ cls := "java/lang/StringLatin1", name := "canEncode", desc := "(I)Z" } : Jvm.MethodName)).before a0 Z = true := mw hw 211 rfl
theorem w212 (hw : HW a0 Z) : (Jvm.Cond.static ({ cls := "java/lang/StringLatin1", name := "canEncode", desc := "(I)Z" } : Jvm.MethodName)).before a0 Z = true := mw hw 212 rfl
theorem w213 (hw : HW a0 Z) : (Jvm.Cond.code ({ cls := "java/lang/StringLatin1", name := "canEncode", desc := "(I)Z" } : Jvm.MethodName) jdk_43_method_4_code (1 : Nat) (Option.some Jvm.ClassFile.FieldType.boolean)).before a0 Z = true := mw hw 213 rfl
theorem w214 (hw : HW a0 Z) : (Jvm.Cond.methodLink "java/lang/StringLatin1" (92 : Nat) ({ cls := "java/lang/Math", name := "max", desc := "(II)I" } : Jvm.MethodName)).before a0 Z = true := mw hw 214 rfl
theorem w215 (hw : HW a0 Z) : (Jvm.Cond.static ({ cls := "java/lang/Math", name := "max", desc := "(II)I" } : Jvm.MethodName)).before a0 Z = true := mw hw 215 rfl
theorem w216 (hw : HW a0 Z) : (Jvm.Cond.code ({ cls := "java/lang/Math", name := "max", desc := "(II)I" } : Jvm.MethodName) jdk_29_method_65_code (2 : Nat) (Option.some Jvm.ClassFile.FieldType.int)).before a0 Z = true := mw hw 216 rfl
theorem w217 (hw : HW a0 Z) : (Jvm.Cond.methodLink "java/lang/StringLatin1" (38 : Nat) ({ cls := "java/lang/Math", name := "min", desc := "(II)I" } : Jvm.MethodName)).before a0 Z = true := mw hw 217 rfl
theorem w218 (hw : HW a0 Z) : (Jvm.Cond.methodLink "com/example/patents_via_api/patentsviaapi/http/PercentEncoding" (38 : Nat) ({ cls := "java/lang/StringBuilder", name := "append", desc := "(C)Ljava/lang/StringBuilder;" } : Jvm.MethodName)).before a0 Z = true := mw hw 218 rfl
theorem w219 (hw : HW a0 Z) : (Jvm.Cond.declares ({ cls := "java/lang/StringBuilder", name := "append", desc := "(C)Ljava/lang/StringBuilder;" } : Jvm.MethodName)).before a0 Z = true := mw hw 219 rfl
theorem w220 (hw : HW a0 Z) : (Jvm.Cond.instanceMethod ({ cls := "java/lang/StringBuilder", name := "append", desc := "(C)Ljava/lang/StringBuilder;" } : Jvm.MethodName)).before a0 Z = true := mw hw 220 rfl
theorem w221 (hw : HW a0 Z) : (Jvm.Cond.selects "java/lang/StringBuilder" ({ cls := "java/lang/StringBuilder", name := "append", desc := "(C)Ljava/lang/StringBuilder;" } : Jvm.MethodName) ({ cls := "java/lang/StringBuilder", name := "append", desc := "(C)Ljava/lang/StringBuilder;" } : Jvm.MethodName)).before a0 Z = true := mw hw 221 rfl
theorem w222 (hw : HW a0 Z) : (Jvm.Cond.code ({ cls := "java/lang/StringBuilder", name := "append", desc := "(C)Ljava/lang/StringBuilder;" } : Jvm.MethodName) jdk_67_method_14_code (2 : Nat) (Option.some (Jvm.ClassFile.FieldType.object "java/lang/StringBuilder"))).before a0 Z = true := mw hw 222 rfl
theorem w223 (hw : HW a0 Z) : (Jvm.Cond.methodLink "java/lang/StringBuilder" (50 : Nat) ({ cls := "java/lang/AbstractStringBuilder", name := "append", desc := "(C)Ljava/lang/AbstractStringBuilder;" } : Jvm.MethodName)).before a0 Z = true := mw hw 223 rfl
theorem w224 (hw : HW a0 Z) : (Jvm.Cond.instanceMethod ({ cls := "java/lang/AbstractStringBuilder", name := "append", desc := "(C)Ljava/lang/AbstractStringBuilder;" } : Jvm.MethodName)).before a0 Z = true := mw hw 224 rfl
theorem w226 (hw : HW a0 Z) : (Jvm.Cond.code ({ cls := "java/lang/AbstractStringBuilder", name := "append", desc := "(C)Ljava/lang/AbstractStringBuilder;" } : Jvm.MethodName) jdk_68_method_31_code (2 : Nat) (Option.some (Jvm.ClassFile.FieldType.object "java/lang/AbstractStringBuilder"))).before a0 Z = true := mw hw 226 rfl
theorem w227 (hw : HW a0 Z) : (Jvm.Cond.methodLink "java/lang/AbstractStringBuilder" (100 : Nat) ({ cls := "java/lang/AbstractStringBuilder", name := "ensureCapacityInternal", desc := "(I)V" } : Jvm.MethodName)).before a0 Z = true := mw hw 227 rfl
theorem w228 (hw : HW a0 Z) : (Jvm.Cond.instanceMethod ({ cls := "java/lang/AbstractStringBuilder", name := "ensureCapacityInternal", desc := "(I)V" } : Jvm.MethodName)).before a0 Z = true := mw hw 228 rfl
theorem w229 (hw : HW a0 Z) : (Jvm.Cond.privateMethod ({ cls := "java/lang/AbstractStringBuilder", name := "ensureCapacityInternal", desc := "(I)V" } : Jvm.MethodName)).before a0 Z = true := mw hw 229 rfl
theorem w230 (hw : HW a0 Z) : (Jvm.Cond.selects "java/lang/StringBuilder" ({ cls := "java/lang/AbstractStringBuilder", name := "ensureCapacityInternal", desc := "(I)V" } : Jvm.MethodName) ({ cls := "java/lang/AbstractStringBuilder", name := "ensureCapacityInternal", desc := "(I)V" } : Jvm.MethodName)).before a0 Z = true := mw hw 230 rfl
theorem w231 (hw : HW a0 Z) : (Jvm.Cond.code ({ cls := "java/lang/AbstractStringBuilder", name := "ensureCapacityInternal", desc := "(I)V" } : Jvm.MethodName) jdk_68_method_9_code (3 : Nat) (Option.none : Option Jvm.ClassFile.FieldType)).before a0 Z = true := mw hw 231 rfl
theorem w232 (hw : HW a0 Z) : (Jvm.Cond.methodLink "java/lang/AbstractStringBuilder" (83 : Nat) ({ cls := "java/lang/AbstractStringBuilder", name := "isLatin1", desc := "()Z" } : Jvm.MethodName)).before a0 Z = true := mw hw 232 rfl
theorem w233 (hw : HW a0 Z) : (Jvm.Cond.methodLink "java/lang/AbstractStringBuilder" (191 : Nat) ({ cls := "java/lang/StringLatin1", name := "canEncode", desc := "(C)Z" } : Jvm.MethodName)).before a0 Z = true := mw hw 233 rfl
theorem w234 (hw : HW a0 Z) : (Jvm.Cond.fieldLink "com/example/patents_via_api/patentsviaapi/http/PercentEncoding" (42 : Nat) "com/example/patents_via_api/patentsviaapi/http/PercentEncoding" "HEX_DIGITS" "[C").before a0 Z = true := mw hw 234 rfl
theorem w235 (hw : HW a0 Z) : (Jvm.Cond.laysStatic "com/example/patents_via_api/patentsviaapi/http/PercentEncoding" "HEX_DIGITS" "[C").before a0 Z = true := mw hw 235 rfl
theorem w236 (hw : HW a0 Z) : (Jvm.Cond.methodLink "java/lang/AbstractStringBuilder" (104 : Nat) ({ cls := "java/lang/AbstractStringBuilder", name := "newCapacity", desc := "(I)I" } : Jvm.MethodName)).before a0 Z = true := mw hw 236 rfl
theorem w237 (hw : HW a0 Z) : (Jvm.Cond.instanceMethod ({ cls := "java/lang/AbstractStringBuilder", name := "newCapacity", desc := "(I)I" } : Jvm.MethodName)).before a0 Z = true := mw hw 237 rfl
theorem w238 (hw : HW a0 Z) : (Jvm.Cond.privateMethod ({ cls := "java/lang/AbstractStringBuilder", name := "newCapacity", desc := "(I)I" } : Jvm.MethodName)).before a0 Z = true := mw hw 238 rfl
theorem w239 (hw : HW a0 Z) : (Jvm.Cond.selects "java/lang/StringBuilder" ({ cls := "java/lang/AbstractStringBuilder", name := "newCapacity", desc := "(I)I" } : Jvm.MethodName) ({ cls := "java/lang/AbstractStringBuilder", name := "newCapacity", desc := "(I)I" } : Jvm.MethodName)).before a0 Z = true := mw hw 239 rfl
theorem w240 (hw : HW a0 Z) : (Jvm.Cond.code ({ cls := "java/lang/AbstractStringBuilder", name := "newCapacity", desc := "(I)I" } : Jvm.MethodName) jdk_68_method_10_code (6 : Nat) (Option.some Jvm.ClassFile.FieldType.int)).before a0 Z = true := mw hw 240 rfl
theorem w241 (hw : HW a0 Z) : (Jvm.Cond.methodLink "java/lang/AbstractStringBuilder" (114 : Nat) ({ cls := "jdk/internal/util/ArraysSupport", name := "newLength", desc := "(III)I" } : Jvm.MethodName)).before a0 Z = true := mw hw 241 rfl
theorem w242 (hw : HW a0 Z) : (Jvm.Cond.static ({ cls := "jdk/internal/util/ArraysSupport", name := "newLength", desc := "(III)I" } : Jvm.MethodName)).before a0 Z = true := mw hw 242 rfl
theorem w243 (hw : HW a0 Z) : (Jvm.Cond.initialized "jdk/internal/util/ArraysSupport").before a0 Z = true := mw hw 243 rfl
theorem w244 (hw : HW a0 Z) : (Jvm.Cond.code ({ cls := "jdk/internal/util/ArraysSupport", name := "newLength", desc := "(III)I" } : Jvm.MethodName) jdk_48_method_27_code (4 : Nat) (Option.some Jvm.ClassFile.FieldType.int)).before a0 Z = true := mw hw 244 rfl
theorem w245 (hw : HW a0 Z) : (Jvm.Cond.methodLink "jdk/internal/util/ArraysSupport" (194 : Nat) ({ cls := "java/lang/Math", name := "max", desc := "(II)I" } : Jvm.MethodName)).before a0 Z = true := mw hw 245 rfl
theorem w246 (hw : HW a0 Z) : (Jvm.Cond.constant "jdk/internal/util/ArraysSupport" (200 : Nat) (2147483639 : Int32)).before a0 Z = true := mw hw 246 rfl
theorem w247 (hw : HW a0 Z) : (Jvm.Cond.constant "java/lang/AbstractStringBuilder" (39 : Nat) (2147483647 : Int32)).before a0 Z = true := mw hw 247 rfl
theorem w248 (hw : HW a0 Z) : (Jvm.Cond.methodLink "java/lang/AbstractStringBuilder" (108 : Nat) ({ cls := "java/util/Arrays", name := "copyOf", desc := "([BI)[B" } : Jvm.MethodName)).before a0 Z = true := mw hw 248 rfl
theorem w249 (hw : HW a0 Z) : (Jvm.Cond.static ({ cls := "java/util/Arrays", name := "copyOf", desc := "([BI)[B" } : Jvm.MethodName)).before a0 Z = true := mw hw 249 rfl
theorem w250 (hw : HW a0 Z) : (Jvm.Cond.code ({ cls := "java/util/Arrays", name := "copyOf", desc := "([BI)[B" } : Jvm.MethodName) jdk_65_method_121_code (3 : Nat) (Option.some (Jvm.ClassFile.FieldType.array Jvm.ClassFile.FieldType.byte))).before a0 Z = true := mw hw 250 rfl
theorem w251 (hw : HW a0 Z) : (Jvm.Cond.methodLink "com/example/patents_via_api/patentsviaapi/http/PercentEncoding" (46 : Nat) ({ cls := "java/lang/StringBuilder", name := "toString", desc := "()Ljava/lang/String;" } : Jvm.MethodName)).before a0 Z = true := mw hw 251 rfl
theorem w252 (hw : HW a0 Z) : (Jvm.Cond.methodLink "com/example/patents_via_api/patentsviaapi/http/QueryString" (39 : Nat) ({ cls := "java/lang/StringBuilder", name := "append", desc := "(Ljava/lang/String;)Ljava/lang/StringBuilder;" } : Jvm.MethodName)).before a0 Z = true := mw hw 252 rfl
theorem w253 (hw : HW a0 Z) : (Jvm.Cond.declares ({ cls := "java/lang/StringBuilder", name := "append", desc := "(Ljava/lang/String;)Ljava/lang/StringBuilder;" } : Jvm.MethodName)).before a0 Z = true := mw hw 253 rfl
theorem w254 (hw : HW a0 Z) : (Jvm.Cond.instanceMethod ({ cls := "java/lang/StringBuilder", name := "append", desc := "(Ljava/lang/String;)Ljava/lang/StringBuilder;" } : Jvm.MethodName)).before a0 Z = true := mw hw 254 rfl
theorem w255 (hw : HW a0 Z) : (Jvm.Cond.selects "java/lang/StringBuilder" ({ cls := "java/lang/StringBuilder", name := "append", desc := "(Ljava/lang/String;)Ljava/lang/StringBuilder;" } : Jvm.MethodName) ({ cls := "java/lang/StringBuilder", name := "append", desc := "(Ljava/lang/String;)Ljava/lang/StringBuilder;" } : Jvm.MethodName)).before a0 Z = true := mw hw 255 rfl
theorem w256 (hw : HW a0 Z) : (Jvm.Cond.code ({ cls := "java/lang/StringBuilder", name := "append", desc := "(Ljava/lang/String;)Ljava/lang/StringBuilder;" } : Jvm.MethodName) jdk_67_method_7_code (2 : Nat) (Option.some (Jvm.ClassFile.FieldType.object "java/lang/StringBuilder"))).before a0 Z = true := mw hw 256 rfl
theorem w257 (hw : HW a0 Z) : (Jvm.Cond.methodLink "java/lang/StringBuilder" (29 : Nat) ({ cls := "java/lang/AbstractStringBuilder", name := "append", desc := "(Ljava/lang/String;)Ljava/lang/AbstractStringBuilder;" } : Jvm.MethodName)).before a0 Z = true := mw hw 257 rfl
theorem w258 (hw : HW a0 Z) : (Jvm.Cond.instanceMethod ({ cls := "java/lang/AbstractStringBuilder", name := "append", desc := "(Ljava/lang/String;)Ljava/lang/AbstractStringBuilder;" } : Jvm.MethodName)).before a0 Z = true := mw hw 258 rfl
theorem w260 (hw : HW a0 Z) : (Jvm.Cond.code ({ cls := "java/lang/AbstractStringBuilder", name := "append", desc := "(Ljava/lang/String;)Ljava/lang/AbstractStringBuilder;" } : Jvm.MethodName) jdk_68_method_22_code (3 : Nat) (Option.some (Jvm.ClassFile.FieldType.object "java/lang/AbstractStringBuilder"))).before a0 Z = true := mw hw 260 rfl
theorem w261 (hw : HW a0 Z) : (Jvm.Cond.methodLink "java/lang/AbstractStringBuilder" (32 : Nat) ({ cls := "java/lang/String", name := "length", desc := "()I" } : Jvm.MethodName)).before a0 Z = true := mw hw 261 rfl
theorem w262 (hw : HW a0 Z) : (Jvm.Cond.methodLink "java/lang/AbstractStringBuilder" (208 : Nat) ({ cls := "java/lang/AbstractStringBuilder", name := "putStringAt", desc := "(ILjava/lang/String;)V" } : Jvm.MethodName)).before a0 Z = true := mw hw 262 rfl
theorem w263 (hw : HW a0 Z) : (Jvm.Cond.instanceMethod ({ cls := "java/lang/AbstractStringBuilder", name := "putStringAt", desc := "(ILjava/lang/String;)V" } : Jvm.MethodName)).before a0 Z = true := mw hw 263 rfl
theorem w264 (hw : HW a0 Z) : (Jvm.Cond.privateMethod ({ cls := "java/lang/AbstractStringBuilder", name := "putStringAt", desc := "(ILjava/lang/String;)V" } : Jvm.MethodName)).before a0 Z = true := mw hw 264 rfl
theorem w265 (hw : HW a0 Z) : (Jvm.Cond.selects "java/lang/StringBuilder" ({ cls := "java/lang/AbstractStringBuilder", name := "putStringAt", desc := "(ILjava/lang/String;)V" } : Jvm.MethodName) ({ cls := "java/lang/AbstractStringBuilder", name := "putStringAt", desc := "(ILjava/lang/String;)V" } : Jvm.MethodName)).before a0 Z = true := mw hw 265 rfl
theorem w266 (hw : HW a0 Z) : (Jvm.Cond.code ({ cls := "java/lang/AbstractStringBuilder", name := "putStringAt", desc := "(ILjava/lang/String;)V" } : Jvm.MethodName) jdk_68_method_73_code (3 : Nat) (Option.none : Option Jvm.ClassFile.FieldType)).before a0 Z = true := mw hw 266 rfl
theorem w267 (hw : HW a0 Z) : (Jvm.Cond.methodLink "java/lang/AbstractStringBuilder" (397 : Nat) ({ cls := "java/lang/AbstractStringBuilder", name := "inflateIfNeededFor", desc := "(Ljava/lang/String;)V" } : Jvm.MethodName)).before a0 Z = true := mw hw 267 rfl
theorem w268 (hw : HW a0 Z) : (Jvm.Cond.instanceMethod ({ cls := "java/lang/AbstractStringBuilder", name := "inflateIfNeededFor", desc := "(Ljava/lang/String;)V" } : Jvm.MethodName)).before a0 Z = true := mw hw 268 rfl
theorem w269 (hw : HW a0 Z) : (Jvm.Cond.privateMethod ({ cls := "java/lang/AbstractStringBuilder", name := "inflateIfNeededFor", desc := "(Ljava/lang/String;)V" } : Jvm.MethodName)).before a0 Z = true := mw hw 269 rfl
theorem w270 (hw : HW a0 Z) : (Jvm.Cond.selects "java/lang/StringBuilder" ({ cls := "java/lang/AbstractStringBuilder", name := "inflateIfNeededFor", desc := "(Ljava/lang/String;)V" } : Jvm.MethodName) ({ cls := "java/lang/AbstractStringBuilder", name := "inflateIfNeededFor", desc := "(Ljava/lang/String;)V" } : Jvm.MethodName)).before a0 Z = true := mw hw 270 rfl
theorem w271 (hw : HW a0 Z) : (Jvm.Cond.code ({ cls := "java/lang/AbstractStringBuilder", name := "inflateIfNeededFor", desc := "(Ljava/lang/String;)V" } : Jvm.MethodName) jdk_68_method_71_code (2 : Nat) (Option.none : Option Jvm.ClassFile.FieldType)).before a0 Z = true := mw hw 271 rfl
theorem w272 (hw : HW a0 Z) : (Jvm.Cond.methodLink "java/lang/AbstractStringBuilder" (40 : Nat) ({ cls := "java/lang/String", name := "coder", desc := "()B" } : Jvm.MethodName)).before a0 Z = true := mw hw 272 rfl
theorem w273 (hw : HW a0 Z) : (Jvm.Cond.methodLink "java/lang/AbstractStringBuilder" (399 : Nat) ({ cls := "java/lang/String", name := "getBytes", desc := "([BIB)V" } : Jvm.MethodName)).before a0 Z = true := mw hw 273 rfl
theorem w274 (hw : HW a0 Z) : (Jvm.Cond.declares ({ cls := "java/lang/String", name := "getBytes", desc := "([BIB)V" } : Jvm.MethodName)).before a0 Z = true := mw hw 274 rfl
theorem w275 (hw : HW a0 Z) : (Jvm.Cond.instanceMethod ({ cls := "java/lang/String", name := "getBytes", desc := "([BIB)V" } : Jvm.MethodName)).before a0 Z = true := mw hw 275 rfl
theorem w276 (hw : HW a0 Z) : (Jvm.Cond.selects "java/lang/String" ({ cls := "java/lang/String", name := "getBytes", desc := "([BIB)V" } : Jvm.MethodName) ({ cls := "java/lang/String", name := "getBytes", desc := "([BIB)V" } : Jvm.MethodName)).before a0 Z = true := mw hw 276 rfl
theorem w277 (hw : HW a0 Z) : (Jvm.Cond.code ({ cls := "java/lang/String", name := "getBytes", desc := "([BIB)V" } : Jvm.MethodName) jdk_42_method_147_code (4 : Nat) (Option.none : Option Jvm.ClassFile.FieldType)).before a0 Z = true := mw hw 277 rfl
theorem w278 (hw : HW a0 Z) : (Jvm.Cond.methodLink "java/lang/String" (212 : Nat) ({ cls := "java/lang/System", name := "arraycopy", desc := "(Ljava/lang/Object;ILjava/lang/Object;II)V" } : Jvm.MethodName)).before a0 Z = true := mw hw 278 rfl
theorem w279 (hw : HW a0 Z) : (Jvm.Cond.methodLink "com/example/patents_via_api/patentsviaapi/http/QueryString" (28 : Nat) ({ cls := "java/lang/StringBuilder", name := "append", desc := "(C)Ljava/lang/StringBuilder;" } : Jvm.MethodName)).before a0 Z = true := mw hw 279 rfl
theorem w280 (hw : HW a0 Z) : (Jvm.Cond.stringLink "com/example/patents_via_api/patentsviaapi/http/QueryString" (42 : Nat) ":@/?!$'()*,").before a0 Z = true := mw hw 280 rfl
theorem w281 (hw : HW a0 Z) : (Jvm.Cond.methodLink "java/lang/StringLatin1" (95 : Nat) ({ cls := "java/lang/StringLatin1", name := "indexOfChar", desc := "([BIII)I" } : Jvm.MethodName)).before a0 Z = true := mw hw 281 rfl
theorem w282 (hw : HW a0 Z) : (Jvm.Cond.static ({ cls := "java/lang/StringLatin1", name := "indexOfChar", desc := "([BIII)I" } : Jvm.MethodName)).before a0 Z = true := mw hw 282 rfl
theorem w283 (hw : HW a0 Z) : (Jvm.Cond.code ({ cls := "java/lang/StringLatin1", name := "indexOfChar", desc := "([BIII)I" } : Jvm.MethodName) jdk_43_method_23_code (6 : Nat) (Option.some Jvm.ClassFile.FieldType.int)).before a0 Z = true := mw hw 283 rfl
theorem w284 (hw : HW a0 Z) : (Jvm.Cond.stringLink "com/example/patents_via_api/patentsviaapi/http/QueryStringIsEmptyPinLaw" (38 : Nat) "").before a0 Z = true := mw hw 284 rfl
theorem w285 (hw : HW a0 Z) : (Jvm.Cond.methodLink "com/example/patents_via_api/patentsviaapi/http/QueryStringIsEmptyPinLaw" (35 : Nat) ({ cls := "com/example/patents_via_api/patentsviaapi/http/QueryString", name := "add", desc := "(Ljava/lang/String;Ljava/lang/String;)Lcom/example/patents_via_api/patentsviaapi/http/QueryString;" } : Jvm.MethodName)).before a0 Z = true := mw hw 285 rfl
theorem w286 (hw : HW a0 Z) : (Jvm.Cond.declares ({ cls := "com/example/patents_via_api/patentsviaapi/http/QueryString", name := "add", desc := "(Ljava/lang/String;Ljava/lang/String;)Lcom/example/patents_via_api/patentsviaapi/http/QueryString;" } : Jvm.MethodName)).before a0 Z = true := mw hw 286 rfl
theorem w287 (hw : HW a0 Z) : (Jvm.Cond.instanceMethod ({ cls := "com/example/patents_via_api/patentsviaapi/http/QueryString", name := "add", desc := "(Ljava/lang/String;Ljava/lang/String;)Lcom/example/patents_via_api/patentsviaapi/http/QueryString;" } : Jvm.MethodName)).before a0 Z = true := mw hw 287 rfl
theorem w288 (hw : HW a0 Z) : (Jvm.Cond.selects "com/example/patents_via_api/patentsviaapi/http/QueryString" ({ cls := "com/example/patents_via_api/patentsviaapi/http/QueryString", name := "add", desc := "(Ljava/lang/String;Ljava/lang/String;)Lcom/example/patents_via_api/patentsviaapi/http/QueryString;" } : Jvm.MethodName) ({ cls := "com/example/patents_via_api/patentsviaapi/http/QueryString", name := "add", desc := "(Ljava/lang/String;Ljava/lang/String;)Lcom/example/patents_via_api/patentsviaapi/http/QueryString;" } : Jvm.MethodName)).before a0 Z = true := mw hw 288 rfl
theorem w289 (hw : HW a0 Z) : (Jvm.Cond.code ({ cls := "com/example/patents_via_api/patentsviaapi/http/QueryString", name := "add", desc := "(Ljava/lang/String;Ljava/lang/String;)Lcom/example/patents_via_api/patentsviaapi/http/QueryString;" } : Jvm.MethodName) prog_16_method_2_code (3 : Nat) (Option.some (Jvm.ClassFile.FieldType.object "com/example/patents_via_api/patentsviaapi/http/QueryString"))).before a0 Z = true := mw hw 289 rfl
theorem w290 (hw : HW a0 Z) : (Jvm.Cond.methodLink "java/lang/String" (279 : Nat) ({ cls := "[B", name := "clone", desc := "()Ljava/lang/Object;" } : Jvm.MethodName)).before a0 Z = true := mw hw 290 rfl
theorem w291 (hw : HW a0 Z) : (Jvm.Cond.sameMethod "[B" "java/lang/Object" "clone" "()Ljava/lang/Object;").before a0 Z = true := mw hw 291 rfl
theorem w293 (hw : HW a0 Z) : (Jvm.Cond.instanceMethod ({ cls := "java/lang/Object", name := "clone", desc := "()Ljava/lang/Object;" } : Jvm.MethodName)).before a0 Z = true := mw hw 293 rfl
theorem w294 (hw : HW a0 Z) : (Jvm.Cond.selects "[B" ({ cls := "[B", name := "clone", desc := "()Ljava/lang/Object;" } : Jvm.MethodName) ({ cls := "java/lang/Object", name := "clone", desc := "()Ljava/lang/Object;" } : Jvm.MethodName)).before a0 Z = true := mw hw 294 rfl
theorem w295 (hw : HW a0 Z) : (Jvm.Cond.native ({ cls := "java/lang/Object", name := "clone", desc := "()Ljava/lang/Object;" } : Jvm.MethodName)).before a0 Z = true := mw hw 295 rfl
theorem w296 (hw : HW a0 Z) : (Jvm.Cond.castable "[B" "java/lang/Cloneable").before a0 Z = true := mw hw 296 rfl
theorem w297 (hw : HW a0 Z) : (Jvm.Cond.classLink "java/lang/String" (280 : Nat) "[B").before a0 Z = true := mw hw 297 rfl
theorem w299 (hw : HW a0 Z) : (Jvm.Cond.methodLink "java/util/Arrays" (310 : Nat) ({ cls := "[B", name := "clone", desc := "()Ljava/lang/Object;" } : Jvm.MethodName)).before a0 Z = true := mw hw 299 rfl
theorem w300 (hw : HW a0 Z) : (Jvm.Cond.classLink "java/util/Arrays" (311 : Nat) "[B").before a0 Z = true := mw hw 300 rfl
end
theorem ef_isLatin1 (m : MethodId) (x0 : Addr) : entryFrame m #[(.ref x0)] 1 = mkF m 0 #[.val (.ref x0)] [] := rfl
theorem pn_java_lang_String : plainName "java/lang/String" = true := by first | (simp [plainName, overriddenIn]; done) | decide +kernel
abbrev c_0 := jdk_42_method_154_code
theorem d0_0 : decode c_0 0 = .ok (.getstatic 38, 3) := by decide +kernel
theorem d0_3 : decode c_0 3 = .ok (.ifCond .eq 14, 3) := by decide +kernel
theorem d0_6 : decode c_0 6 = .ok (.aload_n 0, 1) := by decide +kernel
theorem d0_7 : decode c_0 7 = .ok (.getfield 15, 3) := by decide +kernel
theorem d0_10 : decode c_0 10 = .ok (.ifCond .ne 7, 3) := by decide +kernel
theorem d0_13 : decode c_0 13 = .ok (.iconst 1, 1) := by decide +kernel
theorem d0_14 : decode c_0 14 = .ok (.goto 4, 3) := by decide +kernel
theorem d0_17 : decode c_0 17 = .ok (.iconst 0, 1) := by decide +kernel
theorem d0_18 : decode c_0 18 = .ok (.ireturn, 1) := by decide +kernel
abbrev yn0 : MethodName := ⟨"java/lang/String", "isLatin1", "()Z"⟩
abbrev CT (l : Launch) (y : MethodName) (cs : List Jvm.Cond) (R : Room) (A : Array Value) (Z : State) (h0 : Heap) (Q : Option Value → Heap → List Loc → Prop) : Prop := MetFree l y (head1 cs R) (fun aQ_ UQ => aQ_ = A ∧ Z.Warmed39 UQ.vm ∧ UQ.heap = h0) (fun _ _ _ _ _ => True) (fun _ UQ oQ UQ' => ∃ vQ_ LQ_, oQ = .returned vQ_ ∧ Q vQ_ UQ'.heap LQ_ ∧ FrameEnd UQ oQ UQ' LQ_ R.cells R.slots)
theorem ef_coder (m : MethodId) (x0 : Addr) : entryFrame m #[(.ref x0)] 1 = mkF m 0 #[.val (.ref x0)] [] := rfl
abbrev c_1 := jdk_42_method_152_code
theorem d1_0 : decode c_1 0 = .ok (.getstatic 38, 3) := by decide +kernel
theorem d1_3 : decode c_1 3 = .ok (.ifCond .eq 10, 3) := by decide +kernel
theorem d1_6 : decode c_1 6 = .ok (.aload_n 0, 1) := by decide +kernel
theorem d1_7 : decode c_1 7 = .ok (.getfield 15, 3) := by decide +kernel
theorem d1_10 : decode c_1 10 = .ok (.goto 4, 3) := by decide +kernel
theorem d1_14 : decode c_1 14 = .ok (.ireturn, 1) := by decide +kernel
abbrev yn1 : MethodName := ⟨"java/lang/String", "coder", "()B"⟩
theorem ef_length (m : MethodId) (x0 : Addr) : entryFrame m #[(.ref x0)] 1 = mkF m 0 #[.val (.ref x0)] [] := rfl
abbrev c_2 := jdk_42_method_54_code
theorem d2_0 : decode c_2 0 = .ok (.aload_n 0, 1) := by decide +kernel
theorem d2_1 : decode c_2 1 = .ok (.getfield 9, 3) := by decide +kernel
theorem d2_4 : decode c_2 4 = .ok (.arraylength, 1) := by decide +kernel
theorem d2_5 : decode c_2 5 = .ok (.aload_n 0, 1) := by decide +kernel
theorem d2_6 : decode c_2 6 = .ok (.invokevirtual 335, 3) := by decide +kernel
theorem pd0 : parseMethodDescriptor "()B" = some ⟨[], some .byte⟩ := by decide +kernel
theorem d2_9 : decode c_2 9 = .ok (.ishr, 1) := by decide +kernel
theorem d2_10 : decode c_2 10 = .ok (.ireturn, 1) := by decide +kernel
abbrev yn2 : MethodName := ⟨"java/lang/String", "length", "()I"⟩
theorem ef_checkLength (m : MethodId) (x0 : Int32) (x1 : Int32) : entryFrame m #[(.int x0), (.int x1)] 2 = mkF m 0 #[.val (.int x0), .val (.int x1)] [] := rfl
theorem pn_java_util_Arrays : plainName "java/util/Arrays" = true := by first | (simp [plainName, overriddenIn]; done) | decide +kernel
abbrev c_3 := jdk_65_method_131_code
theorem d3_0 : decode c_3 0 = .ok (.iload_n 1, 1) := by decide +kernel
theorem d3_1 : decode c_3 1 = .ok (.iload_n 0, 1) := by decide +kernel
theorem d3_2 : decode c_3 2 = .ok (.if_icmp .ge 35, 3) := by decide +kernel
theorem d3_37 : decode c_3 37 = .ok (.return_, 1) := by decide +kernel
abbrev yn3 : MethodName := ⟨"java/util/Arrays", "checkLength", "(II)V"⟩
theorem ef_mini (m : MethodId) (x0 : Int32) (x1 : Int32) : entryFrame m #[(.int x0), (.int x1)] 2 = mkF m 0 #[.val (.int x0), .val (.int x1)] [] := rfl
abbrev c_4 := jdk_29_method_69_code
theorem d4_0 : decode c_4 0 = .ok (.iload_n 0, 1) := by decide +kernel
theorem d4_1 : decode c_4 1 = .ok (.iload_n 1, 1) := by decide +kernel
theorem d4_2 : decode c_4 2 = .ok (.if_icmp .gt 7, 3) := by decide +kernel
theorem d4_9 : decode c_4 9 = .ok (.iload_n 1, 1) := by decide +kernel
theorem d4_5 : decode c_4 5 = .ok (.iload_n 0, 1) := by decide +kernel
theorem d4_6 : decode c_4 6 = .ok (.goto 4, 3) := by decide +kernel
theorem d4_10 : decode c_4 10 = .ok (.ireturn, 1) := by decide +kernel
abbrev yn4 : MethodName := ⟨"java/lang/Math", "min", "(II)I"⟩
theorem ef_corb (m : MethodId) (x0 : Addr) (x1 : Int32) (x2 : Int32) : entryFrame m #[(.ref x0), (.int x1), (.int x2)] 5 = mkF m 0 #[.val (.ref x0), .val (.int x1), .val (.int x2), .unset, .unset] [] := rfl
abbrev c_5 := jdk_65_method_133_code
theorem d5_0 : decode c_5 0 = .ok (.iload_n 1, 1) := by decide +kernel
theorem d5_1 : decode c_5 1 = .ok (.iload_n 2, 1) := by decide +kernel
theorem d5_2 : decode c_5 2 = .ok (.invokestatic 343, 3) := by decide +kernel
theorem pd1 : parseMethodDescriptor "(II)V" = some ⟨[.int, .int], none⟩ := by decide +kernel
theorem d5_5 : decode c_5 5 = .ok (.iload_n 2, 1) := by decide +kernel
theorem d5_6 : decode c_5 6 = .ok (.iload_n 1, 1) := by decide +kernel
theorem d5_7 : decode c_5 7 = .ok (.isub, 1) := by decide +kernel
theorem d5_8 : decode c_5 8 = .ok (.istore_n 3, 1) := by decide +kernel
theorem d5_9 : decode c_5 9 = .ok (.iload_n 3, 1) := by decide +kernel
theorem d5_10 : decode c_5 10 = .ok (.newarray .byte, 2) := by decide +kernel
theorem d5_12 : decode c_5 12 = .ok (.astore 4, 2) := by decide +kernel
theorem d5_14 : decode c_5 14 = .ok (.aload_n 0, 1) := by decide +kernel
theorem d5_15 : decode c_5 15 = .ok (.iload_n 1, 1) := by decide +kernel
theorem d5_16 : decode c_5 16 = .ok (.aload 4, 2) := by decide +kernel
theorem d5_18 : decode c_5 18 = .ok (.iconst 0, 1) := by decide +kernel
theorem d5_19 : decode c_5 19 = .ok (.aload_n 0, 1) := by decide +kernel
theorem d5_20 : decode c_5 20 = .ok (.arraylength, 1) := by decide +kernel
theorem d5_21 : decode c_5 21 = .ok (.iload_n 1, 1) := by decide +kernel
theorem d5_22 : decode c_5 22 = .ok (.isub, 1) := by decide +kernel
theorem d5_23 : decode c_5 23 = .ok (.iload_n 3, 1) := by decide +kernel
theorem d5_24 : decode c_5 24 = .ok (.invokestatic 304, 3) := by decide +kernel
theorem pd2 : parseMethodDescriptor "(II)I" = some ⟨[.int, .int], some .int⟩ := by decide +kernel
theorem d5_27 : decode c_5 27 = .ok (.invokestatic 150, 3) := by decide +kernel
theorem d5_30 : decode c_5 30 = .ok (.aload 4, 2) := by decide +kernel
theorem d5_32 : decode c_5 32 = .ok (.areturn, 1) := by decide +kernel
abbrev yn5 : MethodName := ⟨"java/util/Arrays", "copyOfRangeByte", "([BII)[B"⟩
theorem ef_cor (m : MethodId) (x0 : Addr) (x1 : Int32) (x2 : Int32) : entryFrame m #[(.ref x0), (.int x1), (.int x2)] 3 = mkF m 0 #[.val (.ref x0), .val (.int x1), .val (.int x2)] [] := rfl
abbrev c_6 := jdk_65_method_132_code
theorem d6_0 : decode c_6 0 = .ok (.iload_n 1, 1) := by decide +kernel
theorem d6_1 : decode c_6 1 = .ok (.ifCond .ne 9, 3) := by decide +kernel
theorem d6_4 : decode c_6 4 = .ok (.iload_n 2, 1) := by decide +kernel
theorem d6_5 : decode c_6 5 = .ok (.aload_n 0, 1) := by decide +kernel
theorem d6_6 : decode c_6 6 = .ok (.arraylength, 1) := by decide +kernel
theorem d6_7 : decode c_6 7 = .ok (.if_icmp .eq 10, 3) := by decide +kernel
theorem d6_10 : decode c_6 10 = .ok (.aload_n 0, 1) := by decide +kernel
theorem d6_11 : decode c_6 11 = .ok (.iload_n 1, 1) := by decide +kernel
theorem d6_12 : decode c_6 12 = .ok (.iload_n 2, 1) := by decide +kernel
theorem d6_13 : decode c_6 13 = .ok (.invokestatic 339, 3) := by decide +kernel
theorem pd3 : parseMethodDescriptor "([BII)[B" = some ⟨[(.array .byte), .int, .int], some (.array .byte)⟩ := by decide +kernel
theorem d6_16 : decode c_6 16 = .ok (.areturn, 1) := by decide +kernel
abbrev yn6 : MethodName := ⟨"java/util/Arrays", "copyOfRange", "([BII)[B"⟩
theorem ef_maxi (m : MethodId) (x0 : Int32) (x1 : Int32) : entryFrame m #[(.int x0), (.int x1)] 2 = mkF m 0 #[.val (.int x0), .val (.int x1)] [] := rfl
abbrev c_7 := jdk_29_method_65_code
theorem d7_0 : decode c_7 0 = .ok (.iload_n 0, 1) := by decide +kernel
theorem d7_1 : decode c_7 1 = .ok (.iload_n 1, 1) := by decide +kernel
theorem d7_2 : decode c_7 2 = .ok (.if_icmp .lt 7, 3) := by decide +kernel
theorem d7_9 : decode c_7 9 = .ok (.iload_n 1, 1) := by decide +kernel
theorem d7_5 : decode c_7 5 = .ok (.iload_n 0, 1) := by decide +kernel
theorem d7_6 : decode c_7 6 = .ok (.goto 4, 3) := by decide +kernel
theorem d7_10 : decode c_7 10 = .ok (.ireturn, 1) := by decide +kernel
abbrev yn7 : MethodName := ⟨"java/lang/Math", "max", "(II)I"⟩
theorem ef_newLength (m : MethodId) (x0 : Int32) (x1 : Int32) (x2 : Int32) : entryFrame m #[(.int x0), (.int x1), (.int x2)] 4 = mkF m 0 #[.val (.int x0), .val (.int x1), .val (.int x2), .unset] [] := rfl
theorem pn_jdk_internal_util_ArraysSupport : plainName "jdk/internal/util/ArraysSupport" = true := by first | (simp [plainName, overriddenIn]; done) | decide +kernel
abbrev c_8 := jdk_48_method_27_code
theorem d8_0 : decode c_8 0 = .ok (.iload_n 0, 1) := by decide +kernel
theorem d8_1 : decode c_8 1 = .ok (.iload_n 1, 1) := by decide +kernel
theorem d8_2 : decode c_8 2 = .ok (.iload_n 2, 1) := by decide +kernel
theorem d8_3 : decode c_8 3 = .ok (.invokestatic 194, 3) := by decide +kernel
theorem d8_6 : decode c_8 6 = .ok (.iadd, 1) := by decide +kernel
theorem d8_7 : decode c_8 7 = .ok (.istore_n 3, 1) := by decide +kernel
theorem d8_8 : decode c_8 8 = .ok (.iconst 0, 1) := by decide +kernel
theorem d8_9 : decode c_8 9 = .ok (.iload_n 3, 1) := by decide +kernel
theorem d8_10 : decode c_8 10 = .ok (.if_icmp .ge 11, 3) := by decide +kernel
theorem d8_13 : decode c_8 13 = .ok (.iload_n 3, 1) := by decide +kernel
theorem d8_14 : decode c_8 14 = .ok (.ldc 200, 2) := by decide +kernel
theorem d8_16 : decode c_8 16 = .ok (.if_icmp .gt 5, 3) := by decide +kernel
theorem d8_19 : decode c_8 19 = .ok (.iload_n 3, 1) := by decide +kernel
theorem d8_20 : decode c_8 20 = .ok (.ireturn, 1) := by decide +kernel
abbrev yn8 : MethodName := ⟨"jdk/internal/util/ArraysSupport", "newLength", "(III)I"⟩
theorem ef_newCap (m : MethodId) (x0 : Addr) (x1 : Int32) : entryFrame m #[(.ref x0), (.int x1)] 6 = mkF m 0 #[.val (.ref x0), .val (.int x1), .unset, .unset, .unset, .unset] [] := rfl
theorem pn_java_lang_AbstractStringBuilder : plainName "java/lang/AbstractStringBuilder" = true := by first | (simp [plainName, overriddenIn]; done) | decide +kernel
abbrev c_9 := jdk_68_method_10_code
theorem d9_0 : decode c_9 0 = .ok (.aload_n 0, 1) := by decide +kernel
theorem d9_1 : decode c_9 1 = .ok (.getfield 15, 3) := by decide +kernel
theorem d9_4 : decode c_9 4 = .ok (.arraylength, 1) := by decide +kernel
theorem d9_5 : decode c_9 5 = .ok (.istore_n 2, 1) := by decide +kernel
theorem d9_6 : decode c_9 6 = .ok (.iload_n 1, 1) := by decide +kernel
theorem d9_7 : decode c_9 7 = .ok (.aload_n 0, 1) := by decide +kernel
theorem d9_8 : decode c_9 8 = .ok (.getfield 22, 3) := by decide +kernel
theorem d9_11 : decode c_9 11 = .ok (.ishl, 1) := by decide +kernel
theorem d9_12 : decode c_9 12 = .ok (.istore_n 3, 1) := by decide +kernel
theorem d9_13 : decode c_9 13 = .ok (.iload_n 3, 1) := by decide +kernel
theorem d9_14 : decode c_9 14 = .ok (.iload_n 2, 1) := by decide +kernel
theorem d9_15 : decode c_9 15 = .ok (.isub, 1) := by decide +kernel
theorem d9_16 : decode c_9 16 = .ok (.istore 4, 2) := by decide +kernel
theorem d9_18 : decode c_9 18 = .ok (.iload_n 2, 1) := by decide +kernel
theorem d9_19 : decode c_9 19 = .ok (.iload 4, 2) := by decide +kernel
theorem d9_21 : decode c_9 21 = .ok (.iload_n 2, 1) := by decide +kernel
theorem d9_22 : decode c_9 22 = .ok (.iconst 2, 1) := by decide +kernel
theorem d9_23 : decode c_9 23 = .ok (.aload_n 0, 1) := by decide +kernel
theorem d9_24 : decode c_9 24 = .ok (.getfield 22, 3) := by decide +kernel
theorem d9_27 : decode c_9 27 = .ok (.ishl, 1) := by decide +kernel
theorem d9_28 : decode c_9 28 = .ok (.iadd, 1) := by decide +kernel
theorem d9_29 : decode c_9 29 = .ok (.invokestatic 114, 3) := by decide +kernel
theorem pd4 : parseMethodDescriptor "(III)I" = some ⟨[.int, .int, .int], some .int⟩ := by decide +kernel
theorem d9_32 : decode c_9 32 = .ok (.istore 5, 2) := by decide +kernel
theorem d9_34 : decode c_9 34 = .ok (.iload 5, 2) := by decide +kernel
theorem d9_36 : decode c_9 36 = .ok (.ldc 39, 2) := by decide +kernel
theorem d9_38 : decode c_9 38 = .ok (.if_icmp .ne 13, 3) := by decide +kernel
theorem d9_51 : decode c_9 51 = .ok (.iload 5, 2) := by decide +kernel
theorem d9_53 : decode c_9 53 = .ok (.aload_n 0, 1) := by decide +kernel
theorem d9_54 : decode c_9 54 = .ok (.getfield 22, 3) := by decide +kernel
theorem d9_57 : decode c_9 57 = .ok (.ishr, 1) := by decide +kernel
theorem d9_58 : decode c_9 58 = .ok (.ireturn, 1) := by decide +kernel
abbrev yn9 : MethodName := ⟨"java/lang/AbstractStringBuilder", "newCapacity", "(I)I"⟩
theorem ef_abLatin (m : MethodId) (x0 : Addr) : entryFrame m #[(.ref x0)] 1 = mkF m 0 #[.val (.ref x0)] [] := rfl
abbrev c_10 := jdk_68_method_68_code
theorem d10_0 : decode c_10 0 = .ok (.getstatic 18, 3) := by decide +kernel
theorem d10_3 : decode c_10 3 = .ok (.ifCond .eq 14, 3) := by decide +kernel
theorem d10_6 : decode c_10 6 = .ok (.aload_n 0, 1) := by decide +kernel
theorem d10_7 : decode c_10 7 = .ok (.getfield 22, 3) := by decide +kernel
theorem d10_10 : decode c_10 10 = .ok (.ifCond .ne 7, 3) := by decide +kernel
theorem d10_13 : decode c_10 13 = .ok (.iconst 1, 1) := by decide +kernel
theorem d10_14 : decode c_10 14 = .ok (.goto 4, 3) := by decide +kernel
theorem d10_18 : decode c_10 18 = .ok (.ireturn, 1) := by decide +kernel
abbrev yn10 : MethodName := ⟨"java/lang/AbstractStringBuilder", "isLatin1", "()Z"⟩
theorem ef_canEncode (m : MethodId) (x0 : Int32) : entryFrame m #[(.int x0)] 1 = mkF m 0 #[.val (.int x0)] [] := rfl
theorem pn_java_lang_StringLatin1 : plainName "java/lang/StringLatin1" = true := by first | (simp [plainName, overriddenIn]; done) | decide +kernel
abbrev c_11 := jdk_43_method_3_code
theorem d11_0 : decode c_11 0 = .ok (.iload_n 0, 1) := by decide +kernel
theorem d11_1 : decode c_11 1 = .ok (.sipush 255, 3) := by decide +kernel
theorem d11_4 : decode c_11 4 = .ok (.if_icmp .gt 7, 3) := by decide +kernel
theorem d11_7 : decode c_11 7 = .ok (.iconst 1, 1) := by decide +kernel
theorem d11_8 : decode c_11 8 = .ok (.goto 4, 3) := by decide +kernel
theorem d11_12 : decode c_11 12 = .ok (.ireturn, 1) := by decide +kernel
abbrev yn11 : MethodName := ⟨"java/lang/StringLatin1", "canEncode", "(C)Z"⟩
theorem ef_copyOf6 (m : MethodId) (x0 : Addr) (x1 : Int32) : entryFrame m #[(.ref x0), (.int x1)] 3 = mkF m 0 #[.val (.ref x0), .val (.int x1), .unset] [] := rfl
abbrev c_12 := jdk_65_method_121_code
theorem d12_0 : decode c_12 0 = .ok (.iload_n 1, 1) := by decide +kernel
theorem d12_1 : decode c_12 1 = .ok (.aload_n 0, 1) := by decide +kernel
theorem d12_2 : decode c_12 2 = .ok (.arraylength, 1) := by decide +kernel
theorem d12_3 : decode c_12 3 = .ok (.if_icmp .ne 11, 3) := by decide +kernel
theorem d12_14 : decode c_12 14 = .ok (.iload_n 1, 1) := by decide +kernel
theorem d12_15 : decode c_12 15 = .ok (.newarray .byte, 2) := by decide +kernel
theorem own_newPE {p : Program} {l : Launch} {e : Env} {R : Room} {s : State} {m : MethodId} {args : Array Value} {below : List Frame} {meth : Method} {c : Code} {T : State} {locs : List Loc} {cells slots : Nat} {Z : State} {a0 : Array Value} {h : Heap}
    (X : Stand p l e R s m args below meth c T locs cells slots) (hx : p.tables.exec = Jvm.exec) (hZ : Z.Warmed39 s.vm) {aty : ArrayType} (w : (Jvm.Cond.arrayClass (newarray.typeOf aty)).before a0 Z = true) (eT : T.heap = h) {g : JFrame} (hg : g.method = m) (hd : decode c.code g.pc = .ok (.newarray aty, 2)) {n : Int32} {rest : List Value} (hs : g.stack = .int n :: rest)
    (hn : ¬ n < 0) {cap : Nat} (hcap : n.toNatClampNeg ≤ cap) (hb : cap * 8 ≤ 536870912) (hc : cells + 1 ≤ R.cells) (hl : slots + cap ≤ R.slots) {ad : String} (had : "[" ++ (newarray.typeOf aty).toString = ad) :
    ∃ T' h' cA, Stand p l e R s m args below meth c T' locs (cells + 1) (slots + cap) ∧ T'.heap = h' ∧ Ext h h' ∧ Arr Z h' h.size (newA cA (newarray.typeOf aty) n) (newarray.typeOf aty) ∧ Exa Z h' h.size ad ∧
      ∀ target, Steps p.tables e below (T'.setTop { g with pc := g.pc + 2, stack := .ref h.size :: rest }) target → Steps p.tables e below (T.setTop g) target := by
  have cb : componentBytes (newarray.typeOf aty) ≤ 8 := by cases aty <;> decide
  obtain ⟨cA, kA, comp, f1, f2, f3, Y, go⟩ := X.newarrayPrim hx (mvA hZ w) hg hd hs hn (Nat.le_trans (Nat.mul_le_mul hcap cb) hb) hc (by omega)
  rw [hZ.alike.findClass, had] at f1
  obtain ⟨kZ, u1, -⟩ := Vm.findClass_spec f1
  obtain ⟨kT, u2, u3⟩ := hZ.alike.2.2 _ _ u1
  have ek : kA = kT := Option.some.inj (f2.symm.trans u2)
  have kk : kZ.kind = .array comp (newarray.typeOf aty) := by rw [← f3, ek, u3]
  subst eT
  have A : Arr Z (T.heap.push (newA cA (newarray.typeOf aty) n)) T.heap.size (newA cA (newarray.typeOf aty) n) (newarray.typeOf aty) := ⟨by simp, ⟨by simp [newA], kZ, u1, comp, kk⟩, by simp [newA]⟩
  exact ⟨_, _, cA, Y.more (Nat.le_refl _) (by omega), rfl, ext_of fun a q => (Array.getElem?_push_lt q).trans (Array.getElem?_eq_getElem q).symm, A, exa_arr A f1 rfl, go⟩
theorem d12_17 : decode c_12 17 = .ok (.astore_n 2, 1) := by decide +kernel
theorem d12_18 : decode c_12 18 = .ok (.aload_n 0, 1) := by decide +kernel
theorem d12_19 : decode c_12 19 = .ok (.iconst 0, 1) := by decide +kernel
theorem d12_20 : decode c_12 20 = .ok (.aload_n 2, 1) := by decide +kernel
theorem d12_21 : decode c_12 21 = .ok (.iconst 0, 1) := by decide +kernel
theorem d12_22 : decode c_12 22 = .ok (.aload_n 0, 1) := by decide +kernel
theorem d12_23 : decode c_12 23 = .ok (.arraylength, 1) := by decide +kernel
theorem d12_24 : decode c_12 24 = .ok (.iload_n 1, 1) := by decide +kernel
theorem d12_25 : decode c_12 25 = .ok (.invokestatic 304, 3) := by decide +kernel
theorem d12_28 : decode c_12 28 = .ok (.invokestatic 150, 3) := by decide +kernel
theorem d12_31 : decode c_12 31 = .ok (.aload_n 2, 1) := by decide +kernel
theorem d12_32 : decode c_12 32 = .ok (.areturn, 1) := by decide +kernel
abbrev yn12 : MethodName := ⟨"java/util/Arrays", "copyOf", "([BI)[B"⟩
theorem ef_ensure6 (m : MethodId) (x0 : Addr) (x1 : Int32) : entryFrame m #[(.ref x0), (.int x1)] 3 = mkF m 0 #[.val (.ref x0), .val (.int x1), .unset] [] := rfl
abbrev c_13 := jdk_68_method_9_code
theorem d13_0 : decode c_13 0 = .ok (.aload_n 0, 1) := by decide +kernel
theorem d13_1 : decode c_13 1 = .ok (.getfield 15, 3) := by decide +kernel
theorem d13_4 : decode c_13 4 = .ok (.arraylength, 1) := by decide +kernel
theorem d13_5 : decode c_13 5 = .ok (.aload_n 0, 1) := by decide +kernel
theorem d13_6 : decode c_13 6 = .ok (.getfield 22, 3) := by decide +kernel
theorem d13_9 : decode c_13 9 = .ok (.ishr, 1) := by decide +kernel
theorem d13_10 : decode c_13 10 = .ok (.istore_n 2, 1) := by decide +kernel
theorem d13_11 : decode c_13 11 = .ok (.iload_n 1, 1) := by decide +kernel
theorem d13_12 : decode c_13 12 = .ok (.iload_n 2, 1) := by decide +kernel
theorem d13_13 : decode c_13 13 = .ok (.isub, 1) := by decide +kernel
theorem d13_14 : decode c_13 14 = .ok (.ifCond .le 24, 3) := by decide +kernel
theorem d13_38 : decode c_13 38 = .ok (.return_, 1) := by decide +kernel
theorem d13_17 : decode c_13 17 = .ok (.aload_n 0, 1) := by decide +kernel
theorem d13_18 : decode c_13 18 = .ok (.aload_n 0, 1) := by decide +kernel
theorem d13_19 : decode c_13 19 = .ok (.getfield 15, 3) := by decide +kernel
theorem d13_22 : decode c_13 22 = .ok (.aload_n 0, 1) := by decide +kernel
theorem d13_23 : decode c_13 23 = .ok (.iload_n 1, 1) := by decide +kernel
theorem d13_24 : decode c_13 24 = .ok (.invokevirtual 104, 3) := by decide +kernel
theorem pd5 : parseMethodDescriptor "(I)I" = some ⟨[.int], some .int⟩ := by decide +kernel
theorem own_psel {a0 : Array Value} {Z : State} {C : String} {y : MethodName} (hs : (Jvm.Cond.selects C y y).before a0 Z = true) (hp : (Jvm.Cond.privateMethod y).before a0 Z = true) (hi : (Jvm.Cond.instanceMethod y).before a0 Z = true) (hy : y.cls ≠ "java/lang/invoke/MethodHandle" ∧ y.cls ≠ "java/lang/invoke/VarHandle") : (Jvm.Cond.selects y.cls y y).before a0 Z = true := by
  obtain ⟨c, r, m, h1, h2, h3, h4, k, hk, hki⟩ := Cond.selects_spec hs
  exact Jvm.Stand.selects_self_of_private (findClass_of_methodNamed h3) hk hki (Cond.privateMethod_at hp) hi hy
theorem d13_27 : decode c_13 27 = .ok (.aload_n 0, 1) := by decide +kernel
theorem d13_28 : decode c_13 28 = .ok (.getfield 22, 3) := by decide +kernel
theorem d13_31 : decode c_13 31 = .ok (.ishl, 1) := by decide +kernel
theorem d13_32 : decode c_13 32 = .ok (.invokestatic 108, 3) := by decide +kernel
theorem pd6 : parseMethodDescriptor "([BI)[B" = some ⟨[(.array .byte), .int], some (.array .byte)⟩ := by decide +kernel
theorem d13_35 : decode c_13 35 = .ok (.putfield 15, 3) := by decide +kernel
abbrev yn13 : MethodName := ⟨"java/lang/AbstractStringBuilder", "ensureCapacityInternal", "(I)V"⟩
theorem ef_abAppC6 (m : MethodId) (x0 : Addr) (x1 : Int32) : entryFrame m #[(.ref x0), (.int x1)] 2 = mkF m 0 #[.val (.ref x0), .val (.int x1)] [] := rfl
abbrev c_14 := jdk_68_method_31_code
theorem d14_0 : decode c_14 0 = .ok (.aload_n 0, 1) := by decide +kernel
theorem d14_1 : decode c_14 1 = .ok (.aload_n 0, 1) := by decide +kernel
theorem d14_2 : decode c_14 2 = .ok (.getfield 79, 3) := by decide +kernel
theorem d14_5 : decode c_14 5 = .ok (.iconst 1, 1) := by decide +kernel
theorem d14_6 : decode c_14 6 = .ok (.iadd, 1) := by decide +kernel
theorem d14_7 : decode c_14 7 = .ok (.invokevirtual 100, 3) := by decide +kernel
theorem pd7 : parseMethodDescriptor "(I)V" = some ⟨[.int], none⟩ := by decide +kernel
theorem d14_10 : decode c_14 10 = .ok (.aload_n 0, 1) := by decide +kernel
theorem d14_11 : decode c_14 11 = .ok (.invokevirtual 83, 3) := by decide +kernel
theorem pd8 : parseMethodDescriptor "()Z" = some ⟨[], some .boolean⟩ := by decide +kernel
theorem d14_14 : decode c_14 14 = .ok (.ifCond .eq 31, 3) := by decide +kernel
theorem d14_17 : decode c_14 17 = .ok (.iload_n 1, 1) := by decide +kernel
theorem d14_18 : decode c_14 18 = .ok (.invokestatic 191, 3) := by decide +kernel
theorem pd9 : parseMethodDescriptor "(C)Z" = some ⟨[.char], some .boolean⟩ := by decide +kernel
theorem d14_21 : decode c_14 21 = .ok (.ifCond .eq 24, 3) := by decide +kernel
theorem d14_24 : decode c_14 24 = .ok (.aload_n 0, 1) := by decide +kernel
theorem d14_25 : decode c_14 25 = .ok (.getfield 15, 3) := by decide +kernel
theorem d14_28 : decode c_14 28 = .ok (.aload_n 0, 1) := by decide +kernel
theorem d14_29 : decode c_14 29 = .ok (.dup, 1) := by decide +kernel
theorem d14_30 : decode c_14 30 = .ok (.getfield 79, 3) := by decide +kernel
theorem d14_33 : decode c_14 33 = .ok (.dup_x1, 1) := by decide +kernel
theorem d14_34 : decode c_14 34 = .ok (.iconst 1, 1) := by decide +kernel
theorem d14_35 : decode c_14 35 = .ok (.iadd, 1) := by decide +kernel
theorem d14_36 : decode c_14 36 = .ok (.putfield 79, 3) := by decide +kernel
theorem d14_39 : decode c_14 39 = .ok (.iload_n 1, 1) := by decide +kernel
theorem d14_40 : decode c_14 40 = .ok (.i2b, 1) := by decide +kernel
theorem d14_41 : decode c_14 41 = .ok (.bastore, 1) := by decide +kernel
theorem d14_42 : decode c_14 42 = .ok (.goto 33, 3) := by decide +kernel
theorem d14_75 : decode c_14 75 = .ok (.aload_n 0, 1) := by decide +kernel
theorem d14_76 : decode c_14 76 = .ok (.areturn, 1) := by decide +kernel
abbrev yn14 : MethodName := ⟨"java/lang/AbstractStringBuilder", "append", "(C)Ljava/lang/AbstractStringBuilder;"⟩
theorem ef_sbAppC6 (m : MethodId) (x0 : Addr) (x1 : Int32) : entryFrame m #[(.ref x0), (.int x1)] 2 = mkF m 0 #[.val (.ref x0), .val (.int x1)] [] := rfl
theorem pn_java_lang_StringBuilder : plainName "java/lang/StringBuilder" = true := by first | (simp [plainName, overriddenIn]; done) | decide +kernel
abbrev c_15 := jdk_67_method_14_code
theorem d15_0 : decode c_15 0 = .ok (.aload_n 0, 1) := by decide +kernel
theorem d15_1 : decode c_15 1 = .ok (.iload_n 1, 1) := by decide +kernel
theorem d15_2 : decode c_15 2 = .ok (.invokespecial 50, 3) := by decide +kernel
theorem pd10 : parseMethodDescriptor "(C)Ljava/lang/AbstractStringBuilder;" = some ⟨[.char], some (.object "java/lang/AbstractStringBuilder")⟩ := by decide +kernel
theorem own_nf {s : State} {args : Array Value} {C : String} {y y' : MethodName} (hc : y.cls = y'.cls) (hs : (Jvm.Cond.selects C y' y').before args s = true) (hd : (Jvm.Cond.declares y').before args s = true) : NotFace s y := fun r0 h0 => by
  obtain ⟨r1, r, hn, -⟩ := Cond.declares_spec hd
  obtain ⟨k, hk, hi⟩ := notFace_of_selects hs r1 hn
  have e1 := findClass_of_methodNamed h0
  rw [hc] at e1
  have e : r0.cls = r1.cls := Option.some.inj (e1.symm.trans (findClass_of_methodNamed hn))
  exact ⟨k, by rw [e]; exact hk, hi⟩
abbrev yn15 : MethodName := ⟨"java/lang/AbstractStringBuilder", "getValue", "()[B"⟩
theorem own_same {a0 : Array Value} {Z : State} {y : MethodName} (hy : y.cls ≠ "java/lang/invoke/MethodHandle" ∧ y.cls ≠ "java/lang/invoke/VarHandle") (wi : (Jvm.Cond.instanceMethod y).before a0 Z = true) (nf : NotFace Z y) : (Jvm.Cond.sameMethod y.cls y.cls y.name y.desc).before a0 Z = true := by
  obtain ⟨m, meth, hn, -, -, -⟩ := Cond.instanceMethod_spec wi
  obtain ⟨k, hk, hi⟩ := nf m hn
  have hc := findClass_of_methodNamed hn
  have hf := State.methodFound?_of_named hn hy
  have hn' : Z.methodNamed? ⟨y.cls, y.name, y.desc⟩ = some m := hn
  simp [Cond.before, Cond.holds, Cond.value, hc, hf, hn', hk, hi]
theorem d15_5 : decode c_15 5 = .ok (.pop, 1) := by decide +kernel
theorem d15_6 : decode c_15 6 = .ok (.aload_n 0, 1) := by decide +kernel
theorem d15_7 : decode c_15 7 = .ok (.areturn, 1) := by decide +kernel
abbrev yn16 : MethodName := ⟨"java/lang/StringBuilder", "append", "(C)Ljava/lang/StringBuilder;"⟩
theorem ef_copyOf42 (m : MethodId) (x0 : Addr) (x1 : Int32) : entryFrame m #[(.ref x0), (.int x1)] 3 = mkF m 0 #[.val (.ref x0), .val (.int x1), .unset] [] := rfl
theorem ef_ensure42 (m : MethodId) (x0 : Addr) (x1 : Int32) : entryFrame m #[(.ref x0), (.int x1)] 3 = mkF m 0 #[.val (.ref x0), .val (.int x1), .unset] [] := rfl
theorem ef_abAppC42 (m : MethodId) (x0 : Addr) (x1 : Int32) : entryFrame m #[(.ref x0), (.int x1)] 2 = mkF m 0 #[.val (.ref x0), .val (.int x1)] [] := rfl
theorem ef_sbAppC42 (m : MethodId) (x0 : Addr) (x1 : Int32) : entryFrame m #[(.ref x0), (.int x1)] 2 = mkF m 0 #[.val (.ref x0), .val (.int x1)] [] := rfl
theorem ef_sgetBytes (m : MethodId) (x0 : Addr) (x1 : Addr) (x2 : Int32) (x3 : Int32) : entryFrame m #[(.ref x0), (.ref x1), (.int x2), (.int x3)] 4 = mkF m 0 #[.val (.ref x0), .val (.ref x1), .val (.int x2), .val (.int x3)] [] := rfl
abbrev c_16 := jdk_42_method_147_code
theorem d16_0 : decode c_16 0 = .ok (.aload_n 0, 1) := by decide +kernel
theorem d16_1 : decode c_16 1 = .ok (.invokevirtual 335, 3) := by decide +kernel
theorem d16_4 : decode c_16 4 = .ok (.iload_n 3, 1) := by decide +kernel
theorem d16_5 : decode c_16 5 = .ok (.if_icmp .ne 23, 3) := by decide +kernel
theorem d16_8 : decode c_16 8 = .ok (.aload_n 0, 1) := by decide +kernel
theorem d16_9 : decode c_16 9 = .ok (.getfield 9, 3) := by decide +kernel
theorem d16_12 : decode c_16 12 = .ok (.iconst 0, 1) := by decide +kernel
theorem d16_13 : decode c_16 13 = .ok (.aload_n 1, 1) := by decide +kernel
theorem d16_14 : decode c_16 14 = .ok (.iload_n 2, 1) := by decide +kernel
theorem d16_15 : decode c_16 15 = .ok (.iload_n 3, 1) := by decide +kernel
theorem d16_16 : decode c_16 16 = .ok (.ishl, 1) := by decide +kernel
theorem d16_17 : decode c_16 17 = .ok (.aload_n 0, 1) := by decide +kernel
theorem d16_18 : decode c_16 18 = .ok (.getfield 9, 3) := by decide +kernel
theorem d16_21 : decode c_16 21 = .ok (.arraylength, 1) := by decide +kernel
theorem d16_22 : decode c_16 22 = .ok (.invokestatic 212, 3) := by decide +kernel
theorem d16_25 : decode c_16 25 = .ok (.goto 18, 3) := by decide +kernel
theorem d16_43 : decode c_16 43 = .ok (.return_, 1) := by decide +kernel
abbrev yn17 : MethodName := ⟨"java/lang/String", "getBytes", "([BIB)V"⟩
theorem ef_inflate (m : MethodId) (x0 : Addr) (x1 : Addr) : entryFrame m #[(.ref x0), (.ref x1)] 2 = mkF m 0 #[.val (.ref x0), .val (.ref x1)] [] := rfl
abbrev c_17 := jdk_68_method_71_code
theorem d17_0 : decode c_17 0 = .ok (.getstatic 18, 3) := by decide +kernel
theorem d17_3 : decode c_17 3 = .ok (.ifCond .eq 18, 3) := by decide +kernel
theorem d17_6 : decode c_17 6 = .ok (.aload_n 0, 1) := by decide +kernel
theorem d17_7 : decode c_17 7 = .ok (.getfield 22, 3) := by decide +kernel
theorem d17_10 : decode c_17 10 = .ok (.aload_n 1, 1) := by decide +kernel
theorem d17_11 : decode c_17 11 = .ok (.invokevirtual 40, 3) := by decide +kernel
theorem d17_14 : decode c_17 14 = .ok (.if_icmp .eq 7, 3) := by decide +kernel
theorem d17_21 : decode c_17 21 = .ok (.return_, 1) := by decide +kernel
abbrev yn18 : MethodName := ⟨"java/lang/AbstractStringBuilder", "inflateIfNeededFor", "(Ljava/lang/String;)V"⟩
theorem ef_putAt (m : MethodId) (x0 : Addr) (x1 : Int32) (x2 : Addr) : entryFrame m #[(.ref x0), (.int x1), (.ref x2)] 3 = mkF m 0 #[.val (.ref x0), .val (.int x1), .val (.ref x2)] [] := rfl
abbrev c_18 := jdk_68_method_73_code
theorem d18_0 : decode c_18 0 = .ok (.aload_n 0, 1) := by decide +kernel
theorem d18_1 : decode c_18 1 = .ok (.aload_n 2, 1) := by decide +kernel
theorem d18_2 : decode c_18 2 = .ok (.invokevirtual 397, 3) := by decide +kernel
theorem pd11 : parseMethodDescriptor "(Ljava/lang/String;)V" = some ⟨[(.object "java/lang/String")], none⟩ := by decide +kernel
theorem d18_5 : decode c_18 5 = .ok (.aload_n 2, 1) := by decide +kernel
theorem d18_6 : decode c_18 6 = .ok (.aload_n 0, 1) := by decide +kernel
theorem d18_7 : decode c_18 7 = .ok (.getfield 15, 3) := by decide +kernel
theorem d18_10 : decode c_18 10 = .ok (.iload_n 1, 1) := by decide +kernel
theorem d18_11 : decode c_18 11 = .ok (.aload_n 0, 1) := by decide +kernel
theorem d18_12 : decode c_18 12 = .ok (.getfield 22, 3) := by decide +kernel
theorem d18_15 : decode c_18 15 = .ok (.invokevirtual 399, 3) := by decide +kernel
theorem pd12 : parseMethodDescriptor "([BIB)V" = some ⟨[(.array .byte), .int, .byte], none⟩ := by decide +kernel
theorem d18_18 : decode c_18 18 = .ok (.return_, 1) := by decide +kernel
abbrev yn19 : MethodName := ⟨"java/lang/AbstractStringBuilder", "putStringAt", "(ILjava/lang/String;)V"⟩
theorem ef_abAppS (m : MethodId) (x0 : Addr) (x1 : Addr) : entryFrame m #[(.ref x0), (.ref x1)] 3 = mkF m 0 #[.val (.ref x0), .val (.ref x1), .unset] [] := rfl
abbrev c_19 := jdk_68_method_22_code
theorem d19_0 : decode c_19 0 = .ok (.aload_n 1, 1) := by decide +kernel
theorem d19_1 : decode c_19 1 = .ok (.ifnonnull 8, 3) := by decide +kernel
theorem d19_9 : decode c_19 9 = .ok (.aload_n 1, 1) := by decide +kernel
theorem d19_10 : decode c_19 10 = .ok (.invokevirtual 32, 3) := by decide +kernel
theorem pd13 : parseMethodDescriptor "()I" = some ⟨[], some .int⟩ := by decide +kernel
theorem d19_13 : decode c_19 13 = .ok (.istore_n 2, 1) := by decide +kernel
theorem d19_14 : decode c_19 14 = .ok (.aload_n 0, 1) := by decide +kernel
theorem d19_15 : decode c_19 15 = .ok (.aload_n 0, 1) := by decide +kernel
theorem d19_16 : decode c_19 16 = .ok (.getfield 79, 3) := by decide +kernel
theorem d19_19 : decode c_19 19 = .ok (.iload_n 2, 1) := by decide +kernel
theorem d19_20 : decode c_19 20 = .ok (.iadd, 1) := by decide +kernel
theorem d19_21 : decode c_19 21 = .ok (.invokevirtual 100, 3) := by decide +kernel
theorem d19_24 : decode c_19 24 = .ok (.aload_n 0, 1) := by decide +kernel
theorem d19_25 : decode c_19 25 = .ok (.aload_n 0, 1) := by decide +kernel
theorem d19_26 : decode c_19 26 = .ok (.getfield 79, 3) := by decide +kernel
theorem d19_29 : decode c_19 29 = .ok (.aload_n 1, 1) := by decide +kernel
theorem d19_30 : decode c_19 30 = .ok (.invokevirtual 208, 3) := by decide +kernel
theorem pd14 : parseMethodDescriptor "(ILjava/lang/String;)V" = some ⟨[.int, (.object "java/lang/String")], none⟩ := by decide +kernel
theorem d19_33 : decode c_19 33 = .ok (.aload_n 0, 1) := by decide +kernel
theorem d19_34 : decode c_19 34 = .ok (.dup, 1) := by decide +kernel
theorem d19_35 : decode c_19 35 = .ok (.getfield 79, 3) := by decide +kernel
theorem d19_38 : decode c_19 38 = .ok (.iload_n 2, 1) := by decide +kernel
theorem d19_39 : decode c_19 39 = .ok (.iadd, 1) := by decide +kernel
theorem d19_40 : decode c_19 40 = .ok (.putfield 79, 3) := by decide +kernel
theorem d19_43 : decode c_19 43 = .ok (.aload_n 0, 1) := by decide +kernel
theorem d19_44 : decode c_19 44 = .ok (.areturn, 1) := by decide +kernel
abbrev yn20 : MethodName := ⟨"java/lang/AbstractStringBuilder", "append", "(Ljava/lang/String;)Ljava/lang/AbstractStringBuilder;"⟩
theorem ef_sbAppS (m : MethodId) (x0 : Addr) (x1 : Addr) : entryFrame m #[(.ref x0), (.ref x1)] 2 = mkF m 0 #[.val (.ref x0), .val (.ref x1)] [] := rfl
abbrev c_20 := jdk_67_method_7_code
theorem d20_0 : decode c_20 0 = .ok (.aload_n 0, 1) := by decide +kernel
theorem d20_1 : decode c_20 1 = .ok (.aload_n 1, 1) := by decide +kernel
theorem d20_2 : decode c_20 2 = .ok (.invokespecial 29, 3) := by decide +kernel
theorem pd15 : parseMethodDescriptor "(Ljava/lang/String;)Ljava/lang/AbstractStringBuilder;" = some ⟨[(.object "java/lang/String")], some (.object "java/lang/AbstractStringBuilder")⟩ := by decide +kernel
theorem d20_5 : decode c_20 5 = .ok (.pop, 1) := by decide +kernel
theorem d20_6 : decode c_20 6 = .ok (.aload_n 0, 1) := by decide +kernel
theorem d20_7 : decode c_20 7 = .ok (.areturn, 1) := by decide +kernel
abbrev yn21 : MethodName := ⟨"java/lang/StringBuilder", "append", "(Ljava/lang/String;)Ljava/lang/StringBuilder;"⟩
theorem ef_abinit (m : MethodId) (x0 : Addr) (x1 : Int32) : entryFrame m #[(.ref x0), (.int x1)] 2 = mkF m 0 #[.val (.ref x0), .val (.int x1)] [] := rfl
abbrev c_21 := jdk_68_method_2_code
theorem d21_0 : decode c_21 0 = .ok (.aload_n 0, 1) := by decide +kernel
theorem d21_1 : decode c_21 1 = .ok (.invokespecial 3, 3) := by decide +kernel
theorem d21_4 : decode c_21 4 = .ok (.getstatic 18, 3) := by decide +kernel
theorem d21_7 : decode c_21 7 = .ok (.ifCond .eq 18, 3) := by decide +kernel
theorem d21_10 : decode c_21 10 = .ok (.aload_n 0, 1) := by decide +kernel
theorem d21_11 : decode c_21 11 = .ok (.iload_n 1, 1) := by decide +kernel
theorem d21_12 : decode c_21 12 = .ok (.newarray .byte, 2) := by decide +kernel
theorem d21_14 : decode c_21 14 = .ok (.putfield 15, 3) := by decide +kernel
theorem d21_17 : decode c_21 17 = .ok (.aload_n 0, 1) := by decide +kernel
theorem d21_18 : decode c_21 18 = .ok (.iconst 0, 1) := by decide +kernel
theorem d21_19 : decode c_21 19 = .ok (.putfield 22, 3) := by decide +kernel
theorem d21_22 : decode c_21 22 = .ok (.goto 16, 3) := by decide +kernel
theorem d21_38 : decode c_21 38 = .ok (.return_, 1) := by decide +kernel
abbrev yn22 : MethodName := ⟨"java/lang/AbstractStringBuilder", "<init>", "(I)V"⟩
theorem ef_sbinit (m : MethodId) (x0 : Addr) (x1 : Int32) : entryFrame m #[(.ref x0), (.int x1)] 2 = mkF m 0 #[.val (.ref x0), .val (.int x1)] [] := rfl
abbrev c_22 := jdk_67_method_2_code
theorem d22_0 : decode c_22 0 = .ok (.aload_n 0, 1) := by decide +kernel
theorem d22_1 : decode c_22 1 = .ok (.iload_n 1, 1) := by decide +kernel
theorem d22_2 : decode c_22 2 = .ok (.invokespecial 1, 3) := by decide +kernel
theorem d22_5 : decode c_22 5 = .ok (.return_, 1) := by decide +kernel
abbrev yn23 : MethodName := ⟨"java/lang/StringBuilder", "<init>", "(I)V"⟩
theorem ef_sbinit0 (m : MethodId) (x0 : Addr) : entryFrame m #[(.ref x0)] 1 = mkF m 0 #[.val (.ref x0)] [] := rfl
abbrev c_23 := jdk_67_method_1_code
theorem d23_0 : decode c_23 0 = .ok (.aload_n 0, 1) := by decide +kernel
theorem d23_1 : decode c_23 1 = .ok (.bipush 16, 2) := by decide +kernel
theorem d23_3 : decode c_23 3 = .ok (.invokespecial 1, 3) := by decide +kernel
theorem d23_6 : decode c_23 6 = .ok (.return_, 1) := by decide +kernel
abbrev yn24 : MethodName := ⟨"java/lang/StringBuilder", "<init>", "()V"⟩
theorem ef_abValue (m : MethodId) (x0 : Addr) : entryFrame m #[(.ref x0)] 1 = mkF m 0 #[.val (.ref x0)] [] := rfl
abbrev c_24 := jdk_68_method_64_code
theorem d24_0 : decode c_24 0 = .ok (.aload_n 0, 1) := by decide +kernel
theorem d24_1 : decode c_24 1 = .ok (.getfield 15, 3) := by decide +kernel
theorem d24_4 : decode c_24 4 = .ok (.areturn, 1) := by decide +kernel
theorem ef_abLength (m : MethodId) (x0 : Addr) : entryFrame m #[(.ref x0)] 1 = mkF m 0 #[.val (.ref x0)] [] := rfl
abbrev c_25 := jdk_68_method_6_code
theorem d25_0 : decode c_25 0 = .ok (.aload_n 0, 1) := by decide +kernel
theorem d25_1 : decode c_25 1 = .ok (.getfield 79, 3) := by decide +kernel
theorem d25_4 : decode c_25 4 = .ok (.ireturn, 1) := by decide +kernel
abbrev yn25 : MethodName := ⟨"java/lang/AbstractStringBuilder", "length", "()I"⟩
theorem ef_sbLength (m : MethodId) (x0 : Addr) : entryFrame m #[(.ref x0)] 1 = mkF m 0 #[.val (.ref x0)] [] := rfl
abbrev c_26 := jdk_67_method_93_code
theorem d26_0 : decode c_26 0 = .ok (.aload_n 0, 1) := by decide +kernel
theorem d26_1 : decode c_26 1 = .ok (.invokespecial 343, 3) := by decide +kernel
theorem d26_4 : decode c_26 4 = .ok (.ireturn, 1) := by decide +kernel
abbrev yn26 : MethodName := ⟨"java/lang/StringBuilder", "length", "()I"⟩
theorem ef_corAll (m : MethodId) (x0 : Addr) (x1 : Int32) (x2 : Int32) : entryFrame m #[(.ref x0), (.int x1), (.int x2)] 3 = mkF m 0 #[.val (.ref x0), .val (.int x1), .val (.int x2)] [] := rfl
theorem d6_17 : decode c_6 17 = .ok (.aload_n 0, 1) := by decide +kernel
theorem d6_18 : decode c_6 18 = .ok (.invokevirtual 310, 3) := by decide +kernel
theorem d6_21 : decode c_6 21 = .ok (.checkcast 311, 3) := by decide +kernel
theorem d6_24 : decode c_6 24 = .ok (.areturn, 1) := by decide +kernel
theorem ef_sinitAB (m : MethodId) (x0 : Addr) (x1 : Addr) : entryFrame m #[(.ref x0), (.ref x1), .null] 5 = mkF m 0 #[.val (.ref x0), .val (.ref x1), .val .null, .unset, .unset] [] := rfl
abbrev c_27 := jdk_42_method_150_code
theorem d27_0 : decode c_27 0 = .ok (.aload_n 0, 1) := by decide +kernel
theorem d27_1 : decode c_27 1 = .ok (.invokespecial 1, 3) := by decide +kernel
theorem d27_4 : decode c_27 4 = .ok (.aload_n 1, 1) := by decide +kernel
theorem d27_5 : decode c_27 5 = .ok (.invokevirtual 552, 3) := by decide +kernel
theorem pd16 : parseMethodDescriptor "()[B" = some ⟨[], some (.array .byte)⟩ := by decide +kernel
theorem d27_8 : decode c_27 8 = .ok (.astore_n 3, 1) := by decide +kernel
theorem d27_9 : decode c_27 9 = .ok (.aload_n 1, 1) := by decide +kernel
theorem d27_10 : decode c_27 10 = .ok (.invokevirtual 549, 3) := by decide +kernel
theorem d27_13 : decode c_27 13 = .ok (.istore 4, 2) := by decide +kernel
theorem d27_15 : decode c_27 15 = .ok (.aload_n 1, 1) := by decide +kernel
theorem d27_16 : decode c_27 16 = .ok (.invokevirtual 1047, 3) := by decide +kernel
theorem d27_19 : decode c_27 19 = .ok (.ifCond .eq 22, 3) := by decide +kernel
theorem d27_22 : decode c_27 22 = .ok (.aload_n 0, 1) := by decide +kernel
theorem d27_23 : decode c_27 23 = .ok (.iconst 0, 1) := by decide +kernel
theorem d27_24 : decode c_27 24 = .ok (.putfield 15, 3) := by decide +kernel
theorem d27_27 : decode c_27 27 = .ok (.aload_n 0, 1) := by decide +kernel
theorem d27_28 : decode c_27 28 = .ok (.aload_n 3, 1) := by decide +kernel
theorem d27_29 : decode c_27 29 = .ok (.iconst 0, 1) := by decide +kernel
theorem d27_30 : decode c_27 30 = .ok (.iload 4, 2) := by decide +kernel
theorem d27_32 : decode c_27 32 = .ok (.invokestatic 54, 3) := by decide +kernel
theorem d27_35 : decode c_27 35 = .ok (.putfield 9, 3) := by decide +kernel
theorem d27_38 : decode c_27 38 = .ok (.goto 59, 3) := by decide +kernel
theorem d27_97 : decode c_27 97 = .ok (.return_, 1) := by decide +kernel
abbrev yn27 : MethodName := ⟨"java/lang/String", "<init>", "(Ljava/lang/AbstractStringBuilder;Ljava/lang/Void;)V"⟩
theorem ef_sinitSB (m : MethodId) (x0 : Addr) (x1 : Addr) : entryFrame m #[(.ref x0), (.ref x1)] 2 = mkF m 0 #[.val (.ref x0), .val (.ref x1)] [] := rfl
abbrev c_28 := jdk_42_method_53_code
theorem d28_0 : decode c_28 0 = .ok (.aload_n 0, 1) := by decide +kernel
theorem d28_1 : decode c_28 1 = .ok (.aload_n 1, 1) := by decide +kernel
theorem d28_2 : decode c_28 2 = .ok (.aconst_null, 1) := by decide +kernel
theorem d28_3 : decode c_28 3 = .ok (.invokespecial 489, 3) := by decide +kernel
theorem pd17 : parseMethodDescriptor "(Ljava/lang/AbstractStringBuilder;Ljava/lang/Void;)V" = some ⟨[(.object "java/lang/AbstractStringBuilder"), (.object "java/lang/Void")], none⟩ := by decide +kernel
theorem d28_6 : decode c_28 6 = .ok (.return_, 1) := by decide +kernel
abbrev yn28 : MethodName := ⟨"java/lang/String", "<init>", "(Ljava/lang/StringBuilder;)V"⟩
theorem ef_sbToString (m : MethodId) (x0 : Addr) : entryFrame m #[(.ref x0)] 1 = mkF m 0 #[.val (.ref x0)] [] := rfl
abbrev c_29 := jdk_67_method_42_code
theorem d29_0 : decode c_29 0 = .ok (.new 18, 3) := by decide +kernel
theorem d29_3 : decode c_29 3 = .ok (.dup, 1) := by decide +kernel
theorem d29_4 : decode c_29 4 = .ok (.aload_n 0, 1) := by decide +kernel
theorem d29_5 : decode c_29 5 = .ok (.invokespecial 137, 3) := by decide +kernel
theorem pd18 : parseMethodDescriptor "(Ljava/lang/StringBuilder;)V" = some ⟨[(.object "java/lang/StringBuilder")], none⟩ := by decide +kernel
theorem d29_8 : decode c_29 8 = .ok (.areturn, 1) := by decide +kernel
abbrev yn29 : MethodName := ⟨"java/lang/StringBuilder", "toString", "()Ljava/lang/String;"⟩
theorem ef_sinitB (m : MethodId) (x0 : Addr) (x1 : Addr) (x2 : Int32) : entryFrame m #[(.ref x0), (.ref x1), (.int x2)] 3 = mkF m 0 #[.val (.ref x0), .val (.ref x1), .val (.int x2)] [] := rfl
abbrev c_30 := jdk_42_method_151_code
theorem d30_0 : decode c_30 0 = .ok (.aload_n 0, 1) := by decide +kernel
theorem d30_1 : decode c_30 1 = .ok (.invokespecial 1, 3) := by decide +kernel
theorem d30_4 : decode c_30 4 = .ok (.aload_n 0, 1) := by decide +kernel
theorem d30_5 : decode c_30 5 = .ok (.aload_n 1, 1) := by decide +kernel
theorem d30_6 : decode c_30 6 = .ok (.putfield 9, 3) := by decide +kernel
theorem d30_9 : decode c_30 9 = .ok (.aload_n 0, 1) := by decide +kernel
theorem d30_10 : decode c_30 10 = .ok (.iload_n 2, 1) := by decide +kernel
theorem d30_11 : decode c_30 11 = .ok (.putfield 15, 3) := by decide +kernel
theorem d30_14 : decode c_30 14 = .ok (.return_, 1) := by decide +kernel
abbrev yn30 : MethodName := ⟨"java/lang/String", "<init>", "([BB)V"⟩
theorem ef_toBytesC (m : MethodId) (x0 : Int32) : entryFrame m #[(.int x0)] 1 = mkF m 0 #[.val (.int x0)] [] := rfl
abbrev c_31 := jdk_43_method_46_code
theorem d31_0 : decode c_31 0 = .ok (.iconst 1, 1) := by decide +kernel
theorem d31_1 : decode c_31 1 = .ok (.newarray .byte, 2) := by decide +kernel
theorem d31_3 : decode c_31 3 = .ok (.dup, 1) := by decide +kernel
theorem d31_4 : decode c_31 4 = .ok (.iconst 0, 1) := by decide +kernel
theorem d31_5 : decode c_31 5 = .ok (.iload_n 0, 1) := by decide +kernel
theorem d31_6 : decode c_31 6 = .ok (.i2b, 1) := by decide +kernel
theorem d31_7 : decode c_31 7 = .ok (.bastore, 1) := by decide +kernel
theorem d31_8 : decode c_31 8 = .ok (.areturn, 1) := by decide +kernel
abbrev yn31 : MethodName := ⟨"java/lang/StringLatin1", "toBytes", "(C)[B"⟩
theorem ef_valueOfC (m : MethodId) (x0 : Int32) : entryFrame m #[(.int x0)] 1 = mkF m 0 #[.val (.int x0)] [] := rfl
abbrev c_32 := jdk_42_method_139_code
theorem d32_0 : decode c_32 0 = .ok (.getstatic 38, 3) := by decide +kernel
theorem d32_3 : decode c_32 3 = .ok (.ifCond .eq 23, 3) := by decide +kernel
theorem d32_6 : decode c_32 6 = .ok (.iload_n 0, 1) := by decide +kernel
theorem d32_7 : decode c_32 7 = .ok (.invokestatic 1015, 3) := by decide +kernel
theorem d32_10 : decode c_32 10 = .ok (.ifCond .eq 16, 3) := by decide +kernel
theorem d32_13 : decode c_32 13 = .ok (.new 10, 3) := by decide +kernel
theorem d32_16 : decode c_32 16 = .ok (.dup, 1) := by decide +kernel
theorem d32_17 : decode c_32 17 = .ok (.iload_n 0, 1) := by decide +kernel
theorem d32_18 : decode c_32 18 = .ok (.invokestatic 1018, 3) := by decide +kernel
theorem pd19 : parseMethodDescriptor "(C)[B" = some ⟨[.char], some (.array .byte)⟩ := by decide +kernel
theorem d32_21 : decode c_32 21 = .ok (.iconst 0, 1) := by decide +kernel
theorem d32_22 : decode c_32 22 = .ok (.invokespecial 209, 3) := by decide +kernel
theorem pd20 : parseMethodDescriptor "([BB)V" = some ⟨[(.array .byte), .byte], none⟩ := by decide +kernel
theorem d32_25 : decode c_32 25 = .ok (.areturn, 1) := by decide +kernel
abbrev yn32 : MethodName := ⟨"java/lang/String", "valueOf", "(C)Ljava/lang/String;"⟩
theorem ef_cpos0 (m : MethodId) (x0 : Addr) (x1 : Int32) (x2 : Int32) : entryFrame m #[(.ref x0), (.int x2), (.int x2)] 5 = mkF m 0 #[.val (.ref x0), .val (.int x2), .val (.int x2), .unset, .unset] [] := rfl
theorem pn_java_lang_StringCoding : plainName "java/lang/StringCoding" = true := by first | (simp [plainName, overriddenIn]; done) | decide +kernel
abbrev c_33 := jdk_123_method_3_code
theorem d33_0 : decode c_33 0 = .ok (.iload_n 1, 1) := by decide +kernel
theorem d33_1 : decode c_33 1 = .ok (.iload_n 2, 1) := by decide +kernel
theorem d33_2 : decode c_33 2 = .ok (.iadd, 1) := by decide +kernel
theorem d33_3 : decode c_33 3 = .ok (.istore_n 3, 1) := by decide +kernel
theorem d33_4 : decode c_33 4 = .ok (.iload_n 1, 1) := by decide +kernel
theorem d33_5 : decode c_33 5 = .ok (.istore 4, 2) := by decide +kernel
theorem d33_7 : decode c_33 7 = .ok (.iload 4, 2) := by decide +kernel
theorem d33_9 : decode c_33 9 = .ok (.iload_n 3, 1) := by decide +kernel
theorem d33_10 : decode c_33 10 = .ok (.if_icmp .ge 21, 3) := by decide +kernel
theorem d33_31 : decode c_33 31 = .ok (.iload_n 2, 1) := by decide +kernel
theorem d33_32 : decode c_33 32 = .ok (.ireturn, 1) := by decide +kernel
abbrev yn33 : MethodName := ⟨"java/lang/StringCoding", "countPositives", "([BII)I"⟩
theorem ef_cpos1 (m : MethodId) (x0 : Addr) (x1 : Int32) (x2 : Int32) : entryFrame m #[(.ref x0), (.int x1), (.int x2)] 5 = mkF m 0 #[.val (.ref x0), .val (.int x1), .val (.int x2), .unset, .unset] [] := rfl
theorem d33_13 : decode c_33 13 = .ok (.aload_n 0, 1) := by decide +kernel
theorem d33_14 : decode c_33 14 = .ok (.iload 4, 2) := by decide +kernel
theorem d33_16 : decode c_33 16 = .ok (.baload, 1) := by decide +kernel
theorem d33_17 : decode c_33 17 = .ok (.ifCond .ge 8, 3) := by decide +kernel
theorem d33_20 : decode c_33 20 = .ok (.iload 4, 2) := by decide +kernel
theorem d33_22 : decode c_33 22 = .ok (.iload_n 1, 1) := by decide +kernel
theorem d33_23 : decode c_33 23 = .ok (.isub, 1) := by decide +kernel
theorem d33_24 : decode c_33 24 = .ok (.ireturn, 1) := by decide +kernel
theorem d33_25 : decode c_33 25 = .ok (.iinc 4 1, 3) := by decide +kernel
theorem d33_28 : decode c_33 28 = .ok (.goto (-21), 3) := by decide +kernel
theorem ef_hneg0 (m : MethodId) (x0 : Addr) (x1 : Int32) (x2 : Int32) : entryFrame m #[(.ref x0), (.int x2), (.int x2)] 3 = mkF m 0 #[.val (.ref x0), .val (.int x2), .val (.int x2)] [] := rfl
abbrev c_34 := jdk_123_method_2_code
theorem d34_0 : decode c_34 0 = .ok (.aload_n 0, 1) := by decide +kernel
theorem d34_1 : decode c_34 1 = .ok (.iload_n 1, 1) := by decide +kernel
theorem d34_2 : decode c_34 2 = .ok (.iload_n 2, 1) := by decide +kernel
theorem d34_3 : decode c_34 3 = .ok (.invokestatic 7, 3) := by decide +kernel
theorem pd21 : parseMethodDescriptor "([BII)I" = some ⟨[(.array .byte), .int, .int], some .int⟩ := by decide +kernel
theorem d34_6 : decode c_34 6 = .ok (.iload_n 2, 1) := by decide +kernel
theorem d34_7 : decode c_34 7 = .ok (.if_icmp .eq 7, 3) := by decide +kernel
theorem d34_14 : decode c_34 14 = .ok (.iconst 0, 1) := by decide +kernel
theorem d34_15 : decode c_34 15 = .ok (.ireturn, 1) := by decide +kernel
abbrev yn34 : MethodName := ⟨"java/lang/StringCoding", "hasNegatives", "([BII)Z"⟩
theorem ef_hneg1 (m : MethodId) (x0 : Addr) (x1 : Int32) (x2 : Int32) : entryFrame m #[(.ref x0), (.int x1), (.int x2)] 3 = mkF m 0 #[.val (.ref x0), .val (.int x1), .val (.int x2)] [] := rfl
theorem d34_10 : decode c_34 10 = .ok (.iconst 1, 1) := by decide +kernel
theorem d34_11 : decode c_34 11 = .ok (.goto 4, 3) := by decide +kernel
theorem ef_nbl1 (m : MethodId) (x0 : Int32) : entryFrame m #[(.int x0)] 1 = mkF m 0 #[.val (.int x0)] [] := rfl
theorem pn_java_lang_StringUTF16 : plainName "java/lang/StringUTF16" = true := by first | (simp [plainName, overriddenIn]; done) | decide +kernel
abbrev c_35 := jdk_52_method_3_code
theorem d35_0 : decode c_35 0 = .ok (.iload_n 0, 1) := by decide +kernel
theorem d35_1 : decode c_35 1 = .ok (.ifCond .ge 11, 3) := by decide +kernel
theorem d35_12 : decode c_35 12 = .ok (.iload_n 0, 1) := by decide +kernel
theorem d35_13 : decode c_35 13 = .ok (.ldc 20, 2) := by decide +kernel
theorem d35_15 : decode c_35 15 = .ok (.if_icmp .lt 40, 3) := by decide +kernel
theorem d35_55 : decode c_35 55 = .ok (.iload_n 0, 1) := by decide +kernel
theorem d35_56 : decode c_35 56 = .ok (.iconst 1, 1) := by decide +kernel
theorem d35_57 : decode c_35 57 = .ok (.ishl, 1) := by decide +kernel
theorem d35_58 : decode c_35 58 = .ok (.ireturn, 1) := by decide +kernel
abbrev yn35 : MethodName := ⟨"java/lang/StringUTF16", "newBytesLength", "(I)I"⟩
theorem ef_nbf1 (m : MethodId) (x0 : Int32) : entryFrame m #[(.int x0)] 1 = mkF m 0 #[.val (.int x0)] [] := rfl
abbrev c_36 := jdk_52_method_2_code
theorem d36_0 : decode c_36 0 = .ok (.iload_n 0, 1) := by decide +kernel
theorem d36_1 : decode c_36 1 = .ok (.invokestatic 11, 3) := by decide +kernel
theorem d36_4 : decode c_36 4 = .ok (.newarray .byte, 2) := by decide +kernel
theorem d36_6 : decode c_36 6 = .ok (.areturn, 1) := by decide +kernel
abbrev yn36 : MethodName := ⟨"java/lang/StringUTF16", "newBytesFor", "(I)[B"⟩
theorem ef_encU0 (m : MethodId) (x0 : Int32) (x1 : Addr) (x2 : Int32) : entryFrame m #[(.int x0), (.ref x1), (.int x2)] 9 = mkF m 0 #[.val (.int x0), .val (.ref x1), .val (.int x2), .unset, .unset, .unset, .unset, .unset, .unset] [] := rfl
abbrev c_37 := jdk_42_method_46_code
theorem d37_0 : decode c_37 0 = .ok (.iload_n 0, 1) := by decide +kernel
theorem d37_1 : decode c_37 1 = .ok (.iconst 1, 1) := by decide +kernel
theorem d37_2 : decode c_37 2 = .ok (.if_icmp .ne 9, 3) := by decide +kernel
theorem d37_11 : decode c_37 11 = .ok (.aload_n 1, 1) := by decide +kernel
theorem d37_12 : decode c_37 12 = .ok (.iconst 0, 1) := by decide +kernel
theorem d37_13 : decode c_37 13 = .ok (.aload_n 1, 1) := by decide +kernel
theorem d37_14 : decode c_37 14 = .ok (.arraylength, 1) := by decide +kernel
theorem d37_15 : decode c_37 15 = .ok (.invokestatic 128, 3) := by decide +kernel
theorem pd22 : parseMethodDescriptor "([BII)Z" = some ⟨[(.array .byte), .int, .int], some .boolean⟩ := by decide +kernel
theorem d37_18 : decode c_37 18 = .ok (.ifCond .ne 11, 3) := by decide +kernel
theorem d37_21 : decode c_37 21 = .ok (.aload_n 1, 1) := by decide +kernel
theorem d37_22 : decode c_37 22 = .ok (.invokevirtual 279, 3) := by decide +kernel
theorem d37_25 : decode c_37 25 = .ok (.checkcast 280, 3) := by decide +kernel
theorem d37_28 : decode c_37 28 = .ok (.areturn, 1) := by decide +kernel
abbrev yn37 : MethodName := ⟨"java/lang/String", "encodeUTF8", "(B[BZ)[B"⟩
theorem ef_encU1 (m : MethodId) (x0 : Int32) (x1 : Addr) (x2 : Int32) : entryFrame m #[(.int x0), (.ref x1), (.int x2)] 9 = mkF m 0 #[.val (.int x0), .val (.ref x1), .val (.int x2), .unset, .unset, .unset, .unset, .unset, .unset] [] := rfl
theorem d37_29 : decode c_37 29 = .ok (.iconst 0, 1) := by decide +kernel
theorem d37_30 : decode c_37 30 = .ok (.istore_n 3, 1) := by decide +kernel
theorem d37_31 : decode c_37 31 = .ok (.aload_n 1, 1) := by decide +kernel
theorem d37_32 : decode c_37 32 = .ok (.arraylength, 1) := by decide +kernel
theorem d37_33 : decode c_37 33 = .ok (.invokestatic 60, 3) := by decide +kernel
theorem pd23 : parseMethodDescriptor "(I)[B" = some ⟨[.int], some (.array .byte)⟩ := by decide +kernel
theorem d37_36 : decode c_37 36 = .ok (.astore 4, 2) := by decide +kernel
theorem d37_38 : decode c_37 38 = .ok (.aload_n 1, 1) := by decide +kernel
theorem d37_39 : decode c_37 39 = .ok (.astore 5, 2) := by decide +kernel
theorem d37_41 : decode c_37 41 = .ok (.aload 5, 2) := by decide +kernel
theorem d37_43 : decode c_37 43 = .ok (.arraylength, 1) := by decide +kernel
theorem d37_44 : decode c_37 44 = .ok (.istore 6, 2) := by decide +kernel
theorem d37_46 : decode c_37 46 = .ok (.iconst 0, 1) := by decide +kernel
theorem d37_47 : decode c_37 47 = .ok (.istore 7, 2) := by decide +kernel
theorem d37_49 : decode c_37 49 = .ok (.iload 7, 2) := by decide +kernel
theorem d37_51 : decode c_37 51 = .ok (.iload 6, 2) := by decide +kernel
theorem d37_53 : decode c_37 53 = .ok (.if_icmp .ge 71, 3) := by decide +kernel
theorem d37_56 : decode c_37 56 = .ok (.aload 5, 2) := by decide +kernel
theorem d37_58 : decode c_37 58 = .ok (.iload 7, 2) := by decide +kernel
theorem d37_60 : decode c_37 60 = .ok (.baload, 1) := by decide +kernel
theorem d37_61 : decode c_37 61 = .ok (.istore 8, 2) := by decide +kernel
theorem d37_63 : decode c_37 63 = .ok (.iload 8, 2) := by decide +kernel
theorem d37_65 : decode c_37 65 = .ok (.ifCond .ge 44, 3) := by decide +kernel
theorem d37_68 : decode c_37 68 = .ok (.aload 4, 2) := by decide +kernel
theorem d37_70 : decode c_37 70 = .ok (.iload_n 3, 1) := by decide +kernel
theorem d37_71 : decode c_37 71 = .ok (.iinc 3 1, 3) := by decide +kernel
theorem d37_74 : decode c_37 74 = .ok (.sipush 192, 3) := by decide +kernel
theorem d37_77 : decode c_37 77 = .ok (.iload 8, 2) := by decide +kernel
theorem d37_79 : decode c_37 79 = .ok (.sipush 255, 3) := by decide +kernel
theorem d37_82 : decode c_37 82 = .ok (.iand, 1) := by decide +kernel
theorem d37_83 : decode c_37 83 = .ok (.bipush 6, 2) := by decide +kernel
theorem d37_85 : decode c_37 85 = .ok (.ishr, 1) := by decide +kernel
theorem d37_86 : decode c_37 86 = .ok (.ior, 1) := by decide +kernel
theorem d37_87 : decode c_37 87 = .ok (.i2b, 1) := by decide +kernel
theorem d37_88 : decode c_37 88 = .ok (.bastore, 1) := by decide +kernel
theorem d37_89 : decode c_37 89 = .ok (.aload 4, 2) := by decide +kernel
theorem d37_91 : decode c_37 91 = .ok (.iload_n 3, 1) := by decide +kernel
theorem d37_92 : decode c_37 92 = .ok (.iinc 3 1, 3) := by decide +kernel
theorem d37_95 : decode c_37 95 = .ok (.sipush 128, 3) := by decide +kernel
theorem d37_98 : decode c_37 98 = .ok (.iload 8, 2) := by decide +kernel
theorem d37_100 : decode c_37 100 = .ok (.bipush 63, 2) := by decide +kernel
theorem d37_102 : decode c_37 102 = .ok (.iand, 1) := by decide +kernel
theorem d37_103 : decode c_37 103 = .ok (.ior, 1) := by decide +kernel
theorem d37_104 : decode c_37 104 = .ok (.i2b, 1) := by decide +kernel
theorem d37_105 : decode c_37 105 = .ok (.bastore, 1) := by decide +kernel
theorem d37_106 : decode c_37 106 = .ok (.goto 12, 3) := by decide +kernel
theorem d37_118 : decode c_37 118 = .ok (.iinc 7 1, 3) := by decide +kernel
theorem d37_121 : decode c_37 121 = .ok (.goto (-72), 3) := by decide +kernel
theorem d37_124 : decode c_37 124 = .ok (.iload_n 3, 1) := by decide +kernel
theorem d37_125 : decode c_37 125 = .ok (.aload 4, 2) := by decide +kernel
theorem d37_127 : decode c_37 127 = .ok (.arraylength, 1) := by decide +kernel
theorem d37_128 : decode c_37 128 = .ok (.if_icmp .ne 6, 3) := by decide +kernel
theorem d37_131 : decode c_37 131 = .ok (.aload 4, 2) := by decide +kernel
theorem d37_133 : decode c_37 133 = .ok (.areturn, 1) := by decide +kernel
theorem ef_senc0 (m : MethodId) (x0 : Addr) (x1 : Int32) (x2 : Addr) : entryFrame m #[(.ref x0), (.int x1), (.ref x2)] 3 = mkF m 0 #[.val (.ref x0), .val (.int x1), .val (.ref x2)] [] := rfl
abbrev c_38 := jdk_42_method_18_code
theorem d38_0 : decode c_38 0 = .ok (.aload_n 0, 1) := by decide +kernel
theorem d38_1 : decode c_38 1 = .ok (.getstatic 86, 3) := by decide +kernel
theorem d38_4 : decode c_38 4 = .ok (.if_acmp .ne 10, 3) := by decide +kernel
theorem d38_7 : decode c_38 7 = .ok (.iload_n 1, 1) := by decide +kernel
theorem d38_8 : decode c_38 8 = .ok (.aload_n 2, 1) := by decide +kernel
theorem d38_9 : decode c_38 9 = .ok (.iconst 1, 1) := by decide +kernel
theorem d38_10 : decode c_38 10 = .ok (.invokestatic 252, 3) := by decide +kernel
theorem pd24 : parseMethodDescriptor "(B[BZ)[B" = some ⟨[.byte, (.array .byte), .boolean], some (.array .byte)⟩ := by decide +kernel
theorem d38_13 : decode c_38 13 = .ok (.areturn, 1) := by decide +kernel
abbrev yn38 : MethodName := ⟨"java/lang/String", "encode", "(Ljava/nio/charset/Charset;B[B)[B"⟩
theorem ef_senc1 (m : MethodId) (x0 : Addr) (x1 : Int32) (x2 : Addr) : entryFrame m #[(.ref x0), (.int x1), (.ref x2)] 3 = mkF m 0 #[.val (.ref x0), .val (.int x1), .val (.ref x2)] [] := rfl
theorem ef_getBytesU (m : MethodId) (x0 : Addr) (x1 : Addr) : entryFrame m #[(.ref x0), (.ref x1)] 2 = mkF m 0 #[.val (.ref x0), .val (.ref x1)] [] := rfl
abbrev c_39 := jdk_42_method_64_code
theorem d39_0 : decode c_39 0 = .ok (.aload_n 1, 1) := by decide +kernel
theorem d39_1 : decode c_39 1 = .ok (.ifnonnull 11, 3) := by decide +kernel
theorem d39_12 : decode c_39 12 = .ok (.aload_n 1, 1) := by decide +kernel
theorem d39_13 : decode c_39 13 = .ok (.aload_n 0, 1) := by decide +kernel
theorem d39_14 : decode c_39 14 = .ok (.invokevirtual 335, 3) := by decide +kernel
theorem d39_17 : decode c_39 17 = .ok (.aload_n 0, 1) := by decide +kernel
theorem d39_18 : decode c_39 18 = .ok (.getfield 9, 3) := by decide +kernel
theorem d39_21 : decode c_39 21 = .ok (.invokestatic 535, 3) := by decide +kernel
theorem pd25 : parseMethodDescriptor "(Ljava/nio/charset/Charset;B[B)[B" = some ⟨[(.object "java/nio/charset/Charset"), .byte, (.array .byte)], some (.array .byte)⟩ := by decide +kernel
theorem d39_24 : decode c_39 24 = .ok (.areturn, 1) := by decide +kernel
abbrev yn39 : MethodName := ⟨"java/lang/String", "getBytes", "(Ljava/nio/charset/Charset;)[B"⟩
abbrev c_40 := jdk_43_method_23_code
theorem d40_7 : decode c_40 7 = .ok (.iload 5, 2) := by decide +kernel
theorem d40_9 : decode c_40 9 = .ok (.iload_n 3, 1) := by decide +kernel
theorem d40_10 : decode c_40 10 = .ok (.if_icmp .ge 21, 3) := by decide +kernel
theorem d40_31 : decode c_40 31 = .ok (.iconst (-1), 1) := by decide +kernel
theorem d40_32 : decode c_40 32 = .ok (.ireturn, 1) := by decide +kernel
theorem d40_13 : decode c_40 13 = .ok (.aload_n 0, 1) := by decide +kernel
theorem d40_14 : decode c_40 14 = .ok (.iload 5, 2) := by decide +kernel
theorem d40_16 : decode c_40 16 = .ok (.baload, 1) := by decide +kernel
theorem d40_17 : decode c_40 17 = .ok (.iload 4, 2) := by decide +kernel
theorem d40_19 : decode c_40 19 = .ok (.if_icmp .ne 6, 3) := by decide +kernel
theorem d40_22 : decode c_40 22 = .ok (.iload 5, 2) := by decide +kernel
theorem d40_24 : decode c_40 24 = .ok (.ireturn, 1) := by decide +kernel
theorem d40_25 : decode c_40 25 = .ok (.iinc 5 1, 3) := by decide +kernel
theorem d40_28 : decode c_40 28 = .ok (.goto (-21), 3) := by decide +kernel
theorem ef_l1ixc (m : MethodId) (x0 : Addr) (x1 : Int32) (x2 : Int32) (x3 : Int32) : entryFrame m #[(.ref x0), (.int x1), (.int x2), (.int x3)] 6 = mkF m 0 #[.val (.ref x0), .val (.int x1), .val (.int x2), .val (.int x3), .unset, .unset] [] := rfl
theorem d40_0 : decode c_40 0 = .ok (.iload_n 1, 1) := by decide +kernel
theorem d40_1 : decode c_40 1 = .ok (.i2b, 1) := by decide +kernel
theorem d40_2 : decode c_40 2 = .ok (.istore 4, 2) := by decide +kernel
theorem d40_4 : decode c_40 4 = .ok (.iload_n 2, 1) := by decide +kernel
theorem d40_5 : decode c_40 5 = .ok (.istore 5, 2) := by decide +kernel
abbrev yn40 : MethodName := ⟨"java/lang/StringLatin1", "indexOfChar", "([BIII)I"⟩
theorem ef_canEncodeI (m : MethodId) (x0 : Int32) : entryFrame m #[(.int x0)] 1 = mkF m 0 #[.val (.int x0)] [] := rfl
abbrev c_41 := jdk_43_method_4_code
theorem d41_0 : decode c_41 0 = .ok (.iload_n 0, 1) := by decide +kernel
theorem d41_1 : decode c_41 1 = .ok (.ifCond .lt 14, 3) := by decide +kernel
theorem d41_4 : decode c_41 4 = .ok (.iload_n 0, 1) := by decide +kernel
theorem d41_5 : decode c_41 5 = .ok (.sipush 255, 3) := by decide +kernel
theorem d41_8 : decode c_41 8 = .ok (.if_icmp .gt 7, 3) := by decide +kernel
theorem d41_11 : decode c_41 11 = .ok (.iconst 1, 1) := by decide +kernel
theorem d41_12 : decode c_41 12 = .ok (.goto 4, 3) := by decide +kernel
theorem d41_16 : decode c_41 16 = .ok (.ireturn, 1) := by decide +kernel
abbrev yn41 : MethodName := ⟨"java/lang/StringLatin1", "canEncode", "(I)Z"⟩
theorem ef_l1ix (m : MethodId) (x0 : Addr) (x1 : Int32) (x2 : Int32) (x3 : Int32) : entryFrame m #[(.ref x0), (.int x1), (.int x2), (.int x3)] 4 = mkF m 0 #[.val (.ref x0), .val (.int x1), .val (.int x2), .val (.int x3)] [] := rfl
abbrev c_42 := jdk_43_method_22_code
theorem d42_0 : decode c_42 0 = .ok (.iload_n 1, 1) := by decide +kernel
theorem d42_1 : decode c_42 1 = .ok (.invokestatic 88, 3) := by decide +kernel
theorem pd26 : parseMethodDescriptor "(I)Z" = some ⟨[.int], some .boolean⟩ := by decide +kernel
theorem d42_4 : decode c_42 4 = .ok (.ifCond .ne 5, 3) := by decide +kernel
theorem d42_9 : decode c_42 9 = .ok (.iload_n 2, 1) := by decide +kernel
theorem d42_10 : decode c_42 10 = .ok (.iconst 0, 1) := by decide +kernel
theorem d42_11 : decode c_42 11 = .ok (.invokestatic 92, 3) := by decide +kernel
theorem d42_14 : decode c_42 14 = .ok (.istore_n 2, 1) := by decide +kernel
theorem d42_15 : decode c_42 15 = .ok (.iload_n 3, 1) := by decide +kernel
theorem d42_16 : decode c_42 16 = .ok (.aload_n 0, 1) := by decide +kernel
theorem d42_17 : decode c_42 17 = .ok (.arraylength, 1) := by decide +kernel
theorem d42_18 : decode c_42 18 = .ok (.invokestatic 38, 3) := by decide +kernel
theorem d42_21 : decode c_42 21 = .ok (.istore_n 3, 1) := by decide +kernel
theorem d42_22 : decode c_42 22 = .ok (.iload_n 2, 1) := by decide +kernel
theorem d42_23 : decode c_42 23 = .ok (.iload_n 3, 1) := by decide +kernel
theorem d42_24 : decode c_42 24 = .ok (.if_icmp .lt 5, 3) := by decide +kernel
theorem d42_29 : decode c_42 29 = .ok (.aload_n 0, 1) := by decide +kernel
theorem d42_30 : decode c_42 30 = .ok (.iload_n 1, 1) := by decide +kernel
theorem d42_31 : decode c_42 31 = .ok (.iload_n 2, 1) := by decide +kernel
theorem d42_32 : decode c_42 32 = .ok (.iload_n 3, 1) := by decide +kernel
theorem d42_33 : decode c_42 33 = .ok (.invokestatic 95, 3) := by decide +kernel
theorem pd27 : parseMethodDescriptor "([BIII)I" = some ⟨[(.array .byte), .int, .int, .int], some .int⟩ := by decide +kernel
theorem d42_36 : decode c_42 36 = .ok (.ireturn, 1) := by decide +kernel
theorem d42_27 : decode c_42 27 = .ok (.iconst (-1), 1) := by decide +kernel
theorem d42_28 : decode c_42 28 = .ok (.ireturn, 1) := by decide +kernel
abbrev yn42 : MethodName := ⟨"java/lang/StringLatin1", "indexOf", "([BIII)I"⟩
theorem ef_sixII (m : MethodId) (x0 : Addr) (x1 : Int32) (x2 : Int32) : entryFrame m #[(.ref x0), (.int x1), (.int x2)] 3 = mkF m 0 #[.val (.ref x0), .val (.int x1), .val (.int x2)] [] := rfl
abbrev c_43 := jdk_42_method_80_code
theorem d43_0 : decode c_43 0 = .ok (.aload_n 0, 1) := by decide +kernel
theorem d43_1 : decode c_43 1 = .ok (.invokevirtual 492, 3) := by decide +kernel
theorem d43_4 : decode c_43 4 = .ok (.ifCond .eq 19, 3) := by decide +kernel
theorem d43_7 : decode c_43 7 = .ok (.aload_n 0, 1) := by decide +kernel
theorem d43_8 : decode c_43 8 = .ok (.getfield 9, 3) := by decide +kernel
theorem d43_11 : decode c_43 11 = .ok (.iload_n 1, 1) := by decide +kernel
theorem d43_12 : decode c_43 12 = .ok (.iload_n 2, 1) := by decide +kernel
theorem d43_13 : decode c_43 13 = .ok (.aload_n 0, 1) := by decide +kernel
theorem d43_14 : decode c_43 14 = .ok (.invokevirtual 505, 3) := by decide +kernel
theorem d43_17 : decode c_43 17 = .ok (.invokestatic 637, 3) := by decide +kernel
theorem d43_20 : decode c_43 20 = .ok (.goto 16, 3) := by decide +kernel
theorem d43_36 : decode c_43 36 = .ok (.ireturn, 1) := by decide +kernel
abbrev yn43 : MethodName := ⟨"java/lang/String", "indexOf", "(II)I"⟩
theorem ef_six (m : MethodId) (x0 : Addr) (x1 : Int32) : entryFrame m #[(.ref x0), (.int x1)] 2 = mkF m 0 #[.val (.ref x0), .val (.int x1)] [] := rfl
abbrev c_44 := jdk_42_method_79_code
theorem d44_0 : decode c_44 0 = .ok (.aload_n 0, 1) := by decide +kernel
theorem d44_1 : decode c_44 1 = .ok (.iload_n 1, 1) := by decide +kernel
theorem d44_2 : decode c_44 2 = .ok (.iconst 0, 1) := by decide +kernel
theorem d44_3 : decode c_44 3 = .ok (.invokevirtual 633, 3) := by decide +kernel
theorem d44_6 : decode c_44 6 = .ok (.ireturn, 1) := by decide +kernel
abbrev yn44 : MethodName := ⟨"java/lang/String", "indexOf", "(I)I"⟩
theorem ef_unres (m : MethodId) (x0 : Int32) : entryFrame m #[(.int x0)] 1 = mkF m 0 #[.val (.int x0)] [] := rfl
theorem pn_com_example_patents_via_api_patentsviaapi_http_PercentEncoding : plainName "com/example/patents_via_api/patentsviaapi/http/PercentEncoding" = true := by first | (simp [plainName, overriddenIn]; done) | decide +kernel
abbrev c_45 := prog_15_method_3_code
theorem d45_0 : decode c_45 0 = .ok (.iload_n 0, 1) := by decide +kernel
theorem d45_1 : decode c_45 1 = .ok (.bipush 65, 2) := by decide +kernel
theorem d45_3 : decode c_45 3 = .ok (.if_icmp .lt 9, 3) := by decide +kernel
theorem d45_12 : decode c_45 12 = .ok (.iload_n 0, 1) := by decide +kernel
theorem d45_13 : decode c_45 13 = .ok (.bipush 97, 2) := by decide +kernel
theorem d45_15 : decode c_45 15 = .ok (.if_icmp .lt 9, 3) := by decide +kernel
theorem d45_24 : decode c_45 24 = .ok (.iload_n 0, 1) := by decide +kernel
theorem d45_25 : decode c_45 25 = .ok (.bipush 48, 2) := by decide +kernel
theorem d45_27 : decode c_45 27 = .ok (.if_icmp .lt 9, 3) := by decide +kernel
theorem d45_36 : decode c_45 36 = .ok (.iload_n 0, 1) := by decide +kernel
theorem d45_37 : decode c_45 37 = .ok (.bipush 45, 2) := by decide +kernel
theorem d45_39 : decode c_45 39 = .ok (.if_icmp .eq 21, 3) := by decide +kernel
theorem d45_60 : decode c_45 60 = .ok (.iconst 1, 1) := by decide +kernel
theorem d45_61 : decode c_45 61 = .ok (.goto 4, 3) := by decide +kernel
theorem d45_65 : decode c_45 65 = .ok (.ireturn, 1) := by decide +kernel
theorem d45_42 : decode c_45 42 = .ok (.iload_n 0, 1) := by decide +kernel
theorem d45_43 : decode c_45 43 = .ok (.bipush 46, 2) := by decide +kernel
theorem d45_45 : decode c_45 45 = .ok (.if_icmp .eq 15, 3) := by decide +kernel
theorem d45_48 : decode c_45 48 = .ok (.iload_n 0, 1) := by decide +kernel
theorem d45_49 : decode c_45 49 = .ok (.bipush 95, 2) := by decide +kernel
theorem d45_51 : decode c_45 51 = .ok (.if_icmp .eq 9, 3) := by decide +kernel
theorem d45_54 : decode c_45 54 = .ok (.iload_n 0, 1) := by decide +kernel
theorem d45_55 : decode c_45 55 = .ok (.bipush 126, 2) := by decide +kernel
theorem d45_57 : decode c_45 57 = .ok (.if_icmp .ne 7, 3) := by decide +kernel
theorem d45_64 : decode c_45 64 = .ok (.iconst 0, 1) := by decide +kernel
theorem d45_30 : decode c_45 30 = .ok (.iload_n 0, 1) := by decide +kernel
theorem d45_31 : decode c_45 31 = .ok (.bipush 57, 2) := by decide +kernel
theorem d45_33 : decode c_45 33 = .ok (.if_icmp .le 27, 3) := by decide +kernel
theorem d45_6 : decode c_45 6 = .ok (.iload_n 0, 1) := by decide +kernel
theorem d45_7 : decode c_45 7 = .ok (.bipush 90, 2) := by decide +kernel
theorem d45_9 : decode c_45 9 = .ok (.if_icmp .le 51, 3) := by decide +kernel
theorem d45_18 : decode c_45 18 = .ok (.iload_n 0, 1) := by decide +kernel
theorem d45_19 : decode c_45 19 = .ok (.bipush 122, 2) := by decide +kernel
theorem d45_21 : decode c_45 21 = .ok (.if_icmp .le 39, 3) := by decide +kernel
abbrev yn45 : MethodName := ⟨"com/example/patents_via_api/patentsviaapi/http/PercentEncoding", "isUnreserved", "(C)Z"⟩
abbrev c_46 := prog_15_method_2_code
theorem d46_34 : decode c_46 34 = .ok (.aload_n 3, 1) := by decide +kernel
theorem d46_35 : decode c_46 35 = .ok (.iload 5, 2) := by decide +kernel
theorem d46_37 : decode c_46 37 = .ok (.baload, 1) := by decide +kernel
theorem d46_38 : decode c_46 38 = .ok (.istore 6, 2) := by decide +kernel
theorem d46_40 : decode c_46 40 = .ok (.iload 6, 2) := by decide +kernel
theorem d46_42 : decode c_46 42 = .ok (.sipush 255, 3) := by decide +kernel
theorem d46_45 : decode c_46 45 = .ok (.iand, 1) := by decide +kernel
theorem d46_46 : decode c_46 46 = .ok (.i2c, 1) := by decide +kernel
theorem d46_47 : decode c_46 47 = .ok (.istore 7, 2) := by decide +kernel
theorem d46_49 : decode c_46 49 = .ok (.iload 7, 2) := by decide +kernel
theorem d46_51 : decode c_46 51 = .ok (.invokestatic 28, 3) := by decide +kernel
theorem d46_54 : decode c_46 54 = .ok (.ifCond .ne 12, 3) := by decide +kernel
theorem d46_57 : decode c_46 57 = .ok (.aload_n 1, 1) := by decide +kernel
theorem d46_58 : decode c_46 58 = .ok (.iload 7, 2) := by decide +kernel
theorem d46_60 : decode c_46 60 = .ok (.invokevirtual 34, 3) := by decide +kernel
theorem d46_63 : decode c_46 63 = .ok (.ifCond .lt 13, 3) := by decide +kernel
theorem d46_76 : decode c_46 76 = .ok (.aload_n 2, 1) := by decide +kernel
theorem d46_77 : decode c_46 77 = .ok (.bipush 37, 2) := by decide +kernel
theorem d46_79 : decode c_46 79 = .ok (.invokevirtual 38, 3) := by decide +kernel
theorem pd28 : parseMethodDescriptor "(C)Ljava/lang/StringBuilder;" = some ⟨[.char], some (.object "java/lang/StringBuilder")⟩ := by decide +kernel
theorem d46_82 : decode c_46 82 = .ok (.getstatic 42, 3) := by decide +kernel
theorem d46_85 : decode c_46 85 = .ok (.iload 7, 2) := by decide +kernel
theorem d46_87 : decode c_46 87 = .ok (.iconst 4, 1) := by decide +kernel
theorem d46_88 : decode c_46 88 = .ok (.ishr, 1) := by decide +kernel
theorem d46_89 : decode c_46 89 = .ok (.caload, 1) := by decide +kernel
theorem d46_90 : decode c_46 90 = .ok (.invokevirtual 38, 3) := by decide +kernel
theorem d46_93 : decode c_46 93 = .ok (.getstatic 42, 3) := by decide +kernel
theorem d46_96 : decode c_46 96 = .ok (.iload 7, 2) := by decide +kernel
theorem d46_98 : decode c_46 98 = .ok (.bipush 15, 2) := by decide +kernel
theorem d46_100 : decode c_46 100 = .ok (.iand, 1) := by decide +kernel
theorem d46_101 : decode c_46 101 = .ok (.caload, 1) := by decide +kernel
theorem d46_102 : decode c_46 102 = .ok (.invokevirtual 38, 3) := by decide +kernel
theorem d46_105 : decode c_46 105 = .ok (.pop, 1) := by decide +kernel
theorem d46_106 : decode c_46 106 = .ok (.iinc 5 1, 3) := by decide +kernel
theorem d46_109 : decode c_46 109 = .ok (.goto (-82), 3) := by decide +kernel
theorem d46_66 : decode c_46 66 = .ok (.aload_n 2, 1) := by decide +kernel
theorem d46_67 : decode c_46 67 = .ok (.iload 7, 2) := by decide +kernel
theorem d46_69 : decode c_46 69 = .ok (.invokevirtual 38, 3) := by decide +kernel
theorem d46_72 : decode c_46 72 = .ok (.pop, 1) := by decide +kernel
theorem d46_73 : decode c_46 73 = .ok (.goto 33, 3) := by decide +kernel
theorem ef_pencode (m : MethodId) (x0 : Addr) (x1 : Addr) : entryFrame m #[(.ref x0), (.ref x1)] 8 = mkF m 0 #[.val (.ref x0), .val (.ref x1), .unset, .unset, .unset, .unset, .unset, .unset] [] := rfl
theorem d46_0 : decode c_46 0 = .ok (.new 7, 3) := by decide +kernel
theorem d46_3 : decode c_46 3 = .ok (.dup, 1) := by decide +kernel
theorem d46_4 : decode c_46 4 = .ok (.aload_n 0, 1) := by decide +kernel
theorem d46_5 : decode c_46 5 = .ok (.invokevirtual 9, 3) := by decide +kernel
theorem d46_8 : decode c_46 8 = .ok (.invokespecial 15, 3) := by decide +kernel
theorem d46_11 : decode c_46 11 = .ok (.astore_n 2, 1) := by decide +kernel
theorem d46_12 : decode c_46 12 = .ok (.aload_n 0, 1) := by decide +kernel
theorem d46_13 : decode c_46 13 = .ok (.getstatic 18, 3) := by decide +kernel
theorem d46_16 : decode c_46 16 = .ok (.invokevirtual 24, 3) := by decide +kernel
theorem pd29 : parseMethodDescriptor "(Ljava/nio/charset/Charset;)[B" = some ⟨[(.object "java/nio/charset/Charset")], some (.array .byte)⟩ := by decide +kernel
theorem d46_19 : decode c_46 19 = .ok (.astore_n 3, 1) := by decide +kernel
theorem d46_20 : decode c_46 20 = .ok (.aload_n 3, 1) := by decide +kernel
theorem d46_21 : decode c_46 21 = .ok (.arraylength, 1) := by decide +kernel
theorem d46_22 : decode c_46 22 = .ok (.istore 4, 2) := by decide +kernel
theorem d46_24 : decode c_46 24 = .ok (.iconst 0, 1) := by decide +kernel
theorem d46_25 : decode c_46 25 = .ok (.istore 5, 2) := by decide +kernel
theorem d46_27 : decode c_46 27 = .ok (.iload 5, 2) := by decide +kernel
theorem d46_29 : decode c_46 29 = .ok (.iload 4, 2) := by decide +kernel
theorem d46_31 : decode c_46 31 = .ok (.if_icmp .ge 81, 3) := by decide +kernel
theorem d46_112 : decode c_46 112 = .ok (.aload_n 2, 1) := by decide +kernel
theorem d46_113 : decode c_46 113 = .ok (.invokevirtual 46, 3) := by decide +kernel
theorem pd30 : parseMethodDescriptor "()Ljava/lang/String;" = some ⟨[], some (.object "java/lang/String")⟩ := by decide +kernel
theorem d46_116 : decode c_46 116 = .ok (.areturn, 1) := by decide +kernel
abbrev yn46 : MethodName := ⟨"com/example/patents_via_api/patentsviaapi/http/PercentEncoding", "encode", "(Ljava/lang/String;Ljava/lang/String;)Ljava/lang/String;"⟩
theorem ef_text (m : MethodId) (x0 : Int32) (x1 : Int32) : entryFrame m #[(.int x0), (.int x1)] 2 = mkF m 0 #[.val (.int x0), .val (.int x1)] [] := rfl
theorem pn_com_example_patents_via_api_patentsviaapi_http_QueryStringIsEmptyPinLaw : plainName "com/example/patents_via_api/patentsviaapi/http/QueryStringIsEmptyPinLaw" = true := by first | (simp [plainName, overriddenIn]; done) | decide +kernel
abbrev c_47 := method_4_code
theorem d47_0 : decode c_47 0 = .ok (.iload_n 0, 1) := by decide +kernel
theorem d47_1 : decode c_47 1 = .ok (.iconst 1, 1) := by decide +kernel
theorem d47_2 : decode c_47 2 = .ok (.iand, 1) := by decide +kernel
theorem d47_3 : decode c_47 3 = .ok (.ifCond .ne 6, 3) := by decide +kernel
theorem d47_6 : decode c_47 6 = .ok (.ldc 38, 2) := by decide +kernel
theorem d47_8 : decode c_47 8 = .ok (.areturn, 1) := by decide +kernel
theorem d47_9 : decode c_47 9 = .ok (.iload_n 1, 1) := by decide +kernel
theorem d47_10 : decode c_47 10 = .ok (.sipush 255, 3) := by decide +kernel
theorem d47_13 : decode c_47 13 = .ok (.iand, 1) := by decide +kernel
theorem d47_14 : decode c_47 14 = .ok (.i2c, 1) := by decide +kernel
theorem d47_15 : decode c_47 15 = .ok (.invokestatic 40, 3) := by decide +kernel
theorem pd31 : parseMethodDescriptor "(C)Ljava/lang/String;" = some ⟨[.char], some (.object "java/lang/String")⟩ := by decide +kernel
theorem d47_18 : decode c_47 18 = .ok (.areturn, 1) := by decide +kernel
abbrev yn47 : MethodName := ⟨"com/example/patents_via_api/patentsviaapi/http/QueryStringIsEmptyPinLaw", "text", "(II)Ljava/lang/String;"⟩
theorem ef_qsinit (m : MethodId) (x0 : Addr) : entryFrame m #[(.ref x0)] 1 = mkF m 0 #[.val (.ref x0)] [] := rfl
theorem pn_com_example_patents_via_api_patentsviaapi_http_QueryString : plainName "com/example/patents_via_api/patentsviaapi/http/QueryString" = true := by first | (simp [plainName, overriddenIn]; done) | decide +kernel
abbrev c_48 := prog_16_method_1_code
theorem d48_0 : decode c_48 0 = .ok (.aload_n 0, 1) := by decide +kernel
theorem d48_1 : decode c_48 1 = .ok (.invokespecial 1, 3) := by decide +kernel
theorem d48_4 : decode c_48 4 = .ok (.aload_n 0, 1) := by decide +kernel
theorem d48_5 : decode c_48 5 = .ok (.new 7, 3) := by decide +kernel
theorem d48_8 : decode c_48 8 = .ok (.dup, 1) := by decide +kernel
theorem d48_9 : decode c_48 9 = .ok (.invokespecial 9, 3) := by decide +kernel
theorem pd32 : parseMethodDescriptor "()V" = some ⟨[], none⟩ := by decide +kernel
theorem d48_12 : decode c_48 12 = .ok (.putfield 10, 3) := by decide +kernel
theorem d48_15 : decode c_48 15 = .ok (.return_, 1) := by decide +kernel
abbrev yn48 : MethodName := ⟨"com/example/patents_via_api/patentsviaapi/http/QueryString", "<init>", "()V"⟩
theorem ef_qsEmpty (m : MethodId) (x0 : Addr) : entryFrame m #[(.ref x0)] 1 = mkF m 0 #[.val (.ref x0)] [] := rfl
abbrev c_49 := prog_16_method_4_code
theorem d49_0 : decode c_49 0 = .ok (.aload_n 0, 1) := by decide +kernel
theorem d49_1 : decode c_49 1 = .ok (.getfield 10, 3) := by decide +kernel
theorem d49_4 : decode c_49 4 = .ok (.invokevirtual 20, 3) := by decide +kernel
theorem d49_7 : decode c_49 7 = .ok (.ifCond .ne 7, 3) := by decide +kernel
theorem d49_10 : decode c_49 10 = .ok (.iconst 1, 1) := by decide +kernel
theorem d49_11 : decode c_49 11 = .ok (.goto 4, 3) := by decide +kernel
theorem d49_14 : decode c_49 14 = .ok (.iconst 0, 1) := by decide +kernel
theorem d49_15 : decode c_49 15 = .ok (.ireturn, 1) := by decide +kernel
abbrev yn49 : MethodName := ⟨"com/example/patents_via_api/patentsviaapi/http/QueryString", "isEmpty", "()Z"⟩
theorem ef_qsStr (m : MethodId) (x0 : Addr) : entryFrame m #[(.ref x0)] 1 = mkF m 0 #[.val (.ref x0)] [] := rfl
abbrev c_50 := prog_16_method_5_code
theorem d50_0 : decode c_50 0 = .ok (.aload_n 0, 1) := by decide +kernel
theorem d50_1 : decode c_50 1 = .ok (.getfield 10, 3) := by decide +kernel
theorem d50_4 : decode c_50 4 = .ok (.invokevirtual 24, 3) := by decide +kernel
theorem d50_7 : decode c_50 7 = .ok (.areturn, 1) := by decide +kernel
abbrev yn50 : MethodName := ⟨"com/example/patents_via_api/patentsviaapi/http/QueryString", "toString", "()Ljava/lang/String;"⟩
theorem ef_sEmpty (m : MethodId) (x0 : Addr) : entryFrame m #[(.ref x0)] 1 = mkF m 0 #[.val (.ref x0)] [] := rfl
abbrev c_51 := jdk_42_method_55_code
theorem d51_0 : decode c_51 0 = .ok (.aload_n 0, 1) := by decide +kernel
theorem d51_1 : decode c_51 1 = .ok (.getfield 9, 3) := by decide +kernel
theorem d51_4 : decode c_51 4 = .ok (.arraylength, 1) := by decide +kernel
theorem d51_5 : decode c_51 5 = .ok (.ifCond .ne 7, 3) := by decide +kernel
theorem d51_8 : decode c_51 8 = .ok (.iconst 1, 1) := by decide +kernel
theorem d51_9 : decode c_51 9 = .ok (.goto 4, 3) := by decide +kernel
theorem d51_12 : decode c_51 12 = .ok (.iconst 0, 1) := by decide +kernel
theorem d51_13 : decode c_51 13 = .ok (.ireturn, 1) := by decide +kernel
abbrev yn51 : MethodName := ⟨"java/lang/String", "isEmpty", "()Z"⟩
abbrev c_52 := prog_16_method_6_code
theorem d52_0 : decode c_52 0 = .ok (.aload_n 0, 1) := by decide +kernel
theorem d52_1 : decode c_52 1 = .ok (.getfield 10, 3) := by decide +kernel
theorem d52_4 : decode c_52 4 = .ok (.invokevirtual 20, 3) := by decide +kernel
theorem d52_7 : decode c_52 7 = .ok (.ifCond .le 13, 3) := by decide +kernel
theorem d52_10 : decode c_52 10 = .ok (.aload_n 0, 1) := by decide +kernel
theorem d52_11 : decode c_52 11 = .ok (.getfield 10, 3) := by decide +kernel
theorem d52_14 : decode c_52 14 = .ok (.bipush 38, 2) := by decide +kernel
theorem d52_16 : decode c_52 16 = .ok (.invokevirtual 28, 3) := by decide +kernel
theorem d52_19 : decode c_52 19 = .ok (.pop, 1) := by decide +kernel
theorem ef_qsApp0 (m : MethodId) (x0 : Addr) (x1 : Addr) (x2 : Addr) (x3 : Int32) : entryFrame m #[(.ref x0), (.ref x1), (.ref x2), (.int x3)] 4 = mkF m 0 #[.val (.ref x0), .val (.ref x1), .val (.ref x2), .val (.int x3)] [] := rfl
theorem d52_20 : decode c_52 20 = .ok (.aload_n 0, 1) := by decide +kernel
theorem d52_21 : decode c_52 21 = .ok (.getfield 10, 3) := by decide +kernel
theorem d52_24 : decode c_52 24 = .ok (.aload_n 1, 1) := by decide +kernel
theorem d52_25 : decode c_52 25 = .ok (.ldc 31, 2) := by decide +kernel
theorem d52_27 : decode c_52 27 = .ok (.invokestatic 33, 3) := by decide +kernel
theorem pd33 : parseMethodDescriptor "(Ljava/lang/String;Ljava/lang/String;)Ljava/lang/String;" = some ⟨[(.object "java/lang/String"), (.object "java/lang/String")], some (.object "java/lang/String")⟩ := by decide +kernel
theorem d52_30 : decode c_52 30 = .ok (.invokevirtual 39, 3) := by decide +kernel
theorem pd34 : parseMethodDescriptor "(Ljava/lang/String;)Ljava/lang/StringBuilder;" = some ⟨[(.object "java/lang/String")], some (.object "java/lang/StringBuilder")⟩ := by decide +kernel
theorem d52_33 : decode c_52 33 = .ok (.pop, 1) := by decide +kernel
theorem d52_34 : decode c_52 34 = .ok (.aload_n 0, 1) := by decide +kernel
theorem d52_35 : decode c_52 35 = .ok (.getfield 10, 3) := by decide +kernel
theorem d52_38 : decode c_52 38 = .ok (.bipush 61, 2) := by decide +kernel
theorem d52_40 : decode c_52 40 = .ok (.invokevirtual 28, 3) := by decide +kernel
theorem d52_43 : decode c_52 43 = .ok (.pop, 1) := by decide +kernel
theorem d52_44 : decode c_52 44 = .ok (.aload_n 0, 1) := by decide +kernel
theorem d52_45 : decode c_52 45 = .ok (.getfield 10, 3) := by decide +kernel
theorem d52_48 : decode c_52 48 = .ok (.aload_n 2, 1) := by decide +kernel
theorem d52_49 : decode c_52 49 = .ok (.iload_n 3, 1) := by decide +kernel
theorem d52_50 : decode c_52 50 = .ok (.ifCond .eq 8, 3) := by decide +kernel
theorem d52_58 : decode c_52 58 = .ok (.ldc 31, 2) := by decide +kernel
theorem d52_60 : decode c_52 60 = .ok (.invokestatic 33, 3) := by decide +kernel
theorem d52_63 : decode c_52 63 = .ok (.invokevirtual 39, 3) := by decide +kernel
theorem d52_66 : decode c_52 66 = .ok (.pop, 1) := by decide +kernel
theorem d52_67 : decode c_52 67 = .ok (.aload_n 0, 1) := by decide +kernel
theorem d52_68 : decode c_52 68 = .ok (.areturn, 1) := by decide +kernel
abbrev yn52 : MethodName := ⟨"com/example/patents_via_api/patentsviaapi/http/QueryString", "append", "(Ljava/lang/String;Ljava/lang/String;Z)Lcom/example/patents_via_api/patentsviaapi/http/QueryString;"⟩
theorem ef_add (m : MethodId) (x0 : Addr) (x1 : Addr) (x2 : Addr) : entryFrame m #[(.ref x0), (.ref x1), (.ref x2)] 3 = mkF m 0 #[.val (.ref x0), .val (.ref x1), .val (.ref x2)] [] := rfl
abbrev c_53 := prog_16_method_2_code
theorem d53_0 : decode c_53 0 = .ok (.aload_n 0, 1) := by decide +kernel
theorem d53_1 : decode c_53 1 = .ok (.aload_n 1, 1) := by decide +kernel
theorem d53_2 : decode c_53 2 = .ok (.aload_n 2, 1) := by decide +kernel
theorem d53_3 : decode c_53 3 = .ok (.iconst 0, 1) := by decide +kernel
theorem d53_4 : decode c_53 4 = .ok (.invokevirtual 16, 3) := by decide +kernel
theorem pd35 : parseMethodDescriptor "(Ljava/lang/String;Ljava/lang/String;Z)Lcom/example/patents_via_api/patentsviaapi/http/QueryString;" = some ⟨[(.object "java/lang/String"), (.object "java/lang/String"), .boolean], some (.object "com/example/patents_via_api/patentsviaapi/http/QueryString")⟩ := by decide +kernel
theorem own_psel2 {a0 : Array Value} {Z : State} {y : MethodName} (nf : NotFace Z y) (hp : (Jvm.Cond.privateMethod y).before a0 Z = true) (hi : (Jvm.Cond.instanceMethod y).before a0 Z = true) (hy : y.cls ≠ "java/lang/invoke/MethodHandle" ∧ y.cls ≠ "java/lang/invoke/VarHandle") : (Jvm.Cond.selects y.cls y y).before a0 Z = true := by
  obtain ⟨m, meth, hn, -, -, -⟩ := Cond.instanceMethod_spec hi
  obtain ⟨k, hk, hki⟩ := nf m hn
  exact Jvm.Stand.selects_self_of_private (findClass_of_methodNamed hn) hk hki (Cond.privateMethod_at hp) hi hy
theorem d53_7 : decode c_53 7 = .ok (.areturn, 1) := by decide +kernel
abbrev yn53 : MethodName := ⟨"com/example/patents_via_api/patentsviaapi/http/QueryString", "add", "(Ljava/lang/String;Ljava/lang/String;)Lcom/example/patents_via_api/patentsviaapi/http/QueryString;"⟩
theorem ef_qsApp1 (m : MethodId) (x0 : Addr) (x1 : Addr) (x2 : Addr) (x3 : Int32) : entryFrame m #[(.ref x0), (.ref x1), (.ref x2), (.int x3)] 4 = mkF m 0 #[.val (.ref x0), .val (.ref x1), .val (.ref x2), .val (.int x3)] [] := rfl
theorem d52_53 : decode c_52 53 = .ok (.ldc 42, 2) := by decide +kernel
theorem d52_55 : decode c_52 55 = .ok (.goto 5, 3) := by decide +kernel
theorem ef_addR (m : MethodId) (x0 : Addr) (x1 : Addr) (x2 : Addr) : entryFrame m #[(.ref x0), (.ref x1), (.ref x2)] 3 = mkF m 0 #[.val (.ref x0), .val (.ref x1), .val (.ref x2)] [] := rfl
abbrev c_54 := prog_16_method_3_code
theorem d54_0 : decode c_54 0 = .ok (.aload_n 0, 1) := by decide +kernel
theorem d54_1 : decode c_54 1 = .ok (.aload_n 1, 1) := by decide +kernel
theorem d54_2 : decode c_54 2 = .ok (.aload_n 2, 1) := by decide +kernel
theorem d54_3 : decode c_54 3 = .ok (.iconst 1, 1) := by decide +kernel
theorem d54_4 : decode c_54 4 = .ok (.invokevirtual 16, 3) := by decide +kernel
theorem d54_7 : decode c_54 7 = .ok (.areturn, 1) := by decide +kernel
abbrev yn54 : MethodName := ⟨"com/example/patents_via_api/patentsviaapi/http/QueryString", "addAllowingReserved", "(Ljava/lang/String;Ljava/lang/String;)Lcom/example/patents_via_api/patentsviaapi/http/QueryString;"⟩
theorem ef_addOne (m : MethodId) (x0 : Addr) (x1 : Int32) (x2 : Int32) (x3 : Int32) : entryFrame m #[(.ref x0), (.int x1), (.int x2), (.int x3)] 6 = mkF m 0 #[.val (.ref x0), .val (.int x1), .val (.int x2), .val (.int x3), .unset, .unset] [] := rfl
abbrev c_55 := method_3_code
theorem d55_0 : decode c_55 0 = .ok (.iload_n 1, 1) := by decide +kernel
theorem d55_1 : decode c_55 1 = .ok (.iload_n 2, 1) := by decide +kernel
theorem d55_2 : decode c_55 2 = .ok (.invokestatic 27, 3) := by decide +kernel
theorem pd36 : parseMethodDescriptor "(II)Ljava/lang/String;" = some ⟨[.int, .int], some (.object "java/lang/String")⟩ := by decide +kernel
theorem d55_5 : decode c_55 5 = .ok (.astore 4, 2) := by decide +kernel
theorem d55_7 : decode c_55 7 = .ok (.iload_n 1, 1) := by decide +kernel
theorem d55_8 : decode c_55 8 = .ok (.iconst 1, 1) := by decide +kernel
theorem d55_9 : decode c_55 9 = .ok (.iushr, 1) := by decide +kernel
theorem d55_10 : decode c_55 10 = .ok (.iload_n 3, 1) := by decide +kernel
theorem d55_11 : decode c_55 11 = .ok (.invokestatic 27, 3) := by decide +kernel
theorem d55_14 : decode c_55 14 = .ok (.astore 5, 2) := by decide +kernel
theorem d55_16 : decode c_55 16 = .ok (.iload_n 1, 1) := by decide +kernel
theorem d55_17 : decode c_55 17 = .ok (.iconst 4, 1) := by decide +kernel
theorem d55_18 : decode c_55 18 = .ok (.iand, 1) := by decide +kernel
theorem d55_19 : decode c_55 19 = .ok (.ifCond .eq 15, 3) := by decide +kernel
theorem d55_34 : decode c_55 34 = .ok (.aload_n 0, 1) := by decide +kernel
theorem d55_35 : decode c_55 35 = .ok (.aload 4, 2) := by decide +kernel
theorem d55_37 : decode c_55 37 = .ok (.aload 5, 2) := by decide +kernel
theorem d55_39 : decode c_55 39 = .ok (.invokevirtual 35, 3) := by decide +kernel
theorem pd37 : parseMethodDescriptor "(Ljava/lang/String;Ljava/lang/String;)Lcom/example/patents_via_api/patentsviaapi/http/QueryString;" = some ⟨[(.object "java/lang/String"), (.object "java/lang/String")], some (.object "com/example/patents_via_api/patentsviaapi/http/QueryString")⟩ := by decide +kernel
theorem d55_42 : decode c_55 42 = .ok (.pop, 1) := by decide +kernel
theorem d55_43 : decode c_55 43 = .ok (.return_, 1) := by decide +kernel
theorem d55_22 : decode c_55 22 = .ok (.aload_n 0, 1) := by decide +kernel
theorem d55_23 : decode c_55 23 = .ok (.aload 4, 2) := by decide +kernel
theorem d55_25 : decode c_55 25 = .ok (.aload 5, 2) := by decide +kernel
theorem d55_27 : decode c_55 27 = .ok (.invokevirtual 31, 3) := by decide +kernel
theorem d55_30 : decode c_55 30 = .ok (.pop, 1) := by decide +kernel
theorem d55_31 : decode c_55 31 = .ok (.goto 12, 3) := by decide +kernel
abbrev yn55 : MethodName := ⟨"com/example/patents_via_api/patentsviaapi/http/QueryStringIsEmptyPinLaw", "addOne", "(Lcom/example/patents_via_api/patentsviaapi/http/QueryString;III)V"⟩
theorem ef_law (m : MethodId) (x0 : Int32) (x1 : Int32) (x2 : Int32) (x3 : Int32) : entryFrame m #[(.int x0), (.int x1), (.int x2), (.int x3)] maxLocals = mkF m 0 #[.val (.int x0), .val (.int x1), .val (.int x2), .val (.int x3), .unset, .unset, .unset, .unset, .unset] [] := rfl
theorem pd38 : parseMethodDescriptor "(Lcom/example/patents_via_api/patentsviaapi/http/QueryString;III)V" = some ⟨[(.object "com/example/patents_via_api/patentsviaapi/http/QueryString"), .int, .int, .int], none⟩ := by decide +kernel
theorem own_wS {a0 : Array Value} {Z : State} (hw : HW a0 Z) : ∀ a ∈ Bundle.stringAtoms, a.before a0 Z = true := by
  intro d hd
  simp only [Bundle.stringAtoms, List.mem_cons, List.not_mem_nil, or_false] at hd
  rcases hd with rfl | rfl | rfl | rfl | rfl | rfl | rfl
  · exact (w23 hw)
  · exact (w59 hw)
  · exact (w24 hw)
  · exact (w101 hw)
  · exact (w81 hw)
  · exact (w139 hw)
  · exact (w140 hw)
theorem own_rw {s t : State} {o : Outcome} {L : List Loc} {k n k' n' : Nat} (h : ReturnedEndW s o t L k n) (hk : k ≤ k') (hn : n ≤ n') : ReturnedEndW s o t L k' n' := ⟨h.1, h.2.1, h.2.2.1, h.2.2.2.mono hk hn⟩
def EL_1 : List (String × Nat) := [("com/example/patents_via_api/patentsviaapi/http/QueryString", 31), ("com/example/patents_via_api/patentsviaapi/http/QueryString", 42), ("com/example/patents_via_api/patentsviaapi/http/QueryStringIsEmptyPinLaw", 38)]
theorem own_EW {a0 : Array Value} {Z : State} (hw : HW a0 Z) : EW Z a0 EL_1 := (EW.cons (w138 hw) (by decide +kernel) (EW.cons (w280 hw) (by decide +kernel) (EW.cons (w284 hw) (by decide +kernel) EW.nil)))
theorem own_held {tb : Tables} {e : Env} {args : Array Value} {s : State} (hc : call_1_1 tb e args s) : ∀ p ∈ EL_1, Jvm.Lit.constHeld s p.1 p.2 := fun p hp => hc p ((by decide +kernel : ∀ p ∈ EL_1, p ∈ consts_1) p hp)
theorem own_chr {Z s T : State} {EL : List (String × Nat)} {vm0 vm : Vm} {h0 H : Heap} (R : CHr Z EL vm0 h0 vm H) (A : CHr Z EL vm H T.vm H) (hs : h0 = s.heap) (eT : T.heap = H) : CHr Z EL vm0 s.heap T.vm T.heap := by subst hs eT; exact R.trans A
theorem own_inskeep {Z : State} {h h' : Heap} {a : Addr} {C : String} {ws : List Addr} (F : Ins Z h a C true) (K : Keep h h' ws) : Ins Z h' a C true := by
  obtain ⟨cell, cT, h1, h2, h3⟩ := F
  obtain ⟨c', q1, q2, q3, -⟩ := K.2.2 _ _ h1
  exact ⟨c', cT, q1, h2, by rw [q2, q3]; exact h3⟩
theorem own_safeS {Z : State} {EL : List (String × Nat)} {vm : Vm} {h : Heap} {x : Addr} (hal : Z.vm.Alike vm) (E : Exa Z h x "java/lang/String") (F : Fld Z h x "java/lang/String" "value" "[B" .null) : Safe Z EL vm h x := fun B => by
  obtain ⟨cell, k, e1, e2, e3, -, -⟩ := E
  obtain ⟨p, -, u, a, -, q, -, S, rfl | rfl⟩ := B
  · obtain ⟨c1, _, _, _, f0, g1, g2, -, -, -, -, g7⟩ := F
    cases (show h[q.sa]? = some q.sC from S.ha).symm.trans g1
    obtain ⟨cS, ⟨⟨-, -, -, ⟨c1', k1, i1, f1, -⟩, -, -, -, v1, -⟩, -⟩, -⟩ := S
    obtain ⟨k3, e3', -⟩ := State.fieldFound?_setVm (s := Z) hal g2
    have e4 := (show (Wst Z vm h).fieldFound? _ _ _ = _ from e3').symm.trans f1
    simp only [Option.some.injEq, Prod.mk.injEq] at e4
    rw [← e4.2.2.2, g7] at v1
    simp at v1
  · cases (show h[q.sd]? = some q.SA from S.hd).symm.trans e1
    obtain ⟨cS, -, -, f, -⟩ := S
    have f' : vm.findClass "[B" = some q.SA.cls := f
    rw [hal.findClass] at f'
    obtain ⟨k1, q1, q2⟩ := Vm.findClass_spec f'
    obtain ⟨k2, q3, q4⟩ := Vm.findClass_spec e2
    cases q1.symm.trans q3
    exact absurd (q2.symm.trans q4) (by decide)
theorem own_chv {s : State} {args : Array Value} {tb : Tables} {e : Env} (hw : ∀ d ∈ tables_1, d.before args s = true) (hc : call_1_1 tb e args s) (hcw : Jvm.Lit.compactW.before args s = true) : CHv s EL_1 s.vm s.heap := CHv.start (own_EW hw) (fun p hp => own_held hc p hp) hcw (w24 hw) (w59 hw)
theorem nb {a b : Nat} (h : Nat.ble a b = true) : a ≤ b := Nat.le_of_ble_eq_true h
/- numbers -/
theorem own_i {n : Nat} (h : n < 2147483648) : (Int32.ofNat n).toInt = n := len_toInt h
theorem own_lt {i n : Nat} (h : i < n) (hn : n < 2147483648) : Int32.ofNat i < Int32.ofNat n := by
  rw [Int32.lt_iff_toInt_lt, own_i (Nat.lt_trans h hn), own_i hn]; omega
theorem own_nlt {i n : Nat} (h : n ≤ i) (hi : i < 2147483648) : ¬ (Int32.ofNat i < Int32.ofNat n) := by
  rw [Int32.lt_iff_toInt_lt, own_i hi, own_i (Nat.lt_of_le_of_lt h hi)]; omega
theorem own_nneg {i : Nat} (hi : i < 2147483648) : ¬ (Int32.ofNat i < (0 : Int32)) := by
  rw [Int32.lt_iff_toInt_lt, own_i hi]; have : (0 : Int32).toInt = 0 := rfl; omega
theorem own_cl {i : Nat} (hi : i < 2147483648) : (Int32.ofNat i).toNatClampNeg = i := by
  have h := own_i hi; simp only [Int32.toNatClampNeg, h]; omega
theorem own_succ (i : Nat) : Int32.ofNat i + (1 : Int32) = Int32.ofNat (i + 1) := (Int32.ofNat_add i 1).symm
theorem own_shl1 {i : Nat} (hi : 2 * i < 2147483648) : (Int32.ofNat i <<< ((1 : Int32) &&& 31)) = Int32.ofNat (2 * i) := by
  apply Int32.toInt_inj.mp
  have h := c_ishl (Int32.ofNat i) 1 1 rfl
  have r := rng32 (Int32.ofNat i <<< ((1 : Int32) &&& 31))
  rw [own_i (by omega)] at h; rw [own_i hi]; omega
theorem own_shr1 {i : Nat} (hi : 2 * i < 2147483648) : (Int32.ofNat (2 * i) >>> ((1 : Int32) &&& 31)) = Int32.ofNat i := by
  apply Int32.toInt_inj.mp
  have h := c_ishr (Int32.ofNat (2 * i)) 1 1 rfl
  rw [own_i hi] at h; rw [own_i (by omega)]; omega
theorem own_narb (x : Int32) : nar .byte (x.toInt8.toInt32) = x.toInt8.toInt32 := by simp [nar]
/- strings -/
def lat (cs : List Int32) : Bool := cs.all fun c => decide (¬ (255 : Int32) < c)
def fl : List Int32 → Nat
  | [] => 0
  | c :: r => if (255 : Int32) < c then 0 else fl r + 1
def l1 (cs : List Int32) : List Value := cs.map fun c => .int (c.toInt8.toInt32)
def u16 : List Int32 → List Value
  | [] => []
  | c :: r => .int ((c >>> ((0 : Int32) &&& 31)).toInt8.toInt32) :: .int ((c >>> ((8 : Int32) &&& 31)).toInt8.toInt32) :: u16 r
def cdr (cs : List Int32) : Int32 := if lat cs = true then 0 else 1
def blen (cs : List Int32) : Nat := if lat cs = true then cs.length else 2 * cs.length
def enc (cs : List Int32) : List Value := if lat cs = true then l1 cs else u16 cs
def OkS (cs : List Int32) : Prop := (∀ c ∈ cs, ¬ (c < (0 : Int32)) ∧ ¬ ((65535 : Int32) < c)) ∧ cs.length < 1048576
theorem lat_cons (c : Int32) (r : List Int32) : lat (c :: r) = true ↔ ¬ (255 : Int32) < c ∧ lat r = true := by simp [lat]
theorem fl_le : ∀ cs : List Int32, fl cs ≤ cs.length
  | [] => Nat.le_refl _
  | c :: r => by
    show (if (255 : Int32) < c then 0 else fl r + 1) ≤ r.length + 1
    have := fl_le r; split <;> omega
theorem fl_lat : ∀ {cs : List Int32}, lat cs = true → fl cs = cs.length
  | [], _ => rfl
  | c :: r, h => by
    obtain ⟨h1, h2⟩ := (lat_cons c r).mp h
    show (if (255 : Int32) < c then 0 else fl r + 1) = r.length + 1
    rw [if_neg h1, fl_lat h2]
theorem fl_nlat : ∀ {cs : List Int32}, ¬ lat cs = true → fl cs < cs.length ∧ (255 : Int32) < cs.getD (fl cs) 0
  | [], h => absurd rfl h
  | c :: r, h => by
    by_cases q : (255 : Int32) < c
    · have e : fl (c :: r) = 0 := if_pos q
      rw [e]; exact ⟨Nat.succ_pos _, q⟩
    · have e : fl (c :: r) = fl r + 1 := if_neg q
      have := fl_nlat (cs := r) fun z => h ((lat_cons c r).mpr ⟨q, z⟩)
      rw [e]; exact ⟨Nat.succ_lt_succ this.1, by simpa using this.2⟩
theorem fl_ne {cs : List Int32} (h : fl cs = cs.length) : lat cs = true := by
  by_cases q : lat cs = true
  · exact q
  · exact absurd h (Nat.ne_of_lt (fl_nlat q).1)
theorem fl_app : ∀ {pre : List Int32} (suf : List Int32), lat pre = true → fl (pre ++ suf) = pre.length + fl suf
  | [], suf, _ => by simp
  | c :: r, suf, h => by
    obtain ⟨h1, h2⟩ := (lat_cons c r).mp h
    show (if (255 : Int32) < c then 0 else fl (r ++ suf) + 1) = r.length + 1 + fl suf
    rw [if_neg h1, fl_app suf h2]; omega
theorem lat_snoc {pre : List Int32} {c : Int32} (h : lat pre = true) (hc : ¬ (255 : Int32) < c) : lat (pre ++ [c]) = true := by
  simp only [lat, List.all_append, Bool.and_eq_true]; exact ⟨h, by simpa using hc⟩
theorem l1_snoc (pre : List Int32) (c : Int32) : l1 pre ++ [.int (c.toInt8.toInt32)] = l1 (pre ++ [c]) := by simp [l1]
theorem u16_app : ∀ (pre suf : List Int32), u16 (pre ++ suf) = u16 pre ++ u16 suf
  | [], _ => rfl
  | c :: r, suf => by show _ :: _ :: u16 (r ++ suf) = _ :: _ :: (u16 r ++ u16 suf); rw [u16_app r suf]
theorem u16_len : ∀ cs : List Int32, (u16 cs).length = 2 * cs.length
  | [] => rfl
  | c :: r => by show (u16 r).length + 1 + 1 = 2 * (r.length + 1); rw [u16_len r]; omega
theorem l1_len (cs : List Int32) : (l1 cs).length = cs.length := by simp [l1]
theorem u16_at : ∀ (cs : List Int32) (i : Nat) (d : Value), i < cs.length → (u16 cs).getD (2 * i) d = .int ((cs.getD i 0 >>> ((0 : Int32) &&& 31)).toInt8.toInt32) ∧ (u16 cs).getD (2 * i + 1) d = .int ((cs.getD i 0 >>> ((8 : Int32) &&& 31)).toInt8.toInt32)
  | [], i, _, h => absurd h (Nat.not_lt_zero _)
  | c :: r, 0, d, _ => ⟨rfl, rfl⟩
  | c :: r, i + 1, d, h => by
    have := u16_at r i d (Nat.lt_of_succ_lt_succ h)
    exact this
theorem l1_at (cs : List Int32) (i : Nat) (d : Value) (h : i < cs.length) : (l1 cs).getD i d = .int ((cs.getD i 0).toInt8.toInt32) := by
  simp [l1, List.getD, h]
theorem ch_at (cs : List Int32) (i : Nat) (d : Value) (h : i < cs.length) : (cs.map Value.int).getD i d = .int (cs.getD i 0) := by
  simp [List.getD, h]
theorem app_at (pre r : List Int32) (c d : Int32) : (pre ++ c :: r).getD pre.length d = c := by simp [List.getD]
theorem getD_mem {cs : List Int32} {i : Nat} (h : i < cs.length) : cs.getD i 0 ∈ cs := by simp [List.getD, h]
theorem OkS.at {cs : List Int32} (h : OkS cs) {i : Nat} (hi : i < cs.length) : ¬ (cs.getD i 0 < (0 : Int32)) ∧ ¬ ((65535 : Int32) < cs.getD i 0) := h.1 _ (getD_mem hi)
theorem own_rng {c : Int32} (h1 : ¬ (c < (0 : Int32))) (h2 : ¬ ((65535 : Int32) < c)) : 0 ≤ c.toInt ∧ c.toInt ≤ 65535 := by
  rw [Int32.lt_iff_toInt_lt] at h1 h2; have a : (0 : Int32).toInt = 0 := rfl; have b : (65535 : Int32).toInt = 65535 := rfl; omega
theorem own_narc {c : Int32} (h1 : ¬ (c < (0 : Int32))) (h2 : ¬ ((65535 : Int32) < c)) : nar .char c = c := by
  apply Int32.toInt_inj.mp
  have := own_rng h1 h2; have := c_i2c c; show (c.toUInt32.toUInt16.toUInt32.toInt32).toInt = _; omega
theorem own_l1c {c : Int32} (h1 : ¬ (c < (0 : Int32))) (h2 : ¬ ((255 : Int32) < c)) : nar .char ((c.toInt8.toInt32 &&& (255 : Int32)).toUInt32.toUInt16.toUInt32.toInt32) = c := by
  apply Int32.toInt_inj.mp
  rw [Int32.lt_iff_toInt_lt] at h1 h2; have a : (0 : Int32).toInt = 0 := rfl; have b : (255 : Int32).toInt = 255 := rfl
  have q1 := c_i2b c; have q2 := c_mask c.toInt8.toInt32 255 8 (by decide) rfl
  have q3 := c_i2c (c.toInt8.toInt32 &&& 255); have q4 := c_i2c ((c.toInt8.toInt32 &&& (255 : Int32)).toUInt32.toUInt16.toUInt32.toInt32)
  show (((c.toInt8.toInt32 &&& (255 : Int32)).toUInt32.toUInt16.toUInt32.toInt32).toUInt32.toUInt16.toUInt32.toInt32).toInt = _
  omega
theorem own_u16c {c : Int32} (h1 : ¬ (c < (0 : Int32))) (h2 : ¬ ((65535 : Int32) < c)) :
    nar .char ((((((c >>> ((0 : Int32) &&& 31)).toInt8.toInt32) &&& (255 : Int32)) <<< ((0 : Int32) &&& 31)) ||| ((((c >>> ((8 : Int32) &&& 31)).toInt8.toInt32) &&& (255 : Int32)) <<< ((8 : Int32) &&& 31))).toUInt32.toUInt16.toUInt32.toInt32) = c := by
  apply Int32.toInt_inj.mp
  have r := own_rng h1 h2
  have s0 := c_ishr c 0 0 rfl; have s8 := c_ishr c 8 8 rfl
  have b0 := c_i2b (c >>> ((0 : Int32) &&& 31)); have b8 := c_i2b (c >>> ((8 : Int32) &&& 31))
  have m0 := c_mask ((c >>> ((0 : Int32) &&& 31)).toInt8.toInt32) 255 8 (by decide) rfl; have m8 := c_mask ((c >>> ((8 : Int32) &&& 31)).toInt8.toInt32) 255 8 (by decide) rfl
  generalize (c >>> ((0 : Int32) &&& 31)).toInt8.toInt32 = x at *
  generalize (c >>> ((8 : Int32) &&& 31)).toInt8.toInt32 = y at *
  have l0 := c_ishl (x &&& 255) 0 0 rfl; have l8 := c_ishl (y &&& 255) 8 8 rfl
  generalize (x &&& (255 : Int32)) = x' at *
  generalize (y &&& (255 : Int32)) = y' at *
  have r0 := rng32 (x' <<< ((0 : Int32) &&& 31)); have r8 := rng32 (y' <<< ((8 : Int32) &&& 31))
  have o := c_or' (x' <<< ((0 : Int32) &&& 31)) (y' <<< ((8 : Int32) &&& 31)) 8 (by decide) 256 rfl
  have ro := rng32 ((x' <<< ((0 : Int32) &&& 31)) ||| (y' <<< ((8 : Int32) &&& 31)))
  generalize ((x' <<< ((0 : Int32) &&& 31)) ||| (y' <<< ((8 : Int32) &&& 31))) = w at *
  have q3 := c_i2c w; have q4 := c_i2c (w.toUInt32.toUInt16.toUInt32.toInt32)
  show ((w.toUInt32.toUInt16.toUInt32.toInt32).toUInt32.toUInt16.toUInt32.toInt32).toInt = _
  have o' := o (by omega) (by omega) (by omega)
  omega
theorem own_len {cs : List Int32} (h : cs.length < 1048576) : (Int32.ofNat (blen cs) >>> (cdr cs &&& 31)) = Int32.ofNat cs.length := by
  apply Int32.toInt_inj.mp
  by_cases q : lat cs = true
  · have := c_ishr (Int32.ofNat cs.length) 0 0 rfl
    simp only [blen, cdr, if_pos q]; rw [own_i (by omega)] at *; omega
  · have := c_ishr (Int32.ofNat (2 * cs.length)) 1 1 rfl
    simp only [blen, cdr, if_neg q]; rw [own_i (by omega)] at *; rw [this]; omega
theorem own_narcdr (cs : List Int32) : nar .byte (cdr cs) = cdr cs := by by_cases q : lat cs = true <;> simp only [cdr, q] <;> decide
theorem own_cdr {cs : List Int32} (h : cs.length < 1048576) : nar .byte ((((Int32.ofNat cs.length - Int32.ofNat (blen cs)).toUInt32 >>> ((31 : Int32) &&& 31).toUInt32).toInt32).toInt8.toInt32) = cdr cs := by
  by_cases q : lat cs = true
  · simp only [blen, cdr, if_pos q, Int32.sub_self]; decide
  · have n0 := (fl_nlat q).1
    simp only [blen, cdr, if_neg q]
    have e : ((Int32.ofNat cs.length - Int32.ofNat (2 * cs.length)).toUInt32 >>> ((31 : Int32) &&& 31).toUInt32).toInt32 = 1 := by
      apply Int32.toInt_inj.mp
      have s := c_isub (Int32.ofNat cs.length) (Int32.ofNat (2 * cs.length)); have r := rng32 (Int32.ofNat cs.length - Int32.ofNat (2 * cs.length))
      rw [own_i (by omega), own_i (by omega)] at s
      rw [c_iushr _ 31 31 rfl (by decide)]; have : (1 : Int32).toInt = 1 := rfl; omega
    rw [e]; decide
theorem cdr_lat {cs : List Int32} (h : cdr cs = (0 : Int32)) : lat cs = true := by
  by_cases q : lat cs = true
  · exact q
  · simp only [cdr, if_neg q] at h; exact absurd h (by decide)
theorem cdr_nlat {cs : List Int32} (h : ¬ cdr cs = (0 : Int32)) : ¬ lat cs = true := fun q => h (by simp only [cdr, if_pos q])
theorem Arv.push {Z : State} {h h' : Heap} {a : Addr} {c : Cell} {k : ClassId} {ty : FieldType} {z j : Int32} {vs : List Value} {dv v : Value} (A : Arr Z h a c ty) (q1 : c.cls = k) (S : c.slots.size = z.toNatClampNeg) (q3 : ¬ z < 0) (H : Has c vs dv) (G : ∀ i, i < c.slots.size → fits ty (vs.getD i dv) = true) (hv : fits ty v = true) (W : Wr h h' a j.toNatClampNeg v) (hj : j.toNatClampNeg = vs.length) : Arv Z h' a k ty z (vs ++ [v]) dv := by
  have F : Arv Z h a k ty z (vs ++ List.replicate 1 dv) dv := Arv.pad ⟨c, A, q1, S, q3, H, G⟩ (pad_rep vs dv 1)
  obtain ⟨c', A', r1, r2, r3, H', G'⟩ := F
  have R := Arv.set A' r1 r2 r3 H' G' hv W vs.length hj (by simp)
  have e : (vs ++ List.replicate 1 dv).set vs.length v = vs ++ [v] := by simp
  rw [e] at R; exact R
def Str (Z : State) (h : Heap) (a t : Addr) (kb : ClassId) (cs : List Int32) : Prop := Exa Z h a "java/lang/String" ∧ Fld Z h a "java/lang/String" "value" "[B" (.ref t) ∧ Fld Z h a "java/lang/String" "coder" "B" (.int (cdr cs)) ∧ Arv Z h t kb .byte (Int32.ofNat (blen cs)) (enc cs) (.int (0 : Int32)) ∧ OkS cs
theorem Str.keep {Z : State} {h h' : Heap} {a t : Addr} {kb : ClassId} {cs : List Int32} {ws : List Addr} (S : Str Z h a t kb cs) (K : Keep h h' ws) (q1 : a ∉ ws) (q2 : t ∉ ws) : Str Z h' a t kb cs := ⟨S.1.keep K, S.2.1.keep K q1, S.2.2.1.keep K q1, S.2.2.2.1.keep K q2, S.2.2.2.2⟩
theorem Str.ext {Z : State} {h h' : Heap} {a t : Addr} {kb : ClassId} {cs : List Int32} (S : Str Z h a t kb cs) (E : Ext h h') : Str Z h' a t kb cs := ⟨S.1.ext E, S.2.1.ext E, S.2.2.1.ext E, S.2.2.2.1.ext E, S.2.2.2.2⟩
theorem Str.lt {Z : State} {h : Heap} {a t : Addr} {kb : ClassId} {cs : List Int32} (S : Str Z h a t kb cs) : a < h.size := S.1.lt
theorem Str.lt2 {Z : State} {h : Heap} {a t : Addr} {kb : ClassId} {cs : List Int32} (S : Str Z h a t kb cs) : t < h.size := S.2.2.2.1.lt
theorem enc_lat {cs : List Int32} (h : lat cs = true) : enc cs = l1 cs ∧ blen cs = cs.length ∧ cdr cs = (0 : Int32) := ⟨if_pos h, if_pos h, if_pos h⟩
theorem enc_nlat {cs : List Int32} (h : ¬ lat cs = true) : enc cs = u16 cs ∧ blen cs = 2 * cs.length ∧ cdr cs = (1 : Int32) := ⟨if_neg h, if_neg h, if_neg h⟩
theorem lat_at {cs : List Int32} (h : lat cs = true) {i : Nat} (hi : i < cs.length) : ¬ ((255 : Int32) < cs.getD i 0) := by
  have := List.all_eq_true.mp h _ (getD_mem hi); simpa using this
theorem own_fitcdr (cs : List Int32) : fits .byte (.int (cdr cs)) = true := by by_cases q : lat cs = true <;> simp only [cdr, q] <;> decide
theorem own_zero {i : Nat} (hi : i < 2147483648) (h : Int32.ofNat i = (0 : Int32)) : i = 0 := by
  have q := congrArg Int32.toInt h; rw [own_i hi] at q; have z : (0 : Int32).toInt = 0 := rfl; omega
theorem own_neq {i n : Nat} (h : i ≠ n) (hi : i < 2147483648) (hn : n < 2147483648) : ¬ (Int32.ofNat i = Int32.ofNat n) := fun q => by
  have q := congrArg Int32.toInt q; rw [own_i hi, own_i hn] at q; omega
theorem own_sub {i n : Nat} (h : i ≤ n) (hn : n < 2147483648) : Int32.ofNat n - Int32.ofNat i = Int32.ofNat (n - i) := by
  apply Int32.toInt_inj.mp
  have s := c_isub (Int32.ofNat n) (Int32.ofNat i); have r := rng32 (Int32.ofNat n - Int32.ofNat i)
  rw [own_i hn, own_i (by omega)] at s; rw [own_i (by omega)]; omega
theorem own_min {i n : Nat} (h : i ≤ n) (hn : n < 2147483648) : (if Int32.ofNat i < Int32.ofNat n then Int32.ofNat i else Int32.ofNat n) = Int32.ofNat i := by
  by_cases q : i < n
  · rw [if_pos (own_lt q hn)]
  · rw [if_neg (own_nlt (by omega) (by omega))]; congr 1; omega
theorem own_or3 {i n N : Nat} (hi : i < 2147483648) (hn : n < 2147483648) (hN : N < 2147483648) : ¬ ((Int32.ofNat N ||| Int32.ofNat i) ||| Int32.ofNat n < (0 : Int32)) := by
  rw [Int32.lt_iff_toInt_lt]
  have a := (c_orS (Int32.ofNat N) (Int32.ofNat i)).1 (by rw [own_i hN]; omega) (by rw [own_i hi]; omega)
  have b := (c_orS (Int32.ofNat N ||| Int32.ofNat i) (Int32.ofNat n)).1 a (by rw [own_i hn]; omega)
  have z : (0 : Int32).toInt = 0 := rfl; omega
theorem own_slice (vs : List Value) (f n : Nat) (d : Value) (h : f + n ≤ vs.length) : (vs.drop f).take n = (List.range n).map fun i => vs.getD (f + i) d := by
  apply List.ext_getElem
  · simp; omega
  · intro i h1 h2
    simp at h1
    simp [List.getD, List.getElem?_eq_getElem (show f + i < vs.length by omega)]
theorem own_fill (us : List Value) (n : Nat) (h : us.length = n) : (List.replicate n (.int (0 : Int32)) : List Value).take 0 ++ us ++ (List.replicate n (.int (0 : Int32))).drop (0 + n) = us := by simp
theorem own_okdt {cs : List Int32} {bg n : Nat} (h : OkS cs) : OkS ((cs.drop bg).take n) := ⟨fun c hc => h.1 c (List.mem_of_mem_drop (List.mem_of_mem_take hc)), by have := h.2; simp; omega⟩
theorem own_dt {cs : List Int32} {bg n i : Nat} (h : bg + n ≤ cs.length) (hd : ((cs.drop bg).take n).length = n) (hi : i < ((cs.drop bg).take n).length) : ((cs.drop bg).take n).getD i 0 = cs.getD (bg + i) 0 := by
  rw [hd] at hi; simp [List.getD, List.getElem?_take, List.getElem?_drop, hi]
theorem l1_dt (cs : List Int32) (bg n : Nat) : ((l1 cs).drop bg).take n = l1 ((cs.drop bg).take n) := by simp [l1, List.map_take, List.map_drop]
theorem own_u16s (cs : List Int32) (bg n : Nat) : ((u16 cs).drop (2 * bg)).take (2 * n) = u16 ((cs.drop bg).take n) := by
  induction bg generalizing cs with
  | zero =>
    simp only [Nat.mul_zero, List.drop_zero]
    induction n generalizing cs with
    | zero => simp [u16]
    | succ n ih => cases cs with
      | nil => simp [u16]
      | cons c r => rw [show 2 * (n + 1) = 2 * n + 1 + 1 from by omega]; simp only [u16, List.take_succ_cons]; rw [ih]
  | succ b ih => cases cs with
    | nil => simp [u16]
    | cons c r => rw [show 2 * (b + 1) = 2 * b + 1 + 1 from by omega]; simp only [u16, List.drop_succ_cons]; exact ih r
theorem lat_dt {cs : List Int32} {bg n : Nat} (h : lat cs = true) : lat ((cs.drop bg).take n) = true := List.all_eq_true.mpr fun c hc => List.all_eq_true.mp h c (List.mem_of_mem_drop (List.mem_of_mem_take hc))
theorem own_mkL {Z : State} {h : Heap} {a t : Addr} {kb : ClassId} {cs : List Int32} {bg n : Nat} (hl : lat cs = true) (ok : OkS cs) (hn : bg + n ≤ cs.length) (E : Exa Z h a "java/lang/String") (V : Fld Z h a "java/lang/String" "value" "[B" (.ref t)) (C : Fld Z h a "java/lang/String" "coder" "B" (.int (0 : Int32))) (A : Arv Z h t kb .byte (Int32.ofNat (bg + n - bg)) (((l1 cs).drop bg).take (bg + n - bg)) (.int (0 : Int32))) : Str Z h a t kb ((cs.drop bg).take n) := by
  obtain ⟨e1, e2, e3⟩ := enc_lat (lat_dt (bg := bg) (n := n) hl)
  rw [show bg + n - bg = n from by omega, l1_dt] at A
  refine ⟨E, V, by rw [e3]; exact C, ?_, own_okdt ok⟩
  rw [e1, e2, show ((cs.drop bg).take n).length = n from by simp; omega]; exact A
theorem own_shr0 (x : Int32) : x >>> ((0 : Int32) &&& 31) = x := by rw [show ((0 : Int32) &&& 31) = 0 from by decide]; simp
theorem own_shl0 (x : Int32) : x <<< ((0 : Int32) &&& 31) = x := by rw [show ((0 : Int32) &&& 31) = 0 from by decide]; simp
theorem own_nsub {M N : Nat} (h : M ≤ N) (hN : N < 1048576) : ¬ ((0 : Int32) < Int32.ofNat M - Int32.ofNat N) := by
  have s := c_isub (Int32.ofNat M) (Int32.ofNat N); have r := rng32 (Int32.ofNat M - Int32.ofNat N); have z : (0 : Int32).toInt = 0 := rfl
  rw [own_i (by omega), own_i (by omega)] at s; rw [Int32.lt_iff_toInt_lt]; omega
theorem own_cl0 : (0 : Int32).toNatClampNeg = 0 := rfl
theorem own_whole (vs : List Value) (n : Nat) (d : Value) (h : vs.length = n) : vs = (List.range n).map fun i => vs.getD ((0 : Int32).toNatClampNeg + i) d := by
  have q := own_slice vs 0 n d (by omega)
  rw [List.drop_zero, List.take_of_length_le (by omega)] at q; rw [own_cl0]; exact q
theorem own_app2 (cs ds : List Int32) : ((l1 cs ++ List.replicate ds.length (Value.int (0 : Int32))).take cs.length ++ l1 ds ++ (l1 cs ++ List.replicate ds.length (Value.int (0 : Int32))).drop (cs.length + ds.length)) = l1 (cs ++ ds) := by
  have e : (l1 cs).length = cs.length := l1_len cs
  rw [List.take_append_of_le_length (by omega), List.take_of_length_le (by omega), List.drop_eq_nil_of_le (by rw [List.length_append, List.length_replicate]; omega)]; simp [l1]
theorem own_cor0 (cs : List Int32) (k : Nat) : ((l1 cs ++ List.replicate k (Value.int (0 : Int32))).drop 0).take (cs.length - 0) = l1 cs := by
  have e : (l1 cs).length = cs.length := l1_len cs
  rw [List.drop_zero, Nat.sub_zero, List.take_append_of_le_length (by omega), List.take_of_length_le (by omega)]
theorem own_mkA {Z : State} {h : Heap} {a t : Addr} {kb : ClassId} {cs : List Int32} (hl : lat cs = true) (ok : OkS cs) (E : Exa Z h a "java/lang/String") (V : Fld Z h a "java/lang/String" "value" "[B" (.ref t)) (C : Fld Z h a "java/lang/String" "coder" "B" (.int (0 : Int32))) (A : Arv Z h t kb .byte (Int32.ofNat cs.length) (l1 cs) (.int (0 : Int32))) : Str Z h a t kb cs := by
  obtain ⟨e1, e2, e3⟩ := enc_lat hl
  exact ⟨E, V, by rw [e3]; exact C, by rw [e1, e2]; exact A, ok⟩
theorem own_alge {t' t n m : Nat} (P : t' = t ∨ n ≤ t') (g : m ≤ t) (s : m ≤ n) : m ≤ t' := by rcases P with rfl | P <;> omega
theorem own_alne {t' t n x : Nat} (P : t' = t ∨ n ≤ t') (l : x < n) (e : x ≠ t) : x ≠ t' := by rcases P with rfl | P <;> omega
theorem own_alke {ws : List Addr} {t' t n m : Nat} (P : t' = t ∨ n ≤ t') (k : t ∈ ws ∨ m ≤ t) (s : m ≤ n) : t' ∈ ws ∨ m ≤ t' := by
  rcases P with rfl | P
  · exact k
  · exact Or.inr (Nat.le_trans s P)
theorem own_altr {t' t n m t0 : Nat} (P : t' = t ∨ n ≤ t') (k : t = t0 ∨ m ≤ t) (s : m ≤ n) : t' = t0 ∨ m ≤ t' := by
  rcases P with rfl | P
  · exact k
  · exact Or.inr (Nat.le_trans s P)
theorem own_max {x y : Nat} (hx : x < 2147483648) (hy : y < 2147483648) : (if Int32.ofNat x < Int32.ofNat y then Int32.ofNat y else Int32.ofNat x) = Int32.ofNat (max x y) := by
  by_cases q : x < y
  · rw [if_pos (own_lt q hy)]; congr 1; omega
  · rw [if_neg (own_nlt (by omega) hx)]; congr 1; omega
theorem own_psub {M N : Nat} (h : N < M) (hN : M < 1048576) : (0 : Int32) < Int32.ofNat M - Int32.ofNat N := by
  have s := c_isub (Int32.ofNat M) (Int32.ofNat N); have r := rng32 (Int32.ofNat M - Int32.ofNat N); have z : (0 : Int32).toInt = 0 := rfl
  rw [own_i (by omega), own_i (by omega)] at s; rw [Int32.lt_iff_toInt_lt]; omega
theorem own_cpad (vs : List Value) (N G : Nat) (h : vs.length ≤ N) (i : Nat) : vs.getD i (Value.int (0 : Int32)) = ((List.replicate G (Value.int (0 : Int32))).take 0 ++ ((List.range N).map fun i => vs.getD (0 + i) (Value.int (0 : Int32))) ++ (List.replicate G (Value.int (0 : Int32))).drop (0 + N)).getD i (Value.int (0 : Int32)) := by
  rw [List.take_zero, List.nil_append, List.getD_eq_getElem?_getD, List.getD_eq_getElem?_getD]
  by_cases q : i < N
  · rw [List.getElem?_append_left (by simpa using q)]; simp [q, List.getD_eq_getElem?_getD]
  · rw [List.getElem?_append_right (by simpa using q), List.getElem?_eq_none (by omega : vs.length ≤ i), List.getElem?_drop, List.getElem?_replicate]; split <;> rfl
theorem own_exaB {Z : State} {EL : List (String × Nat)} {vm : Vm} {h : Heap} {a b : Addr} {k : ClassId} {z : Int32} {vs : List Value} {d : Value} (hal : Z.vm.Alike vm) (hn : ∀ x, Safe Z EL vm h x → x ≠ a ∧ x ≠ b) (A : Arv Z h b k .byte z vs d) : Exa Z h b "[B" := by
  obtain ⟨c, A, -⟩ := A
  obtain ⟨A1, ⟨st, kA, hkA, compA, hkindA⟩, -⟩ := A
  by_cases B : Bk Z EL vm h b
  · obtain ⟨p, -, u, a', -, q, -, F, rfl | rfl⟩ := B
    · exfalso
      cases (show h[q.sa]? = some q.sC from F.ha).symm.trans A1
      obtain ⟨kA', hkA', ekA⟩ := hal.2.2 _ _ hkA
      obtain ⟨cS, ⟨-, -, e⟩, ⟨kS, g1, g2, -⟩, -⟩ := F
      subst e
      cases (show vm.classes[q.sC.cls]? = some kS from g1).symm.trans hkA'
      rw [ekA] at g2
      have := hkindA.symm.trans g2
      cases this
    · cases (show h[q.sd]? = some q.SA from F.hd).symm.trans A1
      obtain ⟨cS, -, -, f, -⟩ := F
      have f' : vm.findClass "[B" = some q.SA.cls := f
      rw [hal.findClass] at f'
      exact ⟨q.SA, kA, A1, f', hkA, by cases hq : q.SA.vm <;> first | rfl | exact absurd hq (st _), fun o => by rw [hkindA] at o; cases o⟩
  · exact absurd rfl (hn b B).2
theorem own_safeLen {Z : State} {a0 : Array Value} {EL : List (String × Nat)} {vm : Vm} {h : Heap} {x : Addr} {k : ClassId} {z : Int32} {vs : List Value} {d : Value} (hZ : Z.Warmed39 vm) (hE : ∀ p ∈ EL, ∃ text : String, (Jvm.Cond.stringLink p.1 p.2 text).before a0 Z = true ∧ (∀ c ∈ text.toList, c.toNat < 256) ∧ text.toList.length < 16) (A : Arv Z h x k .byte z vs d) (hz : 16 ≤ z.toNatClampNeg) : Safe Z EL vm h x := fun B => by
  have hal := hZ.alike
  obtain ⟨c, A, -, S, -⟩ := A
  obtain ⟨A1, ⟨st, kA, hkA, compA, hkindA⟩, -⟩ := A
  obtain ⟨p, hp, u, a', hb, q, -, F, rfl | rfl⟩ := B
  · cases (show h[q.sa]? = some q.sC from F.ha).symm.trans A1
    obtain ⟨kA', hkA', ekA⟩ := hal.2.2 _ _ hkA
    obtain ⟨cS, ⟨-, -, e⟩, ⟨kS, g1, g2, -⟩, -⟩ := F
    subst e
    cases (show vm.classes[q.sC.cls]? = some kS from g1).symm.trans hkA'
    rw [ekA] at g2
    have := hkindA.symm.trans g2
    cases this
  · cases (show h[q.sd]? = some q.SA from F.hd).symm.trans A1
    obtain ⟨cS, -, -, -, hby⟩ := F
    obtain ⟨text, w, ht, hl⟩ := hE p hp
    obtain ⟨cc, kk, cf, i, f1, f2, f3, f4, f5, -⟩ := hb
    have w2 : (Jvm.Cond.stringLink p.1 p.2 text).before a0 (Wst Z vm h) = true := mvS (s := { Z with heap := h }) hZ w
    obtain ⟨k0', cf', i', units, hkx, hcf, hpool, hu, -, htext, -⟩ := Cond.stringLink_spec (s := Wst Z vm h) f1 w2
    have hkx' : vm.classes[cc]? = some k0' := hkx
    cases f2.symm.trans hkx'; cases f3.symm.trans hcf; cases f4.symm.trans hpool; cases f5.symm.trans hu
    have e0 := Jvm.ClassFile.units_of_text htext ht
    have e1 : u.size = text.toList.length := by rw [← Array.length_toList, e0]; simp
    rw [hby, Jvm.Free.SBG.stringBytes_lat (Jvm.ClassFile.lat_of_text htext ht), Array.size_map] at S
    omega
theorem own_E16 {a0 : Array Value} {Z : State} (hw : HW a0 Z) : ∀ p ∈ EL_1, ∃ text : String, (Jvm.Cond.stringLink p.1 p.2 text).before a0 Z = true ∧ (∀ c ∈ text.toList, c.toNat < 256) ∧ text.toList.length < 16 := by
  intro p hp
  simp only [EL_1, List.mem_cons, List.not_mem_nil, or_false] at hp
  rcases hp with rfl | rfl | rfl
  · exact ⟨_, (w138 hw), by decide +kernel, by decide +kernel⟩
  · exact ⟨_, (w280 hw), by decide +kernel, by decide +kernel⟩
  · exact ⟨_, (w284 hw), by decide +kernel, by decide +kernel⟩
theorem own_c255 (x : Int32) : ¬ ((x &&& (255 : Int32)).toUInt32.toUInt16.toUInt32.toInt32 < (0 : Int32)) ∧ ¬ ((255 : Int32) < (x &&& (255 : Int32)).toUInt32.toUInt16.toUInt32.toInt32) := by
  have q2 := c_mask x 255 8 (by decide) rfl; have q3 := c_i2c (x &&& 255)
  have a : (0 : Int32).toInt = 0 := rfl; have b : (255 : Int32).toInt = 255 := rfl
  rw [Int32.lt_iff_toInt_lt, Int32.lt_iff_toInt_lt]; omega
theorem own_le16 {c : Int32} (h : ¬ ((255 : Int32) < c)) : ¬ ((65535 : Int32) < c) := by
  have a : (65535 : Int32).toInt = 65535 := rfl; have b : (255 : Int32).toInt = 255 := rfl
  rw [Int32.lt_iff_toInt_lt] at *; omega
theorem lat_app {a b : List Int32} (h1 : lat a = true) (h2 : lat b = true) : lat (a ++ b) = true := by simp only [lat, List.all_append, Bool.and_eq_true]; exact ⟨h1, h2⟩
theorem own_ok0 : OkS ([] : List Int32) := ⟨fun _ q => (nomatch q), by decide⟩
theorem own_okapp {a b : List Int32} (h1 : OkS a) (h2 : OkS b) (hl : (a ++ b).length < 1048576) : OkS (a ++ b) := ⟨fun x hx => by
  rcases List.mem_append.mp hx with q | q
  · exact h1.1 x q
  · exact h2.1 x q, hl⟩
theorem own_ok1 {c : Int32} (h0 : ¬ (c < (0 : Int32))) (h1 : ¬ ((255 : Int32) < c)) : OkS [c] := ⟨fun x hx => by rw [List.mem_singleton] at hx; subst hx; exact ⟨h0, own_le16 h1⟩, by simp⟩
theorem own_lat1 {c : Int32} (h1 : ¬ ((255 : Int32) < c)) : lat [c] = true := by simpa [lat] using h1
theorem own_ltof {i n : Nat} (hi : i < 2147483648) (hn : n < 2147483648) (h : Int32.ofNat i < Int32.ofNat n) : i < n := by
  rw [Int32.lt_iff_toInt_lt, own_i hi, own_i hn] at h; omega
theorem own_neA {Z : State} {h : Heap} {a b : Addr} {k1 k2 : ClassId} {t1 t2 : FieldType} {n1 n2 : Nat} {v1 v2 : List Value} {d1 d2 : Value} (A : Arv Z h a k1 t1 (Int32.ofNat n1) v1 d1) (B : Arv Z h b k2 t2 (Int32.ofNat n2) v2 d2) (hl : n1 < n2) (hn : n2 < 2147483648) : a ≠ b := arv_ne A B (Or.inl (by rw [own_cl (by omega), own_cl (by omega)]; omega))
def hexL : List Int32 := [48, 49, 50, 51, 52, 53, 54, 55, 56, 57, 65, 66, 67, 68, 69, 70]
theorem own_hexr (j : Nat) : ¬ (hexL.getD j 0 < (0 : Int32)) ∧ ¬ ((255 : Int32) < hexL.getD j 0) := by
  by_cases q : j < 16
  · exact (by decide : ∀ j < 16, ¬ (hexL.getD j 0 < (0 : Int32)) ∧ ¬ ((255 : Int32) < hexL.getD j 0)) j q
  · rw [List.getD_eq_getElem?_getD, List.getElem?_eq_none (by simp [hexL]; omega)]; decide
theorem own_hi {c : Int32} (h0 : ¬ (c < (0 : Int32))) (h1 : ¬ ((255 : Int32) < c)) : ¬ ((c >>> ((4 : Int32) &&& 31)) < (0 : Int32)) ∧ (c >>> ((4 : Int32) &&& 31)) < (16 : Int32) := by
  have q := c_ishr c 4 4 rfl; have a : (0 : Int32).toInt = 0 := rfl; have b : (255 : Int32).toInt = 255 := rfl; have d : (16 : Int32).toInt = 16 := rfl
  simp only [Int32.lt_iff_toInt_lt] at *; omega
theorem own_lo (c : Int32) : ¬ ((c &&& (15 : Int32)) < (0 : Int32)) ∧ (c &&& (15 : Int32)) < (16 : Int32) := by
  have q := c_mask c 15 4 (by decide) rfl; have a : (0 : Int32).toInt = 0 := rfl; have d : (16 : Int32).toInt = 16 := rfl
  simp only [Int32.lt_iff_toInt_lt] at *; omega
theorem own_cl16 {j : Int32} (h : ¬ (j < (0 : Int32)) ∧ j < (16 : Int32)) : j.toNatClampNeg < hexL.length := by
  have a : (0 : Int32).toInt = 0 := rfl; have d : (16 : Int32).toInt = 16 := rfl
  simp only [Int32.lt_iff_toInt_lt] at h; show j.toNatClampNeg < 16; simp only [Int32.toNatClampNeg]; omega
theorem own_k3 (x : Int32) : (x &&& (3 : Int32)) < (1 : Int32) → (x &&& (3 : Int32)) = (0 : Int32) := fun h => by
  have q := c_mask x 3 2 (by decide) rfl; have a : (0 : Int32).toInt = 0 := rfl; have d : (1 : Int32).toInt = 1 := rfl
  apply Int32.toInt_inj.mp; rw [Int32.lt_iff_toInt_lt] at h; omega
theorem own_ltx {x y z : Int32} (h : x < y) (q : y ≤ z) : x < z := Int32.lt_of_lt_of_le h q
theorem own_ne0 {x : Int32} (h : ¬ (x < (1 : Int32))) : ¬ (x = (0 : Int32)) := fun e => h (by rw [e]; decide)
theorem own_pos {n : Nat} (h : 0 < n) (hn : n < 2147483648) : ¬ (Int32.ofNat n = (0 : Int32)) := fun q => by have := own_zero hn q; omega
theorem lt_le_ {x y z : Int32} (h : x < y) (q : y < z) : x < z := Int32.lt_trans h q
theorem own_hexE {args : Array Value} {s : State} {a : Addr} {cl : Cell} {C n d : String} {k : Int64} {w : Int32} (i : Nat)
    (hA : s.arrayAt? a = some cl) (ev : (Term.static C n d).eval args s none [] s = some (.ref a)) (hi : i < cl.slots.size) (hb : i < 2147483648)
    (h : (Jvm.Cond.eq (Jvm.Term.op1 Jvm.Unary.i2l (Jvm.Term.elem (Jvm.Term.static C n d) (Jvm.Term.index (0 : Nat)))) (Jvm.Term.op2 Jvm.Binary.ladd (Jvm.Term.op1 Jvm.Unary.i2l (Jvm.Term.index (0 : Nat))) (Jvm.Term.long k))).value args s none s [i] = some true)
    (hw : (Int32.ofNat i).toInt64 + k = w.toInt64) : cl.slots[i]? = some (.int w) := by
  have ev' : (Term.static C n d).eval args s none [i] s = some (.ref a) := ev
  have hj : (Term.index 0).eval args s none [i] s = some (.int (Int32.ofNat i)) := rfl
  have he := elem_f ev' hj hA (own_nneg hb)
  rw [own_cl hb] at he
  obtain ⟨v, hv⟩ : ∃ v, cl.slots[i]? = some v := ⟨_, Array.getElem?_eq_getElem hi⟩
  rw [hv] at he
  have e2 : (Jvm.Term.op2 Jvm.Binary.ladd (Jvm.Term.op1 Jvm.Unary.i2l (Jvm.Term.index (0 : Nat))) (Jvm.Term.long k)).eval args s none [i] s = some (.long (w.toInt64)) := by
    have x1 : (Jvm.Term.op1 Jvm.Unary.i2l (Jvm.Term.index (0 : Nat))).eval args s none [i] s = some (.long (Int32.ofNat i).toInt64) := op1_f hj
    have x2 : (Jvm.Term.long k).eval args s none [i] s = some (.long k) := rfl
    rw [op2_f x1 x2, ← hw]; rfl
  have e1 := op1_f (f := Jvm.Unary.i2l) he
  simp only [Cond.value, e1, e2] at h
  cases v with
  | int x =>
    have e3 : Jvm.Unary.i2l.apply (Value.int x) = some (.long x.toInt64) := rfl
    rw [e3] at h
    have e4 : x.toInt64 = w.toInt64 := by simpa using h
    have e5 : x = w := by have := congrArg Int64.toInt32 e4; simpa using this
    rw [hv, e5]
  | _ => have e3 : ∀ z, z ≠ Value.int 0 → True := fun _ _ => trivial; simp [Jvm.Unary.apply] at h
theorem own_hexS {args : Array Value} {s : State} {a : Addr} {cl : Cell} {C n d : String} (hf : Fit s) (A : Arr s s.heap a cl .char) (q : cl.slots.size < 2 ^ 31) (e : cl.slots.size.toInt32 = (16 : Int32)) (ev : (Term.static C n d).eval args s none [] s = some (.ref a))
    (h1 : (Jvm.Cond.all (Jvm.Term.static C n d) (Jvm.Cond.or (Jvm.Cond.le (Jvm.Term.int (10 : Int32)) (Jvm.Term.index (0 : Nat))) (Jvm.Cond.eq (Jvm.Term.op1 Jvm.Unary.i2l (Jvm.Term.elem (Jvm.Term.static C n d) (Jvm.Term.index (0 : Nat)))) (Jvm.Term.op2 Jvm.Binary.ladd (Jvm.Term.op1 Jvm.Unary.i2l (Jvm.Term.index (0 : Nat))) (Jvm.Term.long (48 : Int64)))))).value args s none s [] = some true)
    (h2 : (Jvm.Cond.all (Jvm.Term.static C n d) (Jvm.Cond.or (Jvm.Cond.lt (Jvm.Term.index (0 : Nat)) (Jvm.Term.int (10 : Int32))) (Jvm.Cond.eq (Jvm.Term.op1 Jvm.Unary.i2l (Jvm.Term.elem (Jvm.Term.static C n d) (Jvm.Term.index (0 : Nat)))) (Jvm.Term.op2 Jvm.Binary.ladd (Jvm.Term.op1 Jvm.Unary.i2l (Jvm.Term.index (0 : Nat))) (Jvm.Term.long (55 : Int64)))))).value args s none s [] = some true) : Arv s s.heap a cl.cls .char (16 : Int32) (hexL.map Value.int) (.int (0 : Int32)) := by
  have hA := Arr.fin (U := s) (Vm.Alike.refl _) A
  have S : cl.slots.size = 16 := by have z := congrArg Int32.toInt e; rw [show cl.slots.size.toInt32 = Int32.ofNat cl.slots.size from rfl, own_i q] at z; have y : (16 : Int32).toInt = 16 := rfl; omega
  have g1 : ∀ i, i < 10 → (Jvm.Cond.eq (Jvm.Term.op1 Jvm.Unary.i2l (Jvm.Term.elem (Jvm.Term.static C n d) (Jvm.Term.index (0 : Nat)))) (Jvm.Term.op2 Jvm.Binary.ladd (Jvm.Term.op1 Jvm.Unary.i2l (Jvm.Term.index (0 : Nat))) (Jvm.Term.long (48 : Int64)))).value args s none s [i] = some true := fun i hi => by
    have z := Cond.all_elim ev hA h1 i (by omega)
    have y : (Jvm.Cond.le (Jvm.Term.int (10 : Int32)) (Jvm.Term.index (0 : Nat))).value args s none s [i] = some false := by
      have : ¬ ((10 : Int32) ≤ Int32.ofNat i) := by rw [Int32.le_iff_toInt_le, own_i (by omega)]; have y : (10 : Int32).toInt = 10 := rfl; omega
      show some (decide ((10 : Int32) ≤ Int32.ofNat i)) = some false
      rw [decide_eq_false this]
    rw [Cond.value, y] at z; exact z
  have g2 : ∀ i, 10 ≤ i → i < 16 → (Jvm.Cond.eq (Jvm.Term.op1 Jvm.Unary.i2l (Jvm.Term.elem (Jvm.Term.static C n d) (Jvm.Term.index (0 : Nat)))) (Jvm.Term.op2 Jvm.Binary.ladd (Jvm.Term.op1 Jvm.Unary.i2l (Jvm.Term.index (0 : Nat))) (Jvm.Term.long (55 : Int64)))).value args s none s [i] = some true := fun i h10 hi => by
    have z := Cond.all_elim ev hA h2 i (by omega)
    have y : (Jvm.Cond.lt (Jvm.Term.index (0 : Nat)) (Jvm.Term.int (10 : Int32))).value args s none s [i] = some false := by
      have : ¬ (Int32.ofNat i < (10 : Int32)) := by rw [Int32.lt_iff_toInt_lt, own_i (by omega)]; have y : (10 : Int32).toInt = 10 := rfl; omega
      show some (decide (Int32.ofNat i < (10 : Int32))) = some false
      rw [decide_eq_false this]
    rw [Cond.value, y] at z; exact z
  refine Arv.start hf A q e (by decide) rfl ?_
  exact ⟨own_hexE 0 hA ev (by omega) (by decide) (g1 0 (by decide)) (by decide), own_hexE 1 hA ev (by omega) (by decide) (g1 1 (by decide)) (by decide), own_hexE 2 hA ev (by omega) (by decide) (g1 2 (by decide)) (by decide), own_hexE 3 hA ev (by omega) (by decide) (g1 3 (by decide)) (by decide), own_hexE 4 hA ev (by omega) (by decide) (g1 4 (by decide)) (by decide), own_hexE 5 hA ev (by omega) (by decide) (g1 5 (by decide)) (by decide), own_hexE 6 hA ev (by omega) (by decide) (g1 6 (by decide)) (by decide), own_hexE 7 hA ev (by omega) (by decide) (g1 7 (by decide)) (by decide), own_hexE 8 hA ev (by omega) (by decide) (g1 8 (by decide)) (by decide), own_hexE 9 hA ev (by omega) (by decide) (g1 9 (by decide)) (by decide),
    own_hexE 10 hA ev (by omega) (by decide) (g2 10 (by decide) (by decide)) (by decide), own_hexE 11 hA ev (by omega) (by decide) (g2 11 (by decide) (by decide)) (by decide), own_hexE 12 hA ev (by omega) (by decide) (g2 12 (by decide) (by decide)) (by decide), own_hexE 13 hA ev (by omega) (by decide) (g2 13 (by decide) (by decide)) (by decide), own_hexE 14 hA ev (by omega) (by decide) (g2 14 (by decide) (by decide)) (by decide), own_hexE 15 hA ev (by omega) (by decide) (g2 15 (by decide) (by decide)) (by decide), trivial⟩
def Q_isLatin1 (Z : State) (a : Addr) (w : Int32) (cS : Int32) (h0 : Heap) (n0 : Nat) (vQ_ : Option Value) (hQ_ : Heap) (LQ_ : List Loc) : Prop := vQ_ = some (.int (if w = (0 : Int32) then (1 : Int32) else (0 : Int32))) ∧ Fr n0 LQ_ ∧ hQ_ = h0
theorem rm_isLatin1 (l : Launch) (Z : State) (a0 : Array Value) (hw : HW a0 Z) (ws : List Jvm.Cond) (a : Addr) (w : Int32) (cS : Int32) (h0 : Heap) (n0 : Nat) (Z0 : n0 ≤ h0.size) (O0 : Old Z n0 h0) (S_cs : Sta Z Z.heap "java/lang/String" "COMPACT_STRINGS" "Z" (.int cS)) (hcS : ¬ (cS = (0 : Int32))) (F1 : Fld Z h0 a "java/lang/String" "coder" "B" (.int w)) :
    CT l yn0 (Jvm.Cond.code yn0 jdk_42_method_154_code 1 (some .boolean) :: ws) (⟨0, 0, 0, 0⟩ : Room) #[(.ref a)] Z h0 (Q_isLatin1 Z a w cS h0 n0) := by
  refine MetFree.of_bodySF (plainFor_of_name pn_java_lang_String) hisR ?_
  intro p e s m args below meth cO s₁ Bd hml hP hK
  obtain ⟨rfl, hZ, hh⟩ := hP
  have hx := Bd.exec
  have hby := Bd.bytes
  have hown : s.vm.findClass "java/lang/String" = some m.cls := findClass_of_methodNamed Bd.named
  have hnm := (name_of_methodNamed Bd.named Bd.method).1
  have X0 : Stand p l e (⟨0, 0, 0, 0⟩ : Room) s m #[(.ref a)] below meth cO s₁ [] 0 0 := Stand.of_body Bd
  have e0 : s₁.heap = h0 := by rw [← hh, Bd.state]; rfl
  have N0 := Fr.nil n0
  have D_ : ∀ {i : Nat} {x}, decode jdk_42_method_154_code i = x → decode cO.code i = x := fun h => hb hby h
  have W0 : ∀ zQ, SS p e below s₁ m 0 #[.val (.ref a)] [] zQ → Steps p.tables e below (s₁.setTop (entryFrame m #[(.ref a)] 1)) zQ := fun tt kt => castTop (ef_isLatin1 m a) kt
  have F102 : Sta Z h0 "java/lang/String" "COMPACT_STRINGS" "Z" (.int cS) := S_cs.ext O0.2
  obtain ⟨T101, X101, e101, st101⟩ := getS2 X0 hx hZ hown (host := "") (Or.inl (w117 hw)) Via.refl e0 F102 (g := (mkF m 0 #[.val (.ref a)] [])) rfl (D_ d0_0)
  obtain ⟨T103, X103, e103, st103⟩ := getF X101 hx hZ hown (host := "") (Or.inl (w80 hw)) Via.refl e101 F1 (g := (mkF m 7 #[.val (.ref a)] [(.ref a)])) rfl rfl (D_ d0_7)
  have W104 : ∀ zQ, SS p e below T103 m 10 #[.val (.ref a)] [(.int w)] zQ → Steps p.tables e below (s₁.setTop (entryFrame m #[(.ref a)] 1)) zQ := by
    intro tt kt
    refine W0 tt ?_
    refine st101 _ ?_
    refine XS.ifNo X101.here hx rfl (D_ d0_3) rfl ((if0 _ _).trans (feq hcS).1) ?_
    refine XS.aloadN X101.here hx rfl (D_ d0_6) rfl rfl ?_
    refine st103 _ ?_
    exact kt
  have W106 : ∀ zQ, SS p e below T103 m 18 #[.val (.ref a)] [(.int (if w = (0 : Int32) then (1 : Int32) else (0 : Int32)))] zQ → Steps p.tables e below (s₁.setTop (entryFrame m #[(.ref a)] 1)) zQ := by
    intro tt kt
    refine W104 tt ?_
    by_cases hj105 : w = (0 : Int32)
    ·
      refine XS.ifNo X103.here hx rfl (D_ d0_10) rfl ((if0 _ _).trans (teq hj105).2) ?_
      refine XS.iconst X103.here hx rfl (D_ d0_13) ?_
      refine XS.goto X103.here hx rfl (pc0 := 14) (pc' := 18) rfl (D_ d0_14) (by decide) (by decide) ?_
      exact castTop (by first | rfl | (simp only [if_pos hj105]; first | done | rfl)) kt
    ·
      refine XS.ifYes X103.here hx rfl (pc0 := 10) (pc' := 17) rfl (D_ d0_10) rfl ((if0 _ _).trans (feq hj105).2) (by decide) (by decide) ?_
      refine XS.iconst X103.here hx rfl (D_ d0_17) ?_
      exact castTop (by first | rfl | (simp only [if_neg hj105]; first | done | rfl)) kt
  obtain ⟨fs, hr, hrun, hended, hW, hsame⟩ := X103.leave (v := some (.int (nar .boolean (if w = (0 : Int32) then (1 : Int32) else (0 : Int32))))) (fun h => by rw [Bd.returns] at h; cases h)
  refine ⟨_, _, W106 _ (retN X103 hx (t := .boolean) Bd.returns (by simp) (D_ d0_18) hr), hrun, hended, _, _, rfl, ?_, ⟨_, rfl⟩, hW, hsame.mono (by decide) (by decide)⟩
  show Q_isLatin1 Z a w cS h0 n0 _ T103.heap _
  rw [e103]
  exact ⟨(congrArg (fun q => some (Value.int q)) own_bool), N0, rfl⟩
def Q_coder (Z : State) (a : Addr) (w : Int32) (cS : Int32) (h0 : Heap) (n0 : Nat) (vQ_ : Option Value) (hQ_ : Heap) (LQ_ : List Loc) : Prop := vQ_ = some (.int w) ∧ Fr n0 LQ_ ∧ hQ_ = h0
theorem rm_coder (l : Launch) (Z : State) (a0 : Array Value) (hw : HW a0 Z) (ws : List Jvm.Cond) (a : Addr) (w : Int32) (cS : Int32) (h0 : Heap) (n0 : Nat) (Z0 : n0 ≤ h0.size) (O0 : Old Z n0 h0) (S_cs : Sta Z Z.heap "java/lang/String" "COMPACT_STRINGS" "Z" (.int cS)) (hcS : ¬ (cS = (0 : Int32))) (F1 : Fld Z h0 a "java/lang/String" "coder" "B" (.int w)) (hw8 : nar .byte w = w) :
    CT l yn1 (Jvm.Cond.code yn1 jdk_42_method_152_code 1 (some .byte) :: ws) (⟨0, 0, 0, 0⟩ : Room) #[(.ref a)] Z h0 (Q_coder Z a w cS h0 n0) := by
  refine MetFree.of_bodySF (plainFor_of_name pn_java_lang_String) hisR ?_
  intro p e s m args below meth cO s₁ Bd hml hP hK
  obtain ⟨rfl, hZ, hh⟩ := hP
  have hx := Bd.exec
  have hby := Bd.bytes
  have hown : s.vm.findClass "java/lang/String" = some m.cls := findClass_of_methodNamed Bd.named
  have hnm := (name_of_methodNamed Bd.named Bd.method).1
  have X0 : Stand p l e (⟨0, 0, 0, 0⟩ : Room) s m #[(.ref a)] below meth cO s₁ [] 0 0 := Stand.of_body Bd
  have e0 : s₁.heap = h0 := by rw [← hh, Bd.state]; rfl
  have N0 := Fr.nil n0
  have D_ : ∀ {i : Nat} {x}, decode jdk_42_method_152_code i = x → decode cO.code i = x := fun h => hb hby h
  have W0 : ∀ zQ, SS p e below s₁ m 0 #[.val (.ref a)] [] zQ → Steps p.tables e below (s₁.setTop (entryFrame m #[(.ref a)] 1)) zQ := fun tt kt => castTop (ef_coder m a) kt
  have F102 : Sta Z h0 "java/lang/String" "COMPACT_STRINGS" "Z" (.int cS) := S_cs.ext O0.2
  obtain ⟨T101, X101, e101, st101⟩ := getS2 X0 hx hZ hown (host := "") (Or.inl (w117 hw)) Via.refl e0 F102 (g := (mkF m 0 #[.val (.ref a)] [])) rfl (D_ d1_0)
  obtain ⟨T103, X103, e103, st103⟩ := getF X101 hx hZ hown (host := "") (Or.inl (w80 hw)) Via.refl e101 F1 (g := (mkF m 7 #[.val (.ref a)] [(.ref a)])) rfl rfl (D_ d1_7)
  have W104 : ∀ zQ, SS p e below T103 m 14 #[.val (.ref a)] [(.int w)] zQ → Steps p.tables e below (s₁.setTop (entryFrame m #[(.ref a)] 1)) zQ := by
    intro tt kt
    refine W0 tt ?_
    refine st101 _ ?_
    refine XS.ifNo X101.here hx rfl (D_ d1_3) rfl ((if0 _ _).trans (feq hcS).1) ?_
    refine XS.aloadN X101.here hx rfl (D_ d1_6) rfl rfl ?_
    refine st103 _ ?_
    refine XS.goto X103.here hx rfl (pc0 := 10) (pc' := 14) rfl (D_ d1_10) (by decide) (by decide) ?_
    exact kt
  obtain ⟨fs, hr, hrun, hended, hW, hsame⟩ := X103.leave (v := some (.int (nar .byte w))) (fun h => by rw [Bd.returns] at h; cases h)
  refine ⟨_, _, W104 _ (retN X103 hx (t := .byte) Bd.returns (by simp) (D_ d1_14) hr), hrun, hended, _, _, rfl, ?_, ⟨_, rfl⟩, hW, hsame.mono (by decide) (by decide)⟩
  show Q_coder Z a w cS h0 n0 _ T103.heap _
  rw [e103]
  exact ⟨(congrArg (fun q => some (Value.int q)) hw8), N0, rfl⟩
def Q_length (Z : State) (a : Addr) (t : Addr) (kb : ClassId) (cs : List Int32) (cS : Int32) (h0 : Heap) (n0 : Nat) (vQ_ : Option Value) (hQ_ : Heap) (LQ_ : List Loc) : Prop := vQ_ = some (.int (Int32.ofNat cs.length)) ∧ Fr n0 LQ_ ∧ hQ_ = h0
theorem rm_length (l : Launch) (Z : State) (a0 : Array Value) (hw : HW a0 Z) (ws : List Jvm.Cond) (a : Addr) (t : Addr) (kb : ClassId) (cs : List Int32) (cS : Int32) (h0 : Heap) (n0 : Nat) (Z0 : n0 ≤ h0.size) (O0 : Old Z n0 h0) (S_cs : Sta Z Z.heap "java/lang/String" "COMPACT_STRINGS" "Z" (.int cS)) (hcS : ¬ (cS = (0 : Int32))) (hS : Str Z h0 a t kb cs) :
    CT l yn2 (Jvm.Cond.code yn2 jdk_42_method_54_code 1 (some .int) :: ws) (⟨1, 0, 0, 13⟩ : Room) #[(.ref a)] Z h0 (Q_length Z a t kb cs cS h0 n0) := by
  refine MetFree.of_bodySF (plainFor_of_name pn_java_lang_String) hisR ?_
  intro p e s m args below meth cO s₁ Bd hml hP hK
  obtain ⟨rfl, hZ, hh⟩ := hP
  have hx := Bd.exec
  have hby := Bd.bytes
  have hown : s.vm.findClass "java/lang/String" = some m.cls := findClass_of_methodNamed Bd.named
  have hnm := (name_of_methodNamed Bd.named Bd.method).1
  have X0 : Stand p l e (⟨1, 0, 0, 13⟩ : Room) s m #[(.ref a)] below meth cO s₁ [] 0 0 := Stand.of_body Bd
  have e0 : s₁.heap = h0 := by rw [← hh, Bd.state]; rfl
  have N0 := Fr.nil n0
  have D_ : ∀ {i : Nat} {x}, decode jdk_42_method_54_code i = x → decode cO.code i = x := fun h => hb hby h
  have W0 : ∀ zQ, SS p e below s₁ m 0 #[.val (.ref a)] [] zQ → Steps p.tables e below (s₁.setTop (entryFrame m #[(.ref a)] 1)) zQ := fun tt kt => castTop (ef_length m a) kt
  obtain ⟨hE, hV, hC, hA, ok⟩ := hS
  obtain ⟨T101, X101, e101, st101⟩ := getF X0 hx hZ hown (host := "") (Or.inl (w100 hw)) Via.refl e0 hV (g := (mkF m 1 #[.val (.ref a)] [(.ref a)])) rfl rfl (D_ d2_1)
  obtain ⟨cl102, Ar102, -, S102, M102, -, -⟩ := id hA
  obtain ⟨cq103, kq103, q103a, q103b, q103c⟩ := isOf hZ e101 hE
  obtain ⟨_, _, ⟨T103, L103, k103, n103⟩, -, X103, ⟨Lc103, hQ103, l103, y103, z103⟩, st103⟩ := X101.virtualBack hx (y := yn1) (z := yn1) hown (mvT hZ (w151 hw)) (mvT hZ (w152 hw)) (notFace_of_selects (args := #[]) (mvT hZ (w154 hw))) (mvT hZ (w154 hw)) (mvT hZ (w153 hw)) (by decide) (backOf (W := 1) (rm_coder l Z a0 hw [] a (cdr cs) cS h0 n0 Z0 O0 S_cs hcS hC (own_narcdr cs)) hZ (w155 hw) (w23 hw) (by decide) (by decide)) q103a q103c (g := (mkF m 6 #[.val (.ref a)] [(.ref a), (.int (Int32.ofNat (blen cs)))])) rfl (by rw [hml]; rfl) (Steps.refl _) (argsL := []) (rest := [(.int (Int32.ofNat (blen cs)))]) (lenOf pd0 rfl) rfl (wq rfl) (D_ d2_6) (fun _ _ => ⟨rfl, e101, (nb rfl), (nb rfl)⟩)
  dsimp only [Pt.U, Pt.locs, Pt.cells, Pt.slots] at X103 l103 y103 z103 st103 hQ103
  subst l103 y103 z103
  obtain ⟨rfl, Nq103, eq103⟩ := hQ103
  have N103 := Fr.app N0 Nq103
  have W104 : ∀ zQ, SS p e below T103 m 10 #[.val (.ref a)] [(.int (Int32.ofNat cs.length))] zQ → Steps p.tables e below (s₁.setTop (entryFrame m #[(.ref a)] 1)) zQ := by
    intro tt kt
    refine W0 tt ?_
    refine XS.aloadN X0.here hx rfl (D_ d2_0) rfl rfl ?_
    refine st101 _ ?_
    refine X101.arraylength hx (by first | exact Ar102.1 | (rw [e101]; exact Ar102.1)) (State.isArrayOf_alike hZ.alike Ar102.2.1) (g := (mkF m 4 #[.val (.ref a)] [(.ref t)])) rfl rfl (D_ d2_4) _ ?_
    rw [len_of S102 M102]
    refine XS.aloadN X101.here hx rfl (D_ d2_5) rfl rfl ?_
    refine st103.trans ?_
    refine XS.ishr X103.here hx rfl (D_ d2_9) rfl ?_
    show SS p e below T103 m 10 #[.val (.ref a)] [(.int ((Int32.ofNat (blen cs)) >>> ((cdr cs) &&& 31)))] _
    rw [show ((Int32.ofNat (blen cs)) >>> ((cdr cs) &&& 31)) = (Int32.ofNat cs.length) from own_len ok.2]
    exact kt
  obtain ⟨fs, hr, hrun, hended, hW, hsame⟩ := X103.leave (v := some (.int (Int32.ofNat cs.length))) (fun h => by rw [Bd.returns] at h; cases h)
  refine ⟨_, _, W104 _ (retI X103 hx Bd.returns (D_ d2_10) hr), hrun, hended, _, _, rfl, ?_, ⟨_, rfl⟩, hW, hsame.mono (by decide) (by decide)⟩
  show Q_length Z a t kb cs cS h0 n0 _ T103.heap _
  rw [eq103]
  exact ⟨rfl, N103, rfl⟩
def Q_checkLength (Z : State) (j : Int32) (k : Int32) (h0 : Heap) (n0 : Nat) (vQ_ : Option Value) (hQ_ : Heap) (LQ_ : List Loc) : Prop := vQ_ = none ∧ Fr n0 LQ_ ∧ hQ_ = h0
theorem rm_checkLength (l : Launch) (Z : State) (a0 : Array Value) (hw : HW a0 Z) (ws : List Jvm.Cond) (j : Int32) (k : Int32) (h0 : Heap) (n0 : Nat) (Z0 : n0 ≤ h0.size) (hj : ¬ (k < j)) :
    CT l yn3 (Jvm.Cond.code yn3 jdk_65_method_131_code 2 none :: ws) (⟨0, 0, 0, 0⟩ : Room) #[(.int j), (.int k)] Z h0 (Q_checkLength Z j k h0 n0) := by
  refine MetFree.of_bodySF (plainFor_of_name pn_java_util_Arrays) hisR ?_
  intro p e s m args below meth cO s₁ Bd hml hP hK
  obtain ⟨rfl, hZ, hh⟩ := hP
  have hx := Bd.exec
  have hby := Bd.bytes
  have hown : s.vm.findClass "java/util/Arrays" = some m.cls := findClass_of_methodNamed Bd.named
  have hnm := (name_of_methodNamed Bd.named Bd.method).1
  have X0 : Stand p l e (⟨0, 0, 0, 0⟩ : Room) s m #[(.int j), (.int k)] below meth cO s₁ [] 0 0 := Stand.of_body Bd
  have e0 : s₁.heap = h0 := by rw [← hh, Bd.state]; rfl
  have N0 := Fr.nil n0
  have D_ : ∀ {i : Nat} {x}, decode jdk_65_method_131_code i = x → decode cO.code i = x := fun h => hb hby h
  have W0 : ∀ zQ, SS p e below s₁ m 0 #[.val (.int j), .val (.int k)] [] zQ → Steps p.tables e below (s₁.setTop (entryFrame m #[(.int j), (.int k)] 2)) zQ := fun tt kt => castTop (ef_checkLength m j k) kt
  have W101 : ∀ zQ, SS p e below s₁ m 37 #[.val (.int j), .val (.int k)] [] zQ → Steps p.tables e below (s₁.setTop (entryFrame m #[(.int j), (.int k)] 2)) zQ := by
    intro tt kt
    refine W0 tt ?_
    refine XS.iloadN X0.here hx rfl (D_ d3_0) rfl ?_
    refine XS.iloadN X0.here hx rfl (D_ d3_1) rfl ?_
    refine XS.icmpYes X0.here hx rfl (pc0 := 2) (pc' := 37) rfl (D_ d3_2) rfl (flt hj).2.1 (by decide) (by decide) ?_
    exact kt
  obtain ⟨fs, hr, hrun, hended, hW, hsame⟩ := X0.leave (v := none) (fun _ => rfl)
  refine ⟨_, _, W101 _ (X0.returnOut hx Bd.returns (D_ d3_37) hr), hrun, hended, _, _, rfl, ?_, ⟨_, rfl⟩, hW, hsame.mono (by decide) (by decide)⟩
  show Q_checkLength Z j k h0 n0 _ s₁.heap _
  rw [e0]
  exact ⟨rfl, N0, rfl⟩
def Q_mini (Z : State) (j : Int32) (k : Int32) (h0 : Heap) (n0 : Nat) (vQ_ : Option Value) (hQ_ : Heap) (LQ_ : List Loc) : Prop := vQ_ = some (.int (if k < j then k else j)) ∧ Fr n0 LQ_ ∧ hQ_ = h0
theorem rm_mini (l : Launch) (Z : State) (a0 : Array Value) (hw : HW a0 Z) (ws : List Jvm.Cond) (j : Int32) (k : Int32) (h0 : Heap) (n0 : Nat) (Z0 : n0 ≤ h0.size)  :
    CT l yn4 (Jvm.Cond.code yn4 jdk_29_method_69_code 2 (some .int) :: ws) (⟨0, 0, 0, 0⟩ : Room) #[(.int j), (.int k)] Z h0 (Q_mini Z j k h0 n0) := by
  refine MetFree.of_bodySF (Jvm.Free.JP.mathPlain rfl (by decide +kernel)) hisR ?_
  intro p e s m args below meth cO s₁ Bd hml hP hK
  obtain ⟨rfl, hZ, hh⟩ := hP
  have hx := Bd.exec
  have hby := Bd.bytes
  have hown : s.vm.findClass "java/lang/Math" = some m.cls := findClass_of_methodNamed Bd.named
  have hnm := (name_of_methodNamed Bd.named Bd.method).1
  have X0 : Stand p l e (⟨0, 0, 0, 0⟩ : Room) s m #[(.int j), (.int k)] below meth cO s₁ [] 0 0 := Stand.of_body Bd
  have e0 : s₁.heap = h0 := by rw [← hh, Bd.state]; rfl
  have N0 := Fr.nil n0
  have D_ : ∀ {i : Nat} {x}, decode jdk_29_method_69_code i = x → decode cO.code i = x := fun h => hb hby h
  have W0 : ∀ zQ, SS p e below s₁ m 0 #[.val (.int j), .val (.int k)] [] zQ → Steps p.tables e below (s₁.setTop (entryFrame m #[(.int j), (.int k)] 2)) zQ := fun tt kt => castTop (ef_mini m j k) kt
  have W101 : ∀ zQ, SS p e below s₁ m 2 #[.val (.int j), .val (.int k)] [(.int k), (.int j)] zQ → Steps p.tables e below (s₁.setTop (entryFrame m #[(.int j), (.int k)] 2)) zQ := by
    intro tt kt
    refine W0 tt ?_
    refine XS.iloadN X0.here hx rfl (D_ d4_0) rfl ?_
    refine XS.iloadN X0.here hx rfl (D_ d4_1) rfl ?_
    exact kt
  have W103 : ∀ zQ, SS p e below s₁ m 10 #[.val (.int j), .val (.int k)] [(.int (if k < j then k else j))] zQ → Steps p.tables e below (s₁.setTop (entryFrame m #[(.int j), (.int k)] 2)) zQ := by
    intro tt kt
    refine W101 tt ?_
    by_cases hj102 : k < j
    ·
      refine XS.icmpYes X0.here hx rfl (pc0 := 2) (pc' := 9) rfl (D_ d4_2) rfl (tlt hj102).2.2.1 (by decide) (by decide) ?_
      refine XS.iloadN X0.here hx rfl (D_ d4_9) rfl ?_
      exact castTop (by first | rfl | (simp only [if_pos hj102]; first | done | rfl)) kt
    ·
      refine XS.icmpNo X0.here hx rfl (D_ d4_2) rfl (flt hj102).2.2.1 ?_
      refine XS.iloadN X0.here hx rfl (D_ d4_5) rfl ?_
      refine XS.goto X0.here hx rfl (pc0 := 6) (pc' := 10) rfl (D_ d4_6) (by decide) (by decide) ?_
      exact castTop (by first | rfl | (simp only [if_neg hj102]; first | done | rfl)) kt
  obtain ⟨fs, hr, hrun, hended, hW, hsame⟩ := X0.leave (v := some (.int (if k < j then k else j))) (fun h => by rw [Bd.returns] at h; cases h)
  refine ⟨_, _, W103 _ (retI X0 hx Bd.returns (D_ d4_10) hr), hrun, hended, _, _, rfl, ?_, ⟨_, rfl⟩, hW, hsame.mono (by decide) (by decide)⟩
  show Q_mini Z j k h0 n0 _ s₁.heap _
  rw [e0]
  exact ⟨rfl, N0, rfl⟩
def Q_corb (Z : State) (t : Addr) (f : Nat) (gq : Nat) (N : Nat) (kb : ClassId) (vs : List Value) (h0 : Heap) (n0 : Nat) (vQ_ : Option Value) (hQ_ : Heap) (LQ_ : List Loc) : Prop := ∃ r : Addr, ∃ kr : ClassId, vQ_ = some (.ref r) ∧ Fr n0 LQ_ ∧ Keep h0 hQ_ [] ∧ h0.size ≤ r ∧ Arv Z hQ_ r kr .byte (Int32.ofNat (gq - f)) ((vs.drop f).take (gq - f)) (.int (0 : Int32))
theorem rm_corb (l : Launch) (Z : State) (a0 : Array Value) (hw : HW a0 Z) (ws : List Jvm.Cond) (t : Addr) (f : Nat) (gq : Nat) (N : Nat) (kb : ClassId) (vs : List Value) (h0 : Heap) (n0 : Nat) (Z0 : n0 ≤ h0.size) (A1 : Arv Z h0 t kb .byte (Int32.ofNat N) vs (.int (0 : Int32))) (hvs : vs.length = N) (hfg : f ≤ gq) (hgN : gq ≤ N) (hN : N < 2147483648) (hcap : gq - f ≤ 84) :
    CT l yn5 (Jvm.Cond.code yn5 jdk_65_method_133_code 5 (some (.array .byte)) :: ws) (⟨1, 1, 84, 64⟩ : Room) #[(.ref t), (.int (Int32.ofNat f)), (.int (Int32.ofNat gq))] Z h0 (Q_corb Z t f gq N kb vs h0 n0) := by
  refine MetFree.of_bodySF (plainFor_of_name pn_java_util_Arrays) hisR ?_
  intro p e s m args below meth cO s₁ Bd hml hP hK
  obtain ⟨rfl, hZ, hh⟩ := hP
  have hx := Bd.exec
  have hby := Bd.bytes
  have hown : s.vm.findClass "java/util/Arrays" = some m.cls := findClass_of_methodNamed Bd.named
  have hnm := (name_of_methodNamed Bd.named Bd.method).1
  have X0 : Stand p l e (⟨1, 1, 84, 64⟩ : Room) s m #[(.ref t), (.int (Int32.ofNat f)), (.int (Int32.ofNat gq))] below meth cO s₁ [] 0 0 := Stand.of_body Bd
  have e0 : s₁.heap = h0 := by rw [← hh, Bd.state]; rfl
  have N0 := Fr.nil n0
  have D_ : ∀ {i : Nat} {x}, decode jdk_65_method_133_code i = x → decode cO.code i = x := fun h => hb hby h
  have W0 : ∀ zQ, SS p e below s₁ m 0 #[.val (.ref t), .val (.int (Int32.ofNat f)), .val (.int (Int32.ofNat gq)), .unset, .unset] [] zQ → Steps p.tables e below (s₁.setTop (entryFrame m #[(.ref t), (.int (Int32.ofNat f)), (.int (Int32.ofNat gq))] 5)) zQ := fun tt kt => castTop (ef_corb m t (Int32.ofNat f) (Int32.ofNat gq)) kt
  obtain ⟨_, _, ⟨T101, L101, k101, n101⟩, -, X101, ⟨Lc101, hQ101, l101, y101, z101⟩, st101⟩ := Jvm.LawKit.callS X0 hx (y := yn3) hown (mvT hZ (w89 hw)) (mvT hZ (w90 hw)) (mvT hZ (w84 hw)) (mvT hZ (w91 hw)) (by decide) (backOf (W := 0) (rm_checkLength l Z a0 hw [] (Int32.ofNat f) (Int32.ofNat gq) h0 n0 Z0 (own_nlt hfg (by omega))) hZ (w91 hw) (w84 hw) (by decide) (by decide)) (g := (mkF m 2 #[.val (.ref t), .val (.int (Int32.ofNat f)), .val (.int (Int32.ofNat gq)), .unset, .unset] [(.int (Int32.ofNat gq)), (.int (Int32.ofNat f))])) rfl (by rw [hml]; rfl) (argsL := [(.int (Int32.ofNat f)), (.int (Int32.ofNat gq))]) (rest := []) (lenOf pd1 rfl) rfl (wq rfl) (D_ d5_2) (fun _ _ => ⟨rfl, e0, (nb rfl), (nb rfl)⟩)
  dsimp only [Pt.U, Pt.locs, Pt.cells, Pt.slots] at X101 l101 y101 z101 st101 hQ101
  subst l101 y101 z101
  obtain ⟨rfl, Nq101, eq101⟩ := hQ101
  have N101 := Fr.app N0 Nq101
  obtain ⟨T102, h102, k102, X102, e102, E102, A102, st102⟩ := newP X101 hx hZ (aty := .byte) (w24 hw) eq101 (g := (mkF m 10 #[.val (.ref t), .val (.int (Int32.ofNat f)), .val (.int (Int32.ofNat gq)), .val (.int (Int32.ofNat (gq - f))), .unset] [(.int (Int32.ofNat (gq - f)))])) rfl (D_ d5_10) (n := (Int32.ofNat (gq - f))) rfl (own_nneg (by omega)) (cap := 84) (by rw [own_cl (by omega)]; exact hcap) (by decide) (by decide) (by decide)
  obtain ⟨b102, g102⟩ : ∃ z, z = h0.size := ⟨_, rfl⟩
  rw [← g102] at A102 st102
  have K102 := (Keep.refl h0 []).ext E102
  have G102 : Arv Z h102 b102 k102 .byte (Int32.ofNat (gq - f)) [] (.int (0 : Int32)) := Arv.new A102 (own_nneg (by omega))
  have J103 : Arv Z h102 b102 k102 .byte (Int32.ofNat (gq - f)) (List.replicate (gq - f) (.int (0 : Int32))) (.int (0 : Int32)) := Arv.pad G102 (fun i => by simpa using pad_rep [] (.int (0 : Int32)) (gq - f) i)
  have F104 : Arv Z h102 t kb .byte (Int32.ofNat N) vs (.int (0 : Int32)) := (A1.keep K102 nin0)
  obtain ⟨cl105, Ar105, -, S105, M105, -, -⟩ := id F104
  obtain ⟨_, _, ⟨T106, L106, k106, n106⟩, -, X106, ⟨Lc106, hQ106, l106, y106, z106⟩, st106⟩ := Jvm.LawKit.callS X102 hx (y := yn4) hown (mvT hZ (w92 hw)) (mvT hZ (w93 hw)) (mvT hZ (w94 hw)) (mvT hZ (w95 hw)) (by decide) (backOf (W := 4) (rm_mini l Z a0 hw [] (Int32.ofNat (N - f)) (Int32.ofNat (gq - f)) h102 n0 (Nat.le_trans Z0 K102.1) ) hZ (w95 hw) (w94 hw) (by decide) (by decide)) (g := (mkF m 24 #[.val (.ref t), .val (.int (Int32.ofNat f)), .val (.int (Int32.ofNat gq)), .val (.int (Int32.ofNat (gq - f))), .val (.ref b102)] [(.int (Int32.ofNat (gq - f))), (.int (Int32.ofNat (N - f))), (.int (0 : Int32)), (.ref b102), (.int (Int32.ofNat f)), (.ref t)])) rfl (by rw [hml]; rfl) (argsL := [(.int (Int32.ofNat (N - f))), (.int (Int32.ofNat (gq - f)))]) (rest := [(.int (0 : Int32)), (.ref b102), (.int (Int32.ofNat f)), (.ref t)]) (lenOf pd2 rfl) rfl (wq rfl) (D_ d5_24) (fun _ _ => ⟨rfl, e102, (nb rfl), (nb rfl)⟩)
  dsimp only [Pt.U, Pt.locs, Pt.cells, Pt.slots] at X106 l106 y106 z106 st106 hQ106
  subst l106 y106 z106
  obtain ⟨rfl, Nq106, eq106⟩ := hQ106
  have N106 := Fr.app N101 Nq106
  obtain ⟨T107, h107, Lp107, X107, e107, N107, K107, V107, st107⟩ := cpA X106 hx hZ hown (w96 hw) (w99 hw) (w97 hw) (w98 hw) eq106 F104 J103 (Or.inl ⟨rfl, rfl⟩) (own_nneg (by omega)) (by decide) (own_nneg (by omega)) (by rw [own_cl (by omega), own_cl (by omega), own_cl (by omega)]; omega) (by rw [own_cl (by omega)]; show 0 + (gq - f) ≤ gq - f; omega) (us := ((vs.drop f).take (gq - f))) (by rw [own_cl (by omega), own_cl (by omega)]; exact own_slice vs f (gq - f) _ (by omega)) (by rw [own_cl (by omega)]; simp) N106 (Nat.le_trans Z0 (Nat.le_of_eq g102.symm)) (g := (mkF m 27 #[.val (.ref t), .val (.int (Int32.ofNat f)), .val (.int (Int32.ofNat gq)), .val (.int (Int32.ofNat (gq - f))), .val (.ref b102)] [(.int (Int32.ofNat (gq - f))), (.int (0 : Int32)), (.ref b102), (.int (Int32.ofNat f)), (.ref t)])) rfl (by rw [hml]; rfl) rfl (D_ d5_27) (by decide) (W := 0) (by show 2 * 0 + _ ≤ _; exact Nat.le_of_eq rfl) (by decide)
  have J108 : Arv Z h107 b102 k102 .byte (Int32.ofNat (gq - f)) ((vs.drop f).take (gq - f)) (.int (0 : Int32)) := by have q := V107; rw [own_cl (by omega), show (0 : Int32).toNatClampNeg = 0 from rfl, own_fill ((vs.drop f).take (gq - f)) (gq - f) (by rw [List.length_take, List.length_drop]; omega)] at q; exact q
  have W109 : ∀ zQ, SS p e below T107 m 32 #[.val (.ref t), .val (.int (Int32.ofNat f)), .val (.int (Int32.ofNat gq)), .val (.int (Int32.ofNat (gq - f))), .val (.ref b102)] [(.ref b102)] zQ → Steps p.tables e below (s₁.setTop (entryFrame m #[(.ref t), (.int (Int32.ofNat f)), (.int (Int32.ofNat gq))] 5)) zQ := by
    intro tt kt
    refine W0 tt ?_
    refine XS.iloadN X0.here hx rfl (D_ d5_0) rfl ?_
    refine XS.iloadN X0.here hx rfl (D_ d5_1) rfl ?_
    refine st101 _ ?_
    refine XS.iloadN X101.here hx rfl (D_ d5_5) rfl ?_
    refine XS.iloadN X101.here hx rfl (D_ d5_6) rfl ?_
    refine XS.isub X101.here hx rfl (D_ d5_7) rfl ?_
    show SS p e below T101 m 8 #[.val (.ref t), .val (.int (Int32.ofNat f)), .val (.int (Int32.ofNat gq)), .unset, .unset] [(.int ((Int32.ofNat gq) - (Int32.ofNat f)))] _
    rw [show ((Int32.ofNat gq) - (Int32.ofNat f)) = (Int32.ofNat (gq - f)) from own_sub (by omega) (by omega)]
    refine XS.istoreN X101.here hx rfl (D_ d5_8) rfl (l' := #[.val (.ref t), .val (.int (Int32.ofNat f)), .val (.int (Int32.ofNat gq)), .val (.int (Int32.ofNat (gq - f))), .unset]) rfl ?_
    refine XS.iloadN X101.here hx rfl (D_ d5_9) rfl ?_
    refine st102 _ ?_
    refine XS.astore X102.here hx rfl (D_ d5_12) rfl rfl (l' := #[.val (.ref t), .val (.int (Int32.ofNat f)), .val (.int (Int32.ofNat gq)), .val (.int (Int32.ofNat (gq - f))), .val (.ref b102)]) rfl ?_
    refine XS.aloadN X102.here hx rfl (D_ d5_14) rfl rfl ?_
    refine XS.iloadN X102.here hx rfl (D_ d5_15) rfl ?_
    refine XS.aload X102.here hx rfl (D_ d5_16) rfl rfl ?_
    refine XS.iconst X102.here hx rfl (D_ d5_18) ?_
    refine XS.aloadN X102.here hx rfl (D_ d5_19) rfl rfl ?_
    refine X102.arraylength hx (by first | exact Ar105.1 | (rw [e102]; exact Ar105.1)) (State.isArrayOf_alike hZ.alike Ar105.2.1) (g := (mkF m 20 #[.val (.ref t), .val (.int (Int32.ofNat f)), .val (.int (Int32.ofNat gq)), .val (.int (Int32.ofNat (gq - f))), .val (.ref b102)] [(.ref t), (.int (0 : Int32)), (.ref b102), (.int (Int32.ofNat f)), (.ref t)])) rfl rfl (D_ d5_20) _ ?_
    rw [len_of S105 M105]
    refine XS.iloadN X102.here hx rfl (D_ d5_21) rfl ?_
    refine XS.isub X102.here hx rfl (D_ d5_22) rfl ?_
    show SS p e below T102 m 23 #[.val (.ref t), .val (.int (Int32.ofNat f)), .val (.int (Int32.ofNat gq)), .val (.int (Int32.ofNat (gq - f))), .val (.ref b102)] [(.int ((Int32.ofNat N) - (Int32.ofNat f))), (.int (0 : Int32)), (.ref b102), (.int (Int32.ofNat f)), (.ref t)] _
    rw [show ((Int32.ofNat N) - (Int32.ofNat f)) = (Int32.ofNat (N - f)) from own_sub (by omega) (by omega)]
    refine XS.iloadN X102.here hx rfl (D_ d5_23) rfl ?_
    refine st106 _ ?_
    show SS p e below T106 m 27 #[.val (.ref t), .val (.int (Int32.ofNat f)), .val (.int (Int32.ofNat gq)), .val (.int (Int32.ofNat (gq - f))), .val (.ref b102)] [(.int (if (Int32.ofNat (gq - f)) < (Int32.ofNat (N - f)) then (Int32.ofNat (gq - f)) else (Int32.ofNat (N - f)))), (.int (0 : Int32)), (.ref b102), (.int (Int32.ofNat f)), (.ref t)] _
    rw [show (if (Int32.ofNat (gq - f)) < (Int32.ofNat (N - f)) then (Int32.ofNat (gq - f)) else (Int32.ofNat (N - f))) = (Int32.ofNat (gq - f)) from own_min (by omega) (by omega)]
    refine st107 _ ?_
    refine XS.aload X107.here hx rfl (D_ d5_30) rfl rfl ?_
    exact kt
  obtain ⟨fs, hr, hrun, hended, hW, hsame⟩ := X107.leave (v := some (.ref b102)) (fun h => by rw [Bd.returns] at h; cases h)
  refine ⟨_, _, W109 _ (own_retR X107 hx Bd.returns rfl rfl (D_ d5_32) hr), hrun, hended, _, _, rfl, ?_, ⟨_, rfl⟩, hW, hsame.mono (by decide) (by decide)⟩
  show Q_corb Z t f gq N kb vs h0 n0 _ T107.heap _
  rw [e107]
  exact ⟨b102, k102, rfl, N107, (Keep.trans (Keep.trans (Keep.refl h0 []) K102 all0) K107 (allS (Or.inr (Nat.le_of_eq g102.symm)) all0)), (Nat.le_of_eq g102.symm), J108⟩
def Q_cor (Z : State) (t : Addr) (f : Nat) (gq : Nat) (N : Nat) (kb : ClassId) (vs : List Value) (h0 : Heap) (n0 : Nat) (vQ_ : Option Value) (hQ_ : Heap) (LQ_ : List Loc) : Prop := ∃ r : Addr, ∃ kr : ClassId, vQ_ = some (.ref r) ∧ Fr n0 LQ_ ∧ Keep h0 hQ_ [] ∧ h0.size ≤ r ∧ Arv Z hQ_ r kr .byte (Int32.ofNat (gq - f)) ((vs.drop f).take (gq - f)) (.int (0 : Int32))
theorem rm_cor (l : Launch) (Z : State) (a0 : Array Value) (hw : HW a0 Z) (ws : List Jvm.Cond) (t : Addr) (f : Nat) (gq : Nat) (N : Nat) (kb : ClassId) (vs : List Value) (h0 : Heap) (n0 : Nat) (Z0 : n0 ≤ h0.size) (A1 : Arv Z h0 t kb .byte (Int32.ofNat N) vs (.int (0 : Int32))) (hvs : vs.length = N) (hfg : f ≤ gq) (hgN : gq ≤ N) (hN : N < 2147483648) (hcap : gq - f ≤ 84) (hw0 : f = 0 → gq ≠ N) :
    CT l yn6 (Jvm.Cond.code yn6 jdk_65_method_132_code 3 (some (.array .byte)) :: ws) (⟨2, 1, 84, 80⟩ : Room) #[(.ref t), (.int (Int32.ofNat f)), (.int (Int32.ofNat gq))] Z h0 (Q_cor Z t f gq N kb vs h0 n0) := by
  refine MetFree.of_bodySF (plainFor_of_name pn_java_util_Arrays) hisR ?_
  intro p e s m args below meth cO s₁ Bd hml hP hK
  obtain ⟨rfl, hZ, hh⟩ := hP
  have hx := Bd.exec
  have hby := Bd.bytes
  have hown : s.vm.findClass "java/util/Arrays" = some m.cls := findClass_of_methodNamed Bd.named
  have hnm := (name_of_methodNamed Bd.named Bd.method).1
  have X0 : Stand p l e (⟨2, 1, 84, 80⟩ : Room) s m #[(.ref t), (.int (Int32.ofNat f)), (.int (Int32.ofNat gq))] below meth cO s₁ [] 0 0 := Stand.of_body Bd
  have e0 : s₁.heap = h0 := by rw [← hh, Bd.state]; rfl
  have N0 := Fr.nil n0
  have D_ : ∀ {i : Nat} {x}, decode jdk_65_method_132_code i = x → decode cO.code i = x := fun h => hb hby h
  have W0 : ∀ zQ, SS p e below s₁ m 0 #[.val (.ref t), .val (.int (Int32.ofNat f)), .val (.int (Int32.ofNat gq))] [] zQ → Steps p.tables e below (s₁.setTop (entryFrame m #[(.ref t), (.int (Int32.ofNat f)), (.int (Int32.ofNat gq))] 3)) zQ := fun tt kt => castTop (ef_cor m t (Int32.ofNat f) (Int32.ofNat gq)) kt
  have W101 : ∀ zQ, SS p e below s₁ m 1 #[.val (.ref t), .val (.int (Int32.ofNat f)), .val (.int (Int32.ofNat gq))] [(.int (Int32.ofNat f))] zQ → Steps p.tables e below (s₁.setTop (entryFrame m #[(.ref t), (.int (Int32.ofNat f)), (.int (Int32.ofNat gq))] 3)) zQ := by
    intro tt kt
    refine W0 tt ?_
    refine XS.iloadN X0.here hx rfl (D_ d6_0) rfl ?_
    exact kt
  by_cases hc102 : (Int32.ofNat f) = (0 : Int32)
  ·
    obtain ⟨cl103, Ar103, -, S103, M103, -, -⟩ := id A1
    obtain ⟨_, _, ⟨T104, L104, k104, n104⟩, -, X104, ⟨Lc104, hQ104, l104, y104, z104⟩, st104⟩ := Jvm.LawKit.callS X0 hx (y := yn5) hown (mvT hZ (w86 hw)) (mvT hZ (w87 hw)) (mvT hZ (w84 hw)) (mvT hZ (w88 hw)) (by decide) (backOf (W := 0) (rm_corb l Z a0 hw [] t f gq N kb vs h0 n0 Z0 A1 hvs hfg hgN hN hcap) hZ (w88 hw) (w84 hw) (by decide) (by decide)) (g := (mkF m 13 #[.val (.ref t), .val (.int (Int32.ofNat f)), .val (.int (Int32.ofNat gq))] [(.int (Int32.ofNat gq)), (.int (Int32.ofNat f)), (.ref t)])) rfl (by rw [hml]; rfl) (argsL := [(.ref t), (.int (Int32.ofNat f)), (.int (Int32.ofNat gq))]) (rest := []) (lenOf pd3 rfl) rfl (wq rfl) (D_ d6_13) (fun _ _ => ⟨rfl, e0, (nb rfl), (nb rfl)⟩)
    dsimp only [Pt.U, Pt.locs, Pt.cells, Pt.slots] at X104 l104 y104 z104 st104 hQ104
    subst l104 y104 z104
    obtain ⟨r_105, kr_106, rfl, Nq104, K104, P104_0, P104_1⟩ := hQ104
    have N104 := Fr.app N0 Nq104
    have W107 : ∀ zQ, SS p e below T104 m 16 #[.val (.ref t), .val (.int (Int32.ofNat f)), .val (.int (Int32.ofNat gq))] [(.ref r_105)] zQ → Steps p.tables e below (s₁.setTop (entryFrame m #[(.ref t), (.int (Int32.ofNat f)), (.int (Int32.ofNat gq))] 3)) zQ := by
      intro tt kt
      refine W101 tt ?_
      refine XS.ifNo X0.here hx rfl (D_ d6_1) rfl ((if0 _ _).trans (teq hc102).2) ?_
      refine XS.iloadN X0.here hx rfl (D_ d6_4) rfl ?_
      refine XS.aloadN X0.here hx rfl (D_ d6_5) rfl rfl ?_
      refine X0.arraylength hx (by first | exact Ar103.1 | (rw [e0]; exact Ar103.1)) (State.isArrayOf_alike hZ.alike Ar103.2.1) (g := (mkF m 6 #[.val (.ref t), .val (.int (Int32.ofNat f)), .val (.int (Int32.ofNat gq))] [(.ref t), (.int (Int32.ofNat gq))])) rfl rfl (D_ d6_6) _ ?_
      rw [len_of S103 M103]
      refine XS.icmpNo X0.here hx rfl (D_ d6_7) rfl (feq (own_neq (hw0 (own_zero (by omega) hc102)) (by omega) (by omega))).1 ?_
      refine XS.aloadN X0.here hx rfl (D_ d6_10) rfl rfl ?_
      refine XS.iloadN X0.here hx rfl (D_ d6_11) rfl ?_
      refine XS.iloadN X0.here hx rfl (D_ d6_12) rfl ?_
      refine st104 _ ?_
      exact kt
    obtain ⟨fs, hr, hrun, hended, hW, hsame⟩ := X104.leave (v := some (.ref r_105)) (fun h => by rw [Bd.returns] at h; cases h)
    refine ⟨_, _, W107 _ (own_retR X104 hx Bd.returns rfl rfl (D_ d6_16) hr), hrun, hended, _, _, rfl, ?_, ⟨_, rfl⟩, hW, hsame.mono (by decide) (by decide)⟩
    show Q_cor Z t f gq N kb vs h0 n0 _ T104.heap _
    exact ⟨r_105, kr_106, rfl, N104, (Keep.trans (Keep.refl h0 []) K104 all0), P104_0, P104_1⟩
  ·
    obtain ⟨_, _, ⟨T108, L108, k108, n108⟩, -, X108, ⟨Lc108, hQ108, l108, y108, z108⟩, st108⟩ := Jvm.LawKit.callS X0 hx (y := yn5) hown (mvT hZ (w86 hw)) (mvT hZ (w87 hw)) (mvT hZ (w84 hw)) (mvT hZ (w88 hw)) (by decide) (backOf (W := 0) (rm_corb l Z a0 hw [] t f gq N kb vs h0 n0 Z0 A1 hvs hfg hgN hN hcap) hZ (w88 hw) (w84 hw) (by decide) (by decide)) (g := (mkF m 13 #[.val (.ref t), .val (.int (Int32.ofNat f)), .val (.int (Int32.ofNat gq))] [(.int (Int32.ofNat gq)), (.int (Int32.ofNat f)), (.ref t)])) rfl (by rw [hml]; rfl) (argsL := [(.ref t), (.int (Int32.ofNat f)), (.int (Int32.ofNat gq))]) (rest := []) (lenOf pd3 rfl) rfl (wq rfl) (D_ d6_13) (fun _ _ => ⟨rfl, e0, (nb rfl), (nb rfl)⟩)
    dsimp only [Pt.U, Pt.locs, Pt.cells, Pt.slots] at X108 l108 y108 z108 st108 hQ108
    subst l108 y108 z108
    obtain ⟨r_109, kr_110, rfl, Nq108, K108, P108_0, P108_1⟩ := hQ108
    have N108 := Fr.app N0 Nq108
    have W111 : ∀ zQ, SS p e below T108 m 16 #[.val (.ref t), .val (.int (Int32.ofNat f)), .val (.int (Int32.ofNat gq))] [(.ref r_109)] zQ → Steps p.tables e below (s₁.setTop (entryFrame m #[(.ref t), (.int (Int32.ofNat f)), (.int (Int32.ofNat gq))] 3)) zQ := by
      intro tt kt
      refine W101 tt ?_
      refine XS.ifYes X0.here hx rfl (pc0 := 1) (pc' := 10) rfl (D_ d6_1) rfl ((if0 _ _).trans (feq hc102).2) (by decide) (by decide) ?_
      refine XS.aloadN X0.here hx rfl (D_ d6_10) rfl rfl ?_
      refine XS.iloadN X0.here hx rfl (D_ d6_11) rfl ?_
      refine XS.iloadN X0.here hx rfl (D_ d6_12) rfl ?_
      refine st108 _ ?_
      exact kt
    obtain ⟨fs, hr, hrun, hended, hW, hsame⟩ := X108.leave (v := some (.ref r_109)) (fun h => by rw [Bd.returns] at h; cases h)
    refine ⟨_, _, W111 _ (own_retR X108 hx Bd.returns rfl rfl (D_ d6_16) hr), hrun, hended, _, _, rfl, ?_, ⟨_, rfl⟩, hW, hsame.mono (by decide) (by decide)⟩
    show Q_cor Z t f gq N kb vs h0 n0 _ T108.heap _
    exact ⟨r_109, kr_110, rfl, N108, (Keep.trans (Keep.refl h0 []) K108 all0), P108_0, P108_1⟩
def Q_maxi (Z : State) (j : Int32) (k : Int32) (h0 : Heap) (n0 : Nat) (vQ_ : Option Value) (hQ_ : Heap) (LQ_ : List Loc) : Prop := vQ_ = some (.int (if j < k then k else j)) ∧ Fr n0 LQ_ ∧ hQ_ = h0
theorem rm_maxi (l : Launch) (Z : State) (a0 : Array Value) (hw : HW a0 Z) (ws : List Jvm.Cond) (j : Int32) (k : Int32) (h0 : Heap) (n0 : Nat) (Z0 : n0 ≤ h0.size)  :
    CT l yn7 (Jvm.Cond.code yn7 jdk_29_method_65_code 2 (some .int) :: ws) (⟨0, 0, 0, 0⟩ : Room) #[(.int j), (.int k)] Z h0 (Q_maxi Z j k h0 n0) := by
  refine MetFree.of_bodySF (Jvm.Free.JP.mathPlain rfl (by decide +kernel)) hisR ?_
  intro p e s m args below meth cO s₁ Bd hml hP hK
  obtain ⟨rfl, hZ, hh⟩ := hP
  have hx := Bd.exec
  have hby := Bd.bytes
  have hown : s.vm.findClass "java/lang/Math" = some m.cls := findClass_of_methodNamed Bd.named
  have hnm := (name_of_methodNamed Bd.named Bd.method).1
  have X0 : Stand p l e (⟨0, 0, 0, 0⟩ : Room) s m #[(.int j), (.int k)] below meth cO s₁ [] 0 0 := Stand.of_body Bd
  have e0 : s₁.heap = h0 := by rw [← hh, Bd.state]; rfl
  have N0 := Fr.nil n0
  have D_ : ∀ {i : Nat} {x}, decode jdk_29_method_65_code i = x → decode cO.code i = x := fun h => hb hby h
  have W0 : ∀ zQ, SS p e below s₁ m 0 #[.val (.int j), .val (.int k)] [] zQ → Steps p.tables e below (s₁.setTop (entryFrame m #[(.int j), (.int k)] 2)) zQ := fun tt kt => castTop (ef_maxi m j k) kt
  have W101 : ∀ zQ, SS p e below s₁ m 2 #[.val (.int j), .val (.int k)] [(.int k), (.int j)] zQ → Steps p.tables e below (s₁.setTop (entryFrame m #[(.int j), (.int k)] 2)) zQ := by
    intro tt kt
    refine W0 tt ?_
    refine XS.iloadN X0.here hx rfl (D_ d7_0) rfl ?_
    refine XS.iloadN X0.here hx rfl (D_ d7_1) rfl ?_
    exact kt
  have W103 : ∀ zQ, SS p e below s₁ m 10 #[.val (.int j), .val (.int k)] [(.int (if j < k then k else j))] zQ → Steps p.tables e below (s₁.setTop (entryFrame m #[(.int j), (.int k)] 2)) zQ := by
    intro tt kt
    refine W101 tt ?_
    by_cases hj102 : j < k
    ·
      refine XS.icmpYes X0.here hx rfl (pc0 := 2) (pc' := 9) rfl (D_ d7_2) rfl (tlt hj102).1 (by decide) (by decide) ?_
      refine XS.iloadN X0.here hx rfl (D_ d7_9) rfl ?_
      exact castTop (by first | rfl | (simp only [if_pos hj102]; first | done | rfl)) kt
    ·
      refine XS.icmpNo X0.here hx rfl (D_ d7_2) rfl (flt hj102).1 ?_
      refine XS.iloadN X0.here hx rfl (D_ d7_5) rfl ?_
      refine XS.goto X0.here hx rfl (pc0 := 6) (pc' := 10) rfl (D_ d7_6) (by decide) (by decide) ?_
      exact castTop (by first | rfl | (simp only [if_neg hj102]; first | done | rfl)) kt
  obtain ⟨fs, hr, hrun, hended, hW, hsame⟩ := X0.leave (v := some (.int (if j < k then k else j))) (fun h => by rw [Bd.returns] at h; cases h)
  refine ⟨_, _, W103 _ (retI X0 hx Bd.returns (D_ d7_10) hr), hrun, hended, _, _, rfl, ?_, ⟨_, rfl⟩, hW, hsame.mono (by decide) (by decide)⟩
  show Q_maxi Z j k h0 n0 _ s₁.heap _
  rw [e0]
  exact ⟨rfl, N0, rfl⟩
def Q_newLength (Z : State) (N : Nat) (D : Nat) (P : Nat) (h0 : Heap) (n0 : Nat) (vQ_ : Option Value) (hQ_ : Heap) (LQ_ : List Loc) : Prop := vQ_ = some (.int (Int32.ofNat (N + max D P))) ∧ Fr n0 LQ_ ∧ hQ_ = h0
theorem rm_newLength (l : Launch) (Z : State) (a0 : Array Value) (hw : HW a0 Z) (ws : List Jvm.Cond) (N : Nat) (D : Nat) (P : Nat) (h0 : Heap) (n0 : Nat) (Z0 : n0 ≤ h0.size) (hp : 0 < P) (hs : N + max D P < 1048576) :
    CT l yn8 (Jvm.Cond.code yn8 jdk_48_method_27_code 4 (some .int) :: ws) (⟨1, 0, 0, 14⟩ : Room) #[(.int (Int32.ofNat N)), (.int (Int32.ofNat D)), (.int (Int32.ofNat P))] Z h0 (Q_newLength Z N D P h0 n0) := by
  refine MetFree.of_bodySF (plainFor_of_name pn_jdk_internal_util_ArraysSupport) hisR ?_
  intro p e s m args below meth cO s₁ Bd hml hP hK
  obtain ⟨rfl, hZ, hh⟩ := hP
  have hx := Bd.exec
  have hby := Bd.bytes
  have hown : s.vm.findClass "jdk/internal/util/ArraysSupport" = some m.cls := findClass_of_methodNamed Bd.named
  have hnm := (name_of_methodNamed Bd.named Bd.method).1
  have X0 : Stand p l e (⟨1, 0, 0, 14⟩ : Room) s m #[(.int (Int32.ofNat N)), (.int (Int32.ofNat D)), (.int (Int32.ofNat P))] below meth cO s₁ [] 0 0 := Stand.of_body Bd
  have e0 : s₁.heap = h0 := by rw [← hh, Bd.state]; rfl
  have N0 := Fr.nil n0
  have D_ : ∀ {i : Nat} {x}, decode jdk_48_method_27_code i = x → decode cO.code i = x := fun h => hb hby h
  have W0 : ∀ zQ, SS p e below s₁ m 0 #[.val (.int (Int32.ofNat N)), .val (.int (Int32.ofNat D)), .val (.int (Int32.ofNat P)), .unset] [] zQ → Steps p.tables e below (s₁.setTop (entryFrame m #[(.int (Int32.ofNat N)), (.int (Int32.ofNat D)), (.int (Int32.ofNat P))] 4)) zQ := fun tt kt => castTop (ef_newLength m (Int32.ofNat N) (Int32.ofNat D) (Int32.ofNat P)) kt
  obtain ⟨_, _, ⟨T101, L101, k101, n101⟩, -, X101, ⟨Lc101, hQ101, l101, y101, z101⟩, st101⟩ := Jvm.LawKit.callS X0 hx (y := yn7) hown (mvT hZ (w245 hw)) (mvT hZ (w215 hw)) (mvT hZ (w94 hw)) (mvT hZ (w216 hw)) (by decide) (backOf (W := 1) (rm_maxi l Z a0 hw [] (Int32.ofNat D) (Int32.ofNat P) h0 n0 Z0 ) hZ (w216 hw) (w94 hw) (by decide) (by decide)) (g := (mkF m 3 #[.val (.int (Int32.ofNat N)), .val (.int (Int32.ofNat D)), .val (.int (Int32.ofNat P)), .unset] [(.int (Int32.ofNat P)), (.int (Int32.ofNat D)), (.int (Int32.ofNat N))])) rfl (by rw [hml]; rfl) (argsL := [(.int (Int32.ofNat D)), (.int (Int32.ofNat P))]) (rest := [(.int (Int32.ofNat N))]) (lenOf pd2 rfl) rfl (wq rfl) (D_ d8_3) (fun _ _ => ⟨rfl, e0, (nb rfl), (nb rfl)⟩)
  dsimp only [Pt.U, Pt.locs, Pt.cells, Pt.slots] at X101 l101 y101 z101 st101 hQ101
  subst l101 y101 z101
  obtain ⟨rfl, Nq101, eq101⟩ := hQ101
  have N101 := Fr.app N0 Nq101
  have W102 : ∀ zQ, SS p e below T101 m 20 #[.val (.int (Int32.ofNat N)), .val (.int (Int32.ofNat D)), .val (.int (Int32.ofNat P)), .val (.int (Int32.ofNat (N + max D P)))] [(.int (Int32.ofNat (N + max D P)))] zQ → Steps p.tables e below (s₁.setTop (entryFrame m #[(.int (Int32.ofNat N)), (.int (Int32.ofNat D)), (.int (Int32.ofNat P))] 4)) zQ := by
    intro tt kt
    refine W0 tt ?_
    refine XS.iloadN X0.here hx rfl (D_ d8_0) rfl ?_
    refine XS.iloadN X0.here hx rfl (D_ d8_1) rfl ?_
    refine XS.iloadN X0.here hx rfl (D_ d8_2) rfl ?_
    refine st101 _ ?_
    show SS p e below T101 m 6 #[.val (.int (Int32.ofNat N)), .val (.int (Int32.ofNat D)), .val (.int (Int32.ofNat P)), .unset] [(.int (if (Int32.ofNat D) < (Int32.ofNat P) then (Int32.ofNat P) else (Int32.ofNat D))), (.int (Int32.ofNat N))] _
    rw [show (if (Int32.ofNat D) < (Int32.ofNat P) then (Int32.ofNat P) else (Int32.ofNat D)) = (Int32.ofNat (max D P)) from own_max (by omega) (by omega)]
    refine XS.iadd X101.here hx rfl (D_ d8_6) rfl ?_
    show SS p e below T101 m 7 #[.val (.int (Int32.ofNat N)), .val (.int (Int32.ofNat D)), .val (.int (Int32.ofNat P)), .unset] [(.int ((Int32.ofNat N) + (Int32.ofNat (max D P))))] _
    rw [show ((Int32.ofNat N) + (Int32.ofNat (max D P))) = (Int32.ofNat (N + max D P)) from (Int32.ofNat_add _ _).symm]
    refine XS.istoreN X101.here hx rfl (D_ d8_7) rfl (l' := #[.val (.int (Int32.ofNat N)), .val (.int (Int32.ofNat D)), .val (.int (Int32.ofNat P)), .val (.int (Int32.ofNat (N + max D P)))]) rfl ?_
    refine XS.iconst X101.here hx rfl (D_ d8_8) ?_
    refine XS.iloadN X101.here hx rfl (D_ d8_9) rfl ?_
    refine XS.icmpNo X101.here hx rfl (D_ d8_10) rfl (tlt (own_lt (i := 0) (by omega) (by omega))).2.1 ?_
    refine XS.iloadN X101.here hx rfl (D_ d8_13) rfl ?_
    refine X101.ldcInt hx hown (mvT hZ (w246 hw)) (g := (mkF m 14 #[.val (.int (Int32.ofNat N)), .val (.int (Int32.ofNat D)), .val (.int (Int32.ofNat P)), .val (.int (Int32.ofNat (N + max D P)))] [(.int (Int32.ofNat (N + max D P)))])) rfl (D_ d8_14) _ ?_
    refine XS.icmpNo X101.here hx rfl (D_ d8_16) rfl (flt (own_nlt (i := 2147483639) (by omega) (by decide))).2.2.1 ?_
    refine XS.iloadN X101.here hx rfl (D_ d8_19) rfl ?_
    exact kt
  obtain ⟨fs, hr, hrun, hended, hW, hsame⟩ := X101.leave (v := some (.int (Int32.ofNat (N + max D P)))) (fun h => by rw [Bd.returns] at h; cases h)
  refine ⟨_, _, W102 _ (retI X101 hx Bd.returns (D_ d8_20) hr), hrun, hended, _, _, rfl, ?_, ⟨_, rfl⟩, hW, hsame.mono (by decide) (by decide)⟩
  show Q_newLength Z N D P h0 n0 _ T101.heap _
  rw [eq101]
  exact ⟨rfl, N101, rfl⟩
def Q_newCap (Z : State) (a : Addr) (M : Nat) (t : Addr) (kb : ClassId) (N : Nat) (vs : List Value) (h0 : Heap) (n0 : Nat) (vQ_ : Option Value) (hQ_ : Heap) (LQ_ : List Loc) : Prop := vQ_ = some (.int (Int32.ofNat (N + max (M - N) (N + 2)))) ∧ Fr n0 LQ_ ∧ hQ_ = h0
theorem rm_newCap (l : Launch) (Z : State) (a0 : Array Value) (hw : HW a0 Z) (ws : List Jvm.Cond) (a : Addr) (M : Nat) (t : Addr) (kb : ClassId) (N : Nat) (vs : List Value) (h0 : Heap) (n0 : Nat) (Z0 : n0 ≤ h0.size) (F1 : Fld Z h0 a "java/lang/AbstractStringBuilder" "value" "[B" (.ref t)) (F2 : Fld Z h0 a "java/lang/AbstractStringBuilder" "coder" "B" (.int (0 : Int32))) (V1 : Arv Z h0 t kb .byte (Int32.ofNat N) vs (.int (0 : Int32))) (hNM : N < M) (hM : M < 65536) :
    CT l yn9 (Jvm.Cond.code yn9 jdk_68_method_10_code 6 (some .int) :: ws) (⟨2, 0, 0, 29⟩ : Room) #[(.ref a), (.int (Int32.ofNat M))] Z h0 (Q_newCap Z a M t kb N vs h0 n0) := by
  refine MetFree.of_bodySF (plainFor_of_name pn_java_lang_AbstractStringBuilder) hisR ?_
  intro p e s m args below meth cO s₁ Bd hml hP hK
  obtain ⟨rfl, hZ, hh⟩ := hP
  have hx := Bd.exec
  have hby := Bd.bytes
  have hown : s.vm.findClass "java/lang/AbstractStringBuilder" = some m.cls := findClass_of_methodNamed Bd.named
  have hnm := (name_of_methodNamed Bd.named Bd.method).1
  have X0 : Stand p l e (⟨2, 0, 0, 29⟩ : Room) s m #[(.ref a), (.int (Int32.ofNat M))] below meth cO s₁ [] 0 0 := Stand.of_body Bd
  have e0 : s₁.heap = h0 := by rw [← hh, Bd.state]; rfl
  have N0 := Fr.nil n0
  have D_ : ∀ {i : Nat} {x}, decode jdk_68_method_10_code i = x → decode cO.code i = x := fun h => hb hby h
  have W0 : ∀ zQ, SS p e below s₁ m 0 #[.val (.ref a), .val (.int (Int32.ofNat M)), .unset, .unset, .unset, .unset] [] zQ → Steps p.tables e below (s₁.setTop (entryFrame m #[(.ref a), (.int (Int32.ofNat M))] 6)) zQ := fun tt kt => castTop (ef_newCap m a (Int32.ofNat M)) kt
  obtain ⟨T101, X101, e101, st101⟩ := getF X0 hx hZ hown (host := "") (Or.inl (w25 hw)) Via.refl e0 F1 (g := (mkF m 1 #[.val (.ref a), .val (.int (Int32.ofNat M)), .unset, .unset, .unset, .unset] [(.ref a)])) rfl rfl (D_ d9_1)
  obtain ⟨cl102, Ar102, -, S102, M102, -, -⟩ := id V1
  obtain ⟨T103, X103, e103, st103⟩ := getF X101 hx hZ hown (host := "") (Or.inl (w27 hw)) Via.refl e101 F2 (g := (mkF m 8 #[.val (.ref a), .val (.int (Int32.ofNat M)), .val (.int (Int32.ofNat N)), .unset, .unset, .unset] [(.ref a), (.int (Int32.ofNat M))])) rfl rfl (D_ d9_8)
  obtain ⟨T104, X104, e104, st104⟩ := getF X103 hx hZ hown (host := "") (Or.inl (w27 hw)) Via.refl e103 F2 (g := (mkF m 24 #[.val (.ref a), .val (.int (Int32.ofNat M)), .val (.int (Int32.ofNat N)), .val (.int (Int32.ofNat M)), .val (.int (Int32.ofNat (M - N))), .unset] [(.ref a), (.int (2 : Int32)), (.int (Int32.ofNat N)), (.int (Int32.ofNat (M - N))), (.int (Int32.ofNat N))])) rfl rfl (D_ d9_24)
  obtain ⟨_, _, ⟨T105, L105, k105, n105⟩, -, X105, ⟨Lc105, hQ105, l105, y105, z105⟩, st105⟩ := Jvm.LawKit.callS X104 hx (y := yn8) hown (mvT hZ (w241 hw)) (mvT hZ (w242 hw)) (mvT hZ (w243 hw)) (mvT hZ (w244 hw)) (by decide) (backOf (W := 0) (rm_newLength l Z a0 hw [] N (M - N) (N + 2) h0 n0 Z0 (by omega) (by omega)) hZ (w244 hw) (w243 hw) (by decide) (by decide)) (g := (mkF m 29 #[.val (.ref a), .val (.int (Int32.ofNat M)), .val (.int (Int32.ofNat N)), .val (.int (Int32.ofNat M)), .val (.int (Int32.ofNat (M - N))), .unset] [(.int (Int32.ofNat (N + 2))), (.int (Int32.ofNat (M - N))), (.int (Int32.ofNat N))])) rfl (by rw [hml]; rfl) (argsL := [(.int (Int32.ofNat N)), (.int (Int32.ofNat (M - N))), (.int (Int32.ofNat (N + 2)))]) (rest := []) (lenOf pd4 rfl) rfl (wq rfl) (D_ d9_29) (fun _ _ => ⟨rfl, e104, (nb rfl), (nb rfl)⟩)
  dsimp only [Pt.U, Pt.locs, Pt.cells, Pt.slots] at X105 l105 y105 z105 st105 hQ105
  subst l105 y105 z105
  obtain ⟨rfl, Nq105, eq105⟩ := hQ105
  have N105 := Fr.app N0 Nq105
  obtain ⟨T106, X106, e106, st106⟩ := getF X105 hx hZ hown (host := "") (Or.inl (w27 hw)) Via.refl eq105 F2 (g := (mkF m 54 #[.val (.ref a), .val (.int (Int32.ofNat M)), .val (.int (Int32.ofNat N)), .val (.int (Int32.ofNat M)), .val (.int (Int32.ofNat (M - N))), .val (.int (Int32.ofNat (N + max (M - N) (N + 2))))] [(.ref a), (.int (Int32.ofNat (N + max (M - N) (N + 2))))])) rfl rfl (D_ d9_54)
  have W107 : ∀ zQ, SS p e below T106 m 58 #[.val (.ref a), .val (.int (Int32.ofNat M)), .val (.int (Int32.ofNat N)), .val (.int (Int32.ofNat M)), .val (.int (Int32.ofNat (M - N))), .val (.int (Int32.ofNat (N + max (M - N) (N + 2))))] [(.int (Int32.ofNat (N + max (M - N) (N + 2))))] zQ → Steps p.tables e below (s₁.setTop (entryFrame m #[(.ref a), (.int (Int32.ofNat M))] 6)) zQ := by
    intro tt kt
    refine W0 tt ?_
    refine XS.aloadN X0.here hx rfl (D_ d9_0) rfl rfl ?_
    refine st101 _ ?_
    refine X101.arraylength hx (by first | exact Ar102.1 | (rw [e101]; exact Ar102.1)) (State.isArrayOf_alike hZ.alike Ar102.2.1) (g := (mkF m 4 #[.val (.ref a), .val (.int (Int32.ofNat M)), .unset, .unset, .unset, .unset] [(.ref t)])) rfl rfl (D_ d9_4) _ ?_
    rw [len_of S102 M102]
    refine XS.istoreN X101.here hx rfl (D_ d9_5) rfl (l' := #[.val (.ref a), .val (.int (Int32.ofNat M)), .val (.int (Int32.ofNat N)), .unset, .unset, .unset]) rfl ?_
    refine XS.iloadN X101.here hx rfl (D_ d9_6) rfl ?_
    refine XS.aloadN X101.here hx rfl (D_ d9_7) rfl rfl ?_
    refine st103 _ ?_
    refine XS.ishl X103.here hx rfl (D_ d9_11) rfl ?_
    show SS p e below T103 m 12 #[.val (.ref a), .val (.int (Int32.ofNat M)), .val (.int (Int32.ofNat N)), .unset, .unset, .unset] [(.int ((Int32.ofNat M) <<< ((0 : Int32) &&& 31)))] _
    rw [show ((Int32.ofNat M) <<< ((0 : Int32) &&& 31)) = (Int32.ofNat M) from own_shl0 _]
    refine XS.istoreN X103.here hx rfl (D_ d9_12) rfl (l' := #[.val (.ref a), .val (.int (Int32.ofNat M)), .val (.int (Int32.ofNat N)), .val (.int (Int32.ofNat M)), .unset, .unset]) rfl ?_
    refine XS.iloadN X103.here hx rfl (D_ d9_13) rfl ?_
    refine XS.iloadN X103.here hx rfl (D_ d9_14) rfl ?_
    refine XS.isub X103.here hx rfl (D_ d9_15) rfl ?_
    show SS p e below T103 m 16 #[.val (.ref a), .val (.int (Int32.ofNat M)), .val (.int (Int32.ofNat N)), .val (.int (Int32.ofNat M)), .unset, .unset] [(.int ((Int32.ofNat M) - (Int32.ofNat N)))] _
    rw [show ((Int32.ofNat M) - (Int32.ofNat N)) = (Int32.ofNat (M - N)) from own_sub (by omega) (by omega)]
    refine XS.istore X103.here hx rfl (D_ d9_16) rfl (l' := #[.val (.ref a), .val (.int (Int32.ofNat M)), .val (.int (Int32.ofNat N)), .val (.int (Int32.ofNat M)), .val (.int (Int32.ofNat (M - N))), .unset]) rfl ?_
    refine XS.iloadN X103.here hx rfl (D_ d9_18) rfl ?_
    refine XS.iload X103.here hx rfl (D_ d9_19) rfl ?_
    refine XS.iloadN X103.here hx rfl (D_ d9_21) rfl ?_
    refine XS.iconst X103.here hx rfl (D_ d9_22) ?_
    refine XS.aloadN X103.here hx rfl (D_ d9_23) rfl rfl ?_
    refine st104 _ ?_
    refine XS.ishl X104.here hx rfl (D_ d9_27) rfl ?_
    show SS p e below T104 m 28 #[.val (.ref a), .val (.int (Int32.ofNat M)), .val (.int (Int32.ofNat N)), .val (.int (Int32.ofNat M)), .val (.int (Int32.ofNat (M - N))), .unset] [(.int ((2 : Int32) <<< ((0 : Int32) &&& 31))), (.int (Int32.ofNat N)), (.int (Int32.ofNat (M - N))), (.int (Int32.ofNat N))] _
    rw [show ((2 : Int32) <<< ((0 : Int32) &&& 31)) = (2 : Int32) from (by decide)]
    refine XS.iadd X104.here hx rfl (D_ d9_28) rfl ?_
    show SS p e below T104 m 29 #[.val (.ref a), .val (.int (Int32.ofNat M)), .val (.int (Int32.ofNat N)), .val (.int (Int32.ofNat M)), .val (.int (Int32.ofNat (M - N))), .unset] [(.int ((Int32.ofNat N) + (2 : Int32))), (.int (Int32.ofNat (M - N))), (.int (Int32.ofNat N))] _
    rw [show ((Int32.ofNat N) + (2 : Int32)) = (Int32.ofNat (N + 2)) from (Int32.ofNat_add N 2).symm]
    refine st105 _ ?_
    refine XS.istore X105.here hx rfl (D_ d9_32) rfl (l' := #[.val (.ref a), .val (.int (Int32.ofNat M)), .val (.int (Int32.ofNat N)), .val (.int (Int32.ofNat M)), .val (.int (Int32.ofNat (M - N))), .val (.int (Int32.ofNat (N + max (M - N) (N + 2))))]) rfl ?_
    refine XS.iload X105.here hx rfl (D_ d9_34) rfl ?_
    refine X105.ldcInt hx hown (mvT hZ (w247 hw)) (g := (mkF m 36 #[.val (.ref a), .val (.int (Int32.ofNat M)), .val (.int (Int32.ofNat N)), .val (.int (Int32.ofNat M)), .val (.int (Int32.ofNat (M - N))), .val (.int (Int32.ofNat (N + max (M - N) (N + 2))))] [(.int (Int32.ofNat (N + max (M - N) (N + 2))))])) rfl (D_ d9_36) _ ?_
    refine XS.icmpYes X105.here hx rfl (pc0 := 38) (pc' := 51) rfl (D_ d9_38) rfl (feq (own_neq (n := 2147483647) (by omega) (by omega) (by decide))).2 (by decide) (by decide) ?_
    refine XS.iload X105.here hx rfl (D_ d9_51) rfl ?_
    refine XS.aloadN X105.here hx rfl (D_ d9_53) rfl rfl ?_
    refine st106 _ ?_
    refine XS.ishr X106.here hx rfl (D_ d9_57) rfl ?_
    show SS p e below T106 m 58 #[.val (.ref a), .val (.int (Int32.ofNat M)), .val (.int (Int32.ofNat N)), .val (.int (Int32.ofNat M)), .val (.int (Int32.ofNat (M - N))), .val (.int (Int32.ofNat (N + max (M - N) (N + 2))))] [(.int ((Int32.ofNat (N + max (M - N) (N + 2))) >>> ((0 : Int32) &&& 31)))] _
    rw [show ((Int32.ofNat (N + max (M - N) (N + 2))) >>> ((0 : Int32) &&& 31)) = (Int32.ofNat (N + max (M - N) (N + 2))) from own_shr0 _]
    exact kt
  obtain ⟨fs, hr, hrun, hended, hW, hsame⟩ := X106.leave (v := some (.int (Int32.ofNat (N + max (M - N) (N + 2))))) (fun h => by rw [Bd.returns] at h; cases h)
  refine ⟨_, _, W107 _ (retI X106 hx Bd.returns (D_ d9_58) hr), hrun, hended, _, _, rfl, ?_, ⟨_, rfl⟩, hW, hsame.mono (by decide) (by decide)⟩
  show Q_newCap Z a M t kb N vs h0 n0 _ T106.heap _
  rw [e106]
  exact ⟨rfl, N105, rfl⟩
def Q_abLatin (Z : State) (a : Addr) (cS : Int32) (h0 : Heap) (n0 : Nat) (vQ_ : Option Value) (hQ_ : Heap) (LQ_ : List Loc) : Prop := vQ_ = some (.int (1 : Int32)) ∧ Fr n0 LQ_ ∧ hQ_ = h0
theorem rm_abLatin (l : Launch) (Z : State) (a0 : Array Value) (hw : HW a0 Z) (ws : List Jvm.Cond) (a : Addr) (cS : Int32) (h0 : Heap) (n0 : Nat) (Z0 : n0 ≤ h0.size) (O0 : Old Z n0 h0) (S_cs : Sta Z Z.heap "java/lang/String" "COMPACT_STRINGS" "Z" (.int cS)) (hcS : ¬ (cS = (0 : Int32))) (F2 : Fld Z h0 a "java/lang/AbstractStringBuilder" "coder" "B" (.int (0 : Int32))) :
    CT l yn10 (Jvm.Cond.code yn10 jdk_68_method_68_code 1 (some .boolean) :: ws) (⟨0, 0, 0, 0⟩ : Room) #[(.ref a)] Z h0 (Q_abLatin Z a cS h0 n0) := by
  refine MetFree.of_bodySF (plainFor_of_name pn_java_lang_AbstractStringBuilder) hisR ?_
  intro p e s m args below meth cO s₁ Bd hml hP hK
  obtain ⟨rfl, hZ, hh⟩ := hP
  have hx := Bd.exec
  have hby := Bd.bytes
  have hown : s.vm.findClass "java/lang/AbstractStringBuilder" = some m.cls := findClass_of_methodNamed Bd.named
  have hnm := (name_of_methodNamed Bd.named Bd.method).1
  have X0 : Stand p l e (⟨0, 0, 0, 0⟩ : Room) s m #[(.ref a)] below meth cO s₁ [] 0 0 := Stand.of_body Bd
  have e0 : s₁.heap = h0 := by rw [← hh, Bd.state]; rfl
  have N0 := Fr.nil n0
  have D_ : ∀ {i : Nat} {x}, decode jdk_68_method_68_code i = x → decode cO.code i = x := fun h => hb hby h
  have W0 : ∀ zQ, SS p e below s₁ m 0 #[.val (.ref a)] [] zQ → Steps p.tables e below (s₁.setTop (entryFrame m #[(.ref a)] 1)) zQ := fun tt kt => castTop (ef_abLatin m a) kt
  have F102 : Sta Z h0 "java/lang/String" "COMPACT_STRINGS" "Z" (.int cS) := S_cs.ext O0.2
  obtain ⟨T101, X101, e101, st101⟩ := getS2 X0 hx hZ hown (host := "") (Or.inl (w22 hw)) Via.refl e0 F102 (g := (mkF m 0 #[.val (.ref a)] [])) rfl (D_ d10_0)
  obtain ⟨T103, X103, e103, st103⟩ := getF X101 hx hZ hown (host := "") (Or.inl (w27 hw)) Via.refl e101 F2 (g := (mkF m 7 #[.val (.ref a)] [(.ref a)])) rfl rfl (D_ d10_7)
  have W104 : ∀ zQ, SS p e below T103 m 18 #[.val (.ref a)] [(.int (1 : Int32))] zQ → Steps p.tables e below (s₁.setTop (entryFrame m #[(.ref a)] 1)) zQ := by
    intro tt kt
    refine W0 tt ?_
    refine st101 _ ?_
    refine XS.ifNo X101.here hx rfl (D_ d10_3) rfl ((if0 _ _).trans (feq hcS).1) ?_
    refine XS.aloadN X101.here hx rfl (D_ d10_6) rfl rfl ?_
    refine st103 _ ?_
    refine XS.ifNo X103.here hx rfl (D_ d10_10) rfl ((if0 _ _).trans (teq (by decide)).2) ?_
    refine XS.iconst X103.here hx rfl (D_ d10_13) ?_
    refine XS.goto X103.here hx rfl (pc0 := 14) (pc' := 18) rfl (D_ d10_14) (by decide) (by decide) ?_
    exact kt
  obtain ⟨fs, hr, hrun, hended, hW, hsame⟩ := X103.leave (v := some (.int (nar .boolean (1 : Int32)))) (fun h => by rw [Bd.returns] at h; cases h)
  refine ⟨_, _, W104 _ (retN X103 hx (t := .boolean) Bd.returns (by simp) (D_ d10_18) hr), hrun, hended, _, _, rfl, ?_, ⟨_, rfl⟩, hW, hsame.mono (by decide) (by decide)⟩
  show Q_abLatin Z a cS h0 n0 _ T103.heap _
  rw [e103]
  exact ⟨rfl, N0, rfl⟩
def Q_canEncode (Z : State) (c : Int32) (h0 : Heap) (n0 : Nat) (vQ_ : Option Value) (hQ_ : Heap) (LQ_ : List Loc) : Prop := vQ_ = some (.int (1 : Int32)) ∧ Fr n0 LQ_ ∧ hQ_ = h0
theorem rm_canEncode (l : Launch) (Z : State) (a0 : Array Value) (hw : HW a0 Z) (ws : List Jvm.Cond) (c : Int32) (h0 : Heap) (n0 : Nat) (Z0 : n0 ≤ h0.size) (hc1 : ¬ ((255 : Int32) < c)) :
    CT l yn11 (Jvm.Cond.code yn11 jdk_43_method_3_code 1 (some .boolean) :: ws) (⟨0, 0, 0, 0⟩ : Room) #[(.int c)] Z h0 (Q_canEncode Z c h0 n0) := by
  refine MetFree.of_bodySF (plainFor_of_name pn_java_lang_StringLatin1) hisR ?_
  intro p e s m args below meth cO s₁ Bd hml hP hK
  obtain ⟨rfl, hZ, hh⟩ := hP
  have hx := Bd.exec
  have hby := Bd.bytes
  have hown : s.vm.findClass "java/lang/StringLatin1" = some m.cls := findClass_of_methodNamed Bd.named
  have hnm := (name_of_methodNamed Bd.named Bd.method).1
  have X0 : Stand p l e (⟨0, 0, 0, 0⟩ : Room) s m #[(.int c)] below meth cO s₁ [] 0 0 := Stand.of_body Bd
  have e0 : s₁.heap = h0 := by rw [← hh, Bd.state]; rfl
  have N0 := Fr.nil n0
  have D_ : ∀ {i : Nat} {x}, decode jdk_43_method_3_code i = x → decode cO.code i = x := fun h => hb hby h
  have W0 : ∀ zQ, SS p e below s₁ m 0 #[.val (.int c)] [] zQ → Steps p.tables e below (s₁.setTop (entryFrame m #[(.int c)] 1)) zQ := fun tt kt => castTop (ef_canEncode m c) kt
  have W101 : ∀ zQ, SS p e below s₁ m 12 #[.val (.int c)] [(.int (1 : Int32))] zQ → Steps p.tables e below (s₁.setTop (entryFrame m #[(.int c)] 1)) zQ := by
    intro tt kt
    refine W0 tt ?_
    refine XS.iloadN X0.here hx rfl (D_ d11_0) rfl ?_
    refine XS.sipush X0.here hx rfl (D_ d11_1) ?_
    refine XS.icmpNo X0.here hx rfl (D_ d11_4) rfl (flt hc1).2.2.1 ?_
    refine XS.iconst X0.here hx rfl (D_ d11_7) ?_
    refine XS.goto X0.here hx rfl (pc0 := 8) (pc' := 12) rfl (D_ d11_8) (by decide) (by decide) ?_
    exact kt
  obtain ⟨fs, hr, hrun, hended, hW, hsame⟩ := X0.leave (v := some (.int (nar .boolean (1 : Int32)))) (fun h => by rw [Bd.returns] at h; cases h)
  refine ⟨_, _, W101 _ (retN X0 hx (t := .boolean) Bd.returns (by simp) (D_ d11_12) hr), hrun, hended, _, _, rfl, ?_, ⟨_, rfl⟩, hW, hsame.mono (by decide) (by decide)⟩
  show Q_canEncode Z c h0 n0 _ s₁.heap _
  rw [e0]
  exact ⟨rfl, N0, rfl⟩
def Q_copyOf6 (Z : State) (t : Addr) (G : Nat) (N : Nat) (kb : ClassId) (cs : List Int32) (h0 : Heap) (n0 : Nat) (vQ_ : Option Value) (hQ_ : Heap) (LQ_ : List Loc) : Prop := ∃ r : Addr, ∃ kr : ClassId, vQ_ = some (.ref r) ∧ Fr n0 LQ_ ∧ Keep h0 hQ_ [] ∧ h0.size ≤ r ∧ Arv Z hQ_ r kr .byte (Int32.ofNat G) (l1 cs) (.int (0 : Int32)) ∧ Exa Z hQ_ r "[B"
theorem rm_copyOf6 (l : Launch) (Z : State) (a0 : Array Value) (hw : HW a0 Z) (ws : List Jvm.Cond) (t : Addr) (G : Nat) (N : Nat) (kb : ClassId) (cs : List Int32) (h0 : Heap) (n0 : Nat) (Z0 : n0 ≤ h0.size) (A1 : Arv Z h0 t kb .byte (Int32.ofNat N) (l1 cs) (.int (0 : Int32))) (hcs : cs.length ≤ N) (hG : N < G) (hcap : G ≤ 12) :
    CT l yn12 (Jvm.Cond.code yn12 jdk_65_method_121_code 3 (some (.array .byte)) :: ws) (⟨1, 1, 12, 64⟩ : Room) #[(.ref t), (.int (Int32.ofNat G))] Z h0 (Q_copyOf6 Z t G N kb cs h0 n0) := by
  refine MetFree.of_bodySF (plainFor_of_name pn_java_util_Arrays) hisR ?_
  intro p e s m args below meth cO s₁ Bd hml hP hK
  obtain ⟨rfl, hZ, hh⟩ := hP
  have hx := Bd.exec
  have hby := Bd.bytes
  have hown : s.vm.findClass "java/util/Arrays" = some m.cls := findClass_of_methodNamed Bd.named
  have hnm := (name_of_methodNamed Bd.named Bd.method).1
  have X0 : Stand p l e (⟨1, 1, 12, 64⟩ : Room) s m #[(.ref t), (.int (Int32.ofNat G))] below meth cO s₁ [] 0 0 := Stand.of_body Bd
  have e0 : s₁.heap = h0 := by rw [← hh, Bd.state]; rfl
  have N0 := Fr.nil n0
  have D_ : ∀ {i : Nat} {x}, decode jdk_65_method_121_code i = x → decode cO.code i = x := fun h => hb hby h
  have W0 : ∀ zQ, SS p e below s₁ m 0 #[.val (.ref t), .val (.int (Int32.ofNat G)), .unset] [] zQ → Steps p.tables e below (s₁.setTop (entryFrame m #[(.ref t), (.int (Int32.ofNat G))] 3)) zQ := fun tt kt => castTop (ef_copyOf6 m t (Int32.ofNat G)) kt
  obtain ⟨cl101, Ar101, -, S101, M101, -, -⟩ := id A1
  obtain ⟨T102, h102, k102, X102, e102, E102, A102, C102, st102⟩ := own_newPE X0 hx hZ (aty := .byte) (w24 hw) e0 (g := (mkF m 15 #[.val (.ref t), .val (.int (Int32.ofNat G)), .unset] [(.int (Int32.ofNat G))])) rfl (D_ d12_15) (n := (Int32.ofNat G)) rfl (own_nneg (by omega)) (cap := 12) (by rw [own_cl (by omega)]; exact hcap) (by decide) (by decide) (by decide) (ad := "[B") rfl
  obtain ⟨b102, g102⟩ : ∃ z, z = h0.size := ⟨_, rfl⟩
  rw [← g102] at A102 st102 C102
  have K102 := (Keep.refl h0 []).ext E102
  have G102 : Arv Z h102 b102 k102 .byte (Int32.ofNat G) [] (.int (0 : Int32)) := Arv.new A102 (own_nneg (by omega))
  have J103 : Arv Z h102 b102 k102 .byte (Int32.ofNat G) (List.replicate G (.int (0 : Int32))) (.int (0 : Int32)) := Arv.pad G102 (fun i => by simpa using pad_rep [] (.int (0 : Int32)) G i)
  have F104 : Arv Z h102 t kb .byte (Int32.ofNat N) (l1 cs) (.int (0 : Int32)) := (A1.keep K102 nin0)
  obtain ⟨cl105, Ar105, -, S105, M105, -, -⟩ := id F104
  obtain ⟨_, _, ⟨T106, L106, k106, n106⟩, -, X106, ⟨Lc106, hQ106, l106, y106, z106⟩, st106⟩ := Jvm.LawKit.callS X102 hx (y := yn4) hown (mvT hZ (w92 hw)) (mvT hZ (w93 hw)) (mvT hZ (w94 hw)) (mvT hZ (w95 hw)) (by decide) (backOf (W := 4) (rm_mini l Z a0 hw [] (Int32.ofNat N) (Int32.ofNat G) h102 n0 (Nat.le_trans Z0 K102.1) ) hZ (w95 hw) (w94 hw) (by decide) (by decide)) (g := (mkF m 25 #[.val (.ref t), .val (.int (Int32.ofNat G)), .val (.ref b102)] [(.int (Int32.ofNat G)), (.int (Int32.ofNat N)), (.int (0 : Int32)), (.ref b102), (.int (0 : Int32)), (.ref t)])) rfl (by rw [hml]; rfl) (argsL := [(.int (Int32.ofNat N)), (.int (Int32.ofNat G))]) (rest := [(.int (0 : Int32)), (.ref b102), (.int (0 : Int32)), (.ref t)]) (lenOf pd2 rfl) rfl (wq rfl) (D_ d12_25) (fun _ _ => ⟨rfl, e102, (nb rfl), (nb rfl)⟩)
  dsimp only [Pt.U, Pt.locs, Pt.cells, Pt.slots] at X106 l106 y106 z106 st106 hQ106
  subst l106 y106 z106
  obtain ⟨rfl, Nq106, eq106⟩ := hQ106
  have N106 := Fr.app N0 Nq106
  obtain ⟨T107, h107, Lp107, X107, e107, N107, K107, V107, st107⟩ := cpA X106 hx hZ hown (w96 hw) (w99 hw) (w97 hw) (w98 hw) eq106 F104 J103 (Or.inl ⟨rfl, rfl⟩) (by decide) (by decide) (own_nneg (by omega)) (by rw [own_cl0, own_cl (by omega)]; omega) (by rw [own_cl0, own_cl (by omega), own_cl (by omega)]; omega) (us := ((List.range N).map fun i => (l1 cs).getD (0 + i) (Value.int (0 : Int32)))) (by rw [own_cl (by omega), own_cl0]) (by rw [own_cl0, own_cl (by omega), List.length_replicate]; omega) N106 (Nat.le_trans Z0 (Nat.le_of_eq g102.symm)) (g := (mkF m 28 #[.val (.ref t), .val (.int (Int32.ofNat G)), .val (.ref b102)] [(.int (Int32.ofNat N)), (.int (0 : Int32)), (.ref b102), (.int (0 : Int32)), (.ref t)])) rfl (by rw [hml]; rfl) rfl (D_ d12_28) (by decide) (W := 0) (by show 2 * 0 + _ ≤ _; exact Nat.le_of_eq rfl) (by decide)
  have J108 : Arv Z h107 b102 k102 .byte (Int32.ofNat G) (l1 cs) (.int (0 : Int32)) := by exact Arv.pad V107 (fun i => by rw [own_cl0, own_cl (by omega)]; exact own_cpad _ _ _ (by rw [l1_len]; exact hcs) i)
  have W109 : ∀ zQ, SS p e below T107 m 32 #[.val (.ref t), .val (.int (Int32.ofNat G)), .val (.ref b102)] [(.ref b102)] zQ → Steps p.tables e below (s₁.setTop (entryFrame m #[(.ref t), (.int (Int32.ofNat G))] 3)) zQ := by
    intro tt kt
    refine W0 tt ?_
    refine XS.iloadN X0.here hx rfl (D_ d12_0) rfl ?_
    refine XS.aloadN X0.here hx rfl (D_ d12_1) rfl rfl ?_
    refine X0.arraylength hx (by first | exact Ar101.1 | (rw [e0]; exact Ar101.1)) (State.isArrayOf_alike hZ.alike Ar101.2.1) (g := (mkF m 2 #[.val (.ref t), .val (.int (Int32.ofNat G)), .unset] [(.ref t), (.int (Int32.ofNat G))])) rfl rfl (D_ d12_2) _ ?_
    rw [len_of S101 M101]
    refine XS.icmpYes X0.here hx rfl (pc0 := 3) (pc' := 14) rfl (D_ d12_3) rfl (feq (own_neq (by omega) (by omega) (by omega))).2 (by decide) (by decide) ?_
    refine XS.iloadN X0.here hx rfl (D_ d12_14) rfl ?_
    refine st102 _ ?_
    refine XS.astoreN X102.here hx rfl (D_ d12_17) rfl rfl (l' := #[.val (.ref t), .val (.int (Int32.ofNat G)), .val (.ref b102)]) rfl ?_
    refine XS.aloadN X102.here hx rfl (D_ d12_18) rfl rfl ?_
    refine XS.iconst X102.here hx rfl (D_ d12_19) ?_
    refine XS.aloadN X102.here hx rfl (D_ d12_20) rfl rfl ?_
    refine XS.iconst X102.here hx rfl (D_ d12_21) ?_
    refine XS.aloadN X102.here hx rfl (D_ d12_22) rfl rfl ?_
    refine X102.arraylength hx (by first | exact Ar105.1 | (rw [e102]; exact Ar105.1)) (State.isArrayOf_alike hZ.alike Ar105.2.1) (g := (mkF m 23 #[.val (.ref t), .val (.int (Int32.ofNat G)), .val (.ref b102)] [(.ref t), (.int (0 : Int32)), (.ref b102), (.int (0 : Int32)), (.ref t)])) rfl rfl (D_ d12_23) _ ?_
    rw [len_of S105 M105]
    refine XS.iloadN X102.here hx rfl (D_ d12_24) rfl ?_
    refine st106 _ ?_
    show SS p e below T106 m 28 #[.val (.ref t), .val (.int (Int32.ofNat G)), .val (.ref b102)] [(.int (if (Int32.ofNat G) < (Int32.ofNat N) then (Int32.ofNat G) else (Int32.ofNat N))), (.int (0 : Int32)), (.ref b102), (.int (0 : Int32)), (.ref t)] _
    rw [show (if (Int32.ofNat G) < (Int32.ofNat N) then (Int32.ofNat G) else (Int32.ofNat N)) = (Int32.ofNat N) from (if_neg (own_nlt (by omega) (by omega)))]
    refine st107 _ ?_
    refine XS.aloadN X107.here hx rfl (D_ d12_31) rfl rfl ?_
    exact kt
  have F110 : Exa Z h107 b102 "[B" := (C102.keep K107)
  obtain ⟨fs, hr, hrun, hended, hW, hsame⟩ := X107.leave (v := some (.ref b102)) (fun h => by rw [Bd.returns] at h; cases h)
  refine ⟨_, _, W109 _ (own_retR X107 hx Bd.returns rfl rfl (D_ d12_32) hr), hrun, hended, _, _, rfl, ?_, ⟨_, rfl⟩, hW, hsame.mono (by decide) (by decide)⟩
  show Q_copyOf6 Z t G N kb cs h0 n0 _ T107.heap _
  rw [e107]
  exact ⟨b102, k102, rfl, N107, (Keep.trans (Keep.trans (Keep.refl h0 []) K102 all0) K107 (allS (Or.inr (Nat.le_of_eq g102.symm)) all0)), (Nat.le_of_eq g102.symm), J108, F110⟩
def Q_ensure6 (Z : State) (a : Addr) (M : Nat) (t : Addr) (kb : ClassId) (N : Nat) (w : Int32) (cs : List Int32) (h0 : Heap) (n0 : Nat) (vQ_ : Option Value) (hQ_ : Heap) (LQ_ : List Loc) : Prop := ∃ t2 : Addr, ∃ kb2 : ClassId, ∃ N2 : Nat, vQ_ = none ∧ Fr n0 LQ_ ∧ Keep h0 hQ_ [a] ∧ Fld Z hQ_ a "java/lang/AbstractStringBuilder" "value" "[B" (.ref t2) ∧ Fld Z hQ_ a "java/lang/AbstractStringBuilder" "coder" "B" (.int (0 : Int32)) ∧ Fld Z hQ_ a "java/lang/AbstractStringBuilder" "count" "I" (.int w) ∧ Arv Z hQ_ t2 kb2 .byte (Int32.ofNat N2) (l1 cs) (.int (0 : Int32)) ∧ Exa Z hQ_ t2 "[B" ∧ M ≤ N2 ∧ N2 ≤ 12 ∧ N ≤ N2 ∧ n0 ≤ t2 ∧ (t2 = t ∨ h0.size ≤ t2)
theorem rm_ensure6 (l : Launch) (Z : State) (a0 : Array Value) (hw : HW a0 Z) (ws : List Jvm.Cond) (a : Addr) (M : Nat) (t : Addr) (kb : ClassId) (N : Nat) (w : Int32) (cs : List Int32) (h0 : Heap) (n0 : Nat) (Z0 : n0 ≤ h0.size) (E1 : Exa Z h0 a "java/lang/StringBuilder") (F1 : Fld Z h0 a "java/lang/AbstractStringBuilder" "value" "[B" (.ref t)) (F2 : Fld Z h0 a "java/lang/AbstractStringBuilder" "coder" "B" (.int (0 : Int32))) (F3 : Fld Z h0 a "java/lang/AbstractStringBuilder" "count" "I" (.int w)) (V1 : Arv Z h0 t kb .byte (Int32.ofNat N) (l1 cs) (.int (0 : Int32))) (E2 : Exa Z h0 t "[B") (hcs : cs.length ≤ N) (hM : M ≤ 6) (hN : N ≤ 12) (g1 : n0 ≤ a) (g2 : n0 ≤ t) :
    CT l yn13 (Jvm.Cond.code yn13 jdk_68_method_9_code 3 none :: ws) (⟨3, 1, 12, 79⟩ : Room) #[(.ref a), (.int (Int32.ofNat M))] Z h0 (Q_ensure6 Z a M t kb N w cs h0 n0) := by
  refine MetFree.of_bodySF (plainFor_of_name pn_java_lang_AbstractStringBuilder) hisR ?_
  intro p e s m args below meth cO s₁ Bd hml hP hK
  obtain ⟨rfl, hZ, hh⟩ := hP
  have hx := Bd.exec
  have hby := Bd.bytes
  have hown : s.vm.findClass "java/lang/AbstractStringBuilder" = some m.cls := findClass_of_methodNamed Bd.named
  have hnm := (name_of_methodNamed Bd.named Bd.method).1
  have X0 : Stand p l e (⟨3, 1, 12, 79⟩ : Room) s m #[(.ref a), (.int (Int32.ofNat M))] below meth cO s₁ [] 0 0 := Stand.of_body Bd
  have e0 : s₁.heap = h0 := by rw [← hh, Bd.state]; rfl
  have N0 := Fr.nil n0
  have D_ : ∀ {i : Nat} {x}, decode jdk_68_method_9_code i = x → decode cO.code i = x := fun h => hb hby h
  have W0 : ∀ zQ, SS p e below s₁ m 0 #[.val (.ref a), .val (.int (Int32.ofNat M)), .unset] [] zQ → Steps p.tables e below (s₁.setTop (entryFrame m #[(.ref a), (.int (Int32.ofNat M))] 3)) zQ := fun tt kt => castTop (ef_ensure6 m a (Int32.ofNat M)) kt
  obtain ⟨T101, X101, e101, st101⟩ := getF X0 hx hZ hown (host := "") (Or.inl (w25 hw)) Via.refl e0 F1 (g := (mkF m 1 #[.val (.ref a), .val (.int (Int32.ofNat M)), .unset] [(.ref a)])) rfl rfl (D_ d13_1)
  obtain ⟨cl102, Ar102, -, S102, M102, -, -⟩ := id V1
  obtain ⟨T103, X103, e103, st103⟩ := getF X101 hx hZ hown (host := "") (Or.inl (w27 hw)) Via.refl e101 F2 (g := (mkF m 6 #[.val (.ref a), .val (.int (Int32.ofNat M)), .unset] [(.ref a), (.int (Int32.ofNat N))])) rfl rfl (D_ d13_6)
  have W104 : ∀ zQ, SS p e below T103 m 14 #[.val (.ref a), .val (.int (Int32.ofNat M)), .val (.int (Int32.ofNat N))] [(.int ((Int32.ofNat M) - (Int32.ofNat N)))] zQ → Steps p.tables e below (s₁.setTop (entryFrame m #[(.ref a), (.int (Int32.ofNat M))] 3)) zQ := by
    intro tt kt
    refine W0 tt ?_
    refine XS.aloadN X0.here hx rfl (D_ d13_0) rfl rfl ?_
    refine st101 _ ?_
    refine X101.arraylength hx (by first | exact Ar102.1 | (rw [e101]; exact Ar102.1)) (State.isArrayOf_alike hZ.alike Ar102.2.1) (g := (mkF m 4 #[.val (.ref a), .val (.int (Int32.ofNat M)), .unset] [(.ref t)])) rfl rfl (D_ d13_4) _ ?_
    rw [len_of S102 M102]
    refine XS.aloadN X101.here hx rfl (D_ d13_5) rfl rfl ?_
    refine st103 _ ?_
    refine XS.ishr X103.here hx rfl (D_ d13_9) rfl ?_
    show SS p e below T103 m 10 #[.val (.ref a), .val (.int (Int32.ofNat M)), .unset] [(.int ((Int32.ofNat N) >>> ((0 : Int32) &&& 31)))] _
    rw [show ((Int32.ofNat N) >>> ((0 : Int32) &&& 31)) = (Int32.ofNat N) from own_shr0 _]
    refine XS.istoreN X103.here hx rfl (D_ d13_10) rfl (l' := #[.val (.ref a), .val (.int (Int32.ofNat M)), .val (.int (Int32.ofNat N))]) rfl ?_
    refine XS.iloadN X103.here hx rfl (D_ d13_11) rfl ?_
    refine XS.iloadN X103.here hx rfl (D_ d13_12) rfl ?_
    refine XS.isub X103.here hx rfl (D_ d13_13) rfl ?_
    exact kt
  by_cases hc105 : M ≤ N
  ·
    have W106 : ∀ zQ, SS p e below T103 m 38 #[.val (.ref a), .val (.int (Int32.ofNat M)), .val (.int (Int32.ofNat N))] [] zQ → Steps p.tables e below (s₁.setTop (entryFrame m #[(.ref a), (.int (Int32.ofNat M))] 3)) zQ := by
      intro tt kt
      refine W104 tt ?_
      refine XS.ifYes X103.here hx rfl (pc0 := 14) (pc' := 38) rfl (D_ d13_14) rfl ((if0 _ _).trans (flt (own_nsub hc105 (by omega))).2.2.2) (by decide) (by decide) ?_
      exact kt
    obtain ⟨fs, hr, hrun, hended, hW, hsame⟩ := X103.leave (v := none) (fun _ => rfl)
    refine ⟨_, _, W106 _ (X103.returnOut hx Bd.returns (D_ d13_38) hr), hrun, hended, _, _, rfl, ?_, ⟨_, rfl⟩, hW, hsame.mono (by decide) (by decide)⟩
    show Q_ensure6 Z a M t kb N w cs h0 n0 _ T103.heap _
    rw [e103]
    exact ⟨t, kb, N, rfl, N0, (Keep.refl h0 [a]), F1, F2, F3, V1, E2, hc105, hN, (by omega : N ≤ N), g2, (Or.inl rfl)⟩
  ·
    obtain ⟨T107, X107, e107, st107⟩ := getF X103 hx hZ hown (host := "") (Or.inl (w25 hw)) Via.refl e103 F1 (g := (mkF m 19 #[.val (.ref a), .val (.int (Int32.ofNat M)), .val (.int (Int32.ofNat N))] [(.ref a), (.ref a)])) rfl rfl (D_ d13_19)
    obtain ⟨cq108, q108, q108'⟩ := E1.cell
    obtain ⟨_, _, ⟨T108, L108, k108, n108⟩, -, X108, ⟨Lc108, hQ108, l108, y108, z108⟩, st108⟩ := X107.privateBack hx (y := yn9) hown (mvT hZ (w236 hw)) (mvT hZ (w237 hw)) (mvT hZ (own_psel (y := yn9) (w239 hw) (w238 hw) (w237 hw) (by decide))) (Cond.privateMethod_at (mvP hZ (w238 hw) (args := #[]))) (mvT hZ (w240 hw)) (by decide) (backOf (W := 2) (rm_newCap l Z a0 hw [] a M t kb N (l1 cs) h0 n0 Z0 F1 F2 V1 (by omega) (by omega)) hZ (w240 hw) (w19 hw) (by decide) (by decide)) (g := (mkF m 24 #[.val (.ref a), .val (.int (Int32.ofNat M)), .val (.int (Int32.ofNat N))] [(.int (Int32.ofNat M)), (.ref a), (.ref t), (.ref a)])) rfl (by rw [hml]; rfl) (Steps.refl _) (a := a) (by rw [e107]; exact q108) q108' (argsL := [(.int (Int32.ofNat M))]) (rest := [(.ref t), (.ref a)]) (lenOf pd5 rfl) rfl (wq rfl) (D_ d13_24) (fun _ _ => ⟨rfl, e107, (nb rfl), (nb rfl)⟩)
    dsimp only [Pt.U, Pt.locs, Pt.cells, Pt.slots] at X108 l108 y108 z108 st108 hQ108
    subst l108 y108 z108
    obtain ⟨rfl, Nq108, eq108⟩ := hQ108
    have N108 := Fr.app N0 Nq108
    obtain ⟨T109, X109, e109, st109⟩ := getF X108 hx hZ hown (host := "") (Or.inl (w27 hw)) Via.refl eq108 F2 (g := (mkF m 28 #[.val (.ref a), .val (.int (Int32.ofNat M)), .val (.int (Int32.ofNat N))] [(.ref a), (.int (Int32.ofNat (N + max (M - N) (N + 2)))), (.ref t), (.ref a)])) rfl rfl (D_ d13_28)
    obtain ⟨_, _, ⟨T110, L110, k110, n110⟩, -, X110, ⟨Lc110, hQ110, l110, y110, z110⟩, st110⟩ := Jvm.LawKit.callS X109 hx (y := yn12) hown (mvT hZ (w248 hw)) (mvT hZ (w249 hw)) (mvT hZ (w84 hw)) (mvT hZ (w250 hw)) (by decide) (backOf (W := 1) (rm_copyOf6 l Z a0 hw [] t (N + max (M - N) (N + 2)) N kb cs h0 n0 Z0 V1 hcs (by omega) (by omega)) hZ (w250 hw) (w84 hw) (by decide) (by decide)) (g := (mkF m 32 #[.val (.ref a), .val (.int (Int32.ofNat M)), .val (.int (Int32.ofNat N))] [(.int (Int32.ofNat (N + max (M - N) (N + 2)))), (.ref t), (.ref a)])) rfl (by rw [hml]; rfl) (argsL := [(.ref t), (.int (Int32.ofNat (N + max (M - N) (N + 2))))]) (rest := [(.ref a)]) (lenOf pd6 rfl) rfl (wq rfl) (D_ d13_32) (fun _ _ => ⟨rfl, e109, (nb rfl), (nb rfl)⟩)
    dsimp only [Pt.U, Pt.locs, Pt.cells, Pt.slots] at X110 l110 y110 z110 st110 hQ110
    subst l110 y110 z110
    obtain ⟨r_111, kr_112, rfl, Nq110, K110, P110_0, P110_1, P110_2⟩ := hQ110
    have N110 := Fr.app N108 Nq110
    have F113 : Exa Z T110.heap a "java/lang/StringBuilder" := (E1.keep K110)
    have F114 : Fld Z T110.heap a "java/lang/AbstractStringBuilder" "value" "[B" (.ref t) := (F1.keep K110 nin0)
    obtain ⟨T115, h115, X115, e115, Wr115, st115⟩ := putF X110 hx hZ hown (host := "") (Or.inl (w25 hw)) Via.refl rfl F114 F113 (Or.inl (w26 hw)) (w10 hw) (ty := (.array .byte)) (by decide) rfl rfl (g := (mkF m 35 #[.val (.ref a), .val (.int (Int32.ofNat M)), .val (.int (Int32.ofNat N))] [(.ref r_111), (.ref a)])) rfl rfl (D_ d13_35)
    have K115 := Keep.of_wr Wr115
    have G115 := F114.same Wr115
    have N115 := Fr.snoc X115 N110 g1
    have W116 : ∀ zQ, SS p e below T115 m 38 #[.val (.ref a), .val (.int (Int32.ofNat M)), .val (.int (Int32.ofNat N))] [] zQ → Steps p.tables e below (s₁.setTop (entryFrame m #[(.ref a), (.int (Int32.ofNat M))] 3)) zQ := by
      intro tt kt
      refine W104 tt ?_
      refine XS.ifNo X103.here hx rfl (D_ d13_14) rfl ((if0 _ _).trans (tlt (own_psub (by omega) (by omega))).2.2.2) ?_
      refine XS.aloadN X103.here hx rfl (D_ d13_17) rfl rfl ?_
      refine XS.aloadN X103.here hx rfl (D_ d13_18) rfl rfl ?_
      refine st107 _ ?_
      refine XS.aloadN X107.here hx rfl (D_ d13_22) rfl rfl ?_
      refine XS.iloadN X107.here hx rfl (D_ d13_23) rfl ?_
      refine st108.trans ?_
      refine XS.aloadN X108.here hx rfl (D_ d13_27) rfl rfl ?_
      refine st109 _ ?_
      refine XS.ishl X109.here hx rfl (D_ d13_31) rfl ?_
      show SS p e below T109 m 32 #[.val (.ref a), .val (.int (Int32.ofNat M)), .val (.int (Int32.ofNat N))] [(.int ((Int32.ofNat (N + max (M - N) (N + 2))) <<< ((0 : Int32) &&& 31))), (.ref t), (.ref a)] _
      rw [show ((Int32.ofNat (N + max (M - N) (N + 2))) <<< ((0 : Int32) &&& 31)) = (Int32.ofNat (N + max (M - N) (N + 2))) from own_shl0 _]
      refine st110 _ ?_
      refine st115 _ ?_
      exact kt
    have F117 : Fld Z h115 a "java/lang/AbstractStringBuilder" "coder" "B" (.int (0 : Int32)) := (Fld.other Wr115 (F2.keep K110 nin0) (Or.inr (slot_ne (Or.inl (w28 hw)) (Or.inl (w26 hw)) (by decide) (t := .byte) (t' := (.array .byte)) (by decide) (by decide))))
    have F118 : Fld Z h115 a "java/lang/AbstractStringBuilder" "count" "I" (.int w) := (Fld.other Wr115 (F3.keep K110 nin0) (Or.inr (slot_ne (Or.inl (w47 hw)) (Or.inl (w26 hw)) (by decide) (t := .int) (t' := (.array .byte)) (by decide) (by decide))))
    have F119 : Arv Z h115 r_111 kr_112 .byte (Int32.ofNat (N + max (M - N) (N + 2))) (l1 cs) (.int (0 : Int32)) := (P110_1.keep K115 (ninS (Ne.symm (Nat.ne_of_lt (Nat.lt_of_lt_of_le E1.lt P110_0))) nin0))
    have F120 : Exa Z h115 r_111 "[B" := (P110_2.keep K115)
    obtain ⟨fs, hr, hrun, hended, hW, hsame⟩ := X115.leave (v := none) (fun _ => rfl)
    refine ⟨_, _, W116 _ (X115.returnOut hx Bd.returns (D_ d13_38) hr), hrun, hended, _, _, rfl, ?_, ⟨_, rfl⟩, hW, hsame.mono (by decide) (by decide)⟩
    show Q_ensure6 Z a M t kb N w cs h0 n0 _ T115.heap _
    rw [e115]
    exact ⟨r_111, kr_112, (N + max (M - N) (N + 2)), rfl, N115, (Keep.trans (Keep.trans (Keep.refl h0 [a]) K110 all0) K115 (allS (Or.inl (List.mem_of_getElem? (i := 0) rfl)) all0)), G115, F117, F118, F119, F120, (by omega : M ≤ (N + max (M - N) (N + 2))), (by omega : (N + max (M - N) (N + 2)) ≤ 12), (by omega : N ≤ (N + max (M - N) (N + 2))), (Nat.le_trans Z0 P110_0), (Or.inr P110_0)⟩
def Q_abAppC6 (Z : State) (a : Addr) (c : Int32) (t : Addr) (kb : ClassId) (N : Nat) (cs : List Int32) (cS : Int32) (h0 : Heap) (n0 : Nat) (vQ_ : Option Value) (hQ_ : Heap) (LQ_ : List Loc) : Prop := ∃ t2 : Addr, ∃ kb2 : ClassId, ∃ N2 : Nat, vQ_ = some (.ref a) ∧ Fr n0 LQ_ ∧ Keep h0 hQ_ [a, t] ∧ Fld Z hQ_ a "java/lang/AbstractStringBuilder" "value" "[B" (.ref t2) ∧ Fld Z hQ_ a "java/lang/AbstractStringBuilder" "coder" "B" (.int (0 : Int32)) ∧ Fld Z hQ_ a "java/lang/AbstractStringBuilder" "count" "I" (.int (Int32.ofNat (cs ++ [c]).length)) ∧ Arv Z hQ_ t2 kb2 .byte (Int32.ofNat N2) (l1 (cs ++ [c])) (.int (0 : Int32)) ∧ Exa Z hQ_ t2 "[B" ∧ (cs ++ [c]).length ≤ N2 ∧ N2 ≤ 12 ∧ N ≤ N2 ∧ n0 ≤ t2 ∧ (t2 = t ∨ h0.size ≤ t2)
theorem rm_abAppC6 (l : Launch) (Z : State) (a0 : Array Value) (hw : HW a0 Z) (ws : List Jvm.Cond) (a : Addr) (c : Int32) (t : Addr) (kb : ClassId) (N : Nat) (cs : List Int32) (cS : Int32) (h0 : Heap) (n0 : Nat) (Z0 : n0 ≤ h0.size) (O0 : Old Z n0 h0) (S_cs : Sta Z Z.heap "java/lang/String" "COMPACT_STRINGS" "Z" (.int cS)) (hcS : ¬ (cS = (0 : Int32))) (E1 : Exa Z h0 a "java/lang/StringBuilder") (F1 : Fld Z h0 a "java/lang/AbstractStringBuilder" "value" "[B" (.ref t)) (F2 : Fld Z h0 a "java/lang/AbstractStringBuilder" "coder" "B" (.int (0 : Int32))) (F3 : Fld Z h0 a "java/lang/AbstractStringBuilder" "count" "I" (.int (Int32.ofNat cs.length))) (V1 : Arv Z h0 t kb .byte (Int32.ofNat N) (l1 cs) (.int (0 : Int32))) (E2 : Exa Z h0 t "[B") (hc1 : ¬ ((255 : Int32) < c)) (hlim : cs.length < 6) (hcs : cs.length ≤ N) (hN : N ≤ 12) (g1 : n0 ≤ a) (g2 : n0 ≤ t) :
    CT l yn14 (Jvm.Cond.code yn14 jdk_68_method_31_code 2 (some (.object "java/lang/AbstractStringBuilder")) :: ws) (⟨4, 1, 12, 93⟩ : Room) #[(.ref a), (.int c)] Z h0 (Q_abAppC6 Z a c t kb N cs cS h0 n0) := by
  refine MetFree.of_bodySF (plainFor_of_name pn_java_lang_AbstractStringBuilder) hisR ?_
  intro p e s m args below meth cO s₁ Bd hml hP hK
  obtain ⟨rfl, hZ, hh⟩ := hP
  have hx := Bd.exec
  have hby := Bd.bytes
  have hown : s.vm.findClass "java/lang/AbstractStringBuilder" = some m.cls := findClass_of_methodNamed Bd.named
  have hnm := (name_of_methodNamed Bd.named Bd.method).1
  have X0 : Stand p l e (⟨4, 1, 12, 93⟩ : Room) s m #[(.ref a), (.int c)] below meth cO s₁ [] 0 0 := Stand.of_body Bd
  have e0 : s₁.heap = h0 := by rw [← hh, Bd.state]; rfl
  have N0 := Fr.nil n0
  have D_ : ∀ {i : Nat} {x}, decode jdk_68_method_31_code i = x → decode cO.code i = x := fun h => hb hby h
  have W0 : ∀ zQ, SS p e below s₁ m 0 #[.val (.ref a), .val (.int c)] [] zQ → Steps p.tables e below (s₁.setTop (entryFrame m #[(.ref a), (.int c)] 2)) zQ := fun tt kt => castTop (ef_abAppC6 m a c) kt
  obtain ⟨T101, X101, e101, st101⟩ := getF X0 hx hZ hown (host := "") (Or.inl (w46 hw)) Via.refl e0 F3 (g := (mkF m 2 #[.val (.ref a), .val (.int c)] [(.ref a), (.ref a)])) rfl rfl (D_ d14_2)
  obtain ⟨cq102, q102, q102'⟩ := E1.cell
  obtain ⟨_, _, ⟨T102, L102, k102, n102⟩, -, X102, ⟨Lc102, hQ102, l102, y102, z102⟩, st102⟩ := X101.privateBack hx (y := yn13) hown (mvT hZ (w227 hw)) (mvT hZ (w228 hw)) (mvT hZ (own_psel (y := yn13) (w230 hw) (w229 hw) (w228 hw) (by decide))) (Cond.privateMethod_at (mvP hZ (w229 hw) (args := #[]))) (mvT hZ (w231 hw)) (by decide) (backOf (W := 0) (rm_ensure6 l Z a0 hw [] a (cs.length + 1) t kb N (Int32.ofNat cs.length) cs h0 n0 Z0 E1 F1 F2 F3 V1 E2 hcs (by omega) hN g1 g2) hZ (w231 hw) (w19 hw) (by decide) (by decide)) (g := (mkF m 7 #[.val (.ref a), .val (.int c)] [(.int (Int32.ofNat (cs.length + 1))), (.ref a)])) rfl (by rw [hml]; rfl) (Steps.refl _) (a := a) (by rw [e101]; exact q102) q102' (argsL := [(.int (Int32.ofNat (cs.length + 1)))]) (rest := []) (lenOf pd7 rfl) rfl (wq rfl) (D_ d14_7) (fun _ _ => ⟨rfl, e101, (nb rfl), (nb rfl)⟩)
  dsimp only [Pt.U, Pt.locs, Pt.cells, Pt.slots] at X102 l102 y102 z102 st102 hQ102
  subst l102 y102 z102
  obtain ⟨t2_103, kb2_104, N2_105, rfl, Nq102, K102, P102_0, P102_1, P102_2, P102_3, P102_4, P102_5, P102_6, P102_7, P102_8, P102_9⟩ := hQ102
  have N102 := Fr.app N0 Nq102
  have O106 : Old Z n0 T102.heap := (O0.keep K102 (allS g1 all0))
  have F108 : Exa Z T102.heap a "java/lang/StringBuilder" := (E1.keep K102)
  obtain ⟨cq107, kq107, q107a, q107b, q107c⟩ := isOf hZ rfl F108
  obtain ⟨_, _, ⟨T107, L107, k107, n107⟩, -, X107, ⟨Lc107, hQ107, l107, y107, z107⟩, st107⟩ := X102.virtualBack hx (y := yn10) (z := yn10) hown (mvT hZ (w232 hw)) (mvT hZ (w76 hw)) (notFace_of_selects (args := #[]) (mvT hZ (w78 hw))) (mvT hZ (w78 hw)) (mvT hZ (w77 hw)) (by decide) (backOf (W := 0) (rm_abLatin l Z a0 hw [] a cS T102.heap n0 (Nat.le_trans Z0 K102.1) O106 S_cs hcS P102_1) hZ (w79 hw) (w19 hw) (by decide) (by decide)) q107a q107c (g := (mkF m 11 #[.val (.ref a), .val (.int c)] [(.ref a)])) rfl (by rw [hml]; rfl) (Steps.refl _) (argsL := []) (rest := []) (lenOf pd8 rfl) rfl (wq rfl) (D_ d14_11) (fun _ _ => ⟨rfl, rfl, (nb rfl), (nb rfl)⟩)
  dsimp only [Pt.U, Pt.locs, Pt.cells, Pt.slots] at X107 l107 y107 z107 st107 hQ107
  subst l107 y107 z107
  obtain ⟨rfl, Nq107, eq107⟩ := hQ107
  have N107 := Fr.app N102 Nq107
  obtain ⟨_, _, ⟨T109, L109, k109, n109⟩, -, X109, ⟨Lc109, hQ109, l109, y109, z109⟩, st109⟩ := Jvm.LawKit.callS X107 hx (y := yn11) hown (mvT hZ (w233 hw)) (mvT hZ (w119 hw)) (mvT hZ (w120 hw)) (mvT hZ (w121 hw)) (by decide) (backOf (W := 0) (rm_canEncode l Z a0 hw [] c T102.heap n0 (Nat.le_trans Z0 K102.1) hc1) hZ (w121 hw) (w120 hw) (by decide) (by decide)) (g := (mkF m 18 #[.val (.ref a), .val (.int c)] [(.int c)])) rfl (by rw [hml]; rfl) (argsL := [(.int c)]) (rest := []) (lenOf pd9 rfl) rfl (wq rfl) (D_ d14_18) (fun _ _ => ⟨rfl, eq107, (nb rfl), (nb rfl)⟩)
  dsimp only [Pt.U, Pt.locs, Pt.cells, Pt.slots] at X109 l109 y109 z109 st109 hQ109
  subst l109 y109 z109
  obtain ⟨rfl, Nq109, eq109⟩ := hQ109
  have N109 := Fr.app N107 Nq109
  obtain ⟨T110, X110, e110, st110⟩ := getF X109 hx hZ hown (host := "") (Or.inl (w25 hw)) Via.refl eq109 P102_0 (g := (mkF m 25 #[.val (.ref a), .val (.int c)] [(.ref a)])) rfl rfl (D_ d14_25)
  obtain ⟨T111, X111, e111, st111⟩ := getF X110 hx hZ hown (host := "") (Or.inl (w46 hw)) Via.refl e110 P102_2 (g := (mkF m 30 #[.val (.ref a), .val (.int c)] [(.ref a), (.ref a), (.ref t2_103)])) rfl rfl (D_ d14_30)
  obtain ⟨T112, h112, X112, e112, Wr112, st112⟩ := putF X111 hx hZ hown (host := "") (Or.inl (w46 hw)) Via.refl e111 P102_2 F108 (Or.inl (w47 hw)) (w10 hw) (ty := .int) (by decide) rfl rfl (g := (mkF m 36 #[.val (.ref a), .val (.int c)] [(.int (Int32.ofNat (cs ++ [c]).length)), (.ref a), (.int (Int32.ofNat cs.length)), (.ref t2_103)])) rfl rfl (D_ d14_36)
  have K112 := Keep.of_wr Wr112
  have G112 := P102_2.same Wr112
  have N112 := Fr.snoc X112 N109 g1
  have F113 : Arv Z h112 t2_103 kb2_104 .byte (Int32.ofNat N2_105) (l1 cs) (.int (0 : Int32)) := (P102_3.keep K112 (ninS (Ne.symm (own_alne P102_9 E1.lt (Exa.ne E1 E2 (by decide)))) nin0))
  obtain ⟨cl114, Ar114, q114, S114, M114, H114, F114g⟩ := id F113
  have hin114 : ¬ ((Int32.ofNat cs.length) < 0 ∨ cl114.slots.size ≤ ((Int32.ofNat cs.length)).toNatClampNeg) := inb_of S114 ⟨own_nneg (by omega), own_lt (by omega) (by omega)⟩
  obtain ⟨T114, h114, X114, e114, Wr114, st114⟩ := stB X112 hx hZ e112 Ar114 (j := (Int32.ofNat cs.length)) hin114 (g := (mkF m 41 #[.val (.ref a), .val (.int c)] [(.int (c.toInt8.toInt32)), (.int (Int32.ofNat cs.length)), (.ref t2_103)])) rfl rfl (D_ d14_41)
  have G114 : Arv Z h114 t2_103 kb2_104 .byte (Int32.ofNat N2_105) ((l1 cs) ++ [(.int (nar .byte (c.toInt8.toInt32)))]) (.int (0 : Int32)) := Arv.push Ar114 q114 S114 M114 H114 F114g (fits_nar_byte _) Wr114 (by rw [own_cl (by omega), l1_len])
  have K114 := Keep.of_wr Wr114
  have N114 := Fr.snoc X114 N112 P102_8
  have J114 : Arv Z h114 t2_103 kb2_104 .byte (Int32.ofNat N2_105) (l1 (cs ++ [c])) (.int (0 : Int32)) := by rw [← l1_snoc, ← own_narb]; exact G114
  have W115 : ∀ zQ, SS p e below T114 m 76 #[.val (.ref a), .val (.int c)] [(.ref a)] zQ → Steps p.tables e below (s₁.setTop (entryFrame m #[(.ref a), (.int c)] 2)) zQ := by
    intro tt kt
    refine W0 tt ?_
    refine XS.aloadN X0.here hx rfl (D_ d14_0) rfl rfl ?_
    refine XS.aloadN X0.here hx rfl (D_ d14_1) rfl rfl ?_
    refine st101 _ ?_
    refine XS.iconst X101.here hx rfl (D_ d14_5) ?_
    refine XS.iadd X101.here hx rfl (D_ d14_6) rfl ?_
    show SS p e below T101 m 7 #[.val (.ref a), .val (.int c)] [(.int ((Int32.ofNat cs.length) + (1 : Int32))), (.ref a)] _
    rw [show ((Int32.ofNat cs.length) + (1 : Int32)) = (Int32.ofNat (cs.length + 1)) from own_succ _]
    refine st102.trans ?_
    refine XS.aloadN X102.here hx rfl (D_ d14_10) rfl rfl ?_
    refine st107.trans ?_
    refine XS.ifNo X107.here hx rfl (D_ d14_14) rfl ((if0 _ _).trans (feq (by decide)).1) ?_
    refine XS.iloadN X107.here hx rfl (D_ d14_17) rfl ?_
    refine st109 _ ?_
    refine XS.ifNo X109.here hx rfl (D_ d14_21) rfl ((if0 _ _).trans (feq (by decide)).1) ?_
    refine XS.aloadN X109.here hx rfl (D_ d14_24) rfl rfl ?_
    refine st110 _ ?_
    refine XS.aloadN X110.here hx rfl (D_ d14_28) rfl rfl ?_
    refine XS.dup X110.here hx rfl (D_ d14_29) rfl rfl ?_
    refine st111 _ ?_
    refine XS.dupX1 X111.here hx rfl (D_ d14_33) rfl rfl rfl ?_
    refine XS.iconst X111.here hx rfl (D_ d14_34) ?_
    refine XS.iadd X111.here hx rfl (D_ d14_35) rfl ?_
    show SS p e below T111 m 36 #[.val (.ref a), .val (.int c)] [(.int ((Int32.ofNat cs.length) + (1 : Int32))), (.ref a), (.int (Int32.ofNat cs.length)), (.ref t2_103)] _
    rw [show ((Int32.ofNat cs.length) + (1 : Int32)) = (Int32.ofNat (cs ++ [c]).length) from (by rw [own_succ]; simp)]
    refine st112 _ ?_
    refine XS.iloadN X112.here hx rfl (D_ d14_39) rfl ?_
    refine XS.i2b X112.here hx rfl (D_ d14_40) rfl ?_
    refine st114 _ ?_
    refine XS.goto X114.here hx rfl (pc0 := 42) (pc' := 75) rfl (D_ d14_42) (by decide) (by decide) ?_
    refine XS.aloadN X114.here hx rfl (D_ d14_75) rfl rfl ?_
    exact kt
  have F116 : Fld Z h114 a "java/lang/AbstractStringBuilder" "value" "[B" (.ref t2_103) := ((Fld.other Wr112 P102_0 (Or.inr (slot_ne (Or.inl (w26 hw)) (Or.inl (w47 hw)) (by decide) (t := (.array .byte)) (t' := .int) (by decide) (by decide)))).keep K114 (ninS (own_alne P102_9 E1.lt (Exa.ne E1 E2 (by decide))) nin0))
  have F117 : Fld Z h114 a "java/lang/AbstractStringBuilder" "coder" "B" (.int (0 : Int32)) := ((Fld.other Wr112 P102_1 (Or.inr (slot_ne (Or.inl (w28 hw)) (Or.inl (w47 hw)) (by decide) (t := .byte) (t' := .int) (by decide) (by decide)))).keep K114 (ninS (own_alne P102_9 E1.lt (Exa.ne E1 E2 (by decide))) nin0))
  have F118 : Fld Z h114 a "java/lang/AbstractStringBuilder" "count" "I" (.int (Int32.ofNat (cs ++ [c]).length)) := (G112.keep K114 (ninS (own_alne P102_9 E1.lt (Exa.ne E1 E2 (by decide))) nin0))
  have F119 : Exa Z h114 t2_103 "[B" := ((P102_4.keep K112).keep K114)
  obtain ⟨fs, hr, hrun, hended, hW, hsame⟩ := X114.leave (v := some (.ref a)) (fun h => by rw [Bd.returns] at h; cases h)
  refine ⟨_, _, W115 _ (own_retR X114 hx Bd.returns rfl rfl (D_ d14_76) hr), hrun, hended, _, _, rfl, ?_, ⟨_, rfl⟩, hW, hsame.mono (by decide) (by decide)⟩
  show Q_abAppC6 Z a c t kb N cs cS h0 n0 _ T114.heap _
  rw [e114]
  exact ⟨t2_103, kb2_104, N2_105, rfl, N114, (Keep.trans (Keep.trans (Keep.trans (Keep.refl h0 [a, t]) K102 (allS (Or.inl (List.mem_of_getElem? (i := 0) rfl)) all0)) K112 (allS (Or.inl (List.mem_of_getElem? (i := 0) rfl)) all0)) K114 (allS (own_alke P102_9 (Or.inl (List.mem_of_getElem? (i := 1) rfl)) (Nat.le_refl _)) all0)), F116, F117, F118, J114, F119, (by first | decide | omega | (simp only [List.length_append, List.length_singleton, List.length_cons, List.length_nil]; omega) : (cs ++ [c]).length ≤ N2_105), P102_6, P102_7, P102_8, (own_altr P102_9 (Or.inl rfl) (Nat.le_refl _))⟩
def Q_sbAppC6 (Z : State) (a : Addr) (c : Int32) (t : Addr) (kb : ClassId) (N : Nat) (cs : List Int32) (cS : Int32) (h0 : Heap) (n0 : Nat) (vQ_ : Option Value) (hQ_ : Heap) (LQ_ : List Loc) : Prop := ∃ t2 : Addr, ∃ kb2 : ClassId, ∃ N2 : Nat, vQ_ = some (.ref a) ∧ Fr n0 LQ_ ∧ Keep h0 hQ_ [a, t] ∧ Fld Z hQ_ a "java/lang/AbstractStringBuilder" "value" "[B" (.ref t2) ∧ Fld Z hQ_ a "java/lang/AbstractStringBuilder" "coder" "B" (.int (0 : Int32)) ∧ Fld Z hQ_ a "java/lang/AbstractStringBuilder" "count" "I" (.int (Int32.ofNat (cs ++ [c]).length)) ∧ Arv Z hQ_ t2 kb2 .byte (Int32.ofNat N2) (l1 (cs ++ [c])) (.int (0 : Int32)) ∧ Exa Z hQ_ t2 "[B" ∧ (cs ++ [c]).length ≤ N2 ∧ N2 ≤ 12 ∧ N ≤ N2 ∧ n0 ≤ t2 ∧ (t2 = t ∨ h0.size ≤ t2)
theorem rm_sbAppC6 (l : Launch) (Z : State) (a0 : Array Value) (hw : HW a0 Z) (ws : List Jvm.Cond) (a : Addr) (c : Int32) (t : Addr) (kb : ClassId) (N : Nat) (cs : List Int32) (cS : Int32) (h0 : Heap) (n0 : Nat) (Z0 : n0 ≤ h0.size) (O0 : Old Z n0 h0) (S_cs : Sta Z Z.heap "java/lang/String" "COMPACT_STRINGS" "Z" (.int cS)) (hcS : ¬ (cS = (0 : Int32))) (E1 : Exa Z h0 a "java/lang/StringBuilder") (F1 : Fld Z h0 a "java/lang/AbstractStringBuilder" "value" "[B" (.ref t)) (F2 : Fld Z h0 a "java/lang/AbstractStringBuilder" "coder" "B" (.int (0 : Int32))) (F3 : Fld Z h0 a "java/lang/AbstractStringBuilder" "count" "I" (.int (Int32.ofNat cs.length))) (V1 : Arv Z h0 t kb .byte (Int32.ofNat N) (l1 cs) (.int (0 : Int32))) (E2 : Exa Z h0 t "[B") (hc1 : ¬ ((255 : Int32) < c)) (hlim : cs.length < 6) (hcs : cs.length ≤ N) (hN : N ≤ 12) (g1 : n0 ≤ a) (g2 : n0 ≤ t) :
    CT l yn16 (Jvm.Cond.code yn16 jdk_67_method_14_code 2 (some (.object "java/lang/StringBuilder")) :: ws) (⟨5, 1, 12, 106⟩ : Room) #[(.ref a), (.int c)] Z h0 (Q_sbAppC6 Z a c t kb N cs cS h0 n0) := by
  refine MetFree.of_bodySF (plainFor_of_name pn_java_lang_StringBuilder) hisR ?_
  intro p e s m args below meth cO s₁ Bd hml hP hK
  obtain ⟨rfl, hZ, hh⟩ := hP
  have hx := Bd.exec
  have hby := Bd.bytes
  have hown : s.vm.findClass "java/lang/StringBuilder" = some m.cls := findClass_of_methodNamed Bd.named
  have hnm := (name_of_methodNamed Bd.named Bd.method).1
  have X0 : Stand p l e (⟨5, 1, 12, 106⟩ : Room) s m #[(.ref a), (.int c)] below meth cO s₁ [] 0 0 := Stand.of_body Bd
  have e0 : s₁.heap = h0 := by rw [← hh, Bd.state]; rfl
  have N0 := Fr.nil n0
  have D_ : ∀ {i : Nat} {x}, decode jdk_67_method_14_code i = x → decode cO.code i = x := fun h => hb hby h
  have W0 : ∀ zQ, SS p e below s₁ m 0 #[.val (.ref a), .val (.int c)] [] zQ → Steps p.tables e below (s₁.setTop (entryFrame m #[(.ref a), (.int c)] 2)) zQ := fun tt kt => castTop (ef_sbAppC6 m a c) kt
  obtain ⟨_, _, ⟨T101, L101, k101, n101⟩, -, X101, ⟨Lc101, hQ101, l101, y101, z101⟩, st101⟩ := superBack X0 hx hZ (y := yn14) hown (w223 hw) (own_same (y := yn14) (by decide) (w224 hw) (own_nf (y := yn14) (y' := yn15) rfl (w71 hw) (w69 hw))) (w224 hw) (w43 hw) (by decide) (backOf (W := 0) (rm_abAppC6 l Z a0 hw [] a c t kb N cs cS h0 n0 Z0 O0 S_cs hcS E1 F1 F2 F3 V1 E2 hc1 hlim hcs hN g1 g2) hZ (w226 hw) (w19 hw) (by decide) (by decide)) e0 (Ins.self E1) (g := (mkF m 2 #[.val (.ref a), .val (.int c)] [(.int c), (.ref a)])) rfl (by rw [hml]; rfl) (w226 hw) (argsL := [(.int c)]) (rest := []) (lenOf pd10 rfl) rfl (wq rfl) (D_ d15_2) (fun _ _ => ⟨rfl, e0, (nb rfl), (nb rfl)⟩)
  dsimp only [Pt.U, Pt.locs, Pt.cells, Pt.slots] at X101 l101 y101 z101 st101 hQ101
  subst l101 y101 z101
  obtain ⟨t2_102, kb2_103, N2_104, rfl, Nq101, K101, P101_0, P101_1, P101_2, P101_3, P101_4, P101_5, P101_6, P101_7, P101_8, P101_9⟩ := hQ101
  have N101 := Fr.app N0 Nq101
  have W105 : ∀ zQ, SS p e below T101 m 7 #[.val (.ref a), .val (.int c)] [(.ref a)] zQ → Steps p.tables e below (s₁.setTop (entryFrame m #[(.ref a), (.int c)] 2)) zQ := by
    intro tt kt
    refine W0 tt ?_
    refine XS.aloadN X0.here hx rfl (D_ d15_0) rfl rfl ?_
    refine XS.iloadN X0.here hx rfl (D_ d15_1) rfl ?_
    refine st101.trans ?_
    refine XS.pop X101.here hx rfl (D_ d15_5) rfl rfl ?_
    refine XS.aloadN X101.here hx rfl (D_ d15_6) rfl rfl ?_
    exact kt
  obtain ⟨fs, hr, hrun, hended, hW, hsame⟩ := X101.leave (v := some (.ref a)) (fun h => by rw [Bd.returns] at h; cases h)
  refine ⟨_, _, W105 _ (own_retR X101 hx Bd.returns rfl rfl (D_ d15_7) hr), hrun, hended, _, _, rfl, ?_, ⟨_, rfl⟩, hW, hsame.mono (by decide) (by decide)⟩
  show Q_sbAppC6 Z a c t kb N cs cS h0 n0 _ T101.heap _
  exact ⟨t2_102, kb2_103, N2_104, rfl, N101, (Keep.trans (Keep.refl h0 [a, t]) K101 (allS (Or.inl (List.mem_of_getElem? (i := 0) rfl)) (allS (Or.inl (List.mem_of_getElem? (i := 1) rfl)) all0))), P101_0, P101_1, P101_2, P101_3, P101_4, P101_5, P101_6, P101_7, P101_8, (own_altr P101_9 (Or.inl rfl) (Nat.le_refl _))⟩
def Q_copyOf42 (Z : State) (t : Addr) (G : Nat) (N : Nat) (kb : ClassId) (cs : List Int32) (h0 : Heap) (n0 : Nat) (vQ_ : Option Value) (hQ_ : Heap) (LQ_ : List Loc) : Prop := ∃ r : Addr, ∃ kr : ClassId, vQ_ = some (.ref r) ∧ Fr n0 LQ_ ∧ Keep h0 hQ_ [] ∧ h0.size ≤ r ∧ Arv Z hQ_ r kr .byte (Int32.ofNat G) (l1 cs) (.int (0 : Int32)) ∧ Exa Z hQ_ r "[B"
theorem rm_copyOf42 (l : Launch) (Z : State) (a0 : Array Value) (hw : HW a0 Z) (ws : List Jvm.Cond) (t : Addr) (G : Nat) (N : Nat) (kb : ClassId) (cs : List Int32) (h0 : Heap) (n0 : Nat) (Z0 : n0 ≤ h0.size) (A1 : Arv Z h0 t kb .byte (Int32.ofNat N) (l1 cs) (.int (0 : Int32))) (hcs : cs.length ≤ N) (hG : N < G) (hcap : G ≤ 84) :
    CT l yn12 (Jvm.Cond.code yn12 jdk_65_method_121_code 3 (some (.array .byte)) :: ws) (⟨1, 1, 84, 64⟩ : Room) #[(.ref t), (.int (Int32.ofNat G))] Z h0 (Q_copyOf42 Z t G N kb cs h0 n0) := by
  refine MetFree.of_bodySF (plainFor_of_name pn_java_util_Arrays) hisR ?_
  intro p e s m args below meth cO s₁ Bd hml hP hK
  obtain ⟨rfl, hZ, hh⟩ := hP
  have hx := Bd.exec
  have hby := Bd.bytes
  have hown : s.vm.findClass "java/util/Arrays" = some m.cls := findClass_of_methodNamed Bd.named
  have hnm := (name_of_methodNamed Bd.named Bd.method).1
  have X0 : Stand p l e (⟨1, 1, 84, 64⟩ : Room) s m #[(.ref t), (.int (Int32.ofNat G))] below meth cO s₁ [] 0 0 := Stand.of_body Bd
  have e0 : s₁.heap = h0 := by rw [← hh, Bd.state]; rfl
  have N0 := Fr.nil n0
  have D_ : ∀ {i : Nat} {x}, decode jdk_65_method_121_code i = x → decode cO.code i = x := fun h => hb hby h
  have W0 : ∀ zQ, SS p e below s₁ m 0 #[.val (.ref t), .val (.int (Int32.ofNat G)), .unset] [] zQ → Steps p.tables e below (s₁.setTop (entryFrame m #[(.ref t), (.int (Int32.ofNat G))] 3)) zQ := fun tt kt => castTop (ef_copyOf42 m t (Int32.ofNat G)) kt
  obtain ⟨cl101, Ar101, -, S101, M101, -, -⟩ := id A1
  obtain ⟨T102, h102, k102, X102, e102, E102, A102, C102, st102⟩ := own_newPE X0 hx hZ (aty := .byte) (w24 hw) e0 (g := (mkF m 15 #[.val (.ref t), .val (.int (Int32.ofNat G)), .unset] [(.int (Int32.ofNat G))])) rfl (D_ d12_15) (n := (Int32.ofNat G)) rfl (own_nneg (by omega)) (cap := 84) (by rw [own_cl (by omega)]; exact hcap) (by decide) (by decide) (by decide) (ad := "[B") rfl
  obtain ⟨b102, g102⟩ : ∃ z, z = h0.size := ⟨_, rfl⟩
  rw [← g102] at A102 st102 C102
  have K102 := (Keep.refl h0 []).ext E102
  have G102 : Arv Z h102 b102 k102 .byte (Int32.ofNat G) [] (.int (0 : Int32)) := Arv.new A102 (own_nneg (by omega))
  have J103 : Arv Z h102 b102 k102 .byte (Int32.ofNat G) (List.replicate G (.int (0 : Int32))) (.int (0 : Int32)) := Arv.pad G102 (fun i => by simpa using pad_rep [] (.int (0 : Int32)) G i)
  have F104 : Arv Z h102 t kb .byte (Int32.ofNat N) (l1 cs) (.int (0 : Int32)) := (A1.keep K102 nin0)
  obtain ⟨cl105, Ar105, -, S105, M105, -, -⟩ := id F104
  obtain ⟨_, _, ⟨T106, L106, k106, n106⟩, -, X106, ⟨Lc106, hQ106, l106, y106, z106⟩, st106⟩ := Jvm.LawKit.callS X102 hx (y := yn4) hown (mvT hZ (w92 hw)) (mvT hZ (w93 hw)) (mvT hZ (w94 hw)) (mvT hZ (w95 hw)) (by decide) (backOf (W := 4) (rm_mini l Z a0 hw [] (Int32.ofNat N) (Int32.ofNat G) h102 n0 (Nat.le_trans Z0 K102.1) ) hZ (w95 hw) (w94 hw) (by decide) (by decide)) (g := (mkF m 25 #[.val (.ref t), .val (.int (Int32.ofNat G)), .val (.ref b102)] [(.int (Int32.ofNat G)), (.int (Int32.ofNat N)), (.int (0 : Int32)), (.ref b102), (.int (0 : Int32)), (.ref t)])) rfl (by rw [hml]; rfl) (argsL := [(.int (Int32.ofNat N)), (.int (Int32.ofNat G))]) (rest := [(.int (0 : Int32)), (.ref b102), (.int (0 : Int32)), (.ref t)]) (lenOf pd2 rfl) rfl (wq rfl) (D_ d12_25) (fun _ _ => ⟨rfl, e102, (nb rfl), (nb rfl)⟩)
  dsimp only [Pt.U, Pt.locs, Pt.cells, Pt.slots] at X106 l106 y106 z106 st106 hQ106
  subst l106 y106 z106
  obtain ⟨rfl, Nq106, eq106⟩ := hQ106
  have N106 := Fr.app N0 Nq106
  obtain ⟨T107, h107, Lp107, X107, e107, N107, K107, V107, st107⟩ := cpA X106 hx hZ hown (w96 hw) (w99 hw) (w97 hw) (w98 hw) eq106 F104 J103 (Or.inl ⟨rfl, rfl⟩) (by decide) (by decide) (own_nneg (by omega)) (by rw [own_cl0, own_cl (by omega)]; omega) (by rw [own_cl0, own_cl (by omega), own_cl (by omega)]; omega) (us := ((List.range N).map fun i => (l1 cs).getD (0 + i) (Value.int (0 : Int32)))) (by rw [own_cl (by omega), own_cl0]) (by rw [own_cl0, own_cl (by omega), List.length_replicate]; omega) N106 (Nat.le_trans Z0 (Nat.le_of_eq g102.symm)) (g := (mkF m 28 #[.val (.ref t), .val (.int (Int32.ofNat G)), .val (.ref b102)] [(.int (Int32.ofNat N)), (.int (0 : Int32)), (.ref b102), (.int (0 : Int32)), (.ref t)])) rfl (by rw [hml]; rfl) rfl (D_ d12_28) (by decide) (W := 0) (by show 2 * 0 + _ ≤ _; exact Nat.le_of_eq rfl) (by decide)
  have J108 : Arv Z h107 b102 k102 .byte (Int32.ofNat G) (l1 cs) (.int (0 : Int32)) := by exact Arv.pad V107 (fun i => by rw [own_cl0, own_cl (by omega)]; exact own_cpad _ _ _ (by rw [l1_len]; exact hcs) i)
  have W109 : ∀ zQ, SS p e below T107 m 32 #[.val (.ref t), .val (.int (Int32.ofNat G)), .val (.ref b102)] [(.ref b102)] zQ → Steps p.tables e below (s₁.setTop (entryFrame m #[(.ref t), (.int (Int32.ofNat G))] 3)) zQ := by
    intro tt kt
    refine W0 tt ?_
    refine XS.iloadN X0.here hx rfl (D_ d12_0) rfl ?_
    refine XS.aloadN X0.here hx rfl (D_ d12_1) rfl rfl ?_
    refine X0.arraylength hx (by first | exact Ar101.1 | (rw [e0]; exact Ar101.1)) (State.isArrayOf_alike hZ.alike Ar101.2.1) (g := (mkF m 2 #[.val (.ref t), .val (.int (Int32.ofNat G)), .unset] [(.ref t), (.int (Int32.ofNat G))])) rfl rfl (D_ d12_2) _ ?_
    rw [len_of S101 M101]
    refine XS.icmpYes X0.here hx rfl (pc0 := 3) (pc' := 14) rfl (D_ d12_3) rfl (feq (own_neq (by omega) (by omega) (by omega))).2 (by decide) (by decide) ?_
    refine XS.iloadN X0.here hx rfl (D_ d12_14) rfl ?_
    refine st102 _ ?_
    refine XS.astoreN X102.here hx rfl (D_ d12_17) rfl rfl (l' := #[.val (.ref t), .val (.int (Int32.ofNat G)), .val (.ref b102)]) rfl ?_
    refine XS.aloadN X102.here hx rfl (D_ d12_18) rfl rfl ?_
    refine XS.iconst X102.here hx rfl (D_ d12_19) ?_
    refine XS.aloadN X102.here hx rfl (D_ d12_20) rfl rfl ?_
    refine XS.iconst X102.here hx rfl (D_ d12_21) ?_
    refine XS.aloadN X102.here hx rfl (D_ d12_22) rfl rfl ?_
    refine X102.arraylength hx (by first | exact Ar105.1 | (rw [e102]; exact Ar105.1)) (State.isArrayOf_alike hZ.alike Ar105.2.1) (g := (mkF m 23 #[.val (.ref t), .val (.int (Int32.ofNat G)), .val (.ref b102)] [(.ref t), (.int (0 : Int32)), (.ref b102), (.int (0 : Int32)), (.ref t)])) rfl rfl (D_ d12_23) _ ?_
    rw [len_of S105 M105]
    refine XS.iloadN X102.here hx rfl (D_ d12_24) rfl ?_
    refine st106 _ ?_
    show SS p e below T106 m 28 #[.val (.ref t), .val (.int (Int32.ofNat G)), .val (.ref b102)] [(.int (if (Int32.ofNat G) < (Int32.ofNat N) then (Int32.ofNat G) else (Int32.ofNat N))), (.int (0 : Int32)), (.ref b102), (.int (0 : Int32)), (.ref t)] _
    rw [show (if (Int32.ofNat G) < (Int32.ofNat N) then (Int32.ofNat G) else (Int32.ofNat N)) = (Int32.ofNat N) from (if_neg (own_nlt (by omega) (by omega)))]
    refine st107 _ ?_
    refine XS.aloadN X107.here hx rfl (D_ d12_31) rfl rfl ?_
    exact kt
  have F110 : Exa Z h107 b102 "[B" := (C102.keep K107)
  obtain ⟨fs, hr, hrun, hended, hW, hsame⟩ := X107.leave (v := some (.ref b102)) (fun h => by rw [Bd.returns] at h; cases h)
  refine ⟨_, _, W109 _ (own_retR X107 hx Bd.returns rfl rfl (D_ d12_32) hr), hrun, hended, _, _, rfl, ?_, ⟨_, rfl⟩, hW, hsame.mono (by decide) (by decide)⟩
  show Q_copyOf42 Z t G N kb cs h0 n0 _ T107.heap _
  rw [e107]
  exact ⟨b102, k102, rfl, N107, (Keep.trans (Keep.trans (Keep.refl h0 []) K102 all0) K107 (allS (Or.inr (Nat.le_of_eq g102.symm)) all0)), (Nat.le_of_eq g102.symm), J108, F110⟩
def Q_ensure42 (Z : State) (a : Addr) (M : Nat) (t : Addr) (kb : ClassId) (N : Nat) (w : Int32) (cs : List Int32) (h0 : Heap) (n0 : Nat) (vQ_ : Option Value) (hQ_ : Heap) (LQ_ : List Loc) : Prop := ∃ t2 : Addr, ∃ kb2 : ClassId, ∃ N2 : Nat, vQ_ = none ∧ Fr n0 LQ_ ∧ Keep h0 hQ_ [a] ∧ Fld Z hQ_ a "java/lang/AbstractStringBuilder" "value" "[B" (.ref t2) ∧ Fld Z hQ_ a "java/lang/AbstractStringBuilder" "coder" "B" (.int (0 : Int32)) ∧ Fld Z hQ_ a "java/lang/AbstractStringBuilder" "count" "I" (.int w) ∧ Arv Z hQ_ t2 kb2 .byte (Int32.ofNat N2) (l1 cs) (.int (0 : Int32)) ∧ Exa Z hQ_ t2 "[B" ∧ M ≤ N2 ∧ N2 ≤ 84 ∧ N ≤ N2 ∧ n0 ≤ t2 ∧ (t2 = t ∨ h0.size ≤ t2)
theorem rm_ensure42 (l : Launch) (Z : State) (a0 : Array Value) (hw : HW a0 Z) (ws : List Jvm.Cond) (a : Addr) (M : Nat) (t : Addr) (kb : ClassId) (N : Nat) (w : Int32) (cs : List Int32) (h0 : Heap) (n0 : Nat) (Z0 : n0 ≤ h0.size) (E1 : Exa Z h0 a "java/lang/StringBuilder") (F1 : Fld Z h0 a "java/lang/AbstractStringBuilder" "value" "[B" (.ref t)) (F2 : Fld Z h0 a "java/lang/AbstractStringBuilder" "coder" "B" (.int (0 : Int32))) (F3 : Fld Z h0 a "java/lang/AbstractStringBuilder" "count" "I" (.int w)) (V1 : Arv Z h0 t kb .byte (Int32.ofNat N) (l1 cs) (.int (0 : Int32))) (E2 : Exa Z h0 t "[B") (hcs : cs.length ≤ N) (hM : M ≤ 42) (hN : N ≤ 84) (g1 : n0 ≤ a) (g2 : n0 ≤ t) :
    CT l yn13 (Jvm.Cond.code yn13 jdk_68_method_9_code 3 none :: ws) (⟨3, 1, 84, 79⟩ : Room) #[(.ref a), (.int (Int32.ofNat M))] Z h0 (Q_ensure42 Z a M t kb N w cs h0 n0) := by
  refine MetFree.of_bodySF (plainFor_of_name pn_java_lang_AbstractStringBuilder) hisR ?_
  intro p e s m args below meth cO s₁ Bd hml hP hK
  obtain ⟨rfl, hZ, hh⟩ := hP
  have hx := Bd.exec
  have hby := Bd.bytes
  have hown : s.vm.findClass "java/lang/AbstractStringBuilder" = some m.cls := findClass_of_methodNamed Bd.named
  have hnm := (name_of_methodNamed Bd.named Bd.method).1
  have X0 : Stand p l e (⟨3, 1, 84, 79⟩ : Room) s m #[(.ref a), (.int (Int32.ofNat M))] below meth cO s₁ [] 0 0 := Stand.of_body Bd
  have e0 : s₁.heap = h0 := by rw [← hh, Bd.state]; rfl
  have N0 := Fr.nil n0
  have D_ : ∀ {i : Nat} {x}, decode jdk_68_method_9_code i = x → decode cO.code i = x := fun h => hb hby h
  have W0 : ∀ zQ, SS p e below s₁ m 0 #[.val (.ref a), .val (.int (Int32.ofNat M)), .unset] [] zQ → Steps p.tables e below (s₁.setTop (entryFrame m #[(.ref a), (.int (Int32.ofNat M))] 3)) zQ := fun tt kt => castTop (ef_ensure42 m a (Int32.ofNat M)) kt
  obtain ⟨T101, X101, e101, st101⟩ := getF X0 hx hZ hown (host := "") (Or.inl (w25 hw)) Via.refl e0 F1 (g := (mkF m 1 #[.val (.ref a), .val (.int (Int32.ofNat M)), .unset] [(.ref a)])) rfl rfl (D_ d13_1)
  obtain ⟨cl102, Ar102, -, S102, M102, -, -⟩ := id V1
  obtain ⟨T103, X103, e103, st103⟩ := getF X101 hx hZ hown (host := "") (Or.inl (w27 hw)) Via.refl e101 F2 (g := (mkF m 6 #[.val (.ref a), .val (.int (Int32.ofNat M)), .unset] [(.ref a), (.int (Int32.ofNat N))])) rfl rfl (D_ d13_6)
  have W104 : ∀ zQ, SS p e below T103 m 14 #[.val (.ref a), .val (.int (Int32.ofNat M)), .val (.int (Int32.ofNat N))] [(.int ((Int32.ofNat M) - (Int32.ofNat N)))] zQ → Steps p.tables e below (s₁.setTop (entryFrame m #[(.ref a), (.int (Int32.ofNat M))] 3)) zQ := by
    intro tt kt
    refine W0 tt ?_
    refine XS.aloadN X0.here hx rfl (D_ d13_0) rfl rfl ?_
    refine st101 _ ?_
    refine X101.arraylength hx (by first | exact Ar102.1 | (rw [e101]; exact Ar102.1)) (State.isArrayOf_alike hZ.alike Ar102.2.1) (g := (mkF m 4 #[.val (.ref a), .val (.int (Int32.ofNat M)), .unset] [(.ref t)])) rfl rfl (D_ d13_4) _ ?_
    rw [len_of S102 M102]
    refine XS.aloadN X101.here hx rfl (D_ d13_5) rfl rfl ?_
    refine st103 _ ?_
    refine XS.ishr X103.here hx rfl (D_ d13_9) rfl ?_
    show SS p e below T103 m 10 #[.val (.ref a), .val (.int (Int32.ofNat M)), .unset] [(.int ((Int32.ofNat N) >>> ((0 : Int32) &&& 31)))] _
    rw [show ((Int32.ofNat N) >>> ((0 : Int32) &&& 31)) = (Int32.ofNat N) from own_shr0 _]
    refine XS.istoreN X103.here hx rfl (D_ d13_10) rfl (l' := #[.val (.ref a), .val (.int (Int32.ofNat M)), .val (.int (Int32.ofNat N))]) rfl ?_
    refine XS.iloadN X103.here hx rfl (D_ d13_11) rfl ?_
    refine XS.iloadN X103.here hx rfl (D_ d13_12) rfl ?_
    refine XS.isub X103.here hx rfl (D_ d13_13) rfl ?_
    exact kt
  by_cases hc105 : M ≤ N
  ·
    have W106 : ∀ zQ, SS p e below T103 m 38 #[.val (.ref a), .val (.int (Int32.ofNat M)), .val (.int (Int32.ofNat N))] [] zQ → Steps p.tables e below (s₁.setTop (entryFrame m #[(.ref a), (.int (Int32.ofNat M))] 3)) zQ := by
      intro tt kt
      refine W104 tt ?_
      refine XS.ifYes X103.here hx rfl (pc0 := 14) (pc' := 38) rfl (D_ d13_14) rfl ((if0 _ _).trans (flt (own_nsub hc105 (by omega))).2.2.2) (by decide) (by decide) ?_
      exact kt
    obtain ⟨fs, hr, hrun, hended, hW, hsame⟩ := X103.leave (v := none) (fun _ => rfl)
    refine ⟨_, _, W106 _ (X103.returnOut hx Bd.returns (D_ d13_38) hr), hrun, hended, _, _, rfl, ?_, ⟨_, rfl⟩, hW, hsame.mono (by decide) (by decide)⟩
    show Q_ensure42 Z a M t kb N w cs h0 n0 _ T103.heap _
    rw [e103]
    exact ⟨t, kb, N, rfl, N0, (Keep.refl h0 [a]), F1, F2, F3, V1, E2, hc105, hN, (by omega : N ≤ N), g2, (Or.inl rfl)⟩
  ·
    obtain ⟨T107, X107, e107, st107⟩ := getF X103 hx hZ hown (host := "") (Or.inl (w25 hw)) Via.refl e103 F1 (g := (mkF m 19 #[.val (.ref a), .val (.int (Int32.ofNat M)), .val (.int (Int32.ofNat N))] [(.ref a), (.ref a)])) rfl rfl (D_ d13_19)
    obtain ⟨cq108, q108, q108'⟩ := E1.cell
    obtain ⟨_, _, ⟨T108, L108, k108, n108⟩, -, X108, ⟨Lc108, hQ108, l108, y108, z108⟩, st108⟩ := X107.privateBack hx (y := yn9) hown (mvT hZ (w236 hw)) (mvT hZ (w237 hw)) (mvT hZ (own_psel (y := yn9) (w239 hw) (w238 hw) (w237 hw) (by decide))) (Cond.privateMethod_at (mvP hZ (w238 hw) (args := #[]))) (mvT hZ (w240 hw)) (by decide) (backOf (W := 2) (rm_newCap l Z a0 hw [] a M t kb N (l1 cs) h0 n0 Z0 F1 F2 V1 (by omega) (by omega)) hZ (w240 hw) (w19 hw) (by decide) (by decide)) (g := (mkF m 24 #[.val (.ref a), .val (.int (Int32.ofNat M)), .val (.int (Int32.ofNat N))] [(.int (Int32.ofNat M)), (.ref a), (.ref t), (.ref a)])) rfl (by rw [hml]; rfl) (Steps.refl _) (a := a) (by rw [e107]; exact q108) q108' (argsL := [(.int (Int32.ofNat M))]) (rest := [(.ref t), (.ref a)]) (lenOf pd5 rfl) rfl (wq rfl) (D_ d13_24) (fun _ _ => ⟨rfl, e107, (nb rfl), (nb rfl)⟩)
    dsimp only [Pt.U, Pt.locs, Pt.cells, Pt.slots] at X108 l108 y108 z108 st108 hQ108
    subst l108 y108 z108
    obtain ⟨rfl, Nq108, eq108⟩ := hQ108
    have N108 := Fr.app N0 Nq108
    obtain ⟨T109, X109, e109, st109⟩ := getF X108 hx hZ hown (host := "") (Or.inl (w27 hw)) Via.refl eq108 F2 (g := (mkF m 28 #[.val (.ref a), .val (.int (Int32.ofNat M)), .val (.int (Int32.ofNat N))] [(.ref a), (.int (Int32.ofNat (N + max (M - N) (N + 2)))), (.ref t), (.ref a)])) rfl rfl (D_ d13_28)
    obtain ⟨_, _, ⟨T110, L110, k110, n110⟩, -, X110, ⟨Lc110, hQ110, l110, y110, z110⟩, st110⟩ := Jvm.LawKit.callS X109 hx (y := yn12) hown (mvT hZ (w248 hw)) (mvT hZ (w249 hw)) (mvT hZ (w84 hw)) (mvT hZ (w250 hw)) (by decide) (backOf (W := 1) (rm_copyOf42 l Z a0 hw [] t (N + max (M - N) (N + 2)) N kb cs h0 n0 Z0 V1 hcs (by omega) (by omega)) hZ (w250 hw) (w84 hw) (by decide) (by decide)) (g := (mkF m 32 #[.val (.ref a), .val (.int (Int32.ofNat M)), .val (.int (Int32.ofNat N))] [(.int (Int32.ofNat (N + max (M - N) (N + 2)))), (.ref t), (.ref a)])) rfl (by rw [hml]; rfl) (argsL := [(.ref t), (.int (Int32.ofNat (N + max (M - N) (N + 2))))]) (rest := [(.ref a)]) (lenOf pd6 rfl) rfl (wq rfl) (D_ d13_32) (fun _ _ => ⟨rfl, e109, (nb rfl), (nb rfl)⟩)
    dsimp only [Pt.U, Pt.locs, Pt.cells, Pt.slots] at X110 l110 y110 z110 st110 hQ110
    subst l110 y110 z110
    obtain ⟨r_111, kr_112, rfl, Nq110, K110, P110_0, P110_1, P110_2⟩ := hQ110
    have N110 := Fr.app N108 Nq110
    have F113 : Exa Z T110.heap a "java/lang/StringBuilder" := (E1.keep K110)
    have F114 : Fld Z T110.heap a "java/lang/AbstractStringBuilder" "value" "[B" (.ref t) := (F1.keep K110 nin0)
    obtain ⟨T115, h115, X115, e115, Wr115, st115⟩ := putF X110 hx hZ hown (host := "") (Or.inl (w25 hw)) Via.refl rfl F114 F113 (Or.inl (w26 hw)) (w10 hw) (ty := (.array .byte)) (by decide) rfl rfl (g := (mkF m 35 #[.val (.ref a), .val (.int (Int32.ofNat M)), .val (.int (Int32.ofNat N))] [(.ref r_111), (.ref a)])) rfl rfl (D_ d13_35)
    have K115 := Keep.of_wr Wr115
    have G115 := F114.same Wr115
    have N115 := Fr.snoc X115 N110 g1
    have W116 : ∀ zQ, SS p e below T115 m 38 #[.val (.ref a), .val (.int (Int32.ofNat M)), .val (.int (Int32.ofNat N))] [] zQ → Steps p.tables e below (s₁.setTop (entryFrame m #[(.ref a), (.int (Int32.ofNat M))] 3)) zQ := by
      intro tt kt
      refine W104 tt ?_
      refine XS.ifNo X103.here hx rfl (D_ d13_14) rfl ((if0 _ _).trans (tlt (own_psub (by omega) (by omega))).2.2.2) ?_
      refine XS.aloadN X103.here hx rfl (D_ d13_17) rfl rfl ?_
      refine XS.aloadN X103.here hx rfl (D_ d13_18) rfl rfl ?_
      refine st107 _ ?_
      refine XS.aloadN X107.here hx rfl (D_ d13_22) rfl rfl ?_
      refine XS.iloadN X107.here hx rfl (D_ d13_23) rfl ?_
      refine st108.trans ?_
      refine XS.aloadN X108.here hx rfl (D_ d13_27) rfl rfl ?_
      refine st109 _ ?_
      refine XS.ishl X109.here hx rfl (D_ d13_31) rfl ?_
      show SS p e below T109 m 32 #[.val (.ref a), .val (.int (Int32.ofNat M)), .val (.int (Int32.ofNat N))] [(.int ((Int32.ofNat (N + max (M - N) (N + 2))) <<< ((0 : Int32) &&& 31))), (.ref t), (.ref a)] _
      rw [show ((Int32.ofNat (N + max (M - N) (N + 2))) <<< ((0 : Int32) &&& 31)) = (Int32.ofNat (N + max (M - N) (N + 2))) from own_shl0 _]
      refine st110 _ ?_
      refine st115 _ ?_
      exact kt
    have F117 : Fld Z h115 a "java/lang/AbstractStringBuilder" "coder" "B" (.int (0 : Int32)) := (Fld.other Wr115 (F2.keep K110 nin0) (Or.inr (slot_ne (Or.inl (w28 hw)) (Or.inl (w26 hw)) (by decide) (t := .byte) (t' := (.array .byte)) (by decide) (by decide))))
    have F118 : Fld Z h115 a "java/lang/AbstractStringBuilder" "count" "I" (.int w) := (Fld.other Wr115 (F3.keep K110 nin0) (Or.inr (slot_ne (Or.inl (w47 hw)) (Or.inl (w26 hw)) (by decide) (t := .int) (t' := (.array .byte)) (by decide) (by decide))))
    have F119 : Arv Z h115 r_111 kr_112 .byte (Int32.ofNat (N + max (M - N) (N + 2))) (l1 cs) (.int (0 : Int32)) := (P110_1.keep K115 (ninS (Ne.symm (Nat.ne_of_lt (Nat.lt_of_lt_of_le E1.lt P110_0))) nin0))
    have F120 : Exa Z h115 r_111 "[B" := (P110_2.keep K115)
    obtain ⟨fs, hr, hrun, hended, hW, hsame⟩ := X115.leave (v := none) (fun _ => rfl)
    refine ⟨_, _, W116 _ (X115.returnOut hx Bd.returns (D_ d13_38) hr), hrun, hended, _, _, rfl, ?_, ⟨_, rfl⟩, hW, hsame.mono (by decide) (by decide)⟩
    show Q_ensure42 Z a M t kb N w cs h0 n0 _ T115.heap _
    rw [e115]
    exact ⟨r_111, kr_112, (N + max (M - N) (N + 2)), rfl, N115, (Keep.trans (Keep.trans (Keep.refl h0 [a]) K110 all0) K115 (allS (Or.inl (List.mem_of_getElem? (i := 0) rfl)) all0)), G115, F117, F118, F119, F120, (by omega : M ≤ (N + max (M - N) (N + 2))), (by omega : (N + max (M - N) (N + 2)) ≤ 84), (by omega : N ≤ (N + max (M - N) (N + 2))), (Nat.le_trans Z0 P110_0), (Or.inr P110_0)⟩
def Q_abAppC42 (Z : State) (a : Addr) (c : Int32) (t : Addr) (kb : ClassId) (N : Nat) (cs : List Int32) (cS : Int32) (h0 : Heap) (n0 : Nat) (vQ_ : Option Value) (hQ_ : Heap) (LQ_ : List Loc) : Prop := ∃ t2 : Addr, ∃ kb2 : ClassId, ∃ N2 : Nat, vQ_ = some (.ref a) ∧ Fr n0 LQ_ ∧ Keep h0 hQ_ [a, t] ∧ Fld Z hQ_ a "java/lang/AbstractStringBuilder" "value" "[B" (.ref t2) ∧ Fld Z hQ_ a "java/lang/AbstractStringBuilder" "coder" "B" (.int (0 : Int32)) ∧ Fld Z hQ_ a "java/lang/AbstractStringBuilder" "count" "I" (.int (Int32.ofNat (cs ++ [c]).length)) ∧ Arv Z hQ_ t2 kb2 .byte (Int32.ofNat N2) (l1 (cs ++ [c])) (.int (0 : Int32)) ∧ Exa Z hQ_ t2 "[B" ∧ (cs ++ [c]).length ≤ N2 ∧ N2 ≤ 84 ∧ N ≤ N2 ∧ n0 ≤ t2 ∧ (t2 = t ∨ h0.size ≤ t2)
theorem rm_abAppC42 (l : Launch) (Z : State) (a0 : Array Value) (hw : HW a0 Z) (ws : List Jvm.Cond) (a : Addr) (c : Int32) (t : Addr) (kb : ClassId) (N : Nat) (cs : List Int32) (cS : Int32) (h0 : Heap) (n0 : Nat) (Z0 : n0 ≤ h0.size) (O0 : Old Z n0 h0) (S_cs : Sta Z Z.heap "java/lang/String" "COMPACT_STRINGS" "Z" (.int cS)) (hcS : ¬ (cS = (0 : Int32))) (E1 : Exa Z h0 a "java/lang/StringBuilder") (F1 : Fld Z h0 a "java/lang/AbstractStringBuilder" "value" "[B" (.ref t)) (F2 : Fld Z h0 a "java/lang/AbstractStringBuilder" "coder" "B" (.int (0 : Int32))) (F3 : Fld Z h0 a "java/lang/AbstractStringBuilder" "count" "I" (.int (Int32.ofNat cs.length))) (V1 : Arv Z h0 t kb .byte (Int32.ofNat N) (l1 cs) (.int (0 : Int32))) (E2 : Exa Z h0 t "[B") (hc1 : ¬ ((255 : Int32) < c)) (hlim : cs.length < 42) (hcs : cs.length ≤ N) (hN : N ≤ 84) (g1 : n0 ≤ a) (g2 : n0 ≤ t) :
    CT l yn14 (Jvm.Cond.code yn14 jdk_68_method_31_code 2 (some (.object "java/lang/AbstractStringBuilder")) :: ws) (⟨4, 1, 84, 93⟩ : Room) #[(.ref a), (.int c)] Z h0 (Q_abAppC42 Z a c t kb N cs cS h0 n0) := by
  refine MetFree.of_bodySF (plainFor_of_name pn_java_lang_AbstractStringBuilder) hisR ?_
  intro p e s m args below meth cO s₁ Bd hml hP hK
  obtain ⟨rfl, hZ, hh⟩ := hP
  have hx := Bd.exec
  have hby := Bd.bytes
  have hown : s.vm.findClass "java/lang/AbstractStringBuilder" = some m.cls := findClass_of_methodNamed Bd.named
  have hnm := (name_of_methodNamed Bd.named Bd.method).1
  have X0 : Stand p l e (⟨4, 1, 84, 93⟩ : Room) s m #[(.ref a), (.int c)] below meth cO s₁ [] 0 0 := Stand.of_body Bd
  have e0 : s₁.heap = h0 := by rw [← hh, Bd.state]; rfl
  have N0 := Fr.nil n0
  have D_ : ∀ {i : Nat} {x}, decode jdk_68_method_31_code i = x → decode cO.code i = x := fun h => hb hby h
  have W0 : ∀ zQ, SS p e below s₁ m 0 #[.val (.ref a), .val (.int c)] [] zQ → Steps p.tables e below (s₁.setTop (entryFrame m #[(.ref a), (.int c)] 2)) zQ := fun tt kt => castTop (ef_abAppC42 m a c) kt
  obtain ⟨T101, X101, e101, st101⟩ := getF X0 hx hZ hown (host := "") (Or.inl (w46 hw)) Via.refl e0 F3 (g := (mkF m 2 #[.val (.ref a), .val (.int c)] [(.ref a), (.ref a)])) rfl rfl (D_ d14_2)
  obtain ⟨cq102, q102, q102'⟩ := E1.cell
  obtain ⟨_, _, ⟨T102, L102, k102, n102⟩, -, X102, ⟨Lc102, hQ102, l102, y102, z102⟩, st102⟩ := X101.privateBack hx (y := yn13) hown (mvT hZ (w227 hw)) (mvT hZ (w228 hw)) (mvT hZ (own_psel (y := yn13) (w230 hw) (w229 hw) (w228 hw) (by decide))) (Cond.privateMethod_at (mvP hZ (w229 hw) (args := #[]))) (mvT hZ (w231 hw)) (by decide) (backOf (W := 0) (rm_ensure42 l Z a0 hw [] a (cs.length + 1) t kb N (Int32.ofNat cs.length) cs h0 n0 Z0 E1 F1 F2 F3 V1 E2 hcs (by omega) hN g1 g2) hZ (w231 hw) (w19 hw) (by decide) (by decide)) (g := (mkF m 7 #[.val (.ref a), .val (.int c)] [(.int (Int32.ofNat (cs.length + 1))), (.ref a)])) rfl (by rw [hml]; rfl) (Steps.refl _) (a := a) (by rw [e101]; exact q102) q102' (argsL := [(.int (Int32.ofNat (cs.length + 1)))]) (rest := []) (lenOf pd7 rfl) rfl (wq rfl) (D_ d14_7) (fun _ _ => ⟨rfl, e101, (nb rfl), (nb rfl)⟩)
  dsimp only [Pt.U, Pt.locs, Pt.cells, Pt.slots] at X102 l102 y102 z102 st102 hQ102
  subst l102 y102 z102
  obtain ⟨t2_103, kb2_104, N2_105, rfl, Nq102, K102, P102_0, P102_1, P102_2, P102_3, P102_4, P102_5, P102_6, P102_7, P102_8, P102_9⟩ := hQ102
  have N102 := Fr.app N0 Nq102
  have O106 : Old Z n0 T102.heap := (O0.keep K102 (allS g1 all0))
  have F108 : Exa Z T102.heap a "java/lang/StringBuilder" := (E1.keep K102)
  obtain ⟨cq107, kq107, q107a, q107b, q107c⟩ := isOf hZ rfl F108
  obtain ⟨_, _, ⟨T107, L107, k107, n107⟩, -, X107, ⟨Lc107, hQ107, l107, y107, z107⟩, st107⟩ := X102.virtualBack hx (y := yn10) (z := yn10) hown (mvT hZ (w232 hw)) (mvT hZ (w76 hw)) (notFace_of_selects (args := #[]) (mvT hZ (w78 hw))) (mvT hZ (w78 hw)) (mvT hZ (w77 hw)) (by decide) (backOf (W := 0) (rm_abLatin l Z a0 hw [] a cS T102.heap n0 (Nat.le_trans Z0 K102.1) O106 S_cs hcS P102_1) hZ (w79 hw) (w19 hw) (by decide) (by decide)) q107a q107c (g := (mkF m 11 #[.val (.ref a), .val (.int c)] [(.ref a)])) rfl (by rw [hml]; rfl) (Steps.refl _) (argsL := []) (rest := []) (lenOf pd8 rfl) rfl (wq rfl) (D_ d14_11) (fun _ _ => ⟨rfl, rfl, (nb rfl), (nb rfl)⟩)
  dsimp only [Pt.U, Pt.locs, Pt.cells, Pt.slots] at X107 l107 y107 z107 st107 hQ107
  subst l107 y107 z107
  obtain ⟨rfl, Nq107, eq107⟩ := hQ107
  have N107 := Fr.app N102 Nq107
  obtain ⟨_, _, ⟨T109, L109, k109, n109⟩, -, X109, ⟨Lc109, hQ109, l109, y109, z109⟩, st109⟩ := Jvm.LawKit.callS X107 hx (y := yn11) hown (mvT hZ (w233 hw)) (mvT hZ (w119 hw)) (mvT hZ (w120 hw)) (mvT hZ (w121 hw)) (by decide) (backOf (W := 0) (rm_canEncode l Z a0 hw [] c T102.heap n0 (Nat.le_trans Z0 K102.1) hc1) hZ (w121 hw) (w120 hw) (by decide) (by decide)) (g := (mkF m 18 #[.val (.ref a), .val (.int c)] [(.int c)])) rfl (by rw [hml]; rfl) (argsL := [(.int c)]) (rest := []) (lenOf pd9 rfl) rfl (wq rfl) (D_ d14_18) (fun _ _ => ⟨rfl, eq107, (nb rfl), (nb rfl)⟩)
  dsimp only [Pt.U, Pt.locs, Pt.cells, Pt.slots] at X109 l109 y109 z109 st109 hQ109
  subst l109 y109 z109
  obtain ⟨rfl, Nq109, eq109⟩ := hQ109
  have N109 := Fr.app N107 Nq109
  obtain ⟨T110, X110, e110, st110⟩ := getF X109 hx hZ hown (host := "") (Or.inl (w25 hw)) Via.refl eq109 P102_0 (g := (mkF m 25 #[.val (.ref a), .val (.int c)] [(.ref a)])) rfl rfl (D_ d14_25)
  obtain ⟨T111, X111, e111, st111⟩ := getF X110 hx hZ hown (host := "") (Or.inl (w46 hw)) Via.refl e110 P102_2 (g := (mkF m 30 #[.val (.ref a), .val (.int c)] [(.ref a), (.ref a), (.ref t2_103)])) rfl rfl (D_ d14_30)
  obtain ⟨T112, h112, X112, e112, Wr112, st112⟩ := putF X111 hx hZ hown (host := "") (Or.inl (w46 hw)) Via.refl e111 P102_2 F108 (Or.inl (w47 hw)) (w10 hw) (ty := .int) (by decide) rfl rfl (g := (mkF m 36 #[.val (.ref a), .val (.int c)] [(.int (Int32.ofNat (cs ++ [c]).length)), (.ref a), (.int (Int32.ofNat cs.length)), (.ref t2_103)])) rfl rfl (D_ d14_36)
  have K112 := Keep.of_wr Wr112
  have G112 := P102_2.same Wr112
  have N112 := Fr.snoc X112 N109 g1
  have F113 : Arv Z h112 t2_103 kb2_104 .byte (Int32.ofNat N2_105) (l1 cs) (.int (0 : Int32)) := (P102_3.keep K112 (ninS (Ne.symm (own_alne P102_9 E1.lt (Exa.ne E1 E2 (by decide)))) nin0))
  obtain ⟨cl114, Ar114, q114, S114, M114, H114, F114g⟩ := id F113
  have hin114 : ¬ ((Int32.ofNat cs.length) < 0 ∨ cl114.slots.size ≤ ((Int32.ofNat cs.length)).toNatClampNeg) := inb_of S114 ⟨own_nneg (by omega), own_lt (by omega) (by omega)⟩
  obtain ⟨T114, h114, X114, e114, Wr114, st114⟩ := stB X112 hx hZ e112 Ar114 (j := (Int32.ofNat cs.length)) hin114 (g := (mkF m 41 #[.val (.ref a), .val (.int c)] [(.int (c.toInt8.toInt32)), (.int (Int32.ofNat cs.length)), (.ref t2_103)])) rfl rfl (D_ d14_41)
  have G114 : Arv Z h114 t2_103 kb2_104 .byte (Int32.ofNat N2_105) ((l1 cs) ++ [(.int (nar .byte (c.toInt8.toInt32)))]) (.int (0 : Int32)) := Arv.push Ar114 q114 S114 M114 H114 F114g (fits_nar_byte _) Wr114 (by rw [own_cl (by omega), l1_len])
  have K114 := Keep.of_wr Wr114
  have N114 := Fr.snoc X114 N112 P102_8
  have J114 : Arv Z h114 t2_103 kb2_104 .byte (Int32.ofNat N2_105) (l1 (cs ++ [c])) (.int (0 : Int32)) := by rw [← l1_snoc, ← own_narb]; exact G114
  have W115 : ∀ zQ, SS p e below T114 m 76 #[.val (.ref a), .val (.int c)] [(.ref a)] zQ → Steps p.tables e below (s₁.setTop (entryFrame m #[(.ref a), (.int c)] 2)) zQ := by
    intro tt kt
    refine W0 tt ?_
    refine XS.aloadN X0.here hx rfl (D_ d14_0) rfl rfl ?_
    refine XS.aloadN X0.here hx rfl (D_ d14_1) rfl rfl ?_
    refine st101 _ ?_
    refine XS.iconst X101.here hx rfl (D_ d14_5) ?_
    refine XS.iadd X101.here hx rfl (D_ d14_6) rfl ?_
    show SS p e below T101 m 7 #[.val (.ref a), .val (.int c)] [(.int ((Int32.ofNat cs.length) + (1 : Int32))), (.ref a)] _
    rw [show ((Int32.ofNat cs.length) + (1 : Int32)) = (Int32.ofNat (cs.length + 1)) from own_succ _]
    refine st102.trans ?_
    refine XS.aloadN X102.here hx rfl (D_ d14_10) rfl rfl ?_
    refine st107.trans ?_
    refine XS.ifNo X107.here hx rfl (D_ d14_14) rfl ((if0 _ _).trans (feq (by decide)).1) ?_
    refine XS.iloadN X107.here hx rfl (D_ d14_17) rfl ?_
    refine st109 _ ?_
    refine XS.ifNo X109.here hx rfl (D_ d14_21) rfl ((if0 _ _).trans (feq (by decide)).1) ?_
    refine XS.aloadN X109.here hx rfl (D_ d14_24) rfl rfl ?_
    refine st110 _ ?_
    refine XS.aloadN X110.here hx rfl (D_ d14_28) rfl rfl ?_
    refine XS.dup X110.here hx rfl (D_ d14_29) rfl rfl ?_
    refine st111 _ ?_
    refine XS.dupX1 X111.here hx rfl (D_ d14_33) rfl rfl rfl ?_
    refine XS.iconst X111.here hx rfl (D_ d14_34) ?_
    refine XS.iadd X111.here hx rfl (D_ d14_35) rfl ?_
    show SS p e below T111 m 36 #[.val (.ref a), .val (.int c)] [(.int ((Int32.ofNat cs.length) + (1 : Int32))), (.ref a), (.int (Int32.ofNat cs.length)), (.ref t2_103)] _
    rw [show ((Int32.ofNat cs.length) + (1 : Int32)) = (Int32.ofNat (cs ++ [c]).length) from (by rw [own_succ]; simp)]
    refine st112 _ ?_
    refine XS.iloadN X112.here hx rfl (D_ d14_39) rfl ?_
    refine XS.i2b X112.here hx rfl (D_ d14_40) rfl ?_
    refine st114 _ ?_
    refine XS.goto X114.here hx rfl (pc0 := 42) (pc' := 75) rfl (D_ d14_42) (by decide) (by decide) ?_
    refine XS.aloadN X114.here hx rfl (D_ d14_75) rfl rfl ?_
    exact kt
  have F116 : Fld Z h114 a "java/lang/AbstractStringBuilder" "value" "[B" (.ref t2_103) := ((Fld.other Wr112 P102_0 (Or.inr (slot_ne (Or.inl (w26 hw)) (Or.inl (w47 hw)) (by decide) (t := (.array .byte)) (t' := .int) (by decide) (by decide)))).keep K114 (ninS (own_alne P102_9 E1.lt (Exa.ne E1 E2 (by decide))) nin0))
  have F117 : Fld Z h114 a "java/lang/AbstractStringBuilder" "coder" "B" (.int (0 : Int32)) := ((Fld.other Wr112 P102_1 (Or.inr (slot_ne (Or.inl (w28 hw)) (Or.inl (w47 hw)) (by decide) (t := .byte) (t' := .int) (by decide) (by decide)))).keep K114 (ninS (own_alne P102_9 E1.lt (Exa.ne E1 E2 (by decide))) nin0))
  have F118 : Fld Z h114 a "java/lang/AbstractStringBuilder" "count" "I" (.int (Int32.ofNat (cs ++ [c]).length)) := (G112.keep K114 (ninS (own_alne P102_9 E1.lt (Exa.ne E1 E2 (by decide))) nin0))
  have F119 : Exa Z h114 t2_103 "[B" := ((P102_4.keep K112).keep K114)
  obtain ⟨fs, hr, hrun, hended, hW, hsame⟩ := X114.leave (v := some (.ref a)) (fun h => by rw [Bd.returns] at h; cases h)
  refine ⟨_, _, W115 _ (own_retR X114 hx Bd.returns rfl rfl (D_ d14_76) hr), hrun, hended, _, _, rfl, ?_, ⟨_, rfl⟩, hW, hsame.mono (by decide) (by decide)⟩
  show Q_abAppC42 Z a c t kb N cs cS h0 n0 _ T114.heap _
  rw [e114]
  exact ⟨t2_103, kb2_104, N2_105, rfl, N114, (Keep.trans (Keep.trans (Keep.trans (Keep.refl h0 [a, t]) K102 (allS (Or.inl (List.mem_of_getElem? (i := 0) rfl)) all0)) K112 (allS (Or.inl (List.mem_of_getElem? (i := 0) rfl)) all0)) K114 (allS (own_alke P102_9 (Or.inl (List.mem_of_getElem? (i := 1) rfl)) (Nat.le_refl _)) all0)), F116, F117, F118, J114, F119, (by first | decide | omega | (simp only [List.length_append, List.length_singleton, List.length_cons, List.length_nil]; omega) : (cs ++ [c]).length ≤ N2_105), P102_6, P102_7, P102_8, (own_altr P102_9 (Or.inl rfl) (Nat.le_refl _))⟩
def Q_sbAppC42 (Z : State) (a : Addr) (c : Int32) (t : Addr) (kb : ClassId) (N : Nat) (cs : List Int32) (cS : Int32) (h0 : Heap) (n0 : Nat) (vQ_ : Option Value) (hQ_ : Heap) (LQ_ : List Loc) : Prop := ∃ t2 : Addr, ∃ kb2 : ClassId, ∃ N2 : Nat, vQ_ = some (.ref a) ∧ Fr n0 LQ_ ∧ Keep h0 hQ_ [a, t] ∧ Fld Z hQ_ a "java/lang/AbstractStringBuilder" "value" "[B" (.ref t2) ∧ Fld Z hQ_ a "java/lang/AbstractStringBuilder" "coder" "B" (.int (0 : Int32)) ∧ Fld Z hQ_ a "java/lang/AbstractStringBuilder" "count" "I" (.int (Int32.ofNat (cs ++ [c]).length)) ∧ Arv Z hQ_ t2 kb2 .byte (Int32.ofNat N2) (l1 (cs ++ [c])) (.int (0 : Int32)) ∧ Exa Z hQ_ t2 "[B" ∧ (cs ++ [c]).length ≤ N2 ∧ N2 ≤ 84 ∧ N ≤ N2 ∧ n0 ≤ t2 ∧ (t2 = t ∨ h0.size ≤ t2)
theorem rm_sbAppC42 (l : Launch) (Z : State) (a0 : Array Value) (hw : HW a0 Z) (ws : List Jvm.Cond) (a : Addr) (c : Int32) (t : Addr) (kb : ClassId) (N : Nat) (cs : List Int32) (cS : Int32) (h0 : Heap) (n0 : Nat) (Z0 : n0 ≤ h0.size) (O0 : Old Z n0 h0) (S_cs : Sta Z Z.heap "java/lang/String" "COMPACT_STRINGS" "Z" (.int cS)) (hcS : ¬ (cS = (0 : Int32))) (E1 : Exa Z h0 a "java/lang/StringBuilder") (F1 : Fld Z h0 a "java/lang/AbstractStringBuilder" "value" "[B" (.ref t)) (F2 : Fld Z h0 a "java/lang/AbstractStringBuilder" "coder" "B" (.int (0 : Int32))) (F3 : Fld Z h0 a "java/lang/AbstractStringBuilder" "count" "I" (.int (Int32.ofNat cs.length))) (V1 : Arv Z h0 t kb .byte (Int32.ofNat N) (l1 cs) (.int (0 : Int32))) (E2 : Exa Z h0 t "[B") (hc1 : ¬ ((255 : Int32) < c)) (hlim : cs.length < 42) (hcs : cs.length ≤ N) (hN : N ≤ 84) (g1 : n0 ≤ a) (g2 : n0 ≤ t) :
    CT l yn16 (Jvm.Cond.code yn16 jdk_67_method_14_code 2 (some (.object "java/lang/StringBuilder")) :: ws) (⟨5, 1, 84, 106⟩ : Room) #[(.ref a), (.int c)] Z h0 (Q_sbAppC42 Z a c t kb N cs cS h0 n0) := by
  refine MetFree.of_bodySF (plainFor_of_name pn_java_lang_StringBuilder) hisR ?_
  intro p e s m args below meth cO s₁ Bd hml hP hK
  obtain ⟨rfl, hZ, hh⟩ := hP
  have hx := Bd.exec
  have hby := Bd.bytes
  have hown : s.vm.findClass "java/lang/StringBuilder" = some m.cls := findClass_of_methodNamed Bd.named
  have hnm := (name_of_methodNamed Bd.named Bd.method).1
  have X0 : Stand p l e (⟨5, 1, 84, 106⟩ : Room) s m #[(.ref a), (.int c)] below meth cO s₁ [] 0 0 := Stand.of_body Bd
  have e0 : s₁.heap = h0 := by rw [← hh, Bd.state]; rfl
  have N0 := Fr.nil n0
  have D_ : ∀ {i : Nat} {x}, decode jdk_67_method_14_code i = x → decode cO.code i = x := fun h => hb hby h
  have W0 : ∀ zQ, SS p e below s₁ m 0 #[.val (.ref a), .val (.int c)] [] zQ → Steps p.tables e below (s₁.setTop (entryFrame m #[(.ref a), (.int c)] 2)) zQ := fun tt kt => castTop (ef_sbAppC42 m a c) kt
  obtain ⟨_, _, ⟨T101, L101, k101, n101⟩, -, X101, ⟨Lc101, hQ101, l101, y101, z101⟩, st101⟩ := superBack X0 hx hZ (y := yn14) hown (w223 hw) (own_same (y := yn14) (by decide) (w224 hw) (own_nf (y := yn14) (y' := yn15) rfl (w71 hw) (w69 hw))) (w224 hw) (w43 hw) (by decide) (backOf (W := 0) (rm_abAppC42 l Z a0 hw [] a c t kb N cs cS h0 n0 Z0 O0 S_cs hcS E1 F1 F2 F3 V1 E2 hc1 hlim hcs hN g1 g2) hZ (w226 hw) (w19 hw) (by decide) (by decide)) e0 (Ins.self E1) (g := (mkF m 2 #[.val (.ref a), .val (.int c)] [(.int c), (.ref a)])) rfl (by rw [hml]; rfl) (w226 hw) (argsL := [(.int c)]) (rest := []) (lenOf pd10 rfl) rfl (wq rfl) (D_ d15_2) (fun _ _ => ⟨rfl, e0, (nb rfl), (nb rfl)⟩)
  dsimp only [Pt.U, Pt.locs, Pt.cells, Pt.slots] at X101 l101 y101 z101 st101 hQ101
  subst l101 y101 z101
  obtain ⟨t2_102, kb2_103, N2_104, rfl, Nq101, K101, P101_0, P101_1, P101_2, P101_3, P101_4, P101_5, P101_6, P101_7, P101_8, P101_9⟩ := hQ101
  have N101 := Fr.app N0 Nq101
  have W105 : ∀ zQ, SS p e below T101 m 7 #[.val (.ref a), .val (.int c)] [(.ref a)] zQ → Steps p.tables e below (s₁.setTop (entryFrame m #[(.ref a), (.int c)] 2)) zQ := by
    intro tt kt
    refine W0 tt ?_
    refine XS.aloadN X0.here hx rfl (D_ d15_0) rfl rfl ?_
    refine XS.iloadN X0.here hx rfl (D_ d15_1) rfl ?_
    refine st101.trans ?_
    refine XS.pop X101.here hx rfl (D_ d15_5) rfl rfl ?_
    refine XS.aloadN X101.here hx rfl (D_ d15_6) rfl rfl ?_
    exact kt
  obtain ⟨fs, hr, hrun, hended, hW, hsame⟩ := X101.leave (v := some (.ref a)) (fun h => by rw [Bd.returns] at h; cases h)
  refine ⟨_, _, W105 _ (own_retR X101 hx Bd.returns rfl rfl (D_ d15_7) hr), hrun, hended, _, _, rfl, ?_, ⟨_, rfl⟩, hW, hsame.mono (by decide) (by decide)⟩
  show Q_sbAppC42 Z a c t kb N cs cS h0 n0 _ T101.heap _
  exact ⟨t2_102, kb2_103, N2_104, rfl, N101, (Keep.trans (Keep.refl h0 [a, t]) K101 (allS (Or.inl (List.mem_of_getElem? (i := 0) rfl)) (allS (Or.inl (List.mem_of_getElem? (i := 1) rfl)) all0))), P101_0, P101_1, P101_2, P101_3, P101_4, P101_5, P101_6, P101_7, P101_8, (own_altr P101_9 (Or.inl rfl) (Nat.le_refl _))⟩
def Q_sgetBytes (Z : State) (o : Addr) (t : Addr) (u : Addr) (ku : ClassId) (ds : List Int32) (kb : ClassId) (N : Nat) (cs : List Int32) (cS : Int32) (h0 : Heap) (n0 : Nat) (vQ_ : Option Value) (hQ_ : Heap) (LQ_ : List Loc) : Prop := vQ_ = none ∧ Fr n0 LQ_ ∧ Keep h0 hQ_ [t] ∧ Arv Z hQ_ t kb .byte (Int32.ofNat N) (l1 (cs ++ ds)) (.int (0 : Int32))
theorem rm_sgetBytes (l : Launch) (Z : State) (a0 : Array Value) (hw : HW a0 Z) (ws : List Jvm.Cond) (o : Addr) (t : Addr) (u : Addr) (ku : ClassId) (ds : List Int32) (kb : ClassId) (N : Nat) (cs : List Int32) (cS : Int32) (h0 : Heap) (n0 : Nat) (Z0 : n0 ≤ h0.size) (O0 : Old Z n0 h0) (S_cs : Sta Z Z.heap "java/lang/String" "COMPACT_STRINGS" "Z" (.int cS)) (hcS : ¬ (cS = (0 : Int32))) (hS : Str Z h0 o u ku ds) (hl : lat ds = true) (V1 : Arv Z h0 t kb .byte (Int32.ofNat N) (l1 cs) (.int (0 : Int32))) (hsum : cs.length + ds.length ≤ N) (hN : N < 1048576) (g2 : n0 ≤ t) (hot : o ≠ t) (hut : u ≠ t) :
    CT l yn17 (Jvm.Cond.code yn17 jdk_42_method_147_code 4 none :: ws) (⟨1, 0, 0, 64⟩ : Room) #[(.ref o), (.ref t), (.int (Int32.ofNat cs.length)), (.int (0 : Int32))] Z h0 (Q_sgetBytes Z o t u ku ds kb N cs cS h0 n0) := by
  refine MetFree.of_bodySF (plainFor_of_name pn_java_lang_String) hisR ?_
  intro p e s m args below meth cO s₁ Bd hml hP hK
  obtain ⟨rfl, hZ, hh⟩ := hP
  have hx := Bd.exec
  have hby := Bd.bytes
  have hown : s.vm.findClass "java/lang/String" = some m.cls := findClass_of_methodNamed Bd.named
  have hnm := (name_of_methodNamed Bd.named Bd.method).1
  have X0 : Stand p l e (⟨1, 0, 0, 64⟩ : Room) s m #[(.ref o), (.ref t), (.int (Int32.ofNat cs.length)), (.int (0 : Int32))] below meth cO s₁ [] 0 0 := Stand.of_body Bd
  have e0 : s₁.heap = h0 := by rw [← hh, Bd.state]; rfl
  have N0 := Fr.nil n0
  have D_ : ∀ {i : Nat} {x}, decode jdk_42_method_147_code i = x → decode cO.code i = x := fun h => hb hby h
  have W0 : ∀ zQ, SS p e below s₁ m 0 #[.val (.ref o), .val (.ref t), .val (.int (Int32.ofNat cs.length)), .val (.int (0 : Int32))] [] zQ → Steps p.tables e below (s₁.setTop (entryFrame m #[(.ref o), (.ref t), (.int (Int32.ofNat cs.length)), (.int (0 : Int32))] 4)) zQ := fun tt kt => castTop (ef_sgetBytes m o t (Int32.ofNat cs.length) (0 : Int32)) kt
  obtain ⟨dhE, dhV, dhC, dhA, okd⟩ := (id hS)
  have hA101 : Arv Z h0 u ku .byte (Int32.ofNat ds.length) (l1 ds) (.int (0 : Int32)) := by have q := enc_lat hl; rw [← q.1, ← q.2.1]; exact dhA
  have hcd : cdr ds = (0 : Int32) := (enc_lat hl).2.2
  have hdl : ds.length < 1048576 := okd.2
  obtain ⟨cq102, kq102, q102a, q102b, q102c⟩ := isOf hZ e0 dhE
  obtain ⟨_, _, ⟨T102, L102, k102, n102⟩, -, X102, ⟨Lc102, hQ102, l102, y102, z102⟩, st102⟩ := X0.virtualBack hx (y := yn1) (z := yn1) hown (mvT hZ (w151 hw)) (mvT hZ (w152 hw)) (notFace_of_selects (args := #[]) (mvT hZ (w154 hw))) (mvT hZ (w154 hw)) (mvT hZ (w153 hw)) (by decide) (backOf (W := 0) (rm_coder l Z a0 hw [] o (cdr ds) cS h0 n0 Z0 O0 S_cs hcS dhC (own_narcdr ds)) hZ (w155 hw) (w23 hw) (by decide) (by decide)) q102a q102c (g := (mkF m 1 #[.val (.ref o), .val (.ref t), .val (.int (Int32.ofNat cs.length)), .val (.int (0 : Int32))] [(.ref o)])) rfl (by rw [hml]; rfl) (Steps.refl _) (argsL := []) (rest := []) (lenOf pd0 rfl) rfl (wq rfl) (D_ d16_1) (fun _ _ => ⟨rfl, e0, (nb rfl), (nb rfl)⟩)
  dsimp only [Pt.U, Pt.locs, Pt.cells, Pt.slots] at X102 l102 y102 z102 st102 hQ102
  subst l102 y102 z102
  obtain ⟨rfl, Nq102, eq102⟩ := hQ102
  have N102 := Fr.app N0 Nq102
  obtain ⟨T103, X103, e103, st103⟩ := getF X102 hx hZ hown (host := "") (Or.inl (w100 hw)) Via.refl eq102 dhV (g := (mkF m 9 #[.val (.ref o), .val (.ref t), .val (.int (Int32.ofNat cs.length)), .val (.int (0 : Int32))] [(.ref o)])) rfl rfl (D_ d16_9)
  obtain ⟨T104, X104, e104, st104⟩ := getF X103 hx hZ hown (host := "") (Or.inl (w100 hw)) Via.refl e103 dhV (g := (mkF m 18 #[.val (.ref o), .val (.ref t), .val (.int (Int32.ofNat cs.length)), .val (.int (0 : Int32))] [(.ref o), (.int (Int32.ofNat cs.length)), (.ref t), (.int (0 : Int32)), (.ref u)])) rfl rfl (D_ d16_18)
  obtain ⟨cl105, Ar105, -, S105, M105, -, -⟩ := id hA101
  have J106 : Arv Z h0 t kb .byte (Int32.ofNat N) (l1 cs ++ List.replicate ds.length (Value.int (0 : Int32))) (.int (0 : Int32)) := Arv.pad V1 (pad_rep _ _ _)
  obtain ⟨T107, h107, Lp107, X107, e107, N107, K107, V107, st107⟩ := cpA X104 hx hZ hown (w278 hw) (w99 hw) (w97 hw) (w98 hw) e104 hA101 J106 (Or.inl ⟨rfl, rfl⟩) (by decide) (own_nneg (by omega)) (own_nneg (by omega)) (by rw [own_cl0, Nat.zero_add]; first | done | exact Nat.le_refl _) (by rw [own_cl (by omega), own_cl (by omega), own_cl (by omega)]; omega) (us := (l1 ds)) (by rw [own_cl (by omega)]; exact own_whole _ _ _ (l1_len ds)) (by rw [own_cl (by omega), own_cl (by omega), List.length_append, List.length_replicate, l1_len]; first | done | exact Nat.le_refl _) N102 g2 (g := (mkF m 22 #[.val (.ref o), .val (.ref t), .val (.int (Int32.ofNat cs.length)), .val (.int (0 : Int32))] [(.int (Int32.ofNat ds.length)), (.int (Int32.ofNat cs.length)), (.ref t), (.int (0 : Int32)), (.ref u)])) rfl (by rw [hml]; rfl) rfl (D_ d16_22) (by decide) (W := 0) (by show 2 * 0 + _ ≤ _; exact Nat.le_of_eq rfl) (by decide)
  have J108 : Arv Z h107 t kb .byte (Int32.ofNat N) (l1 (cs ++ ds)) (.int (0 : Int32)) := by have q := V107; rw [own_cl (by omega), own_cl (by omega), own_app2] at q; exact q
  have W109 : ∀ zQ, SS p e below T107 m 43 #[.val (.ref o), .val (.ref t), .val (.int (Int32.ofNat cs.length)), .val (.int (0 : Int32))] [] zQ → Steps p.tables e below (s₁.setTop (entryFrame m #[(.ref o), (.ref t), (.int (Int32.ofNat cs.length)), (.int (0 : Int32))] 4)) zQ := by
    intro tt kt
    refine W0 tt ?_
    refine XS.aloadN X0.here hx rfl (D_ d16_0) rfl rfl ?_
    refine st102.trans ?_
    refine XS.iloadN X102.here hx rfl (D_ d16_4) rfl ?_
    refine XS.icmpNo X102.here hx rfl (D_ d16_5) rfl (teq hcd).2 ?_
    refine XS.aloadN X102.here hx rfl (D_ d16_8) rfl rfl ?_
    refine st103 _ ?_
    refine XS.iconst X103.here hx rfl (D_ d16_12) ?_
    refine XS.aloadN X103.here hx rfl (D_ d16_13) rfl rfl ?_
    refine XS.iloadN X103.here hx rfl (D_ d16_14) rfl ?_
    refine XS.iloadN X103.here hx rfl (D_ d16_15) rfl ?_
    refine XS.ishl X103.here hx rfl (D_ d16_16) rfl ?_
    show SS p e below T103 m 17 #[.val (.ref o), .val (.ref t), .val (.int (Int32.ofNat cs.length)), .val (.int (0 : Int32))] [(.int ((Int32.ofNat cs.length) <<< ((0 : Int32) &&& 31))), (.ref t), (.int (0 : Int32)), (.ref u)] _
    rw [show ((Int32.ofNat cs.length) <<< ((0 : Int32) &&& 31)) = (Int32.ofNat cs.length) from own_shl0 _]
    refine XS.aloadN X103.here hx rfl (D_ d16_17) rfl rfl ?_
    refine st104 _ ?_
    refine X104.arraylength hx (by first | exact Ar105.1 | (rw [e104]; exact Ar105.1)) (State.isArrayOf_alike hZ.alike Ar105.2.1) (g := (mkF m 21 #[.val (.ref o), .val (.ref t), .val (.int (Int32.ofNat cs.length)), .val (.int (0 : Int32))] [(.ref u), (.int (Int32.ofNat cs.length)), (.ref t), (.int (0 : Int32)), (.ref u)])) rfl rfl (D_ d16_21) _ ?_
    rw [len_of S105 M105]
    refine st107 _ ?_
    refine XS.goto X107.here hx rfl (pc0 := 25) (pc' := 43) rfl (D_ d16_25) (by decide) (by decide) ?_
    exact kt
  obtain ⟨fs, hr, hrun, hended, hW, hsame⟩ := X107.leave (v := none) (fun _ => rfl)
  refine ⟨_, _, W109 _ (X107.returnOut hx Bd.returns (D_ d16_43) hr), hrun, hended, _, _, rfl, ?_, ⟨_, rfl⟩, hW, hsame.mono (by decide) (by decide)⟩
  show Q_sgetBytes Z o t u ku ds kb N cs cS h0 n0 _ T107.heap _
  rw [e107]
  exact ⟨rfl, N107, (Keep.trans (Keep.refl h0 [t]) K107 (allS (Or.inl (List.mem_of_getElem? (i := 0) rfl)) all0)), J108⟩
def Q_inflate (Z : State) (a : Addr) (o : Addr) (u : Addr) (ku : ClassId) (ds : List Int32) (cS : Int32) (h0 : Heap) (n0 : Nat) (vQ_ : Option Value) (hQ_ : Heap) (LQ_ : List Loc) : Prop := vQ_ = none ∧ Fr n0 LQ_ ∧ hQ_ = h0
theorem rm_inflate (l : Launch) (Z : State) (a0 : Array Value) (hw : HW a0 Z) (ws : List Jvm.Cond) (a : Addr) (o : Addr) (u : Addr) (ku : ClassId) (ds : List Int32) (cS : Int32) (h0 : Heap) (n0 : Nat) (Z0 : n0 ≤ h0.size) (O0 : Old Z n0 h0) (S_cs : Sta Z Z.heap "java/lang/String" "COMPACT_STRINGS" "Z" (.int cS)) (hcS : ¬ (cS = (0 : Int32))) (F2 : Fld Z h0 a "java/lang/AbstractStringBuilder" "coder" "B" (.int (0 : Int32))) (hS : Str Z h0 o u ku ds) (hl : lat ds = true) :
    CT l yn18 (Jvm.Cond.code yn18 jdk_68_method_71_code 2 none :: ws) (⟨1, 0, 0, 13⟩ : Room) #[(.ref a), (.ref o)] Z h0 (Q_inflate Z a o u ku ds cS h0 n0) := by
  refine MetFree.of_bodySF (plainFor_of_name pn_java_lang_AbstractStringBuilder) hisR ?_
  intro p e s m args below meth cO s₁ Bd hml hP hK
  obtain ⟨rfl, hZ, hh⟩ := hP
  have hx := Bd.exec
  have hby := Bd.bytes
  have hown : s.vm.findClass "java/lang/AbstractStringBuilder" = some m.cls := findClass_of_methodNamed Bd.named
  have hnm := (name_of_methodNamed Bd.named Bd.method).1
  have X0 : Stand p l e (⟨1, 0, 0, 13⟩ : Room) s m #[(.ref a), (.ref o)] below meth cO s₁ [] 0 0 := Stand.of_body Bd
  have e0 : s₁.heap = h0 := by rw [← hh, Bd.state]; rfl
  have N0 := Fr.nil n0
  have D_ : ∀ {i : Nat} {x}, decode jdk_68_method_71_code i = x → decode cO.code i = x := fun h => hb hby h
  have W0 : ∀ zQ, SS p e below s₁ m 0 #[.val (.ref a), .val (.ref o)] [] zQ → Steps p.tables e below (s₁.setTop (entryFrame m #[(.ref a), (.ref o)] 2)) zQ := fun tt kt => castTop (ef_inflate m a o) kt
  obtain ⟨dhE, dhV, dhC, dhA, okd⟩ := (id hS)
  have hA101 : Arv Z h0 u ku .byte (Int32.ofNat ds.length) (l1 ds) (.int (0 : Int32)) := by have q := enc_lat hl; rw [← q.1, ← q.2.1]; exact dhA
  have hcd : cdr ds = (0 : Int32) := (enc_lat hl).2.2
  have hdl : ds.length < 1048576 := okd.2
  have F103 : Sta Z h0 "java/lang/String" "COMPACT_STRINGS" "Z" (.int cS) := S_cs.ext O0.2
  obtain ⟨T102, X102, e102, st102⟩ := getS2 X0 hx hZ hown (host := "") (Or.inl (w22 hw)) Via.refl e0 F103 (g := (mkF m 0 #[.val (.ref a), .val (.ref o)] [])) rfl (D_ d17_0)
  obtain ⟨T104, X104, e104, st104⟩ := getF X102 hx hZ hown (host := "") (Or.inl (w27 hw)) Via.refl e102 F2 (g := (mkF m 7 #[.val (.ref a), .val (.ref o)] [(.ref a)])) rfl rfl (D_ d17_7)
  obtain ⟨cq105, kq105, q105a, q105b, q105c⟩ := isOf hZ e104 dhE
  obtain ⟨_, _, ⟨T105, L105, k105, n105⟩, -, X105, ⟨Lc105, hQ105, l105, y105, z105⟩, st105⟩ := X104.virtualBack hx (y := yn1) (z := yn1) hown (mvT hZ (w272 hw)) (mvT hZ (w152 hw)) (notFace_of_selects (args := #[]) (mvT hZ (w154 hw))) (mvT hZ (w154 hw)) (mvT hZ (w153 hw)) (by decide) (backOf (W := 1) (rm_coder l Z a0 hw [] o (cdr ds) cS h0 n0 Z0 O0 S_cs hcS dhC (own_narcdr ds)) hZ (w155 hw) (w23 hw) (by decide) (by decide)) q105a q105c (g := (mkF m 11 #[.val (.ref a), .val (.ref o)] [(.ref o), (.int (0 : Int32))])) rfl (by rw [hml]; rfl) (Steps.refl _) (argsL := []) (rest := [(.int (0 : Int32))]) (lenOf pd0 rfl) rfl (wq rfl) (D_ d17_11) (fun _ _ => ⟨rfl, e104, (nb rfl), (nb rfl)⟩)
  dsimp only [Pt.U, Pt.locs, Pt.cells, Pt.slots] at X105 l105 y105 z105 st105 hQ105
  subst l105 y105 z105
  obtain ⟨rfl, Nq105, eq105⟩ := hQ105
  have N105 := Fr.app N0 Nq105
  have W106 : ∀ zQ, SS p e below T105 m 21 #[.val (.ref a), .val (.ref o)] [] zQ → Steps p.tables e below (s₁.setTop (entryFrame m #[(.ref a), (.ref o)] 2)) zQ := by
    intro tt kt
    refine W0 tt ?_
    refine st102 _ ?_
    refine XS.ifNo X102.here hx rfl (D_ d17_3) rfl ((if0 _ _).trans (feq hcS).1) ?_
    refine XS.aloadN X102.here hx rfl (D_ d17_6) rfl rfl ?_
    refine st104 _ ?_
    refine XS.aloadN X104.here hx rfl (D_ d17_10) rfl rfl ?_
    refine st105.trans ?_
    refine XS.icmpYes X105.here hx rfl (pc0 := 14) (pc' := 21) rfl (D_ d17_14) rfl (teq hcd.symm).1 (by decide) (by decide) ?_
    exact kt
  obtain ⟨fs, hr, hrun, hended, hW, hsame⟩ := X105.leave (v := none) (fun _ => rfl)
  refine ⟨_, _, W106 _ (X105.returnOut hx Bd.returns (D_ d17_21) hr), hrun, hended, _, _, rfl, ?_, ⟨_, rfl⟩, hW, hsame.mono (by decide) (by decide)⟩
  show Q_inflate Z a o u ku ds cS h0 n0 _ T105.heap _
  rw [eq105]
  exact ⟨rfl, N105, rfl⟩
def Q_putAt (Z : State) (a : Addr) (o : Addr) (u : Addr) (ku : ClassId) (ds : List Int32) (t : Addr) (kb : ClassId) (N : Nat) (cs : List Int32) (cS : Int32) (h0 : Heap) (n0 : Nat) (vQ_ : Option Value) (hQ_ : Heap) (LQ_ : List Loc) : Prop := vQ_ = none ∧ Fr n0 LQ_ ∧ Keep h0 hQ_ [t] ∧ Arv Z hQ_ t kb .byte (Int32.ofNat N) (l1 (cs ++ ds)) (.int (0 : Int32))
theorem rm_putAt (l : Launch) (Z : State) (a0 : Array Value) (hw : HW a0 Z) (ws : List Jvm.Cond) (a : Addr) (o : Addr) (u : Addr) (ku : ClassId) (ds : List Int32) (t : Addr) (kb : ClassId) (N : Nat) (cs : List Int32) (cS : Int32) (h0 : Heap) (n0 : Nat) (Z0 : n0 ≤ h0.size) (O0 : Old Z n0 h0) (S_cs : Sta Z Z.heap "java/lang/String" "COMPACT_STRINGS" "Z" (.int cS)) (hcS : ¬ (cS = (0 : Int32))) (E1 : Exa Z h0 a "java/lang/StringBuilder") (F1 : Fld Z h0 a "java/lang/AbstractStringBuilder" "value" "[B" (.ref t)) (F2 : Fld Z h0 a "java/lang/AbstractStringBuilder" "coder" "B" (.int (0 : Int32))) (hS : Str Z h0 o u ku ds) (hl : lat ds = true) (V1 : Arv Z h0 t kb .byte (Int32.ofNat N) (l1 cs) (.int (0 : Int32))) (hsum : cs.length + ds.length ≤ N) (hN : N < 1048576) (g2 : n0 ≤ t) (hot : o ≠ t) (hut : u ≠ t) :
    CT l yn19 (Jvm.Cond.code yn19 jdk_68_method_73_code 3 none :: ws) (⟨2, 0, 0, 79⟩ : Room) #[(.ref a), (.int (Int32.ofNat cs.length)), (.ref o)] Z h0 (Q_putAt Z a o u ku ds t kb N cs cS h0 n0) := by
  refine MetFree.of_bodySF (plainFor_of_name pn_java_lang_AbstractStringBuilder) hisR ?_
  intro p e s m args below meth cO s₁ Bd hml hP hK
  obtain ⟨rfl, hZ, hh⟩ := hP
  have hx := Bd.exec
  have hby := Bd.bytes
  have hown : s.vm.findClass "java/lang/AbstractStringBuilder" = some m.cls := findClass_of_methodNamed Bd.named
  have hnm := (name_of_methodNamed Bd.named Bd.method).1
  have X0 : Stand p l e (⟨2, 0, 0, 79⟩ : Room) s m #[(.ref a), (.int (Int32.ofNat cs.length)), (.ref o)] below meth cO s₁ [] 0 0 := Stand.of_body Bd
  have e0 : s₁.heap = h0 := by rw [← hh, Bd.state]; rfl
  have N0 := Fr.nil n0
  have D_ : ∀ {i : Nat} {x}, decode jdk_68_method_73_code i = x → decode cO.code i = x := fun h => hb hby h
  have W0 : ∀ zQ, SS p e below s₁ m 0 #[.val (.ref a), .val (.int (Int32.ofNat cs.length)), .val (.ref o)] [] zQ → Steps p.tables e below (s₁.setTop (entryFrame m #[(.ref a), (.int (Int32.ofNat cs.length)), (.ref o)] 3)) zQ := fun tt kt => castTop (ef_putAt m a (Int32.ofNat cs.length) o) kt
  obtain ⟨cq101, q101, q101'⟩ := E1.cell
  obtain ⟨_, _, ⟨T101, L101, k101, n101⟩, -, X101, ⟨Lc101, hQ101, l101, y101, z101⟩, st101⟩ := X0.privateBack hx (y := yn18) hown (mvT hZ (w267 hw)) (mvT hZ (w268 hw)) (mvT hZ (own_psel (y := yn18) (w270 hw) (w269 hw) (w268 hw) (by decide))) (Cond.privateMethod_at (mvP hZ (w269 hw) (args := #[]))) (mvT hZ (w271 hw)) (by decide) (backOf (W := 0) (rm_inflate l Z a0 hw [] a o u ku ds cS h0 n0 Z0 O0 S_cs hcS F2 hS hl) hZ (w271 hw) (w19 hw) (by decide) (by decide)) (g := (mkF m 2 #[.val (.ref a), .val (.int (Int32.ofNat cs.length)), .val (.ref o)] [(.ref o), (.ref a)])) rfl (by rw [hml]; rfl) (Steps.refl _) (a := a) (by rw [e0]; exact q101) q101' (argsL := [(.ref o)]) (rest := []) (lenOf pd11 rfl) rfl (wq rfl) (D_ d18_2) (fun _ _ => ⟨rfl, e0, (nb rfl), (nb rfl)⟩)
  dsimp only [Pt.U, Pt.locs, Pt.cells, Pt.slots] at X101 l101 y101 z101 st101 hQ101
  subst l101 y101 z101
  obtain ⟨rfl, Nq101, eq101⟩ := hQ101
  have N101 := Fr.app N0 Nq101
  obtain ⟨T102, X102, e102, st102⟩ := getF X101 hx hZ hown (host := "") (Or.inl (w25 hw)) Via.refl eq101 F1 (g := (mkF m 7 #[.val (.ref a), .val (.int (Int32.ofNat cs.length)), .val (.ref o)] [(.ref a), (.ref o)])) rfl rfl (D_ d18_7)
  obtain ⟨T103, X103, e103, st103⟩ := getF X102 hx hZ hown (host := "") (Or.inl (w27 hw)) Via.refl e102 F2 (g := (mkF m 12 #[.val (.ref a), .val (.int (Int32.ofNat cs.length)), .val (.ref o)] [(.ref a), (.int (Int32.ofNat cs.length)), (.ref t), (.ref o)])) rfl rfl (D_ d18_12)
  obtain ⟨cq104, kq104, q104a, q104b, q104c⟩ := isOf hZ e103 hS.1
  obtain ⟨_, _, ⟨T104, L104, k104, n104⟩, -, X104, ⟨Lc104, hQ104, l104, y104, z104⟩, st104⟩ := X103.virtualBack hx (y := yn17) (z := yn17) hown (mvT hZ (w273 hw)) (mvT hZ (w274 hw)) (notFace_of_selects (args := #[]) (mvT hZ (w276 hw))) (mvT hZ (w276 hw)) (mvT hZ (w275 hw)) (by decide) (backOf (W := 0) (rm_sgetBytes l Z a0 hw [] o t u ku ds kb N cs cS h0 n0 Z0 O0 S_cs hcS hS hl V1 hsum hN g2 hot hut) hZ (w277 hw) (w23 hw) (by decide) (by decide)) q104a q104c (g := (mkF m 15 #[.val (.ref a), .val (.int (Int32.ofNat cs.length)), .val (.ref o)] [(.int (0 : Int32)), (.int (Int32.ofNat cs.length)), (.ref t), (.ref o)])) rfl (by rw [hml]; rfl) (Steps.refl _) (argsL := [(.ref t), (.int (Int32.ofNat cs.length)), (.int (0 : Int32))]) (rest := []) (lenOf pd12 rfl) rfl (wq rfl) (D_ d18_15) (fun _ _ => ⟨rfl, e103, (nb rfl), (nb rfl)⟩)
  dsimp only [Pt.U, Pt.locs, Pt.cells, Pt.slots] at X104 l104 y104 z104 st104 hQ104
  subst l104 y104 z104
  obtain ⟨rfl, Nq104, K104, P104_0⟩ := hQ104
  have N104 := Fr.app N101 Nq104
  have W105 : ∀ zQ, SS p e below T104 m 18 #[.val (.ref a), .val (.int (Int32.ofNat cs.length)), .val (.ref o)] [] zQ → Steps p.tables e below (s₁.setTop (entryFrame m #[(.ref a), (.int (Int32.ofNat cs.length)), (.ref o)] 3)) zQ := by
    intro tt kt
    refine W0 tt ?_
    refine XS.aloadN X0.here hx rfl (D_ d18_0) rfl rfl ?_
    refine XS.aloadN X0.here hx rfl (D_ d18_1) rfl rfl ?_
    refine st101.trans ?_
    refine XS.aloadN X101.here hx rfl (D_ d18_5) rfl rfl ?_
    refine XS.aloadN X101.here hx rfl (D_ d18_6) rfl rfl ?_
    refine st102 _ ?_
    refine XS.iloadN X102.here hx rfl (D_ d18_10) rfl ?_
    refine XS.aloadN X102.here hx rfl (D_ d18_11) rfl rfl ?_
    refine st103 _ ?_
    refine st104.trans ?_
    exact kt
  obtain ⟨fs, hr, hrun, hended, hW, hsame⟩ := X104.leave (v := none) (fun _ => rfl)
  refine ⟨_, _, W105 _ (X104.returnOut hx Bd.returns (D_ d18_18) hr), hrun, hended, _, _, rfl, ?_, ⟨_, rfl⟩, hW, hsame.mono (by decide) (by decide)⟩
  show Q_putAt Z a o u ku ds t kb N cs cS h0 n0 _ T104.heap _
  exact ⟨rfl, N104, (Keep.trans (Keep.refl h0 [t]) K104 (allS (Or.inl (List.mem_of_getElem? (i := 0) rfl)) all0)), P104_0⟩
def Q_abAppS (Z : State) (a : Addr) (o : Addr) (u : Addr) (ku : ClassId) (ds : List Int32) (t : Addr) (kb : ClassId) (N : Nat) (cs : List Int32) (cS : Int32) (h0 : Heap) (n0 : Nat) (vQ_ : Option Value) (hQ_ : Heap) (LQ_ : List Loc) : Prop := ∃ t2 : Addr, ∃ kb2 : ClassId, ∃ N2 : Nat, vQ_ = some (.ref a) ∧ Fr n0 LQ_ ∧ Keep h0 hQ_ [a, t] ∧ Fld Z hQ_ a "java/lang/AbstractStringBuilder" "value" "[B" (.ref t2) ∧ Fld Z hQ_ a "java/lang/AbstractStringBuilder" "coder" "B" (.int (0 : Int32)) ∧ Fld Z hQ_ a "java/lang/AbstractStringBuilder" "count" "I" (.int (Int32.ofNat (cs ++ ds).length)) ∧ Arv Z hQ_ t2 kb2 .byte (Int32.ofNat N2) (l1 (cs ++ ds)) (.int (0 : Int32)) ∧ Exa Z hQ_ t2 "[B" ∧ (cs ++ ds).length ≤ N2 ∧ N2 ≤ 84 ∧ N ≤ N2 ∧ n0 ≤ t2 ∧ (t2 = t ∨ h0.size ≤ t2)
theorem rm_abAppS (l : Launch) (Z : State) (a0 : Array Value) (hw : HW a0 Z) (ws : List Jvm.Cond) (a : Addr) (o : Addr) (u : Addr) (ku : ClassId) (ds : List Int32) (t : Addr) (kb : ClassId) (N : Nat) (cs : List Int32) (cS : Int32) (h0 : Heap) (n0 : Nat) (Z0 : n0 ≤ h0.size) (O0 : Old Z n0 h0) (S_cs : Sta Z Z.heap "java/lang/String" "COMPACT_STRINGS" "Z" (.int cS)) (hcS : ¬ (cS = (0 : Int32))) (E1 : Exa Z h0 a "java/lang/StringBuilder") (F1 : Fld Z h0 a "java/lang/AbstractStringBuilder" "value" "[B" (.ref t)) (F2 : Fld Z h0 a "java/lang/AbstractStringBuilder" "coder" "B" (.int (0 : Int32))) (F3 : Fld Z h0 a "java/lang/AbstractStringBuilder" "count" "I" (.int (Int32.ofNat cs.length))) (hS : Str Z h0 o u ku ds) (hl : lat ds = true) (V1 : Arv Z h0 t kb .byte (Int32.ofNat N) (l1 cs) (.int (0 : Int32))) (E2 : Exa Z h0 t "[B") (hlim : cs.length + ds.length ≤ 42) (hcs : cs.length ≤ N) (hN : N ≤ 84) (g1 : n0 ≤ a) (g2 : n0 ≤ t) (hut : u ≠ t) :
    CT l yn20 (Jvm.Cond.code yn20 jdk_68_method_22_code 3 (some (.object "java/lang/AbstractStringBuilder")) :: ws) (⟨4, 1, 84, 93⟩ : Room) #[(.ref a), (.ref o)] Z h0 (Q_abAppS Z a o u ku ds t kb N cs cS h0 n0) := by
  refine MetFree.of_bodySF (plainFor_of_name pn_java_lang_AbstractStringBuilder) hisR ?_
  intro p e s m args below meth cO s₁ Bd hml hP hK
  obtain ⟨rfl, hZ, hh⟩ := hP
  have hx := Bd.exec
  have hby := Bd.bytes
  have hown : s.vm.findClass "java/lang/AbstractStringBuilder" = some m.cls := findClass_of_methodNamed Bd.named
  have hnm := (name_of_methodNamed Bd.named Bd.method).1
  have X0 : Stand p l e (⟨4, 1, 84, 93⟩ : Room) s m #[(.ref a), (.ref o)] below meth cO s₁ [] 0 0 := Stand.of_body Bd
  have e0 : s₁.heap = h0 := by rw [← hh, Bd.state]; rfl
  have N0 := Fr.nil n0
  have D_ : ∀ {i : Nat} {x}, decode jdk_68_method_22_code i = x → decode cO.code i = x := fun h => hb hby h
  have W0 : ∀ zQ, SS p e below s₁ m 0 #[.val (.ref a), .val (.ref o), .unset] [] zQ → Steps p.tables e below (s₁.setTop (entryFrame m #[(.ref a), (.ref o)] 3)) zQ := fun tt kt => castTop (ef_abAppS m a o) kt
  obtain ⟨dhE, dhV, dhC, dhA, okd⟩ := (id hS)
  obtain ⟨cq101, kq101, q101a, q101b, q101c⟩ := isOf hZ e0 dhE
  obtain ⟨_, _, ⟨T101, L101, k101, n101⟩, -, X101, ⟨Lc101, hQ101, l101, y101, z101⟩, st101⟩ := X0.virtualBack hx (y := yn2) (z := yn2) hown (mvT hZ (w261 hw)) (mvT hZ (w147 hw)) (notFace_of_selects (args := #[]) (mvT hZ (w149 hw))) (mvT hZ (w149 hw)) (mvT hZ (w148 hw)) (by decide) (backOf (W := 0) (rm_length l Z a0 hw [] o u ku ds cS h0 n0 Z0 O0 S_cs hcS hS) hZ (w150 hw) (w23 hw) (by decide) (by decide)) q101a q101c (g := (mkF m 10 #[.val (.ref a), .val (.ref o), .unset] [(.ref o)])) rfl (by rw [hml]; rfl) (Steps.refl _) (argsL := []) (rest := []) (lenOf pd13 rfl) rfl (wq rfl) (D_ d19_10) (fun _ _ => ⟨rfl, e0, (nb rfl), (nb rfl)⟩)
  dsimp only [Pt.U, Pt.locs, Pt.cells, Pt.slots] at X101 l101 y101 z101 st101 hQ101
  subst l101 y101 z101
  obtain ⟨rfl, Nq101, eq101⟩ := hQ101
  have N101 := Fr.app N0 Nq101
  obtain ⟨T102, X102, e102, st102⟩ := getF X101 hx hZ hown (host := "") (Or.inl (w46 hw)) Via.refl eq101 F3 (g := (mkF m 16 #[.val (.ref a), .val (.ref o), .val (.int (Int32.ofNat ds.length))] [(.ref a), (.ref a)])) rfl rfl (D_ d19_16)
  obtain ⟨cq103, q103, q103'⟩ := E1.cell
  obtain ⟨_, _, ⟨T103, L103, k103, n103⟩, -, X103, ⟨Lc103, hQ103, l103, y103, z103⟩, st103⟩ := X102.privateBack hx (y := yn13) hown (mvT hZ (w227 hw)) (mvT hZ (w228 hw)) (mvT hZ (own_psel (y := yn13) (w230 hw) (w229 hw) (w228 hw) (by decide))) (Cond.privateMethod_at (mvP hZ (w229 hw) (args := #[]))) (mvT hZ (w231 hw)) (by decide) (backOf (W := 0) (rm_ensure42 l Z a0 hw [] a (cs.length + ds.length) t kb N (Int32.ofNat cs.length) cs h0 n0 Z0 E1 F1 F2 F3 V1 E2 hcs hlim hN g1 g2) hZ (w231 hw) (w19 hw) (by decide) (by decide)) (g := (mkF m 21 #[.val (.ref a), .val (.ref o), .val (.int (Int32.ofNat ds.length))] [(.int (Int32.ofNat (cs.length + ds.length))), (.ref a)])) rfl (by rw [hml]; rfl) (Steps.refl _) (a := a) (by rw [e102]; exact q103) q103' (argsL := [(.int (Int32.ofNat (cs.length + ds.length)))]) (rest := []) (lenOf pd7 rfl) rfl (wq rfl) (D_ d19_21) (fun _ _ => ⟨rfl, e102, (nb rfl), (nb rfl)⟩)
  dsimp only [Pt.U, Pt.locs, Pt.cells, Pt.slots] at X103 l103 y103 z103 st103 hQ103
  subst l103 y103 z103
  obtain ⟨t2_104, kb2_105, N2_106, rfl, Nq103, K103, P103_0, P103_1, P103_2, P103_3, P103_4, P103_5, P103_6, P103_7, P103_8, P103_9⟩ := hQ103
  have N103 := Fr.app N101 Nq103
  obtain ⟨T107, X107, e107, st107⟩ := getF X103 hx hZ hown (host := "") (Or.inl (w46 hw)) Via.refl rfl P103_2 (g := (mkF m 26 #[.val (.ref a), .val (.ref o), .val (.int (Int32.ofNat ds.length))] [(.ref a), (.ref a)])) rfl rfl (D_ d19_26)
  have F108 : Exa Z T103.heap a "java/lang/StringBuilder" := (E1.keep K103)
  have F109 : Str Z T103.heap o u ku ds := (hS.keep K103 (ninS (Exa.ne dhE E1 (by decide)) nin0) (ninS (Ne.symm (Exa.neArv E1 dhA (w10 hw))) nin0))
  have O110 : Old Z n0 T103.heap := (O0.keep K103 (allS g1 all0))
  obtain ⟨cq111, q111, q111'⟩ := F108.cell
  obtain ⟨_, _, ⟨T111, L111, k111, n111⟩, -, X111, ⟨Lc111, hQ111, l111, y111, z111⟩, st111⟩ := X107.privateBack hx (y := yn19) hown (mvT hZ (w262 hw)) (mvT hZ (w263 hw)) (mvT hZ (own_psel (y := yn19) (w265 hw) (w264 hw) (w263 hw) (by decide))) (Cond.privateMethod_at (mvP hZ (w264 hw) (args := #[]))) (mvT hZ (w266 hw)) (by decide) (backOf (W := 0) (rm_putAt l Z a0 hw [] a o u ku ds t2_104 kb2_105 N2_106 cs cS T103.heap n0 (Nat.le_trans Z0 K103.1) O110 S_cs hcS F108 P103_0 P103_1 F109 hl P103_3 (by omega : cs.length + ds.length ≤ N2_106) (by omega : N2_106 < 1048576) P103_8 (own_alne P103_9 hS.lt (Exa.ne dhE E2 (by decide))) (own_alne P103_9 hS.lt2 hut)) hZ (w266 hw) (w19 hw) (by decide) (by decide)) (g := (mkF m 30 #[.val (.ref a), .val (.ref o), .val (.int (Int32.ofNat ds.length))] [(.ref o), (.int (Int32.ofNat cs.length)), (.ref a)])) rfl (by rw [hml]; rfl) (Steps.refl _) (a := a) (by rw [e107]; exact q111) q111' (argsL := [(.int (Int32.ofNat cs.length)), (.ref o)]) (rest := []) (lenOf pd14 rfl) rfl (wq rfl) (D_ d19_30) (fun _ _ => ⟨rfl, e107, (nb rfl), (nb rfl)⟩)
  dsimp only [Pt.U, Pt.locs, Pt.cells, Pt.slots] at X111 l111 y111 z111 st111 hQ111
  subst l111 y111 z111
  obtain ⟨rfl, Nq111, K111, P111_0⟩ := hQ111
  have N111 := Fr.app N103 Nq111
  have F112 : Fld Z T111.heap a "java/lang/AbstractStringBuilder" "count" "I" (.int (Int32.ofNat cs.length)) := (P103_2.keep K111 (ninS (own_alne P103_9 E1.lt (Exa.ne E1 E2 (by decide))) nin0))
  obtain ⟨T113, X113, e113, st113⟩ := getF X111 hx hZ hown (host := "") (Or.inl (w46 hw)) Via.refl rfl F112 (g := (mkF m 35 #[.val (.ref a), .val (.ref o), .val (.int (Int32.ofNat ds.length))] [(.ref a), (.ref a)])) rfl rfl (D_ d19_35)
  have F114 : Exa Z T111.heap a "java/lang/StringBuilder" := (F108.keep K111)
  obtain ⟨T115, h115, X115, e115, Wr115, st115⟩ := putF X113 hx hZ hown (host := "") (Or.inl (w46 hw)) Via.refl e113 F112 F114 (Or.inl (w47 hw)) (w10 hw) (ty := .int) (by decide) rfl rfl (g := (mkF m 40 #[.val (.ref a), .val (.ref o), .val (.int (Int32.ofNat ds.length))] [(.int (Int32.ofNat (cs ++ ds).length)), (.ref a)])) rfl rfl (D_ d19_40)
  have K115 := Keep.of_wr Wr115
  have G115 := F112.same Wr115
  have N115 := Fr.snoc X115 N111 g1
  have W116 : ∀ zQ, SS p e below T115 m 44 #[.val (.ref a), .val (.ref o), .val (.int (Int32.ofNat ds.length))] [(.ref a)] zQ → Steps p.tables e below (s₁.setTop (entryFrame m #[(.ref a), (.ref o)] 3)) zQ := by
    intro tt kt
    refine W0 tt ?_
    refine XS.aloadN X0.here hx rfl (D_ d19_0) rfl rfl ?_
    refine XS.ifnonnullYes X0.here hx rfl (pc0 := 1) (pc' := 9) rfl (D_ d19_1) rfl (by decide) (by decide) ?_
    refine XS.aloadN X0.here hx rfl (D_ d19_9) rfl rfl ?_
    refine st101.trans ?_
    refine XS.istoreN X101.here hx rfl (D_ d19_13) rfl (l' := #[.val (.ref a), .val (.ref o), .val (.int (Int32.ofNat ds.length))]) rfl ?_
    refine XS.aloadN X101.here hx rfl (D_ d19_14) rfl rfl ?_
    refine XS.aloadN X101.here hx rfl (D_ d19_15) rfl rfl ?_
    refine st102 _ ?_
    refine XS.iloadN X102.here hx rfl (D_ d19_19) rfl ?_
    refine XS.iadd X102.here hx rfl (D_ d19_20) rfl ?_
    show SS p e below T102 m 21 #[.val (.ref a), .val (.ref o), .val (.int (Int32.ofNat ds.length))] [(.int ((Int32.ofNat cs.length) + (Int32.ofNat ds.length))), (.ref a)] _
    rw [show ((Int32.ofNat cs.length) + (Int32.ofNat ds.length)) = (Int32.ofNat (cs.length + ds.length)) from (Int32.ofNat_add _ _).symm]
    refine st103.trans ?_
    refine XS.aloadN X103.here hx rfl (D_ d19_24) rfl rfl ?_
    refine XS.aloadN X103.here hx rfl (D_ d19_25) rfl rfl ?_
    refine st107 _ ?_
    refine XS.aloadN X107.here hx rfl (D_ d19_29) rfl rfl ?_
    refine st111.trans ?_
    refine XS.aloadN X111.here hx rfl (D_ d19_33) rfl rfl ?_
    refine XS.dup X111.here hx rfl (D_ d19_34) rfl rfl ?_
    refine st113 _ ?_
    refine XS.iloadN X113.here hx rfl (D_ d19_38) rfl ?_
    refine XS.iadd X113.here hx rfl (D_ d19_39) rfl ?_
    show SS p e below T113 m 40 #[.val (.ref a), .val (.ref o), .val (.int (Int32.ofNat ds.length))] [(.int ((Int32.ofNat cs.length) + (Int32.ofNat ds.length))), (.ref a)] _
    rw [show ((Int32.ofNat cs.length) + (Int32.ofNat ds.length)) = (Int32.ofNat (cs ++ ds).length) from (by rw [← Int32.ofNat_add, List.length_append])]
    refine st115 _ ?_
    refine XS.aloadN X115.here hx rfl (D_ d19_43) rfl rfl ?_
    exact kt
  have F117 : Fld Z h115 a "java/lang/AbstractStringBuilder" "value" "[B" (.ref t2_104) := (Fld.other Wr115 (P103_0.keep K111 (ninS (own_alne P103_9 E1.lt (Exa.ne E1 E2 (by decide))) nin0)) (Or.inr (slot_ne (Or.inl (w26 hw)) (Or.inl (w47 hw)) (by decide) (t := (.array .byte)) (t' := .int) (by decide) (by decide))))
  have F118 : Fld Z h115 a "java/lang/AbstractStringBuilder" "coder" "B" (.int (0 : Int32)) := (Fld.other Wr115 (P103_1.keep K111 (ninS (own_alne P103_9 E1.lt (Exa.ne E1 E2 (by decide))) nin0)) (Or.inr (slot_ne (Or.inl (w28 hw)) (Or.inl (w47 hw)) (by decide) (t := .byte) (t' := .int) (by decide) (by decide))))
  have F119 : Arv Z h115 t2_104 kb2_105 .byte (Int32.ofNat N2_106) (l1 (cs ++ ds)) (.int (0 : Int32)) := (P111_0.keep K115 (ninS (Ne.symm (own_alne P103_9 E1.lt (Exa.ne E1 E2 (by decide)))) nin0))
  have F120 : Exa Z h115 t2_104 "[B" := ((P103_4.keep K111).keep K115)
  obtain ⟨fs, hr, hrun, hended, hW, hsame⟩ := X115.leave (v := some (.ref a)) (fun h => by rw [Bd.returns] at h; cases h)
  refine ⟨_, _, W116 _ (own_retR X115 hx Bd.returns rfl rfl (D_ d19_44) hr), hrun, hended, _, _, rfl, ?_, ⟨_, rfl⟩, hW, hsame.mono (by decide) (by decide)⟩
  show Q_abAppS Z a o u ku ds t kb N cs cS h0 n0 _ T115.heap _
  rw [e115]
  exact ⟨t2_104, kb2_105, N2_106, rfl, N115, (Keep.trans (Keep.trans (Keep.trans (Keep.refl h0 [a, t]) K103 (allS (Or.inl (List.mem_of_getElem? (i := 0) rfl)) all0)) K111 (allS (own_alke P103_9 (Or.inl (List.mem_of_getElem? (i := 1) rfl)) (Nat.le_refl _)) all0)) K115 (allS (Or.inl (List.mem_of_getElem? (i := 0) rfl)) all0)), F117, F118, G115, F119, F120, (by first | decide | omega | (simp only [List.length_append, List.length_singleton, List.length_cons, List.length_nil]; omega) : (cs ++ ds).length ≤ N2_106), P103_6, P103_7, P103_8, (own_altr P103_9 (Or.inl rfl) (Nat.le_refl _))⟩
def Q_sbAppS (Z : State) (a : Addr) (o : Addr) (u : Addr) (ku : ClassId) (ds : List Int32) (t : Addr) (kb : ClassId) (N : Nat) (cs : List Int32) (cS : Int32) (h0 : Heap) (n0 : Nat) (vQ_ : Option Value) (hQ_ : Heap) (LQ_ : List Loc) : Prop := ∃ t2 : Addr, ∃ kb2 : ClassId, ∃ N2 : Nat, vQ_ = some (.ref a) ∧ Fr n0 LQ_ ∧ Keep h0 hQ_ [a, t] ∧ Fld Z hQ_ a "java/lang/AbstractStringBuilder" "value" "[B" (.ref t2) ∧ Fld Z hQ_ a "java/lang/AbstractStringBuilder" "coder" "B" (.int (0 : Int32)) ∧ Fld Z hQ_ a "java/lang/AbstractStringBuilder" "count" "I" (.int (Int32.ofNat (cs ++ ds).length)) ∧ Arv Z hQ_ t2 kb2 .byte (Int32.ofNat N2) (l1 (cs ++ ds)) (.int (0 : Int32)) ∧ Exa Z hQ_ t2 "[B" ∧ (cs ++ ds).length ≤ N2 ∧ N2 ≤ 84 ∧ N ≤ N2 ∧ n0 ≤ t2 ∧ (t2 = t ∨ h0.size ≤ t2)
theorem rm_sbAppS (l : Launch) (Z : State) (a0 : Array Value) (hw : HW a0 Z) (ws : List Jvm.Cond) (a : Addr) (o : Addr) (u : Addr) (ku : ClassId) (ds : List Int32) (t : Addr) (kb : ClassId) (N : Nat) (cs : List Int32) (cS : Int32) (h0 : Heap) (n0 : Nat) (Z0 : n0 ≤ h0.size) (O0 : Old Z n0 h0) (S_cs : Sta Z Z.heap "java/lang/String" "COMPACT_STRINGS" "Z" (.int cS)) (hcS : ¬ (cS = (0 : Int32))) (E1 : Exa Z h0 a "java/lang/StringBuilder") (F1 : Fld Z h0 a "java/lang/AbstractStringBuilder" "value" "[B" (.ref t)) (F2 : Fld Z h0 a "java/lang/AbstractStringBuilder" "coder" "B" (.int (0 : Int32))) (F3 : Fld Z h0 a "java/lang/AbstractStringBuilder" "count" "I" (.int (Int32.ofNat cs.length))) (hS : Str Z h0 o u ku ds) (hl : lat ds = true) (V1 : Arv Z h0 t kb .byte (Int32.ofNat N) (l1 cs) (.int (0 : Int32))) (E2 : Exa Z h0 t "[B") (hlim : cs.length + ds.length ≤ 42) (hcs : cs.length ≤ N) (hN : N ≤ 84) (g1 : n0 ≤ a) (g2 : n0 ≤ t) (hut : u ≠ t) :
    CT l yn21 (Jvm.Cond.code yn21 jdk_67_method_7_code 2 (some (.object "java/lang/StringBuilder")) :: ws) (⟨5, 1, 84, 107⟩ : Room) #[(.ref a), (.ref o)] Z h0 (Q_sbAppS Z a o u ku ds t kb N cs cS h0 n0) := by
  refine MetFree.of_bodySF (plainFor_of_name pn_java_lang_StringBuilder) hisR ?_
  intro p e s m args below meth cO s₁ Bd hml hP hK
  obtain ⟨rfl, hZ, hh⟩ := hP
  have hx := Bd.exec
  have hby := Bd.bytes
  have hown : s.vm.findClass "java/lang/StringBuilder" = some m.cls := findClass_of_methodNamed Bd.named
  have hnm := (name_of_methodNamed Bd.named Bd.method).1
  have X0 : Stand p l e (⟨5, 1, 84, 107⟩ : Room) s m #[(.ref a), (.ref o)] below meth cO s₁ [] 0 0 := Stand.of_body Bd
  have e0 : s₁.heap = h0 := by rw [← hh, Bd.state]; rfl
  have N0 := Fr.nil n0
  have D_ : ∀ {i : Nat} {x}, decode jdk_67_method_7_code i = x → decode cO.code i = x := fun h => hb hby h
  have W0 : ∀ zQ, SS p e below s₁ m 0 #[.val (.ref a), .val (.ref o)] [] zQ → Steps p.tables e below (s₁.setTop (entryFrame m #[(.ref a), (.ref o)] 2)) zQ := fun tt kt => castTop (ef_sbAppS m a o) kt
  obtain ⟨_, _, ⟨T101, L101, k101, n101⟩, -, X101, ⟨Lc101, hQ101, l101, y101, z101⟩, st101⟩ := superBack X0 hx hZ (y := yn20) hown (w257 hw) (own_same (y := yn20) (by decide) (w258 hw) (own_nf (y := yn20) (y' := yn15) rfl (w71 hw) (w69 hw))) (w258 hw) (w43 hw) (by decide) (backOf (W := 0) (rm_abAppS l Z a0 hw [] a o u ku ds t kb N cs cS h0 n0 Z0 O0 S_cs hcS E1 F1 F2 F3 hS hl V1 E2 hlim hcs hN g1 g2 hut) hZ (w260 hw) (w19 hw) (by decide) (by decide)) e0 (Ins.self E1) (g := (mkF m 2 #[.val (.ref a), .val (.ref o)] [(.ref o), (.ref a)])) rfl (by rw [hml]; rfl) (w260 hw) (argsL := [(.ref o)]) (rest := []) (lenOf pd15 rfl) rfl (wq rfl) (D_ d20_2) (fun _ _ => ⟨rfl, e0, (nb rfl), (nb rfl)⟩)
  dsimp only [Pt.U, Pt.locs, Pt.cells, Pt.slots] at X101 l101 y101 z101 st101 hQ101
  subst l101 y101 z101
  obtain ⟨t2_102, kb2_103, N2_104, rfl, Nq101, K101, P101_0, P101_1, P101_2, P101_3, P101_4, P101_5, P101_6, P101_7, P101_8, P101_9⟩ := hQ101
  have N101 := Fr.app N0 Nq101
  have W105 : ∀ zQ, SS p e below T101 m 7 #[.val (.ref a), .val (.ref o)] [(.ref a)] zQ → Steps p.tables e below (s₁.setTop (entryFrame m #[(.ref a), (.ref o)] 2)) zQ := by
    intro tt kt
    refine W0 tt ?_
    refine XS.aloadN X0.here hx rfl (D_ d20_0) rfl rfl ?_
    refine XS.aloadN X0.here hx rfl (D_ d20_1) rfl rfl ?_
    refine st101.trans ?_
    refine XS.pop X101.here hx rfl (D_ d20_5) rfl rfl ?_
    refine XS.aloadN X101.here hx rfl (D_ d20_6) rfl rfl ?_
    exact kt
  obtain ⟨fs, hr, hrun, hended, hW, hsame⟩ := X101.leave (v := some (.ref a)) (fun h => by rw [Bd.returns] at h; cases h)
  refine ⟨_, _, W105 _ (own_retR X101 hx Bd.returns rfl rfl (D_ d20_7) hr), hrun, hended, _, _, rfl, ?_, ⟨_, rfl⟩, hW, hsame.mono (by decide) (by decide)⟩
  show Q_sbAppS Z a o u ku ds t kb N cs cS h0 n0 _ T101.heap _
  exact ⟨t2_102, kb2_103, N2_104, rfl, N101, (Keep.trans (Keep.refl h0 [a, t]) K101 (allS (Or.inl (List.mem_of_getElem? (i := 0) rfl)) (allS (Or.inl (List.mem_of_getElem? (i := 1) rfl)) all0))), P101_0, P101_1, P101_2, P101_3, P101_4, P101_5, P101_6, P101_7, P101_8, (own_altr P101_9 (Or.inl rfl) (Nat.le_refl _))⟩
def Q_abinit (Z : State) (a : Addr) (N : Nat) (cS : Int32) (h0 : Heap) (n0 : Nat) (vQ_ : Option Value) (hQ_ : Heap) (LQ_ : List Loc) : Prop := ∃ t : Addr, ∃ kb : ClassId, vQ_ = none ∧ Fr n0 LQ_ ∧ Keep h0 hQ_ [a] ∧ h0.size ≤ t ∧ Fld Z hQ_ a "java/lang/AbstractStringBuilder" "value" "[B" (.ref t) ∧ Fld Z hQ_ a "java/lang/AbstractStringBuilder" "coder" "B" (.int (0 : Int32)) ∧ Fld Z hQ_ a "java/lang/AbstractStringBuilder" "count" "I" (.int (0 : Int32)) ∧ Arv Z hQ_ t kb .byte (Int32.ofNat N) [] (.int (0 : Int32)) ∧ Exa Z hQ_ t "[B"
theorem rm_abinit (l : Launch) (Z : State) (a0 : Array Value) (hw : HW a0 Z) (ws : List Jvm.Cond) (a : Addr) (N : Nat) (cS : Int32) (h0 : Heap) (n0 : Nat) (Z0 : n0 ≤ h0.size) (O0 : Old Z n0 h0) (S_cs : Sta Z Z.heap "java/lang/String" "COMPACT_STRINGS" "Z" (.int cS)) (hcS : ¬ (cS = (0 : Int32))) (E1 : Exa Z h0 a "java/lang/StringBuilder") (F1 : Fld Z h0 a "java/lang/AbstractStringBuilder" "value" "[B" .null) (F2 : Fld Z h0 a "java/lang/AbstractStringBuilder" "coder" "B" (.int (0 : Int32))) (F3 : Fld Z h0 a "java/lang/AbstractStringBuilder" "count" "I" (.int (0 : Int32))) (g1 : n0 ≤ a) (hN : N ≤ 16) :
    CT l yn22 (Jvm.Cond.code yn22 jdk_68_method_2_code 2 none :: ws) (⟨1, 1, 16, 12⟩ : Room) #[(.ref a), (.int (Int32.ofNat N))] Z h0 (Q_abinit Z a N cS h0 n0) := by
  refine MetFree.of_bodySF (plainFor_of_name pn_java_lang_AbstractStringBuilder) hisR ?_
  intro p e s m args below meth cO s₁ Bd hml hP hK
  obtain ⟨rfl, hZ, hh⟩ := hP
  have hx := Bd.exec
  have hby := Bd.bytes
  have hown : s.vm.findClass "java/lang/AbstractStringBuilder" = some m.cls := findClass_of_methodNamed Bd.named
  have hnm := (name_of_methodNamed Bd.named Bd.method).1
  have X0 : Stand p l e (⟨1, 1, 16, 12⟩ : Room) s m #[(.ref a), (.int (Int32.ofNat N))] below meth cO s₁ [] 0 0 := Stand.of_body Bd
  have e0 : s₁.heap = h0 := by rw [← hh, Bd.state]; rfl
  have N0 := Fr.nil n0
  have D_ : ∀ {i : Nat} {x}, decode jdk_68_method_2_code i = x → decode cO.code i = x := fun h => hb hby h
  have W0 : ∀ zQ, SS p e below s₁ m 0 #[.val (.ref a), .val (.int (Int32.ofNat N))] [] zQ → Steps p.tables e below (s₁.setTop (entryFrame m #[(.ref a), (.int (Int32.ofNat N))] 2)) zQ := fun tt kt => castTop (ef_abinit m a (Int32.ofNat N)) kt
  obtain ⟨T101, X101, e101, st101⟩ := initO X0 hx hZ hown (w21 hw) (w7 hw) (w8 hw) e0 (g := (mkF m 1 #[.val (.ref a), .val (.int (Int32.ofNat N))] [(.ref a)])) rfl (by rw [hml]; rfl) rfl (D_ d21_1) (by decide) (W := 0) (by show 2 * 0 + _ ≤ _; exact Nat.le_of_eq rfl) (by decide)
  have F103 : Sta Z h0 "java/lang/String" "COMPACT_STRINGS" "Z" (.int cS) := S_cs.ext O0.2
  obtain ⟨T102, X102, e102, st102⟩ := getS2 X101 hx hZ hown (host := "") (Or.inl (w22 hw)) Via.refl e101 F103 (g := (mkF m 4 #[.val (.ref a), .val (.int (Int32.ofNat N))] [])) rfl (D_ d21_4)
  obtain ⟨T104, h104, k104, X104, e104, E104, A104, C104, st104⟩ := own_newPE X102 hx hZ (aty := .byte) (w24 hw) e102 (g := (mkF m 12 #[.val (.ref a), .val (.int (Int32.ofNat N))] [(.int (Int32.ofNat N)), (.ref a)])) rfl (D_ d21_12) (n := (Int32.ofNat N)) rfl (own_nneg (by omega)) (cap := 16) (by rw [own_cl (by omega)]; exact hN) (by decide) (by decide) (by decide) (ad := "[B") rfl
  obtain ⟨b104, g104⟩ : ∃ z, z = h0.size := ⟨_, rfl⟩
  rw [← g104] at A104 st104 C104
  have K104 := (Keep.refl h0 []).ext E104
  have G104 : Arv Z h104 b104 k104 .byte (Int32.ofNat N) [] (.int (0 : Int32)) := Arv.new A104 (own_nneg (by omega))
  have F105 : Exa Z h104 a "java/lang/StringBuilder" := (E1.keep K104)
  have F106 : Fld Z h104 a "java/lang/AbstractStringBuilder" "value" "[B" .null := (F1.keep K104 nin0)
  obtain ⟨T107, h107, X107, e107, Wr107, st107⟩ := putF X104 hx hZ hown (host := "") (Or.inl (w25 hw)) Via.refl e104 F106 F105 (Or.inl (w26 hw)) (w10 hw) (ty := (.array .byte)) (by decide) rfl rfl (g := (mkF m 14 #[.val (.ref a), .val (.int (Int32.ofNat N))] [(.ref b104), (.ref a)])) rfl rfl (D_ d21_14)
  have K107 := Keep.of_wr Wr107
  have G107 := F106.same Wr107
  have N107 := Fr.snoc X107 N0 g1
  have F108 : Exa Z h107 a "java/lang/StringBuilder" := (F105.keep K107)
  have F109 : Fld Z h107 a "java/lang/AbstractStringBuilder" "coder" "B" (.int (0 : Int32)) := (Fld.other Wr107 (F2.keep K104 nin0) (Or.inr (slot_ne (Or.inl (w28 hw)) (Or.inl (w26 hw)) (by decide) (t := .byte) (t' := (.array .byte)) (by decide) (by decide))))
  obtain ⟨T110, h110, X110, e110, Wr110, st110⟩ := putFN X107 hx hZ hown (w27 hw) Via.refl e107 F109 F108 (Or.inl (w28 hw)) (w10 hw) (ty := .byte) (v' := (.int (0 : Int32))) (by decide) rfl rfl (g := (mkF m 19 #[.val (.ref a), .val (.int (Int32.ofNat N))] [(.int (0 : Int32)), (.ref a)])) rfl rfl (D_ d21_19)
  have K110 := Keep.of_wr Wr110
  have G110 := F109.same Wr110
  have N110 := Fr.snoc X110 N107 g1
  have W111 : ∀ zQ, SS p e below T110 m 38 #[.val (.ref a), .val (.int (Int32.ofNat N))] [] zQ → Steps p.tables e below (s₁.setTop (entryFrame m #[(.ref a), (.int (Int32.ofNat N))] 2)) zQ := by
    intro tt kt
    refine W0 tt ?_
    refine XS.aloadN X0.here hx rfl (D_ d21_0) rfl rfl ?_
    refine st101 _ ?_
    refine st102 _ ?_
    refine XS.ifNo X102.here hx rfl (D_ d21_7) rfl ((if0 _ _).trans (feq hcS).1) ?_
    refine XS.aloadN X102.here hx rfl (D_ d21_10) rfl rfl ?_
    refine XS.iloadN X102.here hx rfl (D_ d21_11) rfl ?_
    refine st104 _ ?_
    refine st107 _ ?_
    refine XS.aloadN X107.here hx rfl (D_ d21_17) rfl rfl ?_
    refine XS.iconst X107.here hx rfl (D_ d21_18) ?_
    refine st110 _ ?_
    refine XS.goto X110.here hx rfl (pc0 := 22) (pc' := 38) rfl (D_ d21_22) (by decide) (by decide) ?_
    exact kt
  have F112 : Fld Z h110 a "java/lang/AbstractStringBuilder" "value" "[B" (.ref b104) := (Fld.other Wr110 G107 (Or.inr (slot_ne (Or.inl (w26 hw)) (Or.inl (w28 hw)) (by decide) (t := (.array .byte)) (t' := .byte) (by decide) (by decide))))
  have F113 : Fld Z h110 a "java/lang/AbstractStringBuilder" "count" "I" (.int (0 : Int32)) := (Fld.other Wr110 (Fld.other Wr107 (F3.keep K104 nin0) (Or.inr (slot_ne (Or.inl (w47 hw)) (Or.inl (w26 hw)) (by decide) (t := .int) (t' := (.array .byte)) (by decide) (by decide)))) (Or.inr (slot_ne (Or.inl (w47 hw)) (Or.inl (w28 hw)) (by decide) (t := .int) (t' := .byte) (by decide) (by decide))))
  have ne114 : b104 ≠ a := (Ne.symm (Nat.ne_of_lt (Nat.lt_of_lt_of_le E1.lt (Nat.le_of_eq g104.symm))))
  have F115 : Arv Z h110 b104 k104 .byte (Int32.ofNat N) [] (.int (0 : Int32)) := ((G104.keep K107 (ninS ne114 nin0)).keep K110 (ninS ne114 nin0))
  have F116 : Exa Z h110 b104 "[B" := ((C104.keep K107).keep K110)
  obtain ⟨fs, hr, hrun, hended, hW, hsame⟩ := X110.leave (v := none) (fun _ => rfl)
  refine ⟨_, _, W111 _ (X110.returnOut hx Bd.returns (D_ d21_38) hr), hrun, hended, _, _, rfl, ?_, ⟨_, rfl⟩, hW, hsame.mono (by decide) (by decide)⟩
  show Q_abinit Z a N cS h0 n0 _ T110.heap _
  rw [e110]
  exact ⟨b104, k104, rfl, N110, (Keep.trans (Keep.trans (Keep.trans (Keep.refl h0 [a]) K104 all0) K107 (allS (Or.inl (List.mem_of_getElem? (i := 0) rfl)) all0)) K110 (allS (Or.inl (List.mem_of_getElem? (i := 0) rfl)) all0)), (Nat.le_of_eq g104.symm), F112, G110, F113, F115, F116⟩
def Q_sbinit (Z : State) (a : Addr) (N : Nat) (cS : Int32) (h0 : Heap) (n0 : Nat) (vQ_ : Option Value) (hQ_ : Heap) (LQ_ : List Loc) : Prop := ∃ t : Addr, ∃ kb : ClassId, vQ_ = none ∧ Fr n0 LQ_ ∧ Keep h0 hQ_ [a] ∧ h0.size ≤ t ∧ Fld Z hQ_ a "java/lang/AbstractStringBuilder" "value" "[B" (.ref t) ∧ Fld Z hQ_ a "java/lang/AbstractStringBuilder" "coder" "B" (.int (0 : Int32)) ∧ Fld Z hQ_ a "java/lang/AbstractStringBuilder" "count" "I" (.int (0 : Int32)) ∧ Arv Z hQ_ t kb .byte (Int32.ofNat N) [] (.int (0 : Int32)) ∧ Exa Z hQ_ t "[B"
theorem rm_sbinit (l : Launch) (Z : State) (a0 : Array Value) (hw : HW a0 Z) (ws : List Jvm.Cond) (a : Addr) (N : Nat) (cS : Int32) (h0 : Heap) (n0 : Nat) (Z0 : n0 ≤ h0.size) (O0 : Old Z n0 h0) (S_cs : Sta Z Z.heap "java/lang/String" "COMPACT_STRINGS" "Z" (.int cS)) (hcS : ¬ (cS = (0 : Int32))) (E1 : Exa Z h0 a "java/lang/StringBuilder") (F1 : Fld Z h0 a "java/lang/AbstractStringBuilder" "value" "[B" .null) (F2 : Fld Z h0 a "java/lang/AbstractStringBuilder" "coder" "B" (.int (0 : Int32))) (F3 : Fld Z h0 a "java/lang/AbstractStringBuilder" "count" "I" (.int (0 : Int32))) (g1 : n0 ≤ a) (hN : N ≤ 16) :
    CT l yn23 (Jvm.Cond.code yn23 jdk_67_method_2_code 2 none :: ws) (⟨2, 1, 16, 25⟩ : Room) #[(.ref a), (.int (Int32.ofNat N))] Z h0 (Q_sbinit Z a N cS h0 n0) := by
  refine MetFree.of_bodySF (plainFor_of_name pn_java_lang_StringBuilder) hisR ?_
  intro p e s m args below meth cO s₁ Bd hml hP hK
  obtain ⟨rfl, hZ, hh⟩ := hP
  have hx := Bd.exec
  have hby := Bd.bytes
  have hown : s.vm.findClass "java/lang/StringBuilder" = some m.cls := findClass_of_methodNamed Bd.named
  have hnm := (name_of_methodNamed Bd.named Bd.method).1
  have X0 : Stand p l e (⟨2, 1, 16, 25⟩ : Room) s m #[(.ref a), (.int (Int32.ofNat N))] below meth cO s₁ [] 0 0 := Stand.of_body Bd
  have e0 : s₁.heap = h0 := by rw [← hh, Bd.state]; rfl
  have N0 := Fr.nil n0
  have D_ : ∀ {i : Nat} {x}, decode jdk_67_method_2_code i = x → decode cO.code i = x := fun h => hb hby h
  have W0 : ∀ zQ, SS p e below s₁ m 0 #[.val (.ref a), .val (.int (Int32.ofNat N))] [] zQ → Steps p.tables e below (s₁.setTop (entryFrame m #[(.ref a), (.int (Int32.ofNat N))] 2)) zQ := fun tt kt => castTop (ef_sbinit m a (Int32.ofNat N)) kt
  obtain ⟨_, _, ⟨T101, L101, k101, n101⟩, -, X101, ⟨Lc101, hQ101, l101, y101, z101⟩, st101⟩ := X0.specialBack hx (y := yn22) rfl hown (mvT hZ (w15 hw)) (mvT hZ (w16 hw)) (mvT hZ (w20 hw)) (by decide) (backOf (W := 0) (rm_abinit l Z a0 hw [] a N cS h0 n0 Z0 O0 S_cs hcS E1 F1 F2 F3 g1 hN) hZ (w20 hw) (w19 hw) (by decide) (by decide)) (g := (mkF m 2 #[.val (.ref a), .val (.int (Int32.ofNat N))] [(.int (Int32.ofNat N)), (.ref a)])) rfl (by rw [hml]; rfl) (Steps.refl _) (a := a) (argsL := [(.int (Int32.ofNat N))]) (rest := []) (lenOf pd7 rfl) rfl (wq rfl) (D_ d22_2) (fun _ _ => ⟨rfl, e0, (nb rfl), (nb rfl)⟩)
  dsimp only [Pt.U, Pt.locs, Pt.cells, Pt.slots] at X101 l101 y101 z101 st101 hQ101
  subst l101 y101 z101
  obtain ⟨t_102, kb_103, rfl, Nq101, K101, P101_0, P101_1, P101_2, P101_3, P101_4, P101_5⟩ := hQ101
  have N101 := Fr.app N0 Nq101
  have W104 : ∀ zQ, SS p e below T101 m 5 #[.val (.ref a), .val (.int (Int32.ofNat N))] [] zQ → Steps p.tables e below (s₁.setTop (entryFrame m #[(.ref a), (.int (Int32.ofNat N))] 2)) zQ := by
    intro tt kt
    refine W0 tt ?_
    refine XS.aloadN X0.here hx rfl (D_ d22_0) rfl rfl ?_
    refine XS.iloadN X0.here hx rfl (D_ d22_1) rfl ?_
    refine st101.trans ?_
    exact kt
  obtain ⟨fs, hr, hrun, hended, hW, hsame⟩ := X101.leave (v := none) (fun _ => rfl)
  refine ⟨_, _, W104 _ (X101.returnOut hx Bd.returns (D_ d22_5) hr), hrun, hended, _, _, rfl, ?_, ⟨_, rfl⟩, hW, hsame.mono (by decide) (by decide)⟩
  show Q_sbinit Z a N cS h0 n0 _ T101.heap _
  exact ⟨t_102, kb_103, rfl, N101, (Keep.trans (Keep.refl h0 [a]) K101 (allS (Or.inl (List.mem_of_getElem? (i := 0) rfl)) all0)), P101_0, P101_1, P101_2, P101_3, P101_4, P101_5⟩
def Q_sbinit0 (Z : State) (a : Addr) (cS : Int32) (h0 : Heap) (n0 : Nat) (vQ_ : Option Value) (hQ_ : Heap) (LQ_ : List Loc) : Prop := ∃ t : Addr, ∃ kb : ClassId, vQ_ = none ∧ Fr n0 LQ_ ∧ Keep h0 hQ_ [a] ∧ h0.size ≤ t ∧ Fld Z hQ_ a "java/lang/AbstractStringBuilder" "value" "[B" (.ref t) ∧ Fld Z hQ_ a "java/lang/AbstractStringBuilder" "coder" "B" (.int (0 : Int32)) ∧ Fld Z hQ_ a "java/lang/AbstractStringBuilder" "count" "I" (.int (0 : Int32)) ∧ Arv Z hQ_ t kb .byte (Int32.ofNat 16) [] (.int (0 : Int32)) ∧ Exa Z hQ_ t "[B"
theorem rm_sbinit0 (l : Launch) (Z : State) (a0 : Array Value) (hw : HW a0 Z) (ws : List Jvm.Cond) (a : Addr) (cS : Int32) (h0 : Heap) (n0 : Nat) (Z0 : n0 ≤ h0.size) (O0 : Old Z n0 h0) (S_cs : Sta Z Z.heap "java/lang/String" "COMPACT_STRINGS" "Z" (.int cS)) (hcS : ¬ (cS = (0 : Int32))) (E1 : Exa Z h0 a "java/lang/StringBuilder") (F1 : Fld Z h0 a "java/lang/AbstractStringBuilder" "value" "[B" .null) (F2 : Fld Z h0 a "java/lang/AbstractStringBuilder" "coder" "B" (.int (0 : Int32))) (F3 : Fld Z h0 a "java/lang/AbstractStringBuilder" "count" "I" (.int (0 : Int32))) (g1 : n0 ≤ a) :
    CT l yn24 (Jvm.Cond.code yn24 jdk_67_method_1_code 1 none :: ws) (⟨2, 1, 16, 25⟩ : Room) #[(.ref a)] Z h0 (Q_sbinit0 Z a cS h0 n0) := by
  refine MetFree.of_bodySF (plainFor_of_name pn_java_lang_StringBuilder) hisR ?_
  intro p e s m args below meth cO s₁ Bd hml hP hK
  obtain ⟨rfl, hZ, hh⟩ := hP
  have hx := Bd.exec
  have hby := Bd.bytes
  have hown : s.vm.findClass "java/lang/StringBuilder" = some m.cls := findClass_of_methodNamed Bd.named
  have hnm := (name_of_methodNamed Bd.named Bd.method).1
  have X0 : Stand p l e (⟨2, 1, 16, 25⟩ : Room) s m #[(.ref a)] below meth cO s₁ [] 0 0 := Stand.of_body Bd
  have e0 : s₁.heap = h0 := by rw [← hh, Bd.state]; rfl
  have N0 := Fr.nil n0
  have D_ : ∀ {i : Nat} {x}, decode jdk_67_method_1_code i = x → decode cO.code i = x := fun h => hb hby h
  have W0 : ∀ zQ, SS p e below s₁ m 0 #[.val (.ref a)] [] zQ → Steps p.tables e below (s₁.setTop (entryFrame m #[(.ref a)] 1)) zQ := fun tt kt => castTop (ef_sbinit0 m a) kt
  obtain ⟨_, _, ⟨T101, L101, k101, n101⟩, -, X101, ⟨Lc101, hQ101, l101, y101, z101⟩, st101⟩ := X0.specialBack hx (y := yn22) rfl hown (mvT hZ (w15 hw)) (mvT hZ (w16 hw)) (mvT hZ (w20 hw)) (by decide) (backOf (W := 0) (rm_abinit l Z a0 hw [] a 16 cS h0 n0 Z0 O0 S_cs hcS E1 F1 F2 F3 g1 (by decide : 16 ≤ 16)) hZ (w20 hw) (w19 hw) (by decide) (by decide)) (g := (mkF m 3 #[.val (.ref a)] [(.int (16 : Int32)), (.ref a)])) rfl (by rw [hml]; rfl) (Steps.refl _) (a := a) (argsL := [(.int (16 : Int32))]) (rest := []) (lenOf pd7 rfl) rfl (wq rfl) (D_ d23_3) (fun _ _ => ⟨rfl, e0, (nb rfl), (nb rfl)⟩)
  dsimp only [Pt.U, Pt.locs, Pt.cells, Pt.slots] at X101 l101 y101 z101 st101 hQ101
  subst l101 y101 z101
  obtain ⟨t_102, kb_103, rfl, Nq101, K101, P101_0, P101_1, P101_2, P101_3, P101_4, P101_5⟩ := hQ101
  have N101 := Fr.app N0 Nq101
  have W104 : ∀ zQ, SS p e below T101 m 6 #[.val (.ref a)] [] zQ → Steps p.tables e below (s₁.setTop (entryFrame m #[(.ref a)] 1)) zQ := by
    intro tt kt
    refine W0 tt ?_
    refine XS.aloadN X0.here hx rfl (D_ d23_0) rfl rfl ?_
    refine XS.bipush X0.here hx rfl (D_ d23_1) ?_
    refine st101.trans ?_
    exact kt
  obtain ⟨fs, hr, hrun, hended, hW, hsame⟩ := X101.leave (v := none) (fun _ => rfl)
  refine ⟨_, _, W104 _ (X101.returnOut hx Bd.returns (D_ d23_6) hr), hrun, hended, _, _, rfl, ?_, ⟨_, rfl⟩, hW, hsame.mono (by decide) (by decide)⟩
  show Q_sbinit0 Z a cS h0 n0 _ T101.heap _
  exact ⟨t_102, kb_103, rfl, N101, (Keep.trans (Keep.refl h0 [a]) K101 (allS (Or.inl (List.mem_of_getElem? (i := 0) rfl)) all0)), P101_0, P101_1, P101_2, P101_3, P101_4, P101_5⟩
def Q_abValue (Z : State) (a : Addr) (t : Addr) (h0 : Heap) (n0 : Nat) (vQ_ : Option Value) (hQ_ : Heap) (LQ_ : List Loc) : Prop := vQ_ = some (.ref t) ∧ Fr n0 LQ_ ∧ hQ_ = h0
theorem rm_abValue (l : Launch) (Z : State) (a0 : Array Value) (hw : HW a0 Z) (ws : List Jvm.Cond) (a : Addr) (t : Addr) (h0 : Heap) (n0 : Nat) (Z0 : n0 ≤ h0.size) (F1 : Fld Z h0 a "java/lang/AbstractStringBuilder" "value" "[B" (.ref t)) :
    CT l yn15 (Jvm.Cond.code yn15 jdk_68_method_64_code 1 (some (.array .byte)) :: ws) (⟨0, 0, 0, 0⟩ : Room) #[(.ref a)] Z h0 (Q_abValue Z a t h0 n0) := by
  refine MetFree.of_bodySF (plainFor_of_name pn_java_lang_AbstractStringBuilder) hisR ?_
  intro p e s m args below meth cO s₁ Bd hml hP hK
  obtain ⟨rfl, hZ, hh⟩ := hP
  have hx := Bd.exec
  have hby := Bd.bytes
  have hown : s.vm.findClass "java/lang/AbstractStringBuilder" = some m.cls := findClass_of_methodNamed Bd.named
  have hnm := (name_of_methodNamed Bd.named Bd.method).1
  have X0 : Stand p l e (⟨0, 0, 0, 0⟩ : Room) s m #[(.ref a)] below meth cO s₁ [] 0 0 := Stand.of_body Bd
  have e0 : s₁.heap = h0 := by rw [← hh, Bd.state]; rfl
  have N0 := Fr.nil n0
  have D_ : ∀ {i : Nat} {x}, decode jdk_68_method_64_code i = x → decode cO.code i = x := fun h => hb hby h
  have W0 : ∀ zQ, SS p e below s₁ m 0 #[.val (.ref a)] [] zQ → Steps p.tables e below (s₁.setTop (entryFrame m #[(.ref a)] 1)) zQ := fun tt kt => castTop (ef_abValue m a) kt
  obtain ⟨T101, X101, e101, st101⟩ := getF X0 hx hZ hown (host := "") (Or.inl (w25 hw)) Via.refl e0 F1 (g := (mkF m 1 #[.val (.ref a)] [(.ref a)])) rfl rfl (D_ d24_1)
  have W102 : ∀ zQ, SS p e below T101 m 4 #[.val (.ref a)] [(.ref t)] zQ → Steps p.tables e below (s₁.setTop (entryFrame m #[(.ref a)] 1)) zQ := by
    intro tt kt
    refine W0 tt ?_
    refine XS.aloadN X0.here hx rfl (D_ d24_0) rfl rfl ?_
    refine st101 _ ?_
    exact kt
  obtain ⟨fs, hr, hrun, hended, hW, hsame⟩ := X101.leave (v := some (.ref t)) (fun h => by rw [Bd.returns] at h; cases h)
  refine ⟨_, _, W102 _ (own_retR X101 hx Bd.returns rfl rfl (D_ d24_4) hr), hrun, hended, _, _, rfl, ?_, ⟨_, rfl⟩, hW, hsame.mono (by decide) (by decide)⟩
  show Q_abValue Z a t h0 n0 _ T101.heap _
  rw [e101]
  exact ⟨rfl, N0, rfl⟩
def Q_abLength (Z : State) (a : Addr) (w : Int32) (h0 : Heap) (n0 : Nat) (vQ_ : Option Value) (hQ_ : Heap) (LQ_ : List Loc) : Prop := vQ_ = some (.int w) ∧ Fr n0 LQ_ ∧ hQ_ = h0
theorem rm_abLength (l : Launch) (Z : State) (a0 : Array Value) (hw : HW a0 Z) (ws : List Jvm.Cond) (a : Addr) (w : Int32) (h0 : Heap) (n0 : Nat) (Z0 : n0 ≤ h0.size) (F3 : Fld Z h0 a "java/lang/AbstractStringBuilder" "count" "I" (.int w)) :
    CT l yn25 (Jvm.Cond.code yn25 jdk_68_method_6_code 1 (some .int) :: ws) (⟨0, 0, 0, 0⟩ : Room) #[(.ref a)] Z h0 (Q_abLength Z a w h0 n0) := by
  refine MetFree.of_bodySF (plainFor_of_name pn_java_lang_AbstractStringBuilder) hisR ?_
  intro p e s m args below meth cO s₁ Bd hml hP hK
  obtain ⟨rfl, hZ, hh⟩ := hP
  have hx := Bd.exec
  have hby := Bd.bytes
  have hown : s.vm.findClass "java/lang/AbstractStringBuilder" = some m.cls := findClass_of_methodNamed Bd.named
  have hnm := (name_of_methodNamed Bd.named Bd.method).1
  have X0 : Stand p l e (⟨0, 0, 0, 0⟩ : Room) s m #[(.ref a)] below meth cO s₁ [] 0 0 := Stand.of_body Bd
  have e0 : s₁.heap = h0 := by rw [← hh, Bd.state]; rfl
  have N0 := Fr.nil n0
  have D_ : ∀ {i : Nat} {x}, decode jdk_68_method_6_code i = x → decode cO.code i = x := fun h => hb hby h
  have W0 : ∀ zQ, SS p e below s₁ m 0 #[.val (.ref a)] [] zQ → Steps p.tables e below (s₁.setTop (entryFrame m #[(.ref a)] 1)) zQ := fun tt kt => castTop (ef_abLength m a) kt
  obtain ⟨T101, X101, e101, st101⟩ := getF X0 hx hZ hown (host := "") (Or.inl (w46 hw)) Via.refl e0 F3 (g := (mkF m 1 #[.val (.ref a)] [(.ref a)])) rfl rfl (D_ d25_1)
  have W102 : ∀ zQ, SS p e below T101 m 4 #[.val (.ref a)] [(.int w)] zQ → Steps p.tables e below (s₁.setTop (entryFrame m #[(.ref a)] 1)) zQ := by
    intro tt kt
    refine W0 tt ?_
    refine XS.aloadN X0.here hx rfl (D_ d25_0) rfl rfl ?_
    refine st101 _ ?_
    exact kt
  obtain ⟨fs, hr, hrun, hended, hW, hsame⟩ := X101.leave (v := some (.int w)) (fun h => by rw [Bd.returns] at h; cases h)
  refine ⟨_, _, W102 _ (retI X101 hx Bd.returns (D_ d25_4) hr), hrun, hended, _, _, rfl, ?_, ⟨_, rfl⟩, hW, hsame.mono (by decide) (by decide)⟩
  show Q_abLength Z a w h0 n0 _ T101.heap _
  rw [e101]
  exact ⟨rfl, N0, rfl⟩
def Q_sbLength (Z : State) (a : Addr) (w : Int32) (h0 : Heap) (n0 : Nat) (vQ_ : Option Value) (hQ_ : Heap) (LQ_ : List Loc) : Prop := vQ_ = some (.int w) ∧ Fr n0 LQ_ ∧ hQ_ = h0
theorem rm_sbLength (l : Launch) (Z : State) (a0 : Array Value) (hw : HW a0 Z) (ws : List Jvm.Cond) (a : Addr) (w : Int32) (h0 : Heap) (n0 : Nat) (Z0 : n0 ≤ h0.size) (E1 : Exa Z h0 a "java/lang/StringBuilder") (F3 : Fld Z h0 a "java/lang/AbstractStringBuilder" "count" "I" (.int w)) :
    CT l yn26 (Jvm.Cond.code yn26 jdk_67_method_93_code 1 (some .int) :: ws) (⟨1, 0, 0, 12⟩ : Room) #[(.ref a)] Z h0 (Q_sbLength Z a w h0 n0) := by
  refine MetFree.of_bodySF (plainFor_of_name pn_java_lang_StringBuilder) hisR ?_
  intro p e s m args below meth cO s₁ Bd hml hP hK
  obtain ⟨rfl, hZ, hh⟩ := hP
  have hx := Bd.exec
  have hby := Bd.bytes
  have hown : s.vm.findClass "java/lang/StringBuilder" = some m.cls := findClass_of_methodNamed Bd.named
  have hnm := (name_of_methodNamed Bd.named Bd.method).1
  have X0 : Stand p l e (⟨1, 0, 0, 12⟩ : Room) s m #[(.ref a)] below meth cO s₁ [] 0 0 := Stand.of_body Bd
  have e0 : s₁.heap = h0 := by rw [← hh, Bd.state]; rfl
  have N0 := Fr.nil n0
  have D_ : ∀ {i : Nat} {x}, decode jdk_67_method_93_code i = x → decode cO.code i = x := fun h => hb hby h
  have W0 : ∀ zQ, SS p e below s₁ m 0 #[.val (.ref a)] [] zQ → Steps p.tables e below (s₁.setTop (entryFrame m #[(.ref a)] 1)) zQ := fun tt kt => castTop (ef_sbLength m a) kt
  obtain ⟨_, _, ⟨T101, L101, k101, n101⟩, -, X101, ⟨Lc101, hQ101, l101, y101, z101⟩, st101⟩ := superBack X0 hx hZ (y := yn25) hown (w41 hw) (own_same (y := yn25) (by decide) (w42 hw) (own_nf (y := yn25) (y' := yn15) rfl (w71 hw) (w69 hw))) (w42 hw) (w43 hw) (by decide) (backOf (W := 0) (rm_abLength l Z a0 hw [] a w h0 n0 Z0 F3) hZ (w45 hw) (w19 hw) (by decide) (by decide)) e0 (Ins.self E1) (g := (mkF m 1 #[.val (.ref a)] [(.ref a)])) rfl (by rw [hml]; rfl) (w45 hw) (argsL := []) (rest := []) (lenOf pd13 rfl) rfl (wq rfl) (D_ d26_1) (fun _ _ => ⟨rfl, e0, (nb rfl), (nb rfl)⟩)
  dsimp only [Pt.U, Pt.locs, Pt.cells, Pt.slots] at X101 l101 y101 z101 st101 hQ101
  subst l101 y101 z101
  obtain ⟨rfl, Nq101, eq101⟩ := hQ101
  have N101 := Fr.app N0 Nq101
  have W102 : ∀ zQ, SS p e below T101 m 4 #[.val (.ref a)] [(.int w)] zQ → Steps p.tables e below (s₁.setTop (entryFrame m #[(.ref a)] 1)) zQ := by
    intro tt kt
    refine W0 tt ?_
    refine XS.aloadN X0.here hx rfl (D_ d26_0) rfl rfl ?_
    refine st101.trans ?_
    exact kt
  obtain ⟨fs, hr, hrun, hended, hW, hsame⟩ := X101.leave (v := some (.int w)) (fun h => by rw [Bd.returns] at h; cases h)
  refine ⟨_, _, W102 _ (retI X101 hx Bd.returns (D_ d26_4) hr), hrun, hended, _, _, rfl, ?_, ⟨_, rfl⟩, hW, hsame.mono (by decide) (by decide)⟩
  show Q_sbLength Z a w h0 n0 _ T101.heap _
  rw [eq101]
  exact ⟨rfl, N101, rfl⟩
def Q_corAll (Z : State) (t : Addr) (N : Nat) (kb : ClassId) (vs : List Value) (h0 : Heap) (n0 : Nat) (vQ_ : Option Value) (hQ_ : Heap) (LQ_ : List Loc) : Prop := ∃ r : Addr, ∃ kr : ClassId, vQ_ = some (.ref r) ∧ Fr n0 LQ_ ∧ Keep h0 hQ_ [] ∧ h0.size ≤ r ∧ Arv Z hQ_ r kr .byte (Int32.ofNat N) vs (.int (0 : Int32))
theorem rm_corAll (l : Launch) (Z : State) (a0 : Array Value) (hw : HW a0 Z) (ws : List Jvm.Cond) (t : Addr) (N : Nat) (kb : ClassId) (vs : List Value) (h0 : Heap) (n0 : Nat) (Z0 : n0 ≤ h0.size) (A1 : Arv Z h0 t kb .byte (Int32.ofNat N) vs (.int (0 : Int32))) (E1 : Exa Z h0 t "[B") (hN : N ≤ 84) :
    CT l yn6 (Jvm.Cond.code yn6 jdk_65_method_132_code 3 (some (.array .byte)) :: ws) (⟨1, 1, 84, 14⟩ : Room) #[(.ref t), (.int (0 : Int32)), (.int (Int32.ofNat N))] Z h0 (Q_corAll Z t N kb vs h0 n0) := by
  refine MetFree.of_bodySF (plainFor_of_name pn_java_util_Arrays) hisR ?_
  intro p e s m args below meth cO s₁ Bd hml hP hK
  obtain ⟨rfl, hZ, hh⟩ := hP
  have hx := Bd.exec
  have hby := Bd.bytes
  have hown : s.vm.findClass "java/util/Arrays" = some m.cls := findClass_of_methodNamed Bd.named
  have hnm := (name_of_methodNamed Bd.named Bd.method).1
  have X0 : Stand p l e (⟨1, 1, 84, 14⟩ : Room) s m #[(.ref t), (.int (0 : Int32)), (.int (Int32.ofNat N))] below meth cO s₁ [] 0 0 := Stand.of_body Bd
  have e0 : s₁.heap = h0 := by rw [← hh, Bd.state]; rfl
  have N0 := Fr.nil n0
  have D_ : ∀ {i : Nat} {x}, decode jdk_65_method_132_code i = x → decode cO.code i = x := fun h => hb hby h
  have W0 : ∀ zQ, SS p e below s₁ m 0 #[.val (.ref t), .val (.int (0 : Int32)), .val (.int (Int32.ofNat N))] [] zQ → Steps p.tables e below (s₁.setTop (entryFrame m #[(.ref t), (.int (0 : Int32)), (.int (Int32.ofNat N))] 3)) zQ := fun tt kt => castTop (ef_corAll m t (0 : Int32) (Int32.ofNat N)) kt
  obtain ⟨cl101, Ar101, -, S101, M101, -, -⟩ := id A1
  obtain ⟨T102, h102, X102, e102, E102, A102, C102, st102⟩ := cloneH X0 hx hZ hown (w299 hw) (w291 hw) (w295 hw) (w293 hw) (w294 hw) (w296 hw) e0 (Arv.arh A1) E1 (g := (mkF m 18 #[.val (.ref t), .val (.int (0 : Int32)), .val (.int (Int32.ofNat N))] [(.ref t)])) rfl (by rw [hml]; rfl) rfl (D_ d6_18) (by decide) (W := 0) (cap := 84) (by show 2 * 0 + _ ≤ _; exact Nat.le_of_eq rfl) (by decide) (by rw [own_cl (by omega)]; exact hN) (by decide) (by decide)
  obtain ⟨b102, g102⟩ : ∃ z, z = h0.size := ⟨_, rfl⟩
  rw [← g102] at A102 C102 st102
  have K102 := (Keep.refl h0 []).ext E102
  have G102 : Arv Z h102 b102 kb .byte (Int32.ofNat N) vs (.int (0 : Int32)) := A102
  obtain ⟨T103, X103, e103, st103⟩ := castY X102 hx hZ hown (w300 hw) e102 (Ins.self C102) (g := (mkF m 21 #[.val (.ref t), .val (.int (0 : Int32)), .val (.int (Int32.ofNat N))] [(.ref b102)])) rfl rfl (D_ d6_21)
  have W104 : ∀ zQ, SS p e below T103 m 24 #[.val (.ref t), .val (.int (0 : Int32)), .val (.int (Int32.ofNat N))] [(.ref b102)] zQ → Steps p.tables e below (s₁.setTop (entryFrame m #[(.ref t), (.int (0 : Int32)), (.int (Int32.ofNat N))] 3)) zQ := by
    intro tt kt
    refine W0 tt ?_
    refine XS.iloadN X0.here hx rfl (D_ d6_0) rfl ?_
    refine XS.ifNo X0.here hx rfl (D_ d6_1) rfl ((if0 _ _).trans (teq (by decide)).2) ?_
    refine XS.iloadN X0.here hx rfl (D_ d6_4) rfl ?_
    refine XS.aloadN X0.here hx rfl (D_ d6_5) rfl rfl ?_
    refine X0.arraylength hx (by first | exact Ar101.1 | (rw [e0]; exact Ar101.1)) (State.isArrayOf_alike hZ.alike Ar101.2.1) (g := (mkF m 6 #[.val (.ref t), .val (.int (0 : Int32)), .val (.int (Int32.ofNat N))] [(.ref t), (.int (Int32.ofNat N))])) rfl rfl (D_ d6_6) _ ?_
    rw [len_of S101 M101]
    refine XS.icmpYes X0.here hx rfl (pc0 := 7) (pc' := 17) rfl (D_ d6_7) rfl (teq rfl).1 (by decide) (by decide) ?_
    refine XS.aloadN X0.here hx rfl (D_ d6_17) rfl rfl ?_
    refine st102 _ ?_
    refine st103 _ ?_
    exact kt
  obtain ⟨fs, hr, hrun, hended, hW, hsame⟩ := X103.leave (v := some (.ref b102)) (fun h => by rw [Bd.returns] at h; cases h)
  refine ⟨_, _, W104 _ (own_retR X103 hx Bd.returns rfl rfl (D_ d6_24) hr), hrun, hended, _, _, rfl, ?_, ⟨_, rfl⟩, hW, hsame.mono (by decide) (by decide)⟩
  show Q_corAll Z t N kb vs h0 n0 _ T103.heap _
  rw [e103]
  exact ⟨b102, kb, rfl, N0, (Keep.trans (Keep.refl h0 []) K102 all0), (Nat.le_of_eq g102.symm), G102⟩
def Q_sinitAB (Z : State) (a : Addr) (o : Addr) (t : Addr) (kb : ClassId) (N : Nat) (cs : List Int32) (cS : Int32) (h0 : Heap) (n0 : Nat) (vQ_ : Option Value) (hQ_ : Heap) (LQ_ : List Loc) : Prop := ∃ t2 : Addr, ∃ kb2 : ClassId, vQ_ = none ∧ Fr n0 LQ_ ∧ Keep h0 hQ_ [a] ∧ h0.size ≤ t2 ∧ Str Z hQ_ a t2 kb2 cs
theorem rm_sinitAB (l : Launch) (Z : State) (a0 : Array Value) (hw : HW a0 Z) (ws : List Jvm.Cond) (a : Addr) (o : Addr) (t : Addr) (kb : ClassId) (N : Nat) (cs : List Int32) (cS : Int32) (h0 : Heap) (n0 : Nat) (Z0 : n0 ≤ h0.size) (O0 : Old Z n0 h0) (S_cs : Sta Z Z.heap "java/lang/String" "COMPACT_STRINGS" "Z" (.int cS)) (hcS : ¬ (cS = (0 : Int32))) (Z1 : Exa Z h0 a "java/lang/String") (Z2 : Fld Z h0 a "java/lang/String" "value" "[B" .null) (Z3 : Fld Z h0 a "java/lang/String" "coder" "B" (.int (0 : Int32))) (g1 : n0 ≤ a) (E1 : Exa Z h0 o "java/lang/StringBuilder") (F1 : Fld Z h0 o "java/lang/AbstractStringBuilder" "value" "[B" (.ref t)) (F2 : Fld Z h0 o "java/lang/AbstractStringBuilder" "coder" "B" (.int (0 : Int32))) (F3 : Fld Z h0 o "java/lang/AbstractStringBuilder" "count" "I" (.int (Int32.ofNat cs.length))) (V1 : Arv Z h0 t kb .byte (Int32.ofNat N) (l1 cs) (.int (0 : Int32))) (E2 : Exa Z h0 t "[B") (hle : cs.length ≤ N) (hN : N ≤ 84) (hl : lat cs = true) (ok : OkS cs) (hao : a ≠ o) (hat : a ≠ t) :
    CT l yn27 (Jvm.Cond.code yn27 jdk_42_method_150_code 5 none :: ws) (⟨3, 1, 84, 95⟩ : Room) #[(.ref a), (.ref o), .null] Z h0 (Q_sinitAB Z a o t kb N cs cS h0 n0) := by
  refine MetFree.of_bodySF (plainFor_of_name pn_java_lang_String) hisR ?_
  intro p e s m args below meth cO s₁ Bd hml hP hK
  obtain ⟨rfl, hZ, hh⟩ := hP
  have hx := Bd.exec
  have hby := Bd.bytes
  have hown : s.vm.findClass "java/lang/String" = some m.cls := findClass_of_methodNamed Bd.named
  have hnm := (name_of_methodNamed Bd.named Bd.method).1
  have X0 : Stand p l e (⟨3, 1, 84, 95⟩ : Room) s m #[(.ref a), (.ref o), .null] below meth cO s₁ [] 0 0 := Stand.of_body Bd
  have e0 : s₁.heap = h0 := by rw [← hh, Bd.state]; rfl
  have N0 := Fr.nil n0
  have D_ : ∀ {i : Nat} {x}, decode jdk_42_method_150_code i = x → decode cO.code i = x := fun h => hb hby h
  have W0 : ∀ zQ, SS p e below s₁ m 0 #[.val (.ref a), .val (.ref o), .val .null, .unset, .unset] [] zQ → Steps p.tables e below (s₁.setTop (entryFrame m #[(.ref a), (.ref o), .null] 5)) zQ := fun tt kt => castTop (ef_sinitAB m a o) kt
  obtain ⟨T101, X101, e101, st101⟩ := initO X0 hx hZ hown (w67 hw) (w7 hw) (w8 hw) e0 (g := (mkF m 1 #[.val (.ref a), .val (.ref o), .val .null, .unset, .unset] [(.ref a)])) rfl (by rw [hml]; rfl) rfl (D_ d27_1) (by decide) (W := 0) (by show 2 * 0 + _ ≤ _; exact Nat.le_of_eq rfl) (by decide)
  obtain ⟨cq102, kq102, q102a, q102b, q102c⟩ := isOf hZ e101 E1
  obtain ⟨_, _, ⟨T102, L102, k102, n102⟩, -, X102, ⟨Lc102, hQ102, l102, y102, z102⟩, st102⟩ := X101.virtualBack hx (y := yn15) (z := yn15) hown (mvT hZ (w68 hw)) (mvT hZ (w69 hw)) (notFace_of_selects (args := #[]) (mvT hZ (w71 hw))) (mvT hZ (w71 hw)) (mvT hZ (w70 hw)) (by decide) (backOf (W := 0) (rm_abValue l Z a0 hw [] o t h0 n0 Z0 F1) hZ (w72 hw) (w19 hw) (by decide) (by decide)) q102a q102c (g := (mkF m 5 #[.val (.ref a), .val (.ref o), .val .null, .unset, .unset] [(.ref o)])) rfl (by rw [hml]; rfl) (Steps.refl _) (argsL := []) (rest := []) (lenOf pd16 rfl) rfl (wq rfl) (D_ d27_5) (fun _ _ => ⟨rfl, e101, (nb rfl), (nb rfl)⟩)
  dsimp only [Pt.U, Pt.locs, Pt.cells, Pt.slots] at X102 l102 y102 z102 st102 hQ102
  subst l102 y102 z102
  obtain ⟨rfl, Nq102, eq102⟩ := hQ102
  have N102 := Fr.app N0 Nq102
  obtain ⟨cq103, kq103, q103a, q103b, q103c⟩ := isOf hZ eq102 E1
  obtain ⟨_, _, ⟨T103, L103, k103, n103⟩, -, X103, ⟨Lc103, hQ103, l103, y103, z103⟩, st103⟩ := X102.virtualBack hx (y := yn25) (z := yn26) hown (mvT hZ (w73 hw)) (mvT hZ (w44 hw)) (own_nf (args := #[]) (y := yn25) (y' := yn15) rfl (mvT hZ (w71 hw)) (mvT hZ (w69 hw))) (mvT hZ (w74 hw)) (mvT hZ (w38 hw)) (by decide) (backOf (W := 0) (rm_sbLength l Z a0 hw [] o (Int32.ofNat cs.length) h0 n0 Z0 E1 F3) hZ (w40 hw) (w11 hw) (by decide) (by decide)) q103a q103c (g := (mkF m 10 #[.val (.ref a), .val (.ref o), .val .null, .val (.ref t), .unset] [(.ref o)])) rfl (by rw [hml]; rfl) (Steps.refl _) (argsL := []) (rest := []) (lenOf pd13 rfl) rfl (wq rfl) (D_ d27_10) (fun _ _ => ⟨rfl, eq102, (nb rfl), (nb rfl)⟩)
  dsimp only [Pt.U, Pt.locs, Pt.cells, Pt.slots] at X103 l103 y103 z103 st103 hQ103
  subst l103 y103 z103
  obtain ⟨rfl, Nq103, eq103⟩ := hQ103
  have N103 := Fr.app N102 Nq103
  obtain ⟨cq104, kq104, q104a, q104b, q104c⟩ := isOf hZ eq103 E1
  obtain ⟨_, _, ⟨T104, L104, k104, n104⟩, -, X104, ⟨Lc104, hQ104, l104, y104, z104⟩, st104⟩ := X103.virtualBack hx (y := yn10) (z := yn10) hown (mvT hZ (w75 hw)) (mvT hZ (w76 hw)) (notFace_of_selects (args := #[]) (mvT hZ (w78 hw))) (mvT hZ (w78 hw)) (mvT hZ (w77 hw)) (by decide) (backOf (W := 0) (rm_abLatin l Z a0 hw [] o cS h0 n0 Z0 O0 S_cs hcS F2) hZ (w79 hw) (w19 hw) (by decide) (by decide)) q104a q104c (g := (mkF m 16 #[.val (.ref a), .val (.ref o), .val .null, .val (.ref t), .val (.int (Int32.ofNat cs.length))] [(.ref o)])) rfl (by rw [hml]; rfl) (Steps.refl _) (argsL := []) (rest := []) (lenOf pd8 rfl) rfl (wq rfl) (D_ d27_16) (fun _ _ => ⟨rfl, eq103, (nb rfl), (nb rfl)⟩)
  dsimp only [Pt.U, Pt.locs, Pt.cells, Pt.slots] at X104 l104 y104 z104 st104 hQ104
  subst l104 y104 z104
  obtain ⟨rfl, Nq104, eq104⟩ := hQ104
  have N104 := Fr.app N103 Nq104
  obtain ⟨T105, h105, X105, e105, Wr105, st105⟩ := putFN X104 hx hZ hown (w80 hw) Via.refl eq104 Z3 Z1 (Or.inr ⟨(w81 hw), rfl, hnm⟩) (w59 hw) (ty := .byte) (v' := (.int (0 : Int32))) (by decide) rfl rfl (g := (mkF m 24 #[.val (.ref a), .val (.ref o), .val .null, .val (.ref t), .val (.int (Int32.ofNat cs.length))] [(.int (0 : Int32)), (.ref a)])) rfl rfl (D_ d27_24)
  have K105 := Keep.of_wr Wr105
  have G105 := Z3.same Wr105
  have N105 := Fr.snoc X105 N104 g1
  have W106 : ∀ zQ, SS p e below T105 m 27 #[.val (.ref a), .val (.ref o), .val .null, .val (.ref t), .val (.int (Int32.ofNat cs.length))] [] zQ → Steps p.tables e below (s₁.setTop (entryFrame m #[(.ref a), (.ref o), .null] 5)) zQ := by
    intro tt kt
    refine W0 tt ?_
    refine XS.aloadN X0.here hx rfl (D_ d27_0) rfl rfl ?_
    refine st101 _ ?_
    refine XS.aloadN X101.here hx rfl (D_ d27_4) rfl rfl ?_
    refine st102.trans ?_
    refine XS.astoreN X102.here hx rfl (D_ d27_8) rfl rfl (l' := #[.val (.ref a), .val (.ref o), .val .null, .val (.ref t), .unset]) rfl ?_
    refine XS.aloadN X102.here hx rfl (D_ d27_9) rfl rfl ?_
    refine st103.trans ?_
    refine XS.istore X103.here hx rfl (D_ d27_13) rfl (l' := #[.val (.ref a), .val (.ref o), .val .null, .val (.ref t), .val (.int (Int32.ofNat cs.length))]) rfl ?_
    refine XS.aloadN X103.here hx rfl (D_ d27_15) rfl rfl ?_
    refine st104.trans ?_
    refine XS.ifNo X104.here hx rfl (D_ d27_19) rfl ((if0 _ _).trans (feq (by decide)).1) ?_
    refine XS.aloadN X104.here hx rfl (D_ d27_22) rfl rfl ?_
    refine XS.iconst X104.here hx rfl (D_ d27_23) ?_
    refine st105 _ ?_
    exact kt
  by_cases hc107 : cs.length = N
  ·
    have F109 : Arv Z h105 t kb .byte (Int32.ofNat N) (l1 cs) (.int (0 : Int32)) := (V1.keep K105 (ninS (Ne.symm hat) nin0))
    have J108 : Arv Z h105 t kb .byte (Int32.ofNat cs.length) (l1 cs) (.int (0 : Int32)) := by rw [hc107]; exact F109
    have F110 : Exa Z h105 t "[B" := (E2.keep K105)
    obtain ⟨_, _, ⟨T111, L111, k111, n111⟩, -, X111, ⟨Lc111, hQ111, l111, y111, z111⟩, st111⟩ := Jvm.LawKit.callS X105 hx (y := yn6) hown (mvT hZ (w82 hw)) (mvT hZ (w83 hw)) (mvT hZ (w84 hw)) (mvT hZ (w85 hw)) (by decide) (backOf (W := 1) (rm_corAll l Z a0 hw [] t cs.length kb (l1 cs) h105 n0 (Nat.le_trans Z0 K105.1) J108 F110 (by omega)) hZ (w85 hw) (w84 hw) (by decide) (by decide)) (g := (mkF m 32 #[.val (.ref a), .val (.ref o), .val .null, .val (.ref t), .val (.int (Int32.ofNat cs.length))] [(.int (Int32.ofNat cs.length)), (.int (0 : Int32)), (.ref t), (.ref a)])) rfl (by rw [hml]; rfl) (argsL := [(.ref t), (.int (0 : Int32)), (.int (Int32.ofNat cs.length))]) (rest := [(.ref a)]) (lenOf pd3 rfl) rfl (wq rfl) (D_ d27_32) (fun _ _ => ⟨rfl, e105, (nb rfl), (nb rfl)⟩)
    dsimp only [Pt.U, Pt.locs, Pt.cells, Pt.slots] at X111 l111 y111 z111 st111 hQ111
    subst l111 y111 z111
    obtain ⟨r_112, kr_113, rfl, Nq111, K111, P111_0, P111_1⟩ := hQ111
    have N111 := Fr.app N105 Nq111
    have F114 : Exa Z T111.heap a "java/lang/String" := ((Z1.keep K105).keep K111)
    have F115 : Fld Z T111.heap a "java/lang/String" "value" "[B" .null := ((Fld.other Wr105 Z2 (Or.inr (slot_ne (Or.inr (w101 hw)) (Or.inr (w81 hw)) (by decide) (t := (.array .byte)) (t' := .byte) (by decide) (by decide)))).keep K111 nin0)
    obtain ⟨T116, h116, X116, e116, Wr116, st116⟩ := putF X111 hx hZ hown (host := "") (Or.inl (w100 hw)) Via.refl rfl F115 F114 (Or.inr ⟨(w101 hw), rfl, hnm⟩) (w59 hw) (ty := (.array .byte)) (by decide) rfl rfl (g := (mkF m 35 #[.val (.ref a), .val (.ref o), .val .null, .val (.ref t), .val (.int (Int32.ofNat cs.length))] [(.ref r_112), (.ref a)])) rfl rfl (D_ d27_35)
    have K116 := Keep.of_wr Wr116
    have G116 := F115.same Wr116
    have N116 := Fr.snoc X116 N111 g1
    have W117 : ∀ zQ, SS p e below T116 m 97 #[.val (.ref a), .val (.ref o), .val .null, .val (.ref t), .val (.int (Int32.ofNat cs.length))] [] zQ → Steps p.tables e below (s₁.setTop (entryFrame m #[(.ref a), (.ref o), .null] 5)) zQ := by
      intro tt kt
      refine W106 tt ?_
      refine XS.aloadN X105.here hx rfl (D_ d27_27) rfl rfl ?_
      refine XS.aloadN X105.here hx rfl (D_ d27_28) rfl rfl ?_
      refine XS.iconst X105.here hx rfl (D_ d27_29) ?_
      refine XS.iload X105.here hx rfl (D_ d27_30) rfl ?_
      refine st111 _ ?_
      refine st116 _ ?_
      refine XS.goto X116.here hx rfl (pc0 := 38) (pc' := 97) rfl (D_ d27_38) (by decide) (by decide) ?_
      exact kt
    have F118 : Exa Z h116 a "java/lang/String" := (F114.keep K116)
    have F119 : Fld Z h116 a "java/lang/String" "coder" "B" (.int (0 : Int32)) := (Fld.other Wr116 (G105.keep K111 nin0) (Or.inr (slot_ne (Or.inr (w81 hw)) (Or.inr (w101 hw)) (by decide) (t := .byte) (t' := (.array .byte)) (by decide) (by decide))))
    have ne120 : r_112 ≠ a := (Ne.symm (Nat.ne_of_lt (Nat.lt_of_lt_of_le (Nat.lt_of_lt_of_le Z1.lt K105.1) P111_0)))
    have F121 : Arv Z h116 r_112 kr_113 .byte (Int32.ofNat cs.length) (l1 cs) (.int (0 : Int32)) := (P111_1.keep K116 (ninS ne120 nin0))
    obtain ⟨fs, hr, hrun, hended, hW, hsame⟩ := X116.leave (v := none) (fun _ => rfl)
    refine ⟨_, _, W117 _ (X116.returnOut hx Bd.returns (D_ d27_97) hr), hrun, hended, _, _, rfl, ?_, ⟨_, rfl⟩, hW, hsame.mono (by decide) (by decide)⟩
    show Q_sinitAB Z a o t kb N cs cS h0 n0 _ T116.heap _
    rw [e116]
    exact ⟨r_112, kr_113, rfl, N116, (Keep.trans (Keep.trans (Keep.trans (Keep.refl h0 [a]) K105 (allS (Or.inl (List.mem_of_getElem? (i := 0) rfl)) all0)) K111 all0) K116 (allS (Or.inl (List.mem_of_getElem? (i := 0) rfl)) all0)), (Nat.le_trans K105.1 P111_0), (own_mkA hl ok F118 G116 F119 F121)⟩
  ·
    have F123 : Arv Z h105 t kb .byte (Int32.ofNat N) (l1 cs) (.int (0 : Int32)) := (V1.keep K105 (ninS (Ne.symm hat) nin0))
    have J122 : Arv Z h105 t kb .byte (Int32.ofNat N) (l1 cs ++ List.replicate (N - cs.length) (Value.int (0 : Int32))) (.int (0 : Int32)) := Arv.pad F123 (pad_rep _ _ _)
    obtain ⟨_, _, ⟨T124, L124, k124, n124⟩, -, X124, ⟨Lc124, hQ124, l124, y124, z124⟩, st124⟩ := Jvm.LawKit.callS X105 hx (y := yn6) hown (mvT hZ (w82 hw)) (mvT hZ (w83 hw)) (mvT hZ (w84 hw)) (mvT hZ (w85 hw)) (by decide) (backOf (W := 1) (rm_cor l Z a0 hw [] t 0 cs.length N kb (l1 cs ++ List.replicate (N - cs.length) (Value.int (0 : Int32))) h105 n0 (Nat.le_trans Z0 K105.1) J122 (by rw [List.length_append, List.length_replicate, l1_len]; omega) (Nat.zero_le _) hle (by omega) (by omega) (fun _ => hc107)) hZ (w85 hw) (w84 hw) (by decide) (by decide)) (g := (mkF m 32 #[.val (.ref a), .val (.ref o), .val .null, .val (.ref t), .val (.int (Int32.ofNat cs.length))] [(.int (Int32.ofNat cs.length)), (.int (0 : Int32)), (.ref t), (.ref a)])) rfl (by rw [hml]; rfl) (argsL := [(.ref t), (.int (0 : Int32)), (.int (Int32.ofNat cs.length))]) (rest := [(.ref a)]) (lenOf pd3 rfl) rfl (wq rfl) (D_ d27_32) (fun _ _ => ⟨rfl, e105, (nb rfl), (nb rfl)⟩)
    dsimp only [Pt.U, Pt.locs, Pt.cells, Pt.slots] at X124 l124 y124 z124 st124 hQ124
    subst l124 y124 z124
    obtain ⟨r_125, kr_126, rfl, Nq124, K124, P124_0, P124_1⟩ := hQ124
    have N124 := Fr.app N105 Nq124
    have J127 : Arv Z T124.heap r_125 kr_126 .byte (Int32.ofNat cs.length) (l1 cs) (.int (0 : Int32)) := by have q := P124_1; rw [own_cor0, Nat.sub_zero] at q; exact q
    have F128 : Exa Z T124.heap a "java/lang/String" := ((Z1.keep K105).keep K124)
    have F129 : Fld Z T124.heap a "java/lang/String" "value" "[B" .null := ((Fld.other Wr105 Z2 (Or.inr (slot_ne (Or.inr (w101 hw)) (Or.inr (w81 hw)) (by decide) (t := (.array .byte)) (t' := .byte) (by decide) (by decide)))).keep K124 nin0)
    obtain ⟨T130, h130, X130, e130, Wr130, st130⟩ := putF X124 hx hZ hown (host := "") (Or.inl (w100 hw)) Via.refl rfl F129 F128 (Or.inr ⟨(w101 hw), rfl, hnm⟩) (w59 hw) (ty := (.array .byte)) (by decide) rfl rfl (g := (mkF m 35 #[.val (.ref a), .val (.ref o), .val .null, .val (.ref t), .val (.int (Int32.ofNat cs.length))] [(.ref r_125), (.ref a)])) rfl rfl (D_ d27_35)
    have K130 := Keep.of_wr Wr130
    have G130 := F129.same Wr130
    have N130 := Fr.snoc X130 N124 g1
    have W131 : ∀ zQ, SS p e below T130 m 97 #[.val (.ref a), .val (.ref o), .val .null, .val (.ref t), .val (.int (Int32.ofNat cs.length))] [] zQ → Steps p.tables e below (s₁.setTop (entryFrame m #[(.ref a), (.ref o), .null] 5)) zQ := by
      intro tt kt
      refine W106 tt ?_
      refine XS.aloadN X105.here hx rfl (D_ d27_27) rfl rfl ?_
      refine XS.aloadN X105.here hx rfl (D_ d27_28) rfl rfl ?_
      refine XS.iconst X105.here hx rfl (D_ d27_29) ?_
      refine XS.iload X105.here hx rfl (D_ d27_30) rfl ?_
      refine st124 _ ?_
      refine st130 _ ?_
      refine XS.goto X130.here hx rfl (pc0 := 38) (pc' := 97) rfl (D_ d27_38) (by decide) (by decide) ?_
      exact kt
    have F132 : Exa Z h130 a "java/lang/String" := (F128.keep K130)
    have F133 : Fld Z h130 a "java/lang/String" "coder" "B" (.int (0 : Int32)) := (Fld.other Wr130 (G105.keep K124 nin0) (Or.inr (slot_ne (Or.inr (w81 hw)) (Or.inr (w101 hw)) (by decide) (t := .byte) (t' := (.array .byte)) (by decide) (by decide))))
    have ne134 : r_125 ≠ a := (Ne.symm (Nat.ne_of_lt (Nat.lt_of_lt_of_le (Nat.lt_of_lt_of_le Z1.lt K105.1) P124_0)))
    have F135 : Arv Z h130 r_125 kr_126 .byte (Int32.ofNat cs.length) (l1 cs) (.int (0 : Int32)) := (J127.keep K130 (ninS ne134 nin0))
    obtain ⟨fs, hr, hrun, hended, hW, hsame⟩ := X130.leave (v := none) (fun _ => rfl)
    refine ⟨_, _, W131 _ (X130.returnOut hx Bd.returns (D_ d27_97) hr), hrun, hended, _, _, rfl, ?_, ⟨_, rfl⟩, hW, hsame.mono (by decide) (by decide)⟩
    show Q_sinitAB Z a o t kb N cs cS h0 n0 _ T130.heap _
    rw [e130]
    exact ⟨r_125, kr_126, rfl, N130, (Keep.trans (Keep.trans (Keep.trans (Keep.refl h0 [a]) K105 (allS (Or.inl (List.mem_of_getElem? (i := 0) rfl)) all0)) K124 all0) K130 (allS (Or.inl (List.mem_of_getElem? (i := 0) rfl)) all0)), (Nat.le_trans K105.1 P124_0), (own_mkA hl ok F132 G130 F133 F135)⟩
def Q_sinitSB (Z : State) (a : Addr) (o : Addr) (t : Addr) (kb : ClassId) (N : Nat) (cs : List Int32) (cS : Int32) (h0 : Heap) (n0 : Nat) (vQ_ : Option Value) (hQ_ : Heap) (LQ_ : List Loc) : Prop := ∃ t2 : Addr, ∃ kb2 : ClassId, vQ_ = none ∧ Fr n0 LQ_ ∧ Keep h0 hQ_ [a] ∧ h0.size ≤ t2 ∧ Str Z hQ_ a t2 kb2 cs
theorem rm_sinitSB (l : Launch) (Z : State) (a0 : Array Value) (hw : HW a0 Z) (ws : List Jvm.Cond) (a : Addr) (o : Addr) (t : Addr) (kb : ClassId) (N : Nat) (cs : List Int32) (cS : Int32) (h0 : Heap) (n0 : Nat) (Z0 : n0 ≤ h0.size) (O0 : Old Z n0 h0) (S_cs : Sta Z Z.heap "java/lang/String" "COMPACT_STRINGS" "Z" (.int cS)) (hcS : ¬ (cS = (0 : Int32))) (Z1 : Exa Z h0 a "java/lang/String") (Z2 : Fld Z h0 a "java/lang/String" "value" "[B" .null) (Z3 : Fld Z h0 a "java/lang/String" "coder" "B" (.int (0 : Int32))) (g1 : n0 ≤ a) (E1 : Exa Z h0 o "java/lang/StringBuilder") (F1 : Fld Z h0 o "java/lang/AbstractStringBuilder" "value" "[B" (.ref t)) (F2 : Fld Z h0 o "java/lang/AbstractStringBuilder" "coder" "B" (.int (0 : Int32))) (F3 : Fld Z h0 o "java/lang/AbstractStringBuilder" "count" "I" (.int (Int32.ofNat cs.length))) (V1 : Arv Z h0 t kb .byte (Int32.ofNat N) (l1 cs) (.int (0 : Int32))) (E2 : Exa Z h0 t "[B") (hle : cs.length ≤ N) (hN : N ≤ 84) (hl : lat cs = true) (ok : OkS cs) (hao : a ≠ o) (hat : a ≠ t) :
    CT l yn28 (Jvm.Cond.code yn28 jdk_42_method_53_code 2 none :: ws) (⟨4, 1, 84, 111⟩ : Room) #[(.ref a), (.ref o)] Z h0 (Q_sinitSB Z a o t kb N cs cS h0 n0) := by
  refine MetFree.of_bodySF (plainFor_of_name pn_java_lang_String) hisR ?_
  intro p e s m args below meth cO s₁ Bd hml hP hK
  obtain ⟨rfl, hZ, hh⟩ := hP
  have hx := Bd.exec
  have hby := Bd.bytes
  have hown : s.vm.findClass "java/lang/String" = some m.cls := findClass_of_methodNamed Bd.named
  have hnm := (name_of_methodNamed Bd.named Bd.method).1
  have X0 : Stand p l e (⟨4, 1, 84, 111⟩ : Room) s m #[(.ref a), (.ref o)] below meth cO s₁ [] 0 0 := Stand.of_body Bd
  have e0 : s₁.heap = h0 := by rw [← hh, Bd.state]; rfl
  have N0 := Fr.nil n0
  have D_ : ∀ {i : Nat} {x}, decode jdk_42_method_53_code i = x → decode cO.code i = x := fun h => hb hby h
  have W0 : ∀ zQ, SS p e below s₁ m 0 #[.val (.ref a), .val (.ref o)] [] zQ → Steps p.tables e below (s₁.setTop (entryFrame m #[(.ref a), (.ref o)] 2)) zQ := fun tt kt => castTop (ef_sinitSB m a o) kt
  obtain ⟨_, _, ⟨T101, L101, k101, n101⟩, -, X101, ⟨Lc101, hQ101, l101, y101, z101⟩, st101⟩ := X0.specialBack hx (y := yn27) rfl hown (mvT hZ (w64 hw)) (mvT hZ (w65 hw)) (mvT hZ (w66 hw)) (by decide) (backOf (W := 0) (rm_sinitAB l Z a0 hw [] a o t kb N cs cS h0 n0 Z0 O0 S_cs hcS Z1 Z2 Z3 g1 E1 F1 F2 F3 V1 E2 hle hN hl ok hao hat) hZ (w66 hw) (w23 hw) (by decide) (by decide)) (g := (mkF m 3 #[.val (.ref a), .val (.ref o)] [.null, (.ref o), (.ref a)])) rfl (by rw [hml]; rfl) (Steps.refl _) (a := a) (argsL := [(.ref o), .null]) (rest := []) (lenOf pd17 rfl) rfl (wq rfl) (D_ d28_3) (fun _ _ => ⟨rfl, e0, (nb rfl), (nb rfl)⟩)
  dsimp only [Pt.U, Pt.locs, Pt.cells, Pt.slots] at X101 l101 y101 z101 st101 hQ101
  subst l101 y101 z101
  obtain ⟨t2_102, kb2_103, rfl, Nq101, K101, P101_0, P101_1⟩ := hQ101
  have N101 := Fr.app N0 Nq101
  have W104 : ∀ zQ, SS p e below T101 m 6 #[.val (.ref a), .val (.ref o)] [] zQ → Steps p.tables e below (s₁.setTop (entryFrame m #[(.ref a), (.ref o)] 2)) zQ := by
    intro tt kt
    refine W0 tt ?_
    refine XS.aloadN X0.here hx rfl (D_ d28_0) rfl rfl ?_
    refine XS.aloadN X0.here hx rfl (D_ d28_1) rfl rfl ?_
    refine XS.aconstNull X0.here hx rfl (D_ d28_2) ?_
    refine st101.trans ?_
    exact kt
  obtain ⟨fs, hr, hrun, hended, hW, hsame⟩ := X101.leave (v := none) (fun _ => rfl)
  refine ⟨_, _, W104 _ (X101.returnOut hx Bd.returns (D_ d28_6) hr), hrun, hended, _, _, rfl, ?_, ⟨_, rfl⟩, hW, hsame.mono (by decide) (by decide)⟩
  show Q_sinitSB Z a o t kb N cs cS h0 n0 _ T101.heap _
  exact ⟨t2_102, kb2_103, rfl, N101, (Keep.trans (Keep.refl h0 [a]) K101 (allS (Or.inl (List.mem_of_getElem? (i := 0) rfl)) all0)), P101_0, P101_1⟩
def Q_sbToString (Z : State) (o : Addr) (t : Addr) (kb : ClassId) (N : Nat) (cs : List Int32) (cS : Int32) (h0 : Heap) (n0 : Nat) (vQ_ : Option Value) (hQ_ : Heap) (LQ_ : List Loc) : Prop := ∃ r : Addr, ∃ t2 : Addr, ∃ kb2 : ClassId, vQ_ = some (.ref r) ∧ Fr n0 LQ_ ∧ Keep h0 hQ_ [] ∧ h0.size ≤ r ∧ h0.size ≤ t2 ∧ Str Z hQ_ r t2 kb2 cs
theorem rm_sbToString (l : Launch) (Z : State) (a0 : Array Value) (hw : HW a0 Z) (ws : List Jvm.Cond) (o : Addr) (t : Addr) (kb : ClassId) (N : Nat) (cs : List Int32) (cS : Int32) (h0 : Heap) (n0 : Nat) (Z0 : n0 ≤ h0.size) (O0 : Old Z n0 h0) (S_cs : Sta Z Z.heap "java/lang/String" "COMPACT_STRINGS" "Z" (.int cS)) (hcS : ¬ (cS = (0 : Int32))) (E1 : Exa Z h0 o "java/lang/StringBuilder") (F1 : Fld Z h0 o "java/lang/AbstractStringBuilder" "value" "[B" (.ref t)) (F2 : Fld Z h0 o "java/lang/AbstractStringBuilder" "coder" "B" (.int (0 : Int32))) (F3 : Fld Z h0 o "java/lang/AbstractStringBuilder" "count" "I" (.int (Int32.ofNat cs.length))) (V1 : Arv Z h0 t kb .byte (Int32.ofNat N) (l1 cs) (.int (0 : Int32))) (E2 : Exa Z h0 t "[B") (hle : cs.length ≤ N) (hN : N ≤ 84) (hl : lat cs = true) (ok : OkS cs) :
    CT l yn29 (Jvm.Cond.code yn29 jdk_67_method_42_code 1 (some (.object "java/lang/String")) :: ws) (⟨5, 2, 88, 125⟩ : Room) #[(.ref o)] Z h0 (Q_sbToString Z o t kb N cs cS h0 n0) := by
  refine MetFree.of_bodySF (plainFor_of_name pn_java_lang_StringBuilder) hisR ?_
  intro p e s m args below meth cO s₁ Bd hml hP hK
  obtain ⟨rfl, hZ, hh⟩ := hP
  have hx := Bd.exec
  have hby := Bd.bytes
  have hown : s.vm.findClass "java/lang/StringBuilder" = some m.cls := findClass_of_methodNamed Bd.named
  have hnm := (name_of_methodNamed Bd.named Bd.method).1
  have X0 : Stand p l e (⟨5, 2, 88, 125⟩ : Room) s m #[(.ref o)] below meth cO s₁ [] 0 0 := Stand.of_body Bd
  have e0 : s₁.heap = h0 := by rw [← hh, Bd.state]; rfl
  have N0 := Fr.nil n0
  have D_ : ∀ {i : Nat} {x}, decode jdk_67_method_42_code i = x → decode cO.code i = x := fun h => hb hby h
  have W0 : ∀ zQ, SS p e below s₁ m 0 #[.val (.ref o)] [] zQ → Steps p.tables e below (s₁.setTop (entryFrame m #[(.ref o)] 1)) zQ := fun tt kt => castTop (ef_sbToString m o) kt
  obtain ⟨T101, h101, X101, e101, E101, A101, D101, U101, st101⟩ := newO X0 hx hZ hown (w58 hw) (w59 hw) (w23 hw) e0 (g := (mkF m 0 #[.val (.ref o)] [])) rfl (D_ d29_0) (by decide) (by decide)
  obtain ⟨b101, g101⟩ : ∃ z, z = h0.size := ⟨_, rfl⟩
  rw [← g101] at A101 D101 U101 st101
  have K101 := (Keep.refl h0 []).ext E101
  have G101_coder : Fld Z h101 b101 "java/lang/String" "coder" "B" (.int (0 : Int32)) := D101 (Or.inr (w81 hw)) (ty := .byte) (by decide)
  have G101_value : Fld Z h101 b101 "java/lang/String" "value" "[B" .null := D101 (Or.inr (w101 hw)) (ty := (.array .byte)) (by decide)
  have F102 : Exa Z h101 o "java/lang/StringBuilder" := (E1.keep K101)
  have F103 : Fld Z h101 o "java/lang/AbstractStringBuilder" "value" "[B" (.ref t) := (F1.keep K101 nin0)
  have F104 : Fld Z h101 o "java/lang/AbstractStringBuilder" "coder" "B" (.int (0 : Int32)) := (F2.keep K101 nin0)
  have F105 : Fld Z h101 o "java/lang/AbstractStringBuilder" "count" "I" (.int (Int32.ofNat cs.length)) := (F3.keep K101 nin0)
  have F106 : Arv Z h101 t kb .byte (Int32.ofNat N) (l1 cs) (.int (0 : Int32)) := (V1.keep K101 nin0)
  have F107 : Exa Z h101 t "[B" := (E2.keep K101)
  have ne108 : b101 ≠ o := (Ne.symm (Nat.ne_of_lt (Nat.lt_of_lt_of_le E1.lt (Nat.le_of_eq g101.symm))))
  have ne109 : b101 ≠ t := (Ne.symm (Nat.ne_of_lt (Nat.lt_of_lt_of_le V1.lt (Nat.le_of_eq g101.symm))))
  have O110 : Old Z n0 h101 := (O0.keep K101 all0)
  obtain ⟨_, _, ⟨T111, L111, k111, n111⟩, -, X111, ⟨Lc111, hQ111, l111, y111, z111⟩, st111⟩ := X101.specialBack hx (y := yn28) rfl hown (mvT hZ (w60 hw)) (mvT hZ (w61 hw)) (mvT hZ (w63 hw)) (by decide) (backOf (W := 1) (rm_sinitSB l Z a0 hw [] b101 o t kb N cs cS h101 n0 (Nat.le_trans Z0 K101.1) O110 S_cs hcS A101 G101_value G101_coder (Nat.le_trans Z0 (Nat.le_of_eq g101.symm)) F102 F103 F104 F105 F106 F107 hle hN hl ok ne108 ne109) hZ (w63 hw) (w23 hw) (by decide) (by decide)) (g := (mkF m 5 #[.val (.ref o)] [(.ref o), (.ref b101), (.ref b101)])) rfl (by rw [hml]; rfl) (Steps.refl _) (a := b101) (argsL := [(.ref o)]) (rest := [(.ref b101)]) (lenOf pd18 rfl) rfl (wq rfl) (D_ d29_5) (fun _ _ => ⟨rfl, e101, (nb rfl), (nb rfl)⟩)
  dsimp only [Pt.U, Pt.locs, Pt.cells, Pt.slots] at X111 l111 y111 z111 st111 hQ111
  subst l111 y111 z111
  obtain ⟨t2_112, kb2_113, rfl, Nq111, K111, P111_0, P111_1⟩ := hQ111
  have N111 := Fr.app N0 Nq111
  have W114 : ∀ zQ, SS p e below T111 m 8 #[.val (.ref o)] [(.ref b101)] zQ → Steps p.tables e below (s₁.setTop (entryFrame m #[(.ref o)] 1)) zQ := by
    intro tt kt
    refine W0 tt ?_
    refine st101 _ ?_
    refine XS.dup X101.here hx rfl (D_ d29_3) rfl rfl ?_
    refine XS.aloadN X101.here hx rfl (D_ d29_4) rfl rfl ?_
    refine st111.trans ?_
    exact kt
  obtain ⟨fs, hr, hrun, hended, hW, hsame⟩ := X111.leave (v := some (.ref b101)) (fun h => by rw [Bd.returns] at h; cases h)
  refine ⟨_, _, W114 _ (own_retR X111 hx Bd.returns rfl rfl (D_ d29_8) hr), hrun, hended, _, _, rfl, ?_, ⟨_, rfl⟩, hW, hsame.mono (by decide) (by decide)⟩
  show Q_sbToString Z o t kb N cs cS h0 n0 _ T111.heap _
  exact ⟨b101, t2_112, kb2_113, rfl, N111, (Keep.trans (Keep.trans (Keep.refl h0 []) K101 all0) K111 (allS (Or.inr (Nat.le_of_eq g101.symm)) all0)), (Nat.le_of_eq g101.symm), (Nat.le_trans K101.1 P111_0), P111_1⟩
def Q_sinitB (Z : State) (a : Addr) (t : Addr) (w : Int32) (h0 : Heap) (n0 : Nat) (vQ_ : Option Value) (hQ_ : Heap) (LQ_ : List Loc) : Prop := vQ_ = none ∧ Fr n0 LQ_ ∧ Keep h0 hQ_ [a] ∧ Exa Z hQ_ a "java/lang/String" ∧ Fld Z hQ_ a "java/lang/String" "value" "[B" (.ref t) ∧ Fld Z hQ_ a "java/lang/String" "coder" "B" (.int w)
theorem rm_sinitB (l : Launch) (Z : State) (a0 : Array Value) (hw : HW a0 Z) (ws : List Jvm.Cond) (a : Addr) (t : Addr) (w : Int32) (h0 : Heap) (n0 : Nat) (Z0 : n0 ≤ h0.size) (E1 : Exa Z h0 a "java/lang/String") (F1 : Fld Z h0 a "java/lang/String" "value" "[B" .null) (F2 : Fld Z h0 a "java/lang/String" "coder" "B" (.int (0 : Int32))) (hg : n0 ≤ a) (hw8 : nar .byte w = w) (hwf : fits .byte (.int w) = true) :
    CT l yn30 (Jvm.Cond.code yn30 jdk_42_method_151_code 3 none :: ws) (⟨1, 0, 0, 12⟩ : Room) #[(.ref a), (.ref t), (.int w)] Z h0 (Q_sinitB Z a t w h0 n0) := by
  refine MetFree.of_bodySF (plainFor_of_name pn_java_lang_String) hisR ?_
  intro p e s m args below meth cO s₁ Bd hml hP hK
  obtain ⟨rfl, hZ, hh⟩ := hP
  have hx := Bd.exec
  have hby := Bd.bytes
  have hown : s.vm.findClass "java/lang/String" = some m.cls := findClass_of_methodNamed Bd.named
  have hnm := (name_of_methodNamed Bd.named Bd.method).1
  have X0 : Stand p l e (⟨1, 0, 0, 12⟩ : Room) s m #[(.ref a), (.ref t), (.int w)] below meth cO s₁ [] 0 0 := Stand.of_body Bd
  have e0 : s₁.heap = h0 := by rw [← hh, Bd.state]; rfl
  have N0 := Fr.nil n0
  have D_ : ∀ {i : Nat} {x}, decode jdk_42_method_151_code i = x → decode cO.code i = x := fun h => hb hby h
  have W0 : ∀ zQ, SS p e below s₁ m 0 #[.val (.ref a), .val (.ref t), .val (.int w)] [] zQ → Steps p.tables e below (s₁.setTop (entryFrame m #[(.ref a), (.ref t), (.int w)] 3)) zQ := fun tt kt => castTop (ef_sinitB m a t w) kt
  obtain ⟨T101, X101, e101, st101⟩ := initO X0 hx hZ hown (w67 hw) (w7 hw) (w8 hw) e0 (g := (mkF m 1 #[.val (.ref a), .val (.ref t), .val (.int w)] [(.ref a)])) rfl (by rw [hml]; rfl) rfl (D_ d30_1) (by decide) (W := 0) (by show 2 * 0 + _ ≤ _; exact Nat.le_of_eq rfl) (by decide)
  obtain ⟨T102, h102, X102, e102, Wr102, st102⟩ := putF X101 hx hZ hown (host := "") (Or.inl (w100 hw)) Via.refl e101 F1 E1 (Or.inr ⟨(w101 hw), rfl, hnm⟩) (w59 hw) (ty := (.array .byte)) (by decide) rfl rfl (g := (mkF m 6 #[.val (.ref a), .val (.ref t), .val (.int w)] [(.ref t), (.ref a)])) rfl rfl (D_ d30_6)
  have K102 := Keep.of_wr Wr102
  have G102 := F1.same Wr102
  have N102 := Fr.snoc X102 N0 hg
  have F103 : Exa Z h102 a "java/lang/String" := (E1.keep K102)
  have F104 : Fld Z h102 a "java/lang/String" "coder" "B" (.int (0 : Int32)) := (Fld.other Wr102 F2 (Or.inr (slot_ne (Or.inr (w81 hw)) (Or.inr (w101 hw)) (by decide) (t := .byte) (t' := (.array .byte)) (by decide) (by decide))))
  obtain ⟨T105, h105, X105, e105, Wr105, st105⟩ := putFN X102 hx hZ hown (w80 hw) Via.refl e102 F104 F103 (Or.inr ⟨(w81 hw), rfl, hnm⟩) (w59 hw) (ty := .byte) (v' := (.int w)) (by decide) (show narrow .byte (.int w) = .int w from congrArg Value.int hw8) hwf (g := (mkF m 11 #[.val (.ref a), .val (.ref t), .val (.int w)] [(.int w), (.ref a)])) rfl rfl (D_ d30_11)
  have K105 := Keep.of_wr Wr105
  have G105 := F104.same Wr105
  have N105 := Fr.snoc X105 N102 hg
  have W106 : ∀ zQ, SS p e below T105 m 14 #[.val (.ref a), .val (.ref t), .val (.int w)] [] zQ → Steps p.tables e below (s₁.setTop (entryFrame m #[(.ref a), (.ref t), (.int w)] 3)) zQ := by
    intro tt kt
    refine W0 tt ?_
    refine XS.aloadN X0.here hx rfl (D_ d30_0) rfl rfl ?_
    refine st101 _ ?_
    refine XS.aloadN X101.here hx rfl (D_ d30_4) rfl rfl ?_
    refine XS.aloadN X101.here hx rfl (D_ d30_5) rfl rfl ?_
    refine st102 _ ?_
    refine XS.aloadN X102.here hx rfl (D_ d30_9) rfl rfl ?_
    refine XS.iloadN X102.here hx rfl (D_ d30_10) rfl ?_
    refine st105 _ ?_
    exact kt
  have F107 : Exa Z h105 a "java/lang/String" := (F103.keep K105)
  have F108 : Fld Z h105 a "java/lang/String" "value" "[B" (.ref t) := (Fld.other Wr105 G102 (Or.inr (slot_ne (Or.inr (w101 hw)) (Or.inr (w81 hw)) (by decide) (t := (.array .byte)) (t' := .byte) (by decide) (by decide))))
  obtain ⟨fs, hr, hrun, hended, hW, hsame⟩ := X105.leave (v := none) (fun _ => rfl)
  refine ⟨_, _, W106 _ (X105.returnOut hx Bd.returns (D_ d30_14) hr), hrun, hended, _, _, rfl, ?_, ⟨_, rfl⟩, hW, hsame.mono (by decide) (by decide)⟩
  show Q_sinitB Z a t w h0 n0 _ T105.heap _
  rw [e105]
  exact ⟨rfl, N105, (Keep.trans (Keep.trans (Keep.refl h0 [a]) K102 (allS (Or.inl (List.mem_of_getElem? (i := 0) rfl)) all0)) K105 (allS (Or.inl (List.mem_of_getElem? (i := 0) rfl)) all0)), F107, F108, G105⟩
def Q_toBytesC (Z : State) (c : Int32) (h0 : Heap) (n0 : Nat) (vQ_ : Option Value) (hQ_ : Heap) (LQ_ : List Loc) : Prop := ∃ r : Addr, ∃ kr : ClassId, vQ_ = some (.ref r) ∧ Fr n0 LQ_ ∧ Keep h0 hQ_ [] ∧ h0.size ≤ r ∧ Arv Z hQ_ r kr .byte (Int32.ofNat 1) (l1 [c]) (.int (0 : Int32)) ∧ Exa Z hQ_ r "[B"
theorem rm_toBytesC (l : Launch) (Z : State) (a0 : Array Value) (hw : HW a0 Z) (ws : List Jvm.Cond) (c : Int32) (h0 : Heap) (n0 : Nat) (Z0 : n0 ≤ h0.size)  :
    CT l yn31 (Jvm.Cond.code yn31 jdk_43_method_46_code 1 (some (.array .byte)) :: ws) (⟨0, 1, 1, 0⟩ : Room) #[(.int c)] Z h0 (Q_toBytesC Z c h0 n0) := by
  refine MetFree.of_bodySF (plainFor_of_name pn_java_lang_StringLatin1) hisR ?_
  intro p e s m args below meth cO s₁ Bd hml hP hK
  obtain ⟨rfl, hZ, hh⟩ := hP
  have hx := Bd.exec
  have hby := Bd.bytes
  have hown : s.vm.findClass "java/lang/StringLatin1" = some m.cls := findClass_of_methodNamed Bd.named
  have hnm := (name_of_methodNamed Bd.named Bd.method).1
  have X0 : Stand p l e (⟨0, 1, 1, 0⟩ : Room) s m #[(.int c)] below meth cO s₁ [] 0 0 := Stand.of_body Bd
  have e0 : s₁.heap = h0 := by rw [← hh, Bd.state]; rfl
  have N0 := Fr.nil n0
  have D_ : ∀ {i : Nat} {x}, decode jdk_43_method_46_code i = x → decode cO.code i = x := fun h => hb hby h
  have W0 : ∀ zQ, SS p e below s₁ m 0 #[.val (.int c)] [] zQ → Steps p.tables e below (s₁.setTop (entryFrame m #[(.int c)] 1)) zQ := fun tt kt => castTop (ef_toBytesC m c) kt
  obtain ⟨T101, h101, k101, X101, e101, E101, A101, C101, st101⟩ := own_newPE X0 hx hZ (aty := .byte) (w24 hw) e0 (g := (mkF m 1 #[.val (.int c)] [(.int (1 : Int32))])) rfl (D_ d31_1) (n := (1 : Int32)) rfl (by decide) (cap := 1) (by decide) (by decide) (by decide) (by decide) (ad := "[B") rfl
  obtain ⟨b101, g101⟩ : ∃ z, z = h0.size := ⟨_, rfl⟩
  rw [← g101] at A101 st101 C101
  have K101 := (Keep.refl h0 []).ext E101
  have G101 : Arv Z h101 b101 k101 .byte (1 : Int32) [(.int (0 : Int32))] (.int (0 : Int32)) := (Arv.new A101 (by decide)).pad (pad_rep [] (.int (0 : Int32)) 1)
  obtain ⟨cl102, Ar102, q102, S102, M102, H102, F102g⟩ := id G101
  have hin102 : ¬ ((0 : Int32) < 0 ∨ cl102.slots.size ≤ ((0 : Int32)).toNatClampNeg) := inb_of S102 ⟨by decide, by decide⟩
  obtain ⟨T102, h102, X102, e102, Wr102, st102⟩ := stB X101 hx hZ e101 Ar102 (j := (0 : Int32)) hin102 (g := (mkF m 7 #[.val (.int c)] [(.int (c.toInt8.toInt32)), (.int (0 : Int32)), (.ref b101), (.ref b101)])) rfl rfl (D_ d31_7)
  have G102 : Arv Z h102 b101 k101 .byte (1 : Int32) [(.int (nar .byte (c.toInt8.toInt32)))] (.int (0 : Int32)) := Arv.set Ar102 q102 S102 M102 H102 F102g (fits_nar_byte _) Wr102 0 rfl (Nat.le_of_ble_eq_true rfl)
  have K102 := Keep.of_wr Wr102
  have N102 := Fr.snoc X102 N0 (Nat.le_trans Z0 (Nat.le_of_eq g101.symm))
  have J102 : Arv Z h102 b101 k101 .byte (1 : Int32) (l1 [c]) (.int (0 : Int32)) := by rw [own_narb] at G102; exact G102
  have W103 : ∀ zQ, SS p e below T102 m 8 #[.val (.int c)] [(.ref b101)] zQ → Steps p.tables e below (s₁.setTop (entryFrame m #[(.int c)] 1)) zQ := by
    intro tt kt
    refine W0 tt ?_
    refine XS.iconst X0.here hx rfl (D_ d31_0) ?_
    refine st101 _ ?_
    refine XS.dup X101.here hx rfl (D_ d31_3) rfl rfl ?_
    refine XS.iconst X101.here hx rfl (D_ d31_4) ?_
    refine XS.iloadN X101.here hx rfl (D_ d31_5) rfl ?_
    refine XS.i2b X101.here hx rfl (D_ d31_6) rfl ?_
    refine st102 _ ?_
    exact kt
  have F104 : Exa Z h102 b101 "[B" := (C101.keep K102)
  obtain ⟨fs, hr, hrun, hended, hW, hsame⟩ := X102.leave (v := some (.ref b101)) (fun h => by rw [Bd.returns] at h; cases h)
  refine ⟨_, _, W103 _ (own_retR X102 hx Bd.returns rfl rfl (D_ d31_8) hr), hrun, hended, _, _, rfl, ?_, ⟨_, rfl⟩, hW, hsame.mono (by decide) (by decide)⟩
  show Q_toBytesC Z c h0 n0 _ T102.heap _
  rw [e102]
  exact ⟨b101, k101, rfl, N102, (Keep.trans (Keep.trans (Keep.refl h0 []) K101 all0) K102 (allS (Or.inr (Nat.le_of_eq g101.symm)) all0)), (Nat.le_of_eq g101.symm), J102, F104⟩
def Q_valueOfC (Z : State) (c : Int32) (cS : Int32) (h0 : Heap) (n0 : Nat) (vQ_ : Option Value) (hQ_ : Heap) (LQ_ : List Loc) : Prop := ∃ r : Addr, ∃ t : Addr, ∃ kb : ClassId, vQ_ = some (.ref r) ∧ Fr n0 LQ_ ∧ Keep h0 hQ_ [] ∧ h0.size ≤ r ∧ h0.size ≤ t ∧ Str Z hQ_ r t kb [c] ∧ Exa Z hQ_ t "[B"
theorem rm_valueOfC (l : Launch) (Z : State) (a0 : Array Value) (hw : HW a0 Z) (ws : List Jvm.Cond) (c : Int32) (cS : Int32) (h0 : Heap) (n0 : Nat) (Z0 : n0 ≤ h0.size) (O0 : Old Z n0 h0) (S_cs : Sta Z Z.heap "java/lang/String" "COMPACT_STRINGS" "Z" (.int cS)) (hcS : ¬ (cS = (0 : Int32))) (hc0 : ¬ (c < (0 : Int32))) (hc1 : ¬ ((255 : Int32) < c)) :
    CT l yn32 (Jvm.Cond.code yn32 jdk_42_method_139_code 1 (some (.object "java/lang/String")) :: ws) (⟨2, 2, 5, 27⟩ : Room) #[(.int c)] Z h0 (Q_valueOfC Z c cS h0 n0) := by
  refine MetFree.of_bodySF (plainFor_of_name pn_java_lang_String) hisR ?_
  intro p e s m args below meth cO s₁ Bd hml hP hK
  obtain ⟨rfl, hZ, hh⟩ := hP
  have hx := Bd.exec
  have hby := Bd.bytes
  have hown : s.vm.findClass "java/lang/String" = some m.cls := findClass_of_methodNamed Bd.named
  have hnm := (name_of_methodNamed Bd.named Bd.method).1
  have X0 : Stand p l e (⟨2, 2, 5, 27⟩ : Room) s m #[(.int c)] below meth cO s₁ [] 0 0 := Stand.of_body Bd
  have e0 : s₁.heap = h0 := by rw [← hh, Bd.state]; rfl
  have N0 := Fr.nil n0
  have D_ : ∀ {i : Nat} {x}, decode jdk_42_method_139_code i = x → decode cO.code i = x := fun h => hb hby h
  have W0 : ∀ zQ, SS p e below s₁ m 0 #[.val (.int c)] [] zQ → Steps p.tables e below (s₁.setTop (entryFrame m #[(.int c)] 1)) zQ := fun tt kt => castTop (ef_valueOfC m c) kt
  have F102 : Sta Z h0 "java/lang/String" "COMPACT_STRINGS" "Z" (.int cS) := S_cs.ext O0.2
  obtain ⟨T101, X101, e101, st101⟩ := getS2 X0 hx hZ hown (host := "") (Or.inl (w117 hw)) Via.refl e0 F102 (g := (mkF m 0 #[.val (.int c)] [])) rfl (D_ d32_0)
  obtain ⟨_, _, ⟨T103, L103, k103, n103⟩, -, X103, ⟨Lc103, hQ103, l103, y103, z103⟩, st103⟩ := Jvm.LawKit.callS X101 hx (y := yn11) hown (mvT hZ (w118 hw)) (mvT hZ (w119 hw)) (mvT hZ (w120 hw)) (mvT hZ (w121 hw)) (by decide) (backOf (W := 0) (rm_canEncode l Z a0 hw [] c h0 n0 Z0 hc1) hZ (w121 hw) (w120 hw) (by decide) (by decide)) (g := (mkF m 7 #[.val (.int c)] [(.int c)])) rfl (by rw [hml]; rfl) (argsL := [(.int c)]) (rest := []) (lenOf pd9 rfl) rfl (wq rfl) (D_ d32_7) (fun _ _ => ⟨rfl, e101, (nb rfl), (nb rfl)⟩)
  dsimp only [Pt.U, Pt.locs, Pt.cells, Pt.slots] at X103 l103 y103 z103 st103 hQ103
  subst l103 y103 z103
  obtain ⟨rfl, Nq103, eq103⟩ := hQ103
  have N103 := Fr.app N0 Nq103
  obtain ⟨T104, h104, X104, e104, E104, A104, D104, U104, st104⟩ := newO X103 hx hZ hown (w122 hw) (w59 hw) (w23 hw) eq103 (g := (mkF m 13 #[.val (.int c)] [])) rfl (D_ d32_13) (by decide) (by decide)
  obtain ⟨b104, g104⟩ : ∃ z, z = h0.size := ⟨_, rfl⟩
  rw [← g104] at A104 D104 U104 st104
  have K104 := (Keep.refl h0 []).ext E104
  have G104_coder : Fld Z h104 b104 "java/lang/String" "coder" "B" (.int (0 : Int32)) := D104 (Or.inr (w81 hw)) (ty := .byte) (by decide)
  have G104_value : Fld Z h104 b104 "java/lang/String" "value" "[B" .null := D104 (Or.inr (w101 hw)) (ty := (.array .byte)) (by decide)
  obtain ⟨_, _, ⟨T105, L105, k105, n105⟩, -, X105, ⟨Lc105, hQ105, l105, y105, z105⟩, st105⟩ := Jvm.LawKit.callS X104 hx (y := yn31) hown (mvT hZ (w123 hw)) (mvT hZ (w124 hw)) (mvT hZ (w120 hw)) (mvT hZ (w125 hw)) (by decide) (backOf (W := 2) (rm_toBytesC l Z a0 hw [] c h104 n0 (Nat.le_trans Z0 K104.1) ) hZ (w125 hw) (w120 hw) (by decide) (by decide)) (g := (mkF m 18 #[.val (.int c)] [(.int c), (.ref b104), (.ref b104)])) rfl (by rw [hml]; rfl) (argsL := [(.int c)]) (rest := [(.ref b104), (.ref b104)]) (lenOf pd19 rfl) rfl (wq rfl) (D_ d32_18) (fun _ _ => ⟨rfl, e104, (nb rfl), (nb rfl)⟩)
  dsimp only [Pt.U, Pt.locs, Pt.cells, Pt.slots] at X105 l105 y105 z105 st105 hQ105
  subst l105 y105 z105
  obtain ⟨r_106, kr_107, rfl, Nq105, K105, P105_0, P105_1, P105_2⟩ := hQ105
  have N105 := Fr.app N103 Nq105
  have F108 : Exa Z T105.heap b104 "java/lang/String" := (A104.keep K105)
  have F109 : Fld Z T105.heap b104 "java/lang/String" "value" "[B" .null := (G104_value.keep K105 nin0)
  have F110 : Fld Z T105.heap b104 "java/lang/String" "coder" "B" (.int (0 : Int32)) := (G104_coder.keep K105 nin0)
  have z112 : n0 ≤ T105.heap.size := (Nat.le_trans Z0 (Nat.le_trans K104.1 K105.1))
  obtain ⟨_, _, ⟨T111, L111, k111, n111⟩, -, X111, ⟨Lc111, hQ111, l111, y111, z111⟩, st111⟩ := X105.specialBack hx (y := yn30) rfl hown (mvT hZ (w126 hw)) (mvT hZ (w127 hw)) (mvT hZ (w128 hw)) (by decide) (backOf (W := 1) (rm_sinitB l Z a0 hw [] b104 r_106 (0 : Int32) T105.heap n0 z112 F108 F109 F110 (Nat.le_trans Z0 (Nat.le_of_eq g104.symm)) (by decide) (by decide)) hZ (w128 hw) (w23 hw) (by decide) (by decide)) (g := (mkF m 22 #[.val (.int c)] [(.int (0 : Int32)), (.ref r_106), (.ref b104), (.ref b104)])) rfl (by rw [hml]; rfl) (Steps.refl _) (a := b104) (argsL := [(.ref r_106), (.int (0 : Int32))]) (rest := [(.ref b104)]) (lenOf pd20 rfl) rfl (wq rfl) (D_ d32_22) (fun _ _ => ⟨rfl, rfl, (nb rfl), (nb rfl)⟩)
  dsimp only [Pt.U, Pt.locs, Pt.cells, Pt.slots] at X111 l111 y111 z111 st111 hQ111
  subst l111 y111 z111
  obtain ⟨rfl, Nq111, K111, P111_0, P111_1, P111_2⟩ := hQ111
  have N111 := Fr.app N105 Nq111
  have W113 : ∀ zQ, SS p e below T111 m 25 #[.val (.int c)] [(.ref b104)] zQ → Steps p.tables e below (s₁.setTop (entryFrame m #[(.int c)] 1)) zQ := by
    intro tt kt
    refine W0 tt ?_
    refine st101 _ ?_
    refine XS.ifNo X101.here hx rfl (D_ d32_3) rfl ((if0 _ _).trans (feq hcS).1) ?_
    refine XS.iloadN X101.here hx rfl (D_ d32_6) rfl ?_
    refine st103 _ ?_
    refine XS.ifNo X103.here hx rfl (D_ d32_10) rfl ((if0 _ _).trans (feq (by decide)).1) ?_
    refine st104 _ ?_
    refine XS.dup X104.here hx rfl (D_ d32_16) rfl rfl ?_
    refine XS.iloadN X104.here hx rfl (D_ d32_17) rfl ?_
    refine st105 _ ?_
    refine XS.iconst X105.here hx rfl (D_ d32_21) ?_
    refine st111.trans ?_
    exact kt
  have F114 : Arv Z T111.heap r_106 kr_107 .byte (Int32.ofNat 1) (l1 [c]) (.int (0 : Int32)) := (P105_1.keep K111 (ninS (Ne.symm (Nat.ne_of_lt (Nat.lt_of_lt_of_le A104.lt P105_0))) nin0))
  have F115 : Exa Z T111.heap r_106 "[B" := (P105_2.keep K111)
  obtain ⟨fs, hr, hrun, hended, hW, hsame⟩ := X111.leave (v := some (.ref b104)) (fun h => by rw [Bd.returns] at h; cases h)
  refine ⟨_, _, W113 _ (own_retR X111 hx Bd.returns rfl rfl (D_ d32_25) hr), hrun, hended, _, _, rfl, ?_, ⟨_, rfl⟩, hW, hsame.mono (by decide) (by decide)⟩
  show Q_valueOfC Z c cS h0 n0 _ T111.heap _
  exact ⟨b104, r_106, kr_107, rfl, N111, (Keep.trans (Keep.trans (Keep.trans (Keep.refl h0 []) K104 all0) K105 all0) K111 (allS (Or.inr (Nat.le_of_eq g104.symm)) all0)), (Nat.le_of_eq g104.symm), (Nat.le_trans K104.1 P105_0), (own_mkA (own_lat1 hc1) (own_ok1 hc0 hc1) P111_0 P111_1 P111_2 F114), F115⟩
def Q_cpos0 (Z : State) (t : Addr) (kb : ClassId) (h0 : Heap) (n0 : Nat) (vQ_ : Option Value) (hQ_ : Heap) (LQ_ : List Loc) : Prop := vQ_ = some (.int (0 : Int32)) ∧ Fr n0 LQ_ ∧ hQ_ = h0
theorem rm_cpos0 (l : Launch) (Z : State) (a0 : Array Value) (hw : HW a0 Z) (ws : List Jvm.Cond) (t : Addr) (kb : ClassId) (h0 : Heap) (n0 : Nat) (Z0 : n0 ≤ h0.size) (V1 : Arv Z h0 t kb .byte (0 : Int32) [] (.int (0 : Int32))) :
    CT l yn33 (Jvm.Cond.code yn33 jdk_123_method_3_code 5 (some .int) :: ws) (⟨0, 0, 0, 0⟩ : Room) #[(.ref t), (.int (0 : Int32)), (.int (0 : Int32))] Z h0 (Q_cpos0 Z t kb h0 n0) := by
  refine MetFree.of_bodySF (plainFor_of_name pn_java_lang_StringCoding) hisR ?_
  intro p e s m args below meth cO s₁ Bd hml hP hK
  obtain ⟨rfl, hZ, hh⟩ := hP
  have hx := Bd.exec
  have hby := Bd.bytes
  have hown : s.vm.findClass "java/lang/StringCoding" = some m.cls := findClass_of_methodNamed Bd.named
  have hnm := (name_of_methodNamed Bd.named Bd.method).1
  have X0 : Stand p l e (⟨0, 0, 0, 0⟩ : Room) s m #[(.ref t), (.int (0 : Int32)), (.int (0 : Int32))] below meth cO s₁ [] 0 0 := Stand.of_body Bd
  have e0 : s₁.heap = h0 := by rw [← hh, Bd.state]; rfl
  have N0 := Fr.nil n0
  have D_ : ∀ {i : Nat} {x}, decode jdk_123_method_3_code i = x → decode cO.code i = x := fun h => hb hby h
  have W0 : ∀ zQ, SS p e below s₁ m 0 #[.val (.ref t), .val (.int (0 : Int32)), .val (.int (0 : Int32)), .unset, .unset] [] zQ → Steps p.tables e below (s₁.setTop (entryFrame m #[(.ref t), (.int (0 : Int32)), (.int (0 : Int32))] 5)) zQ := fun tt kt => castTop (ef_cpos0 m t (0 : Int32) (0 : Int32)) kt
  have W101 : ∀ zQ, SS p e below s₁ m 32 #[.val (.ref t), .val (.int (0 : Int32)), .val (.int (0 : Int32)), .val (.int (0 : Int32)), .val (.int (0 : Int32))] [(.int (0 : Int32))] zQ → Steps p.tables e below (s₁.setTop (entryFrame m #[(.ref t), (.int (0 : Int32)), (.int (0 : Int32))] 5)) zQ := by
    intro tt kt
    refine W0 tt ?_
    refine XS.iloadN X0.here hx rfl (D_ d33_0) rfl ?_
    refine XS.iloadN X0.here hx rfl (D_ d33_1) rfl ?_
    refine XS.iadd X0.here hx rfl (D_ d33_2) rfl ?_
    refine XS.istoreN X0.here hx rfl (D_ d33_3) rfl (l' := #[.val (.ref t), .val (.int (0 : Int32)), .val (.int (0 : Int32)), .val (.int (0 : Int32)), .unset]) rfl ?_
    refine XS.iloadN X0.here hx rfl (D_ d33_4) rfl ?_
    refine XS.istore X0.here hx rfl (D_ d33_5) rfl (l' := #[.val (.ref t), .val (.int (0 : Int32)), .val (.int (0 : Int32)), .val (.int (0 : Int32)), .val (.int (0 : Int32))]) rfl ?_
    refine XS.iload X0.here hx rfl (D_ d33_7) rfl ?_
    refine XS.iloadN X0.here hx rfl (D_ d33_9) rfl ?_
    refine XS.icmpYes X0.here hx rfl (pc0 := 10) (pc' := 31) rfl (D_ d33_10) rfl (flt (by decide)).2.1 (by decide) (by decide) ?_
    refine XS.iloadN X0.here hx rfl (D_ d33_31) rfl ?_
    exact kt
  obtain ⟨fs, hr, hrun, hended, hW, hsame⟩ := X0.leave (v := some (.int (0 : Int32))) (fun h => by rw [Bd.returns] at h; cases h)
  refine ⟨_, _, W101 _ (retI X0 hx Bd.returns (D_ d33_32) hr), hrun, hended, _, _, rfl, ?_, ⟨_, rfl⟩, hW, hsame.mono (by decide) (by decide)⟩
  show Q_cpos0 Z t kb h0 n0 _ s₁.heap _
  rw [e0]
  exact ⟨rfl, N0, rfl⟩
def Q_cpos1 (Z : State) (t : Addr) (kb : ClassId) (w : Int32) (h0 : Heap) (n0 : Nat) (vQ_ : Option Value) (hQ_ : Heap) (LQ_ : List Loc) : Prop := vQ_ = some (.int (if w < (0 : Int32) then (0 : Int32) else (1 : Int32))) ∧ Fr n0 LQ_ ∧ hQ_ = h0
theorem rm_cpos1 (l : Launch) (Z : State) (a0 : Array Value) (hw : HW a0 Z) (ws : List Jvm.Cond) (t : Addr) (kb : ClassId) (w : Int32) (h0 : Heap) (n0 : Nat) (Z0 : n0 ≤ h0.size) (V1 : Arv Z h0 t kb .byte (1 : Int32) [(.int w)] (.int (0 : Int32))) :
    CT l yn33 (Jvm.Cond.code yn33 jdk_123_method_3_code 5 (some .int) :: ws) (⟨0, 0, 0, 0⟩ : Room) #[(.ref t), (.int (0 : Int32)), (.int (1 : Int32))] Z h0 (Q_cpos1 Z t kb w h0 n0) := by
  refine MetFree.of_bodySF (plainFor_of_name pn_java_lang_StringCoding) hisR ?_
  intro p e s m args below meth cO s₁ Bd hml hP hK
  obtain ⟨rfl, hZ, hh⟩ := hP
  have hx := Bd.exec
  have hby := Bd.bytes
  have hown : s.vm.findClass "java/lang/StringCoding" = some m.cls := findClass_of_methodNamed Bd.named
  have hnm := (name_of_methodNamed Bd.named Bd.method).1
  have X0 : Stand p l e (⟨0, 0, 0, 0⟩ : Room) s m #[(.ref t), (.int (0 : Int32)), (.int (1 : Int32))] below meth cO s₁ [] 0 0 := Stand.of_body Bd
  have e0 : s₁.heap = h0 := by rw [← hh, Bd.state]; rfl
  have N0 := Fr.nil n0
  have D_ : ∀ {i : Nat} {x}, decode jdk_123_method_3_code i = x → decode cO.code i = x := fun h => hb hby h
  have W0 : ∀ zQ, SS p e below s₁ m 0 #[.val (.ref t), .val (.int (0 : Int32)), .val (.int (1 : Int32)), .unset, .unset] [] zQ → Steps p.tables e below (s₁.setTop (entryFrame m #[(.ref t), (.int (0 : Int32)), (.int (1 : Int32))] 5)) zQ := fun tt kt => castTop (ef_cpos1 m t (0 : Int32) (1 : Int32)) kt
  obtain ⟨cl101, Ar101, q101, S101, M101, H101, F101g⟩ := id V1
  have hin101 : ¬ ((0 : Int32) < 0 ∨ cl101.slots.size ≤ ((0 : Int32)).toNatClampNeg) := inb_of S101 ⟨by decide, by decide⟩
  have hat101 : cl101.slots[((0 : Int32)).toNatClampNeg]? = some (.int w) := Has.at H101 hin101 rfl
  have W102 : ∀ zQ, SS p e below s₁ m 17 #[.val (.ref t), .val (.int (0 : Int32)), .val (.int (1 : Int32)), .val (.int (1 : Int32)), .val (.int (0 : Int32))] [(.int w)] zQ → Steps p.tables e below (s₁.setTop (entryFrame m #[(.ref t), (.int (0 : Int32)), (.int (1 : Int32))] 5)) zQ := by
    intro tt kt
    refine W0 tt ?_
    refine XS.iloadN X0.here hx rfl (D_ d33_0) rfl ?_
    refine XS.iloadN X0.here hx rfl (D_ d33_1) rfl ?_
    refine XS.iadd X0.here hx rfl (D_ d33_2) rfl ?_
    refine XS.istoreN X0.here hx rfl (D_ d33_3) rfl (l' := #[.val (.ref t), .val (.int (0 : Int32)), .val (.int (1 : Int32)), .val (.int (1 : Int32)), .unset]) rfl ?_
    refine XS.iloadN X0.here hx rfl (D_ d33_4) rfl ?_
    refine XS.istore X0.here hx rfl (D_ d33_5) rfl (l' := #[.val (.ref t), .val (.int (0 : Int32)), .val (.int (1 : Int32)), .val (.int (1 : Int32)), .val (.int (0 : Int32))]) rfl ?_
    refine XS.iload X0.here hx rfl (D_ d33_7) rfl ?_
    refine XS.iloadN X0.here hx rfl (D_ d33_9) rfl ?_
    refine XS.icmpNo X0.here hx rfl (D_ d33_10) rfl (tlt (by decide)).2.1 ?_
    refine XS.aloadN X0.here hx rfl (D_ d33_13) rfl rfl ?_
    refine XS.iload X0.here hx rfl (D_ d33_14) rfl ?_
    refine X0.baloadBytes hx (j := (0 : Int32)) (v := (.int w)) (by first | exact Ar101.1 | (rw [e0]; exact Ar101.1)) (State.isArrayOf_alike hZ.alike Ar101.2.1) Ar101.2.2 hin101 hat101 (g := (mkF m 16 #[.val (.ref t), .val (.int (0 : Int32)), .val (.int (1 : Int32)), .val (.int (1 : Int32)), .val (.int (0 : Int32))] [(.int (0 : Int32)), (.ref t)])) rfl rfl (D_ d33_16) _ ?_
    exact kt
  by_cases hc103 : w < (0 : Int32)
  ·
    have W104 : ∀ zQ, SS p e below s₁ m 24 #[.val (.ref t), .val (.int (0 : Int32)), .val (.int (1 : Int32)), .val (.int (1 : Int32)), .val (.int (0 : Int32))] [(.int (0 : Int32))] zQ → Steps p.tables e below (s₁.setTop (entryFrame m #[(.ref t), (.int (0 : Int32)), (.int (1 : Int32))] 5)) zQ := by
      intro tt kt
      refine W102 tt ?_
      refine XS.ifNo X0.here hx rfl (D_ d33_17) rfl ((if0 _ _).trans (tlt hc103).2.1) ?_
      refine XS.iload X0.here hx rfl (D_ d33_20) rfl ?_
      refine XS.iloadN X0.here hx rfl (D_ d33_22) rfl ?_
      refine XS.isub X0.here hx rfl (D_ d33_23) rfl ?_
      exact kt
    obtain ⟨fs, hr, hrun, hended, hW, hsame⟩ := X0.leave (v := some (.int (0 : Int32))) (fun h => by rw [Bd.returns] at h; cases h)
    refine ⟨_, _, W104 _ (retI X0 hx Bd.returns (D_ d33_24) hr), hrun, hended, _, _, rfl, ?_, ⟨_, rfl⟩, hW, hsame.mono (by decide) (by decide)⟩
    show Q_cpos1 Z t kb w h0 n0 _ s₁.heap _
    rw [e0]
    exact ⟨(by rw [if_pos hc103]; first | done | rfl), N0, rfl⟩
  ·
    have W105 : ∀ zQ, SS p e below s₁ m 32 #[.val (.ref t), .val (.int (0 : Int32)), .val (.int (1 : Int32)), .val (.int (1 : Int32)), .val (.int (1 : Int32))] [(.int (1 : Int32))] zQ → Steps p.tables e below (s₁.setTop (entryFrame m #[(.ref t), (.int (0 : Int32)), (.int (1 : Int32))] 5)) zQ := by
      intro tt kt
      refine W102 tt ?_
      refine XS.ifYes X0.here hx rfl (pc0 := 17) (pc' := 25) rfl (D_ d33_17) rfl ((if0 _ _).trans (flt hc103).2.1) (by decide) (by decide) ?_
      refine XS.iinc X0.here hx rfl (D_ d33_25) rfl (l' := #[.val (.ref t), .val (.int (0 : Int32)), .val (.int (1 : Int32)), .val (.int (1 : Int32)), .val (.int (1 : Int32))]) rfl ?_
      refine XS.goto X0.here hx rfl (pc0 := 28) (pc' := 7) rfl (D_ d33_28) (by decide) (by decide) ?_
      refine XS.iload X0.here hx rfl (D_ d33_7) rfl ?_
      refine XS.iloadN X0.here hx rfl (D_ d33_9) rfl ?_
      refine XS.icmpYes X0.here hx rfl (pc0 := 10) (pc' := 31) rfl (D_ d33_10) rfl (flt (by decide)).2.1 (by decide) (by decide) ?_
      refine XS.iloadN X0.here hx rfl (D_ d33_31) rfl ?_
      exact kt
    obtain ⟨fs, hr, hrun, hended, hW, hsame⟩ := X0.leave (v := some (.int (1 : Int32))) (fun h => by rw [Bd.returns] at h; cases h)
    refine ⟨_, _, W105 _ (retI X0 hx Bd.returns (D_ d33_32) hr), hrun, hended, _, _, rfl, ?_, ⟨_, rfl⟩, hW, hsame.mono (by decide) (by decide)⟩
    show Q_cpos1 Z t kb w h0 n0 _ s₁.heap _
    rw [e0]
    exact ⟨(by rw [if_neg hc103]; first | done | rfl), N0, rfl⟩
def Q_hneg0 (Z : State) (t : Addr) (kb : ClassId) (h0 : Heap) (n0 : Nat) (vQ_ : Option Value) (hQ_ : Heap) (LQ_ : List Loc) : Prop := vQ_ = some (.int (0 : Int32)) ∧ Fr n0 LQ_ ∧ hQ_ = h0
theorem rm_hneg0 (l : Launch) (Z : State) (a0 : Array Value) (hw : HW a0 Z) (ws : List Jvm.Cond) (t : Addr) (kb : ClassId) (h0 : Heap) (n0 : Nat) (Z0 : n0 ≤ h0.size) (V1 : Arv Z h0 t kb .byte (0 : Int32) [] (.int (0 : Int32))) :
    CT l yn34 (Jvm.Cond.code yn34 jdk_123_method_2_code 3 (some .boolean) :: ws) (⟨1, 0, 0, 16⟩ : Room) #[(.ref t), (.int (0 : Int32)), (.int (0 : Int32))] Z h0 (Q_hneg0 Z t kb h0 n0) := by
  refine MetFree.of_bodySF (plainFor_of_name pn_java_lang_StringCoding) hisR ?_
  intro p e s m args below meth cO s₁ Bd hml hP hK
  obtain ⟨rfl, hZ, hh⟩ := hP
  have hx := Bd.exec
  have hby := Bd.bytes
  have hown : s.vm.findClass "java/lang/StringCoding" = some m.cls := findClass_of_methodNamed Bd.named
  have hnm := (name_of_methodNamed Bd.named Bd.method).1
  have X0 : Stand p l e (⟨1, 0, 0, 16⟩ : Room) s m #[(.ref t), (.int (0 : Int32)), (.int (0 : Int32))] below meth cO s₁ [] 0 0 := Stand.of_body Bd
  have e0 : s₁.heap = h0 := by rw [← hh, Bd.state]; rfl
  have N0 := Fr.nil n0
  have D_ : ∀ {i : Nat} {x}, decode jdk_123_method_2_code i = x → decode cO.code i = x := fun h => hb hby h
  have W0 : ∀ zQ, SS p e below s₁ m 0 #[.val (.ref t), .val (.int (0 : Int32)), .val (.int (0 : Int32))] [] zQ → Steps p.tables e below (s₁.setTop (entryFrame m #[(.ref t), (.int (0 : Int32)), (.int (0 : Int32))] 3)) zQ := fun tt kt => castTop (ef_hneg0 m t (0 : Int32) (0 : Int32)) kt
  obtain ⟨_, _, ⟨T101, L101, k101, n101⟩, -, X101, ⟨Lc101, hQ101, l101, y101, z101⟩, st101⟩ := Jvm.LawKit.callS X0 hx (y := yn33) hown (mvT hZ (w178 hw)) (mvT hZ (w179 hw)) (mvT hZ (w176 hw)) (mvT hZ (w180 hw)) (by decide) (backOf (W := 0) (rm_cpos0 l Z a0 hw [] t kb h0 n0 Z0 V1) hZ (w180 hw) (w176 hw) (by decide) (by decide)) (g := (mkF m 3 #[.val (.ref t), .val (.int (0 : Int32)), .val (.int (0 : Int32))] [(.int (0 : Int32)), (.int (0 : Int32)), (.ref t)])) rfl (by rw [hml]; rfl) (argsL := [(.ref t), (.int (0 : Int32)), (.int (0 : Int32))]) (rest := []) (lenOf pd21 rfl) rfl (wq rfl) (D_ d34_3) (fun _ _ => ⟨rfl, e0, (nb rfl), (nb rfl)⟩)
  dsimp only [Pt.U, Pt.locs, Pt.cells, Pt.slots] at X101 l101 y101 z101 st101 hQ101
  subst l101 y101 z101
  obtain ⟨rfl, Nq101, eq101⟩ := hQ101
  have N101 := Fr.app N0 Nq101
  have W102 : ∀ zQ, SS p e below T101 m 15 #[.val (.ref t), .val (.int (0 : Int32)), .val (.int (0 : Int32))] [(.int (0 : Int32))] zQ → Steps p.tables e below (s₁.setTop (entryFrame m #[(.ref t), (.int (0 : Int32)), (.int (0 : Int32))] 3)) zQ := by
    intro tt kt
    refine W0 tt ?_
    refine XS.aloadN X0.here hx rfl (D_ d34_0) rfl rfl ?_
    refine XS.iloadN X0.here hx rfl (D_ d34_1) rfl ?_
    refine XS.iloadN X0.here hx rfl (D_ d34_2) rfl ?_
    refine st101 _ ?_
    refine XS.iloadN X101.here hx rfl (D_ d34_6) rfl ?_
    refine XS.icmpYes X101.here hx rfl (pc0 := 7) (pc' := 14) rfl (D_ d34_7) rfl (teq (by decide)).1 (by decide) (by decide) ?_
    refine XS.iconst X101.here hx rfl (D_ d34_14) ?_
    exact kt
  obtain ⟨fs, hr, hrun, hended, hW, hsame⟩ := X101.leave (v := some (.int (nar .boolean (0 : Int32)))) (fun h => by rw [Bd.returns] at h; cases h)
  refine ⟨_, _, W102 _ (retN X101 hx (t := .boolean) Bd.returns (by simp) (D_ d34_15) hr), hrun, hended, _, _, rfl, ?_, ⟨_, rfl⟩, hW, hsame.mono (by decide) (by decide)⟩
  show Q_hneg0 Z t kb h0 n0 _ T101.heap _
  rw [eq101]
  exact ⟨rfl, N101, rfl⟩
def Q_hneg1 (Z : State) (t : Addr) (kb : ClassId) (w : Int32) (h0 : Heap) (n0 : Nat) (vQ_ : Option Value) (hQ_ : Heap) (LQ_ : List Loc) : Prop := vQ_ = some (.int (if w < (0 : Int32) then (1 : Int32) else (0 : Int32))) ∧ Fr n0 LQ_ ∧ hQ_ = h0
theorem rm_hneg1 (l : Launch) (Z : State) (a0 : Array Value) (hw : HW a0 Z) (ws : List Jvm.Cond) (t : Addr) (kb : ClassId) (w : Int32) (h0 : Heap) (n0 : Nat) (Z0 : n0 ≤ h0.size) (V1 : Arv Z h0 t kb .byte (1 : Int32) [(.int w)] (.int (0 : Int32))) :
    CT l yn34 (Jvm.Cond.code yn34 jdk_123_method_2_code 3 (some .boolean) :: ws) (⟨1, 0, 0, 16⟩ : Room) #[(.ref t), (.int (0 : Int32)), (.int (1 : Int32))] Z h0 (Q_hneg1 Z t kb w h0 n0) := by
  refine MetFree.of_bodySF (plainFor_of_name pn_java_lang_StringCoding) hisR ?_
  intro p e s m args below meth cO s₁ Bd hml hP hK
  obtain ⟨rfl, hZ, hh⟩ := hP
  have hx := Bd.exec
  have hby := Bd.bytes
  have hown : s.vm.findClass "java/lang/StringCoding" = some m.cls := findClass_of_methodNamed Bd.named
  have hnm := (name_of_methodNamed Bd.named Bd.method).1
  have X0 : Stand p l e (⟨1, 0, 0, 16⟩ : Room) s m #[(.ref t), (.int (0 : Int32)), (.int (1 : Int32))] below meth cO s₁ [] 0 0 := Stand.of_body Bd
  have e0 : s₁.heap = h0 := by rw [← hh, Bd.state]; rfl
  have N0 := Fr.nil n0
  have D_ : ∀ {i : Nat} {x}, decode jdk_123_method_2_code i = x → decode cO.code i = x := fun h => hb hby h
  have W0 : ∀ zQ, SS p e below s₁ m 0 #[.val (.ref t), .val (.int (0 : Int32)), .val (.int (1 : Int32))] [] zQ → Steps p.tables e below (s₁.setTop (entryFrame m #[(.ref t), (.int (0 : Int32)), (.int (1 : Int32))] 3)) zQ := fun tt kt => castTop (ef_hneg1 m t (0 : Int32) (1 : Int32)) kt
  obtain ⟨_, _, ⟨T101, L101, k101, n101⟩, -, X101, ⟨Lc101, hQ101, l101, y101, z101⟩, st101⟩ := Jvm.LawKit.callS X0 hx (y := yn33) hown (mvT hZ (w178 hw)) (mvT hZ (w179 hw)) (mvT hZ (w176 hw)) (mvT hZ (w180 hw)) (by decide) (backOf (W := 0) (rm_cpos1 l Z a0 hw [] t kb w h0 n0 Z0 V1) hZ (w180 hw) (w176 hw) (by decide) (by decide)) (g := (mkF m 3 #[.val (.ref t), .val (.int (0 : Int32)), .val (.int (1 : Int32))] [(.int (1 : Int32)), (.int (0 : Int32)), (.ref t)])) rfl (by rw [hml]; rfl) (argsL := [(.ref t), (.int (0 : Int32)), (.int (1 : Int32))]) (rest := []) (lenOf pd21 rfl) rfl (wq rfl) (D_ d34_3) (fun _ _ => ⟨rfl, e0, (nb rfl), (nb rfl)⟩)
  dsimp only [Pt.U, Pt.locs, Pt.cells, Pt.slots] at X101 l101 y101 z101 st101 hQ101
  subst l101 y101 z101
  obtain ⟨rfl, Nq101, eq101⟩ := hQ101
  have N101 := Fr.app N0 Nq101
  have W102 : ∀ zQ, SS p e below T101 m 6 #[.val (.ref t), .val (.int (0 : Int32)), .val (.int (1 : Int32))] [(.int (if w < (0 : Int32) then (0 : Int32) else (1 : Int32)))] zQ → Steps p.tables e below (s₁.setTop (entryFrame m #[(.ref t), (.int (0 : Int32)), (.int (1 : Int32))] 3)) zQ := by
    intro tt kt
    refine W0 tt ?_
    refine XS.aloadN X0.here hx rfl (D_ d34_0) rfl rfl ?_
    refine XS.iloadN X0.here hx rfl (D_ d34_1) rfl ?_
    refine XS.iloadN X0.here hx rfl (D_ d34_2) rfl ?_
    refine st101 _ ?_
    exact kt
  by_cases hc103 : w < (0 : Int32)
  ·
    have W104 : ∀ zQ, SS p e below T101 m 15 #[.val (.ref t), .val (.int (0 : Int32)), .val (.int (1 : Int32))] [(.int (1 : Int32))] zQ → Steps p.tables e below (s₁.setTop (entryFrame m #[(.ref t), (.int (0 : Int32)), (.int (1 : Int32))] 3)) zQ := by
      intro tt kt
      refine W102 tt ?_
      rw [show (if w < (0 : Int32) then (0 : Int32) else (1 : Int32)) = (0 : Int32) from if_pos hc103]
      refine XS.iloadN X101.here hx rfl (D_ d34_6) rfl ?_
      refine XS.icmpNo X101.here hx rfl (D_ d34_7) rfl (feq (by decide)).1 ?_
      refine XS.iconst X101.here hx rfl (D_ d34_10) ?_
      refine XS.goto X101.here hx rfl (pc0 := 11) (pc' := 15) rfl (D_ d34_11) (by decide) (by decide) ?_
      exact kt
    obtain ⟨fs, hr, hrun, hended, hW, hsame⟩ := X101.leave (v := some (.int (nar .boolean (1 : Int32)))) (fun h => by rw [Bd.returns] at h; cases h)
    refine ⟨_, _, W104 _ (retN X101 hx (t := .boolean) Bd.returns (by simp) (D_ d34_15) hr), hrun, hended, _, _, rfl, ?_, ⟨_, rfl⟩, hW, hsame.mono (by decide) (by decide)⟩
    show Q_hneg1 Z t kb w h0 n0 _ T101.heap _
    rw [eq101]
    exact ⟨(by rw [if_pos hc103]; first | done | rfl), N101, rfl⟩
  ·
    have W105 : ∀ zQ, SS p e below T101 m 15 #[.val (.ref t), .val (.int (0 : Int32)), .val (.int (1 : Int32))] [(.int (0 : Int32))] zQ → Steps p.tables e below (s₁.setTop (entryFrame m #[(.ref t), (.int (0 : Int32)), (.int (1 : Int32))] 3)) zQ := by
      intro tt kt
      refine W102 tt ?_
      rw [show (if w < (0 : Int32) then (0 : Int32) else (1 : Int32)) = (1 : Int32) from if_neg hc103]
      refine XS.iloadN X101.here hx rfl (D_ d34_6) rfl ?_
      refine XS.icmpYes X101.here hx rfl (pc0 := 7) (pc' := 14) rfl (D_ d34_7) rfl (teq (by decide)).1 (by decide) (by decide) ?_
      refine XS.iconst X101.here hx rfl (D_ d34_14) ?_
      exact kt
    obtain ⟨fs, hr, hrun, hended, hW, hsame⟩ := X101.leave (v := some (.int (nar .boolean (0 : Int32)))) (fun h => by rw [Bd.returns] at h; cases h)
    refine ⟨_, _, W105 _ (retN X101 hx (t := .boolean) Bd.returns (by simp) (D_ d34_15) hr), hrun, hended, _, _, rfl, ?_, ⟨_, rfl⟩, hW, hsame.mono (by decide) (by decide)⟩
    show Q_hneg1 Z t kb w h0 n0 _ T101.heap _
    rw [eq101]
    exact ⟨(by rw [if_neg hc103]; first | done | rfl), N101, rfl⟩
def Q_nbl1 (Z : State)  (h0 : Heap) (n0 : Nat) (vQ_ : Option Value) (hQ_ : Heap) (LQ_ : List Loc) : Prop := vQ_ = some (.int (2 : Int32)) ∧ Fr n0 LQ_ ∧ hQ_ = h0
theorem rm_nbl1 (l : Launch) (Z : State) (a0 : Array Value) (hw : HW a0 Z) (ws : List Jvm.Cond)  (h0 : Heap) (n0 : Nat) (Z0 : n0 ≤ h0.size)  :
    CT l yn35 (Jvm.Cond.code yn35 jdk_52_method_3_code 1 (some .int) :: ws) (⟨0, 0, 0, 0⟩ : Room) #[(.int (1 : Int32))] Z h0 (Q_nbl1 Z  h0 n0) := by
  refine MetFree.of_bodySF (plainFor_of_name pn_java_lang_StringUTF16) hisR ?_
  intro p e s m args below meth cO s₁ Bd hml hP hK
  obtain ⟨rfl, hZ, hh⟩ := hP
  have hx := Bd.exec
  have hby := Bd.bytes
  have hown : s.vm.findClass "java/lang/StringUTF16" = some m.cls := findClass_of_methodNamed Bd.named
  have hnm := (name_of_methodNamed Bd.named Bd.method).1
  have X0 : Stand p l e (⟨0, 0, 0, 0⟩ : Room) s m #[(.int (1 : Int32))] below meth cO s₁ [] 0 0 := Stand.of_body Bd
  have e0 : s₁.heap = h0 := by rw [← hh, Bd.state]; rfl
  have N0 := Fr.nil n0
  have D_ : ∀ {i : Nat} {x}, decode jdk_52_method_3_code i = x → decode cO.code i = x := fun h => hb hby h
  have W0 : ∀ zQ, SS p e below s₁ m 0 #[.val (.int (1 : Int32))] [] zQ → Steps p.tables e below (s₁.setTop (entryFrame m #[(.int (1 : Int32))] 1)) zQ := fun tt kt => castTop (ef_nbl1 m (1 : Int32)) kt
  have W101 : ∀ zQ, SS p e below s₁ m 58 #[.val (.int (1 : Int32))] [(.int (2 : Int32))] zQ → Steps p.tables e below (s₁.setTop (entryFrame m #[(.int (1 : Int32))] 1)) zQ := by
    intro tt kt
    refine W0 tt ?_
    refine XS.iloadN X0.here hx rfl (D_ d35_0) rfl ?_
    refine XS.ifYes X0.here hx rfl (pc0 := 1) (pc' := 12) rfl (D_ d35_1) rfl ((if0 _ _).trans (flt (by decide)).2.1) (by decide) (by decide) ?_
    refine XS.iloadN X0.here hx rfl (D_ d35_12) rfl ?_
    refine X0.ldcInt hx hown (mvT hZ (w188 hw)) (g := (mkF m 13 #[.val (.int (1 : Int32))] [(.int (1 : Int32))])) rfl (D_ d35_13) _ ?_
    refine XS.icmpYes X0.here hx rfl (pc0 := 15) (pc' := 55) rfl (D_ d35_15) rfl (tlt (by decide)).1 (by decide) (by decide) ?_
    refine XS.iloadN X0.here hx rfl (D_ d35_55) rfl ?_
    refine XS.iconst X0.here hx rfl (D_ d35_56) ?_
    refine XS.ishl X0.here hx rfl (D_ d35_57) rfl ?_
    show SS p e below s₁ m 58 #[.val (.int (1 : Int32))] [(.int ((1 : Int32) <<< ((1 : Int32) &&& 31)))] _
    rw [show ((1 : Int32) <<< ((1 : Int32) &&& 31)) = (2 : Int32) from (by decide)]
    exact kt
  obtain ⟨fs, hr, hrun, hended, hW, hsame⟩ := X0.leave (v := some (.int (2 : Int32))) (fun h => by rw [Bd.returns] at h; cases h)
  refine ⟨_, _, W101 _ (retI X0 hx Bd.returns (D_ d35_58) hr), hrun, hended, _, _, rfl, ?_, ⟨_, rfl⟩, hW, hsame.mono (by decide) (by decide)⟩
  show Q_nbl1 Z  h0 n0 _ s₁.heap _
  rw [e0]
  exact ⟨rfl, N0, rfl⟩
def Q_nbf1 (Z : State)  (h0 : Heap) (n0 : Nat) (vQ_ : Option Value) (hQ_ : Heap) (LQ_ : List Loc) : Prop := ∃ r : Addr, ∃ kr : ClassId, vQ_ = some (.ref r) ∧ Fr n0 LQ_ ∧ Keep h0 hQ_ [] ∧ h0.size ≤ r ∧ Arv Z hQ_ r kr .byte (2 : Int32) [(.int (0 : Int32)), (.int (0 : Int32))] (.int (0 : Int32))
theorem rm_nbf1 (l : Launch) (Z : State) (a0 : Array Value) (hw : HW a0 Z) (ws : List Jvm.Cond)  (h0 : Heap) (n0 : Nat) (Z0 : n0 ≤ h0.size)  :
    CT l yn36 (Jvm.Cond.code yn36 jdk_52_method_2_code 1 (some (.array .byte)) :: ws) (⟨1, 1, 2, 12⟩ : Room) #[(.int (1 : Int32))] Z h0 (Q_nbf1 Z  h0 n0) := by
  refine MetFree.of_bodySF (plainFor_of_name pn_java_lang_StringUTF16) hisR ?_
  intro p e s m args below meth cO s₁ Bd hml hP hK
  obtain ⟨rfl, hZ, hh⟩ := hP
  have hx := Bd.exec
  have hby := Bd.bytes
  have hown : s.vm.findClass "java/lang/StringUTF16" = some m.cls := findClass_of_methodNamed Bd.named
  have hnm := (name_of_methodNamed Bd.named Bd.method).1
  have X0 : Stand p l e (⟨1, 1, 2, 12⟩ : Room) s m #[(.int (1 : Int32))] below meth cO s₁ [] 0 0 := Stand.of_body Bd
  have e0 : s₁.heap = h0 := by rw [← hh, Bd.state]; rfl
  have N0 := Fr.nil n0
  have D_ : ∀ {i : Nat} {x}, decode jdk_52_method_2_code i = x → decode cO.code i = x := fun h => hb hby h
  have W0 : ∀ zQ, SS p e below s₁ m 0 #[.val (.int (1 : Int32))] [] zQ → Steps p.tables e below (s₁.setTop (entryFrame m #[(.int (1 : Int32))] 1)) zQ := fun tt kt => castTop (ef_nbf1 m (1 : Int32)) kt
  obtain ⟨_, _, ⟨T101, L101, k101, n101⟩, -, X101, ⟨Lc101, hQ101, l101, y101, z101⟩, st101⟩ := Jvm.LawKit.callS X0 hx (y := yn35) hown (mvT hZ (w185 hw)) (mvT hZ (w186 hw)) (mvT hZ (w183 hw)) (mvT hZ (w187 hw)) (by decide) (backOf (W := 0) (rm_nbl1 l Z a0 hw []  h0 n0 Z0 ) hZ (w187 hw) (w183 hw) (by decide) (by decide)) (g := (mkF m 1 #[.val (.int (1 : Int32))] [(.int (1 : Int32))])) rfl (by rw [hml]; rfl) (argsL := [(.int (1 : Int32))]) (rest := []) (lenOf pd5 rfl) rfl (wq rfl) (D_ d36_1) (fun _ _ => ⟨rfl, e0, (nb rfl), (nb rfl)⟩)
  dsimp only [Pt.U, Pt.locs, Pt.cells, Pt.slots] at X101 l101 y101 z101 st101 hQ101
  subst l101 y101 z101
  obtain ⟨rfl, Nq101, eq101⟩ := hQ101
  have N101 := Fr.app N0 Nq101
  obtain ⟨T102, h102, k102, X102, e102, E102, A102, st102⟩ := newP X101 hx hZ (aty := .byte) (w24 hw) eq101 (g := (mkF m 4 #[.val (.int (1 : Int32))] [(.int (2 : Int32))])) rfl (D_ d36_4) (n := (2 : Int32)) rfl (by decide) (cap := 2) (by decide) (by decide) (by decide) (by decide)
  obtain ⟨b102, g102⟩ : ∃ z, z = h0.size := ⟨_, rfl⟩
  rw [← g102] at A102 st102
  have K102 := (Keep.refl h0 []).ext E102
  have G102 : Arv Z h102 b102 k102 .byte (2 : Int32) [(.int (0 : Int32)), (.int (0 : Int32))] (.int (0 : Int32)) := (Arv.new A102 (by decide)).pad (pad_rep [] (.int (0 : Int32)) 2)
  have W103 : ∀ zQ, SS p e below T102 m 6 #[.val (.int (1 : Int32))] [(.ref b102)] zQ → Steps p.tables e below (s₁.setTop (entryFrame m #[(.int (1 : Int32))] 1)) zQ := by
    intro tt kt
    refine W0 tt ?_
    refine XS.iloadN X0.here hx rfl (D_ d36_0) rfl ?_
    refine st101 _ ?_
    refine st102 _ ?_
    exact kt
  obtain ⟨fs, hr, hrun, hended, hW, hsame⟩ := X102.leave (v := some (.ref b102)) (fun h => by rw [Bd.returns] at h; cases h)
  refine ⟨_, _, W103 _ (own_retR X102 hx Bd.returns rfl rfl (D_ d36_6) hr), hrun, hended, _, _, rfl, ?_, ⟨_, rfl⟩, hW, hsame.mono (by decide) (by decide)⟩
  show Q_nbf1 Z  h0 n0 _ T102.heap _
  rw [e102]
  exact ⟨b102, k102, rfl, N101, (Keep.trans (Keep.refl h0 []) K102 all0), (Nat.le_of_eq g102.symm), G102⟩
def Q_encU0 (Z : State) (t : Addr) (kb : ClassId) (h0 : Heap) (n0 : Nat) (vQ_ : Option Value) (hQ_ : Heap) (LQ_ : List Loc) : Prop := ∃ r : Addr, ∃ kr : ClassId, ∃ ys : List Int32, vQ_ = some (.ref r) ∧ Fr n0 LQ_ ∧ Keep h0 hQ_ [] ∧ h0.size ≤ r ∧ Arv Z hQ_ r kr .byte (Int32.ofNat ys.length) (ys.map Value.int) (.int (0 : Int32)) ∧ ys.length ≤ 2
theorem rm_encU0 (l : Launch) (Z : State) (a0 : Array Value) (hw : HW a0 Z) (ws : List Jvm.Cond) (t : Addr) (kb : ClassId) (h0 : Heap) (n0 : Nat) (Z0 : n0 ≤ h0.size) (V1 : Arv Z h0 t kb .byte (0 : Int32) [] (.int (0 : Int32))) (E1 : Exa Z h0 t "[B") :
    CT l yn37 (Jvm.Cond.code yn37 jdk_42_method_46_code 9 (some (.array .byte)) :: ws) (⟨2, 1, 0, 30⟩ : Room) #[(.int (0 : Int32)), (.ref t), (.int (1 : Int32))] Z h0 (Q_encU0 Z t kb h0 n0) := by
  refine MetFree.of_bodySF (plainFor_of_name pn_java_lang_String) hisR ?_
  intro p e s m args below meth cO s₁ Bd hml hP hK
  obtain ⟨rfl, hZ, hh⟩ := hP
  have hx := Bd.exec
  have hby := Bd.bytes
  have hown : s.vm.findClass "java/lang/String" = some m.cls := findClass_of_methodNamed Bd.named
  have hnm := (name_of_methodNamed Bd.named Bd.method).1
  have X0 : Stand p l e (⟨2, 1, 0, 30⟩ : Room) s m #[(.int (0 : Int32)), (.ref t), (.int (1 : Int32))] below meth cO s₁ [] 0 0 := Stand.of_body Bd
  have e0 : s₁.heap = h0 := by rw [← hh, Bd.state]; rfl
  have N0 := Fr.nil n0
  have D_ : ∀ {i : Nat} {x}, decode jdk_42_method_46_code i = x → decode cO.code i = x := fun h => hb hby h
  have W0 : ∀ zQ, SS p e below s₁ m 0 #[.val (.int (0 : Int32)), .val (.ref t), .val (.int (1 : Int32)), .unset, .unset, .unset, .unset, .unset, .unset] [] zQ → Steps p.tables e below (s₁.setTop (entryFrame m #[(.int (0 : Int32)), (.ref t), (.int (1 : Int32))] 9)) zQ := fun tt kt => castTop (ef_encU0 m (0 : Int32) t (1 : Int32)) kt
  obtain ⟨cl101, Ar101, -, S101, M101, -, -⟩ := id V1
  obtain ⟨_, _, ⟨T102, L102, k102, n102⟩, -, X102, ⟨Lc102, hQ102, l102, y102, z102⟩, st102⟩ := Jvm.LawKit.callS X0 hx (y := yn34) hown (mvT hZ (w174 hw)) (mvT hZ (w175 hw)) (mvT hZ (w176 hw)) (mvT hZ (w177 hw)) (by decide) (backOf (W := 0) (rm_hneg0 l Z a0 hw [] t kb h0 n0 Z0 V1) hZ (w177 hw) (w176 hw) (by decide) (by decide)) (g := (mkF m 15 #[.val (.int (0 : Int32)), .val (.ref t), .val (.int (1 : Int32)), .unset, .unset, .unset, .unset, .unset, .unset] [(.int (0 : Int32)), (.int (0 : Int32)), (.ref t)])) rfl (by rw [hml]; rfl) (argsL := [(.ref t), (.int (0 : Int32)), (.int (0 : Int32))]) (rest := []) (lenOf pd22 rfl) rfl (wq rfl) (D_ d37_15) (fun _ _ => ⟨rfl, e0, (nb rfl), (nb rfl)⟩)
  dsimp only [Pt.U, Pt.locs, Pt.cells, Pt.slots] at X102 l102 y102 z102 st102 hQ102
  subst l102 y102 z102
  obtain ⟨rfl, Nq102, eq102⟩ := hQ102
  have N102 := Fr.app N0 Nq102
  obtain ⟨T103, h103, X103, e103, E103, A103, C103, st103⟩ := cloneH X102 hx hZ hown (w290 hw) (w291 hw) (w295 hw) (w293 hw) (w294 hw) (w296 hw) eq102 (Arv.arh V1) E1 (g := (mkF m 22 #[.val (.int (0 : Int32)), .val (.ref t), .val (.int (1 : Int32)), .unset, .unset, .unset, .unset, .unset, .unset] [(.ref t)])) rfl (by rw [hml]; rfl) rfl (D_ d37_22) (by decide) (W := 0) (cap := 0) (by show 2 * 0 + _ ≤ _; exact Nat.le_of_eq rfl) (by decide) (by decide) (by decide) (by decide)
  obtain ⟨b103, g103⟩ : ∃ z, z = h0.size := ⟨_, rfl⟩
  rw [← g103] at A103 C103 st103
  have K103 := (Keep.refl h0 []).ext E103
  have G103 : Arv Z h103 b103 kb .byte (0 : Int32) [] (.int (0 : Int32)) := A103
  obtain ⟨T104, X104, e104, st104⟩ := castY X103 hx hZ hown (w297 hw) e103 (Ins.self C103) (g := (mkF m 25 #[.val (.int (0 : Int32)), .val (.ref t), .val (.int (1 : Int32)), .unset, .unset, .unset, .unset, .unset, .unset] [(.ref b103)])) rfl rfl (D_ d37_25)
  have W105 : ∀ zQ, SS p e below T104 m 28 #[.val (.int (0 : Int32)), .val (.ref t), .val (.int (1 : Int32)), .unset, .unset, .unset, .unset, .unset, .unset] [(.ref b103)] zQ → Steps p.tables e below (s₁.setTop (entryFrame m #[(.int (0 : Int32)), (.ref t), (.int (1 : Int32))] 9)) zQ := by
    intro tt kt
    refine W0 tt ?_
    refine XS.iloadN X0.here hx rfl (D_ d37_0) rfl ?_
    refine XS.iconst X0.here hx rfl (D_ d37_1) ?_
    refine XS.icmpYes X0.here hx rfl (pc0 := 2) (pc' := 11) rfl (D_ d37_2) rfl (feq (by decide)).2 (by decide) (by decide) ?_
    refine XS.aloadN X0.here hx rfl (D_ d37_11) rfl rfl ?_
    refine XS.iconst X0.here hx rfl (D_ d37_12) ?_
    refine XS.aloadN X0.here hx rfl (D_ d37_13) rfl rfl ?_
    refine X0.arraylength hx (by first | exact Ar101.1 | (rw [e0]; exact Ar101.1)) (State.isArrayOf_alike hZ.alike Ar101.2.1) (g := (mkF m 14 #[.val (.int (0 : Int32)), .val (.ref t), .val (.int (1 : Int32)), .unset, .unset, .unset, .unset, .unset, .unset] [(.ref t), (.int (0 : Int32)), (.ref t)])) rfl rfl (D_ d37_14) _ ?_
    rw [len_of S101 M101]
    refine st102 _ ?_
    refine XS.ifNo X102.here hx rfl (D_ d37_18) rfl ((if0 _ _).trans (teq (by decide)).2) ?_
    refine XS.aloadN X102.here hx rfl (D_ d37_21) rfl rfl ?_
    refine st103 _ ?_
    refine st104 _ ?_
    exact kt
  have hR106 : Arv Z h103 b103 kb .byte (Int32.ofNat ([] : List Int32).length) (([] : List Int32).map Value.int) (.int (0 : Int32)) := G103
  obtain ⟨fs, hr, hrun, hended, hW, hsame⟩ := X104.leave (v := some (.ref b103)) (fun h => by rw [Bd.returns] at h; cases h)
  refine ⟨_, _, W105 _ (own_retR X104 hx Bd.returns rfl rfl (D_ d37_28) hr), hrun, hended, _, _, rfl, ?_, ⟨_, rfl⟩, hW, hsame.mono (by decide) (by decide)⟩
  show Q_encU0 Z t kb h0 n0 _ T104.heap _
  rw [e104]
  exact ⟨b103, kb, ([] : List Int32), rfl, N102, (Keep.trans (Keep.refl h0 []) K103 all0), (Nat.le_of_eq g103.symm), hR106, (Nat.le_of_ble_eq_true rfl)⟩
def Q_encU1 (Z : State) (t : Addr) (kb : ClassId) (w : Int32) (h0 : Heap) (n0 : Nat) (vQ_ : Option Value) (hQ_ : Heap) (LQ_ : List Loc) : Prop := ∃ r : Addr, ∃ kr : ClassId, ∃ ys : List Int32, vQ_ = some (.ref r) ∧ Fr n0 LQ_ ∧ Keep h0 hQ_ [] ∧ h0.size ≤ r ∧ Arv Z hQ_ r kr .byte (Int32.ofNat ys.length) (ys.map Value.int) (.int (0 : Int32)) ∧ ys.length ≤ 2
theorem rm_encU1 (l : Launch) (Z : State) (a0 : Array Value) (hw : HW a0 Z) (ws : List Jvm.Cond) (t : Addr) (kb : ClassId) (w : Int32) (h0 : Heap) (n0 : Nat) (Z0 : n0 ≤ h0.size) (V1 : Arv Z h0 t kb .byte (1 : Int32) [(.int w)] (.int (0 : Int32))) (E1 : Exa Z h0 t "[B") :
    CT l yn37 (Jvm.Cond.code yn37 jdk_42_method_46_code 9 (some (.array .byte)) :: ws) (⟨2, 1, 2, 30⟩ : Room) #[(.int (0 : Int32)), (.ref t), (.int (1 : Int32))] Z h0 (Q_encU1 Z t kb w h0 n0) := by
  refine MetFree.of_bodySF (plainFor_of_name pn_java_lang_String) hisR ?_
  intro p e s m args below meth cO s₁ Bd hml hP hK
  obtain ⟨rfl, hZ, hh⟩ := hP
  have hx := Bd.exec
  have hby := Bd.bytes
  have hown : s.vm.findClass "java/lang/String" = some m.cls := findClass_of_methodNamed Bd.named
  have hnm := (name_of_methodNamed Bd.named Bd.method).1
  have X0 : Stand p l e (⟨2, 1, 2, 30⟩ : Room) s m #[(.int (0 : Int32)), (.ref t), (.int (1 : Int32))] below meth cO s₁ [] 0 0 := Stand.of_body Bd
  have e0 : s₁.heap = h0 := by rw [← hh, Bd.state]; rfl
  have N0 := Fr.nil n0
  have D_ : ∀ {i : Nat} {x}, decode jdk_42_method_46_code i = x → decode cO.code i = x := fun h => hb hby h
  have W0 : ∀ zQ, SS p e below s₁ m 0 #[.val (.int (0 : Int32)), .val (.ref t), .val (.int (1 : Int32)), .unset, .unset, .unset, .unset, .unset, .unset] [] zQ → Steps p.tables e below (s₁.setTop (entryFrame m #[(.int (0 : Int32)), (.ref t), (.int (1 : Int32))] 9)) zQ := fun tt kt => castTop (ef_encU1 m (0 : Int32) t (1 : Int32)) kt
  obtain ⟨cl101, Ar101, -, S101, M101, -, -⟩ := id V1
  obtain ⟨_, _, ⟨T102, L102, k102, n102⟩, -, X102, ⟨Lc102, hQ102, l102, y102, z102⟩, st102⟩ := Jvm.LawKit.callS X0 hx (y := yn34) hown (mvT hZ (w174 hw)) (mvT hZ (w175 hw)) (mvT hZ (w176 hw)) (mvT hZ (w177 hw)) (by decide) (backOf (W := 0) (rm_hneg1 l Z a0 hw [] t kb w h0 n0 Z0 V1) hZ (w177 hw) (w176 hw) (by decide) (by decide)) (g := (mkF m 15 #[.val (.int (0 : Int32)), .val (.ref t), .val (.int (1 : Int32)), .unset, .unset, .unset, .unset, .unset, .unset] [(.int (1 : Int32)), (.int (0 : Int32)), (.ref t)])) rfl (by rw [hml]; rfl) (argsL := [(.ref t), (.int (0 : Int32)), (.int (1 : Int32))]) (rest := []) (lenOf pd22 rfl) rfl (wq rfl) (D_ d37_15) (fun _ _ => ⟨rfl, e0, (nb rfl), (nb rfl)⟩)
  dsimp only [Pt.U, Pt.locs, Pt.cells, Pt.slots] at X102 l102 y102 z102 st102 hQ102
  subst l102 y102 z102
  obtain ⟨rfl, Nq102, eq102⟩ := hQ102
  have N102 := Fr.app N0 Nq102
  have W103 : ∀ zQ, SS p e below T102 m 18 #[.val (.int (0 : Int32)), .val (.ref t), .val (.int (1 : Int32)), .unset, .unset, .unset, .unset, .unset, .unset] [(.int (if w < (0 : Int32) then (1 : Int32) else (0 : Int32)))] zQ → Steps p.tables e below (s₁.setTop (entryFrame m #[(.int (0 : Int32)), (.ref t), (.int (1 : Int32))] 9)) zQ := by
    intro tt kt
    refine W0 tt ?_
    refine XS.iloadN X0.here hx rfl (D_ d37_0) rfl ?_
    refine XS.iconst X0.here hx rfl (D_ d37_1) ?_
    refine XS.icmpYes X0.here hx rfl (pc0 := 2) (pc' := 11) rfl (D_ d37_2) rfl (feq (by decide)).2 (by decide) (by decide) ?_
    refine XS.aloadN X0.here hx rfl (D_ d37_11) rfl rfl ?_
    refine XS.iconst X0.here hx rfl (D_ d37_12) ?_
    refine XS.aloadN X0.here hx rfl (D_ d37_13) rfl rfl ?_
    refine X0.arraylength hx (by first | exact Ar101.1 | (rw [e0]; exact Ar101.1)) (State.isArrayOf_alike hZ.alike Ar101.2.1) (g := (mkF m 14 #[.val (.int (0 : Int32)), .val (.ref t), .val (.int (1 : Int32)), .unset, .unset, .unset, .unset, .unset, .unset] [(.ref t), (.int (0 : Int32)), (.ref t)])) rfl rfl (D_ d37_14) _ ?_
    rw [len_of S101 M101]
    refine st102 _ ?_
    exact kt
  by_cases hc104 : w < (0 : Int32)
  ·
    obtain ⟨cl105, Ar105, -, S105, M105, -, -⟩ := id V1
    obtain ⟨_, _, ⟨T106, L106, k106, n106⟩, -, X106, ⟨Lc106, hQ106, l106, y106, z106⟩, st106⟩ := Jvm.LawKit.callS X102 hx (y := yn36) hown (mvT hZ (w181 hw)) (mvT hZ (w182 hw)) (mvT hZ (w183 hw)) (mvT hZ (w184 hw)) (by decide) (backOf (W := 0) (rm_nbf1 l Z a0 hw []  h0 n0 Z0 ) hZ (w184 hw) (w183 hw) (by decide) (by decide)) (g := (mkF m 33 #[.val (.int (0 : Int32)), .val (.ref t), .val (.int (1 : Int32)), .val (.int (0 : Int32)), .unset, .unset, .unset, .unset, .unset] [(.int (1 : Int32))])) rfl (by rw [hml]; rfl) (argsL := [(.int (1 : Int32))]) (rest := []) (lenOf pd23 rfl) rfl (wq rfl) (D_ d37_33) (fun _ _ => ⟨rfl, eq102, (nb rfl), (nb rfl)⟩)
    dsimp only [Pt.U, Pt.locs, Pt.cells, Pt.slots] at X106 l106 y106 z106 st106 hQ106
    subst l106 y106 z106
    obtain ⟨r_107, kr_108, rfl, Nq106, K106, P106_0, P106_1⟩ := hQ106
    have N106 := Fr.app N102 Nq106
    have F109 : Arv Z T106.heap t kb .byte (1 : Int32) [(.int w)] (.int (0 : Int32)) := (V1.keep K106 nin0)
    obtain ⟨cl110, Ar110, -, S110, M110, -, -⟩ := id F109
    obtain ⟨cl111, Ar111, q111, S111, M111, H111, F111g⟩ := id F109
    have hin111 : ¬ ((0 : Int32) < 0 ∨ cl111.slots.size ≤ ((0 : Int32)).toNatClampNeg) := inb_of S111 ⟨by decide, by decide⟩
    have hat111 : cl111.slots[((0 : Int32)).toNatClampNeg]? = some (.int w) := Has.at H111 hin111 rfl
    obtain ⟨cl112, Ar112, q112, S112, M112, H112, F112g⟩ := id P106_1
    have hin112 : ¬ ((0 : Int32) < 0 ∨ cl112.slots.size ≤ ((0 : Int32)).toNatClampNeg) := inb_of S112 ⟨by decide, by decide⟩
    obtain ⟨T112, h112, X112, e112, Wr112, st112⟩ := stB X106 hx hZ rfl Ar112 (j := (0 : Int32)) hin112 (g := (mkF m 88 #[.val (.int (0 : Int32)), .val (.ref t), .val (.int (1 : Int32)), .val (.int (1 : Int32)), .val (.ref r_107), .val (.ref t), .val (.int (1 : Int32)), .val (.int (0 : Int32)), .val (.int w)] [(.int (((192 : Int32) ||| ((w &&& (255 : Int32)) >>> ((6 : Int32) &&& 31))).toInt8.toInt32)), (.int (0 : Int32)), (.ref r_107)])) rfl rfl (D_ d37_88)
    have G112 : Arv Z h112 r_107 kr_108 .byte (2 : Int32) [(.int (nar .byte (((192 : Int32) ||| ((w &&& (255 : Int32)) >>> ((6 : Int32) &&& 31))).toInt8.toInt32))), (.int (0 : Int32))] (.int (0 : Int32)) := Arv.set Ar112 q112 S112 M112 H112 F112g (fits_nar_byte _) Wr112 0 rfl (Nat.le_of_ble_eq_true rfl)
    have K112 := Keep.of_wr Wr112
    have N112 := Fr.snoc X112 N106 (Nat.le_trans Z0 P106_0)
    obtain ⟨cl113, Ar113, q113, S113, M113, H113, F113g⟩ := id G112
    have hin113 : ¬ ((1 : Int32) < 0 ∨ cl113.slots.size ≤ ((1 : Int32)).toNatClampNeg) := inb_of S113 ⟨by decide, by decide⟩
    obtain ⟨T113, h113, X113, e113, Wr113, st113⟩ := stB X112 hx hZ e112 Ar113 (j := (1 : Int32)) hin113 (g := (mkF m 105 #[.val (.int (0 : Int32)), .val (.ref t), .val (.int (1 : Int32)), .val (.int (2 : Int32)), .val (.ref r_107), .val (.ref t), .val (.int (1 : Int32)), .val (.int (0 : Int32)), .val (.int w)] [(.int (((128 : Int32) ||| (w &&& (63 : Int32))).toInt8.toInt32)), (.int (1 : Int32)), (.ref r_107)])) rfl rfl (D_ d37_105)
    have G113 : Arv Z h113 r_107 kr_108 .byte (2 : Int32) [(.int (nar .byte (((192 : Int32) ||| ((w &&& (255 : Int32)) >>> ((6 : Int32) &&& 31))).toInt8.toInt32))), (.int (nar .byte (((128 : Int32) ||| (w &&& (63 : Int32))).toInt8.toInt32)))] (.int (0 : Int32)) := Arv.set Ar113 q113 S113 M113 H113 F113g (fits_nar_byte _) Wr113 1 rfl (Nat.le_of_ble_eq_true rfl)
    have K113 := Keep.of_wr Wr113
    have N113 := Fr.snoc X113 N112 (Nat.le_trans Z0 P106_0)
    obtain ⟨cl114, Ar114, -, S114, M114, -, -⟩ := id G113
    have W115 : ∀ zQ, SS p e below T113 m 133 #[.val (.int (0 : Int32)), .val (.ref t), .val (.int (1 : Int32)), .val (.int (2 : Int32)), .val (.ref r_107), .val (.ref t), .val (.int (1 : Int32)), .val (.int (1 : Int32)), .val (.int w)] [(.ref r_107)] zQ → Steps p.tables e below (s₁.setTop (entryFrame m #[(.int (0 : Int32)), (.ref t), (.int (1 : Int32))] 9)) zQ := by
      intro tt kt
      refine W103 tt ?_
      rw [show (if w < (0 : Int32) then (1 : Int32) else (0 : Int32)) = (1 : Int32) from if_pos hc104]
      refine XS.ifYes X102.here hx rfl (pc0 := 18) (pc' := 29) rfl (D_ d37_18) rfl ((if0 _ _).trans (feq (by decide)).2) (by decide) (by decide) ?_
      refine XS.iconst X102.here hx rfl (D_ d37_29) ?_
      refine XS.istoreN X102.here hx rfl (D_ d37_30) rfl (l' := #[.val (.int (0 : Int32)), .val (.ref t), .val (.int (1 : Int32)), .val (.int (0 : Int32)), .unset, .unset, .unset, .unset, .unset]) rfl ?_
      refine XS.aloadN X102.here hx rfl (D_ d37_31) rfl rfl ?_
      refine X102.arraylength hx (by first | exact Ar105.1 | (rw [eq102]; exact Ar105.1)) (State.isArrayOf_alike hZ.alike Ar105.2.1) (g := (mkF m 32 #[.val (.int (0 : Int32)), .val (.ref t), .val (.int (1 : Int32)), .val (.int (0 : Int32)), .unset, .unset, .unset, .unset, .unset] [(.ref t)])) rfl rfl (D_ d37_32) _ ?_
      rw [len_of S105 M105]
      refine st106 _ ?_
      refine XS.astore X106.here hx rfl (D_ d37_36) rfl rfl (l' := #[.val (.int (0 : Int32)), .val (.ref t), .val (.int (1 : Int32)), .val (.int (0 : Int32)), .val (.ref r_107), .unset, .unset, .unset, .unset]) rfl ?_
      refine XS.aloadN X106.here hx rfl (D_ d37_38) rfl rfl ?_
      refine XS.astore X106.here hx rfl (D_ d37_39) rfl rfl (l' := #[.val (.int (0 : Int32)), .val (.ref t), .val (.int (1 : Int32)), .val (.int (0 : Int32)), .val (.ref r_107), .val (.ref t), .unset, .unset, .unset]) rfl ?_
      refine XS.aload X106.here hx rfl (D_ d37_41) rfl rfl ?_
      refine X106.arraylength hx (by first | exact Ar110.1 | (rw [rfl]; exact Ar110.1)) (State.isArrayOf_alike hZ.alike Ar110.2.1) (g := (mkF m 43 #[.val (.int (0 : Int32)), .val (.ref t), .val (.int (1 : Int32)), .val (.int (0 : Int32)), .val (.ref r_107), .val (.ref t), .unset, .unset, .unset] [(.ref t)])) rfl rfl (D_ d37_43) _ ?_
      rw [len_of S110 M110]
      refine XS.istore X106.here hx rfl (D_ d37_44) rfl (l' := #[.val (.int (0 : Int32)), .val (.ref t), .val (.int (1 : Int32)), .val (.int (0 : Int32)), .val (.ref r_107), .val (.ref t), .val (.int (1 : Int32)), .unset, .unset]) rfl ?_
      refine XS.iconst X106.here hx rfl (D_ d37_46) ?_
      refine XS.istore X106.here hx rfl (D_ d37_47) rfl (l' := #[.val (.int (0 : Int32)), .val (.ref t), .val (.int (1 : Int32)), .val (.int (0 : Int32)), .val (.ref r_107), .val (.ref t), .val (.int (1 : Int32)), .val (.int (0 : Int32)), .unset]) rfl ?_
      refine XS.iload X106.here hx rfl (D_ d37_49) rfl ?_
      refine XS.iload X106.here hx rfl (D_ d37_51) rfl ?_
      refine XS.icmpNo X106.here hx rfl (D_ d37_53) rfl (tlt (by decide)).2.1 ?_
      refine XS.aload X106.here hx rfl (D_ d37_56) rfl rfl ?_
      refine XS.iload X106.here hx rfl (D_ d37_58) rfl ?_
      refine X106.baloadBytes hx (j := (0 : Int32)) (v := (.int w)) (by first | exact Ar111.1 | (rw [rfl]; exact Ar111.1)) (State.isArrayOf_alike hZ.alike Ar111.2.1) Ar111.2.2 hin111 hat111 (g := (mkF m 60 #[.val (.int (0 : Int32)), .val (.ref t), .val (.int (1 : Int32)), .val (.int (0 : Int32)), .val (.ref r_107), .val (.ref t), .val (.int (1 : Int32)), .val (.int (0 : Int32)), .unset] [(.int (0 : Int32)), (.ref t)])) rfl rfl (D_ d37_60) _ ?_
      refine XS.istore X106.here hx rfl (D_ d37_61) rfl (l' := #[.val (.int (0 : Int32)), .val (.ref t), .val (.int (1 : Int32)), .val (.int (0 : Int32)), .val (.ref r_107), .val (.ref t), .val (.int (1 : Int32)), .val (.int (0 : Int32)), .val (.int w)]) rfl ?_
      refine XS.iload X106.here hx rfl (D_ d37_63) rfl ?_
      refine XS.ifNo X106.here hx rfl (D_ d37_65) rfl ((if0 _ _).trans (tlt hc104).2.1) ?_
      refine XS.aload X106.here hx rfl (D_ d37_68) rfl rfl ?_
      refine XS.iloadN X106.here hx rfl (D_ d37_70) rfl ?_
      refine XS.iinc X106.here hx rfl (D_ d37_71) rfl (l' := #[.val (.int (0 : Int32)), .val (.ref t), .val (.int (1 : Int32)), .val (.int (1 : Int32)), .val (.ref r_107), .val (.ref t), .val (.int (1 : Int32)), .val (.int (0 : Int32)), .val (.int w)]) rfl ?_
      refine XS.sipush X106.here hx rfl (D_ d37_74) ?_
      refine XS.iload X106.here hx rfl (D_ d37_77) rfl ?_
      refine XS.sipush X106.here hx rfl (D_ d37_79) ?_
      refine XS.iand X106.here hx rfl (D_ d37_82) rfl ?_
      refine XS.bipush X106.here hx rfl (D_ d37_83) ?_
      refine XS.ishr X106.here hx rfl (D_ d37_85) rfl ?_
      refine XS.ior X106.here hx rfl (D_ d37_86) rfl ?_
      refine XS.i2b X106.here hx rfl (D_ d37_87) rfl ?_
      refine st112 _ ?_
      refine XS.aload X112.here hx rfl (D_ d37_89) rfl rfl ?_
      refine XS.iloadN X112.here hx rfl (D_ d37_91) rfl ?_
      refine XS.iinc X112.here hx rfl (D_ d37_92) rfl (l' := #[.val (.int (0 : Int32)), .val (.ref t), .val (.int (1 : Int32)), .val (.int (2 : Int32)), .val (.ref r_107), .val (.ref t), .val (.int (1 : Int32)), .val (.int (0 : Int32)), .val (.int w)]) rfl ?_
      refine XS.sipush X112.here hx rfl (D_ d37_95) ?_
      show SS p e below T112 m 98 #[.val (.int (0 : Int32)), .val (.ref t), .val (.int (1 : Int32)), .val (.int (2 : Int32)), .val (.ref r_107), .val (.ref t), .val (.int (1 : Int32)), .val (.int (0 : Int32)), .val (.int w)] [(.int (128 : Int32)), (.int (1 : Int32)), (.ref r_107)] _
      refine XS.iload X112.here hx rfl (D_ d37_98) rfl ?_
      refine XS.bipush X112.here hx rfl (D_ d37_100) ?_
      refine XS.iand X112.here hx rfl (D_ d37_102) rfl ?_
      refine XS.ior X112.here hx rfl (D_ d37_103) rfl ?_
      refine XS.i2b X112.here hx rfl (D_ d37_104) rfl ?_
      refine st113 _ ?_
      refine XS.goto X113.here hx rfl (pc0 := 106) (pc' := 118) rfl (D_ d37_106) (by decide) (by decide) ?_
      refine XS.iinc X113.here hx rfl (D_ d37_118) rfl (l' := #[.val (.int (0 : Int32)), .val (.ref t), .val (.int (1 : Int32)), .val (.int (2 : Int32)), .val (.ref r_107), .val (.ref t), .val (.int (1 : Int32)), .val (.int (1 : Int32)), .val (.int w)]) rfl ?_
      refine XS.goto X113.here hx rfl (pc0 := 121) (pc' := 49) rfl (D_ d37_121) (by decide) (by decide) ?_
      refine XS.iload X113.here hx rfl (D_ d37_49) rfl ?_
      refine XS.iload X113.here hx rfl (D_ d37_51) rfl ?_
      refine XS.icmpYes X113.here hx rfl (pc0 := 53) (pc' := 124) rfl (D_ d37_53) rfl (flt (by decide)).2.1 (by decide) (by decide) ?_
      refine XS.iloadN X113.here hx rfl (D_ d37_124) rfl ?_
      refine XS.aload X113.here hx rfl (D_ d37_125) rfl rfl ?_
      refine X113.arraylength hx (by first | exact Ar114.1 | (rw [e113]; exact Ar114.1)) (State.isArrayOf_alike hZ.alike Ar114.2.1) (g := (mkF m 127 #[.val (.int (0 : Int32)), .val (.ref t), .val (.int (1 : Int32)), .val (.int (2 : Int32)), .val (.ref r_107), .val (.ref t), .val (.int (1 : Int32)), .val (.int (1 : Int32)), .val (.int w)] [(.ref r_107), (.int (2 : Int32))])) rfl rfl (D_ d37_127) _ ?_
      rw [len_of S114 M114]
      refine XS.icmpNo X113.here hx rfl (D_ d37_128) rfl (teq (by decide)).2 ?_
      refine XS.aload X113.here hx rfl (D_ d37_131) rfl rfl ?_
      exact kt
    have hR116 : Arv Z h113 r_107 kr_108 .byte (Int32.ofNat ([(nar .byte (((192 : Int32) ||| ((w &&& (255 : Int32)) >>> ((6 : Int32) &&& 31))).toInt8.toInt32)), (nar .byte (((128 : Int32) ||| (w &&& (63 : Int32))).toInt8.toInt32))] : List Int32).length) (([(nar .byte (((192 : Int32) ||| ((w &&& (255 : Int32)) >>> ((6 : Int32) &&& 31))).toInt8.toInt32)), (nar .byte (((128 : Int32) ||| (w &&& (63 : Int32))).toInt8.toInt32))] : List Int32).map Value.int) (.int (0 : Int32)) := G113
    obtain ⟨fs, hr, hrun, hended, hW, hsame⟩ := X113.leave (v := some (.ref r_107)) (fun h => by rw [Bd.returns] at h; cases h)
    refine ⟨_, _, W115 _ (own_retR X113 hx Bd.returns rfl rfl (D_ d37_133) hr), hrun, hended, _, _, rfl, ?_, ⟨_, rfl⟩, hW, hsame.mono (by decide) (by decide)⟩
    show Q_encU1 Z t kb w h0 n0 _ T113.heap _
    rw [e113]
    exact ⟨r_107, kr_108, ([(nar .byte (((192 : Int32) ||| ((w &&& (255 : Int32)) >>> ((6 : Int32) &&& 31))).toInt8.toInt32)), (nar .byte (((128 : Int32) ||| (w &&& (63 : Int32))).toInt8.toInt32))] : List Int32), rfl, N113, (Keep.trans (Keep.trans (Keep.trans (Keep.refl h0 []) K106 all0) K112 (allS (Or.inr P106_0) all0)) K113 (allS (Or.inr P106_0) all0)), P106_0, hR116, (Nat.le_of_ble_eq_true rfl)⟩
  ·
    obtain ⟨T117, h117, X117, e117, E117, A117, C117, st117⟩ := cloneH X102 hx hZ hown (w290 hw) (w291 hw) (w295 hw) (w293 hw) (w294 hw) (w296 hw) eq102 (Arv.arh V1) E1 (g := (mkF m 22 #[.val (.int (0 : Int32)), .val (.ref t), .val (.int (1 : Int32)), .unset, .unset, .unset, .unset, .unset, .unset] [(.ref t)])) rfl (by rw [hml]; rfl) rfl (D_ d37_22) (by decide) (W := 0) (cap := 1) (by show 2 * 0 + _ ≤ _; exact Nat.le_of_eq rfl) (by decide) (by decide) (by decide) (by decide)
    obtain ⟨b117, g117⟩ : ∃ z, z = h0.size := ⟨_, rfl⟩
    rw [← g117] at A117 C117 st117
    have K117 := (Keep.refl h0 []).ext E117
    have G117 : Arv Z h117 b117 kb .byte (1 : Int32) [(.int w)] (.int (0 : Int32)) := A117
    obtain ⟨T118, X118, e118, st118⟩ := castY X117 hx hZ hown (w297 hw) e117 (Ins.self C117) (g := (mkF m 25 #[.val (.int (0 : Int32)), .val (.ref t), .val (.int (1 : Int32)), .unset, .unset, .unset, .unset, .unset, .unset] [(.ref b117)])) rfl rfl (D_ d37_25)
    have W119 : ∀ zQ, SS p e below T118 m 28 #[.val (.int (0 : Int32)), .val (.ref t), .val (.int (1 : Int32)), .unset, .unset, .unset, .unset, .unset, .unset] [(.ref b117)] zQ → Steps p.tables e below (s₁.setTop (entryFrame m #[(.int (0 : Int32)), (.ref t), (.int (1 : Int32))] 9)) zQ := by
      intro tt kt
      refine W103 tt ?_
      rw [show (if w < (0 : Int32) then (1 : Int32) else (0 : Int32)) = (0 : Int32) from if_neg hc104]
      refine XS.ifNo X102.here hx rfl (D_ d37_18) rfl ((if0 _ _).trans (teq (by decide)).2) ?_
      refine XS.aloadN X102.here hx rfl (D_ d37_21) rfl rfl ?_
      refine st117 _ ?_
      refine st118 _ ?_
      exact kt
    have hR120 : Arv Z h117 b117 kb .byte (Int32.ofNat ([w] : List Int32).length) (([w] : List Int32).map Value.int) (.int (0 : Int32)) := G117
    obtain ⟨fs, hr, hrun, hended, hW, hsame⟩ := X118.leave (v := some (.ref b117)) (fun h => by rw [Bd.returns] at h; cases h)
    refine ⟨_, _, W119 _ (own_retR X118 hx Bd.returns rfl rfl (D_ d37_28) hr), hrun, hended, _, _, rfl, ?_, ⟨_, rfl⟩, hW, hsame.mono (by decide) (by decide)⟩
    show Q_encU1 Z t kb w h0 n0 _ T118.heap _
    rw [e118]
    exact ⟨b117, kb, ([w] : List Int32), rfl, N102, (Keep.trans (Keep.refl h0 []) K117 all0), (Nat.le_of_eq g117.symm), hR120, (Nat.le_of_ble_eq_true rfl)⟩
def Q_senc0 (Z : State) (u8 : Addr) (t : Addr) (kb : ClassId) (h0 : Heap) (n0 : Nat) (vQ_ : Option Value) (hQ_ : Heap) (LQ_ : List Loc) : Prop := ∃ r : Addr, ∃ kr : ClassId, ∃ ys : List Int32, vQ_ = some (.ref r) ∧ Fr n0 LQ_ ∧ Keep h0 hQ_ [] ∧ h0.size ≤ r ∧ Arv Z hQ_ r kr .byte (Int32.ofNat ys.length) (ys.map Value.int) (.int (0 : Int32)) ∧ ys.length ≤ 2
theorem rm_senc0 (l : Launch) (Z : State) (a0 : Array Value) (hw : HW a0 Z) (ws : List Jvm.Cond) (u8 : Addr) (t : Addr) (kb : ClassId) (h0 : Heap) (n0 : Nat) (Z0 : n0 ≤ h0.size) (O0 : Old Z n0 h0) (S_ui : Sta Z Z.heap "sun/nio/cs/UTF_8" "INSTANCE" "Lsun/nio/cs/UTF_8;" (.ref u8)) (V1 : Arv Z h0 t kb .byte (0 : Int32) [] (.int (0 : Int32))) (E1 : Exa Z h0 t "[B") :
    CT l yn38 (Jvm.Cond.code yn38 jdk_42_method_18_code 3 (some (.array .byte)) :: ws) (⟨3, 1, 0, 50⟩ : Room) #[(.ref u8), (.int (0 : Int32)), (.ref t)] Z h0 (Q_senc0 Z u8 t kb h0 n0) := by
  refine MetFree.of_bodySF (plainFor_of_name pn_java_lang_String) hisR ?_
  intro p e s m args below meth cO s₁ Bd hml hP hK
  obtain ⟨rfl, hZ, hh⟩ := hP
  have hx := Bd.exec
  have hby := Bd.bytes
  have hown : s.vm.findClass "java/lang/String" = some m.cls := findClass_of_methodNamed Bd.named
  have hnm := (name_of_methodNamed Bd.named Bd.method).1
  have X0 : Stand p l e (⟨3, 1, 0, 50⟩ : Room) s m #[(.ref u8), (.int (0 : Int32)), (.ref t)] below meth cO s₁ [] 0 0 := Stand.of_body Bd
  have e0 : s₁.heap = h0 := by rw [← hh, Bd.state]; rfl
  have N0 := Fr.nil n0
  have D_ : ∀ {i : Nat} {x}, decode jdk_42_method_18_code i = x → decode cO.code i = x := fun h => hb hby h
  have W0 : ∀ zQ, SS p e below s₁ m 0 #[.val (.ref u8), .val (.int (0 : Int32)), .val (.ref t)] [] zQ → Steps p.tables e below (s₁.setTop (entryFrame m #[(.ref u8), (.int (0 : Int32)), (.ref t)] 3)) zQ := fun tt kt => castTop (ef_senc0 m u8 (0 : Int32) t) kt
  have F102 : Sta Z h0 "sun/nio/cs/UTF_8" "INSTANCE" "Lsun/nio/cs/UTF_8;" (.ref u8) := S_ui.ext O0.2
  obtain ⟨T101, X101, e101, st101⟩ := getS2 X0 hx hZ hown (host := "") (Or.inl (w169 hw)) Via.refl e0 F102 (g := (mkF m 1 #[.val (.ref u8), .val (.int (0 : Int32)), .val (.ref t)] [(.ref u8)])) rfl (D_ d38_1)
  obtain ⟨_, _, ⟨T103, L103, k103, n103⟩, -, X103, ⟨Lc103, hQ103, l103, y103, z103⟩, st103⟩ := Jvm.LawKit.callS X101 hx (y := yn37) hown (mvT hZ (w171 hw)) (mvT hZ (w172 hw)) (mvT hZ (w23 hw)) (mvT hZ (w173 hw)) (by decide) (backOf (W := 0) (rm_encU0 l Z a0 hw [] t kb h0 n0 Z0 V1 E1) hZ (w173 hw) (w23 hw) (by decide) (by decide)) (g := (mkF m 10 #[.val (.ref u8), .val (.int (0 : Int32)), .val (.ref t)] [(.int (1 : Int32)), (.ref t), (.int (0 : Int32))])) rfl (by rw [hml]; rfl) (argsL := [(.int (0 : Int32)), (.ref t), (.int (1 : Int32))]) (rest := []) (lenOf pd24 rfl) rfl (wq rfl) (D_ d38_10) (fun _ _ => ⟨rfl, e101, (nb rfl), (nb rfl)⟩)
  dsimp only [Pt.U, Pt.locs, Pt.cells, Pt.slots] at X103 l103 y103 z103 st103 hQ103
  subst l103 y103 z103
  obtain ⟨r_104, kr_105, ys_106, rfl, Nq103, K103, P103_0, P103_1, P103_2⟩ := hQ103
  have N103 := Fr.app N0 Nq103
  have W107 : ∀ zQ, SS p e below T103 m 13 #[.val (.ref u8), .val (.int (0 : Int32)), .val (.ref t)] [(.ref r_104)] zQ → Steps p.tables e below (s₁.setTop (entryFrame m #[(.ref u8), (.int (0 : Int32)), (.ref t)] 3)) zQ := by
    intro tt kt
    refine W0 tt ?_
    refine XS.aloadN X0.here hx rfl (D_ d38_0) rfl rfl ?_
    refine st101 _ ?_
    show SS p e below T101 m 4 #[.val (.ref u8), .val (.int (0 : Int32)), .val (.ref t)] [(.ref u8), (.ref u8)] _
    refine Jvm.RoadKit.acmp (g := (mkF m 4 #[.val (.ref u8), .val (.int (0 : Int32)), .val (.ref t)] [(.ref u8), (.ref u8)])) X101 hx rfl rfl rfl (pc0 := 4) (pc' := 7) (same := true) rfl (D_ d38_4) rfl (decide_eq_true rfl) (by decide) (by decide) ?_
    refine XS.iloadN X101.here hx rfl (D_ d38_7) rfl ?_
    refine XS.aloadN X101.here hx rfl (D_ d38_8) rfl rfl ?_
    refine XS.iconst X101.here hx rfl (D_ d38_9) ?_
    refine st103 _ ?_
    exact kt
  obtain ⟨fs, hr, hrun, hended, hW, hsame⟩ := X103.leave (v := some (.ref r_104)) (fun h => by rw [Bd.returns] at h; cases h)
  refine ⟨_, _, W107 _ (own_retR X103 hx Bd.returns rfl rfl (D_ d38_13) hr), hrun, hended, _, _, rfl, ?_, ⟨_, rfl⟩, hW, hsame.mono (by decide) (by decide)⟩
  show Q_senc0 Z u8 t kb h0 n0 _ T103.heap _
  exact ⟨r_104, kr_105, ys_106, rfl, N103, (Keep.trans (Keep.refl h0 []) K103 all0), P103_0, P103_1, P103_2⟩
def Q_senc1 (Z : State) (u8 : Addr) (t : Addr) (kb : ClassId) (w : Int32) (h0 : Heap) (n0 : Nat) (vQ_ : Option Value) (hQ_ : Heap) (LQ_ : List Loc) : Prop := ∃ r : Addr, ∃ kr : ClassId, ∃ ys : List Int32, vQ_ = some (.ref r) ∧ Fr n0 LQ_ ∧ Keep h0 hQ_ [] ∧ h0.size ≤ r ∧ Arv Z hQ_ r kr .byte (Int32.ofNat ys.length) (ys.map Value.int) (.int (0 : Int32)) ∧ ys.length ≤ 2
theorem rm_senc1 (l : Launch) (Z : State) (a0 : Array Value) (hw : HW a0 Z) (ws : List Jvm.Cond) (u8 : Addr) (t : Addr) (kb : ClassId) (w : Int32) (h0 : Heap) (n0 : Nat) (Z0 : n0 ≤ h0.size) (O0 : Old Z n0 h0) (S_ui : Sta Z Z.heap "sun/nio/cs/UTF_8" "INSTANCE" "Lsun/nio/cs/UTF_8;" (.ref u8)) (V1 : Arv Z h0 t kb .byte (1 : Int32) [(.int w)] (.int (0 : Int32))) (E1 : Exa Z h0 t "[B") :
    CT l yn38 (Jvm.Cond.code yn38 jdk_42_method_18_code 3 (some (.array .byte)) :: ws) (⟨3, 1, 2, 50⟩ : Room) #[(.ref u8), (.int (0 : Int32)), (.ref t)] Z h0 (Q_senc1 Z u8 t kb w h0 n0) := by
  refine MetFree.of_bodySF (plainFor_of_name pn_java_lang_String) hisR ?_
  intro p e s m args below meth cO s₁ Bd hml hP hK
  obtain ⟨rfl, hZ, hh⟩ := hP
  have hx := Bd.exec
  have hby := Bd.bytes
  have hown : s.vm.findClass "java/lang/String" = some m.cls := findClass_of_methodNamed Bd.named
  have hnm := (name_of_methodNamed Bd.named Bd.method).1
  have X0 : Stand p l e (⟨3, 1, 2, 50⟩ : Room) s m #[(.ref u8), (.int (0 : Int32)), (.ref t)] below meth cO s₁ [] 0 0 := Stand.of_body Bd
  have e0 : s₁.heap = h0 := by rw [← hh, Bd.state]; rfl
  have N0 := Fr.nil n0
  have D_ : ∀ {i : Nat} {x}, decode jdk_42_method_18_code i = x → decode cO.code i = x := fun h => hb hby h
  have W0 : ∀ zQ, SS p e below s₁ m 0 #[.val (.ref u8), .val (.int (0 : Int32)), .val (.ref t)] [] zQ → Steps p.tables e below (s₁.setTop (entryFrame m #[(.ref u8), (.int (0 : Int32)), (.ref t)] 3)) zQ := fun tt kt => castTop (ef_senc1 m u8 (0 : Int32) t) kt
  have F102 : Sta Z h0 "sun/nio/cs/UTF_8" "INSTANCE" "Lsun/nio/cs/UTF_8;" (.ref u8) := S_ui.ext O0.2
  obtain ⟨T101, X101, e101, st101⟩ := getS2 X0 hx hZ hown (host := "") (Or.inl (w169 hw)) Via.refl e0 F102 (g := (mkF m 1 #[.val (.ref u8), .val (.int (0 : Int32)), .val (.ref t)] [(.ref u8)])) rfl (D_ d38_1)
  obtain ⟨_, _, ⟨T103, L103, k103, n103⟩, -, X103, ⟨Lc103, hQ103, l103, y103, z103⟩, st103⟩ := Jvm.LawKit.callS X101 hx (y := yn37) hown (mvT hZ (w171 hw)) (mvT hZ (w172 hw)) (mvT hZ (w23 hw)) (mvT hZ (w173 hw)) (by decide) (backOf (W := 0) (rm_encU1 l Z a0 hw [] t kb w h0 n0 Z0 V1 E1) hZ (w173 hw) (w23 hw) (by decide) (by decide)) (g := (mkF m 10 #[.val (.ref u8), .val (.int (0 : Int32)), .val (.ref t)] [(.int (1 : Int32)), (.ref t), (.int (0 : Int32))])) rfl (by rw [hml]; rfl) (argsL := [(.int (0 : Int32)), (.ref t), (.int (1 : Int32))]) (rest := []) (lenOf pd24 rfl) rfl (wq rfl) (D_ d38_10) (fun _ _ => ⟨rfl, e101, (nb rfl), (nb rfl)⟩)
  dsimp only [Pt.U, Pt.locs, Pt.cells, Pt.slots] at X103 l103 y103 z103 st103 hQ103
  subst l103 y103 z103
  obtain ⟨r_104, kr_105, ys_106, rfl, Nq103, K103, P103_0, P103_1, P103_2⟩ := hQ103
  have N103 := Fr.app N0 Nq103
  have W107 : ∀ zQ, SS p e below T103 m 13 #[.val (.ref u8), .val (.int (0 : Int32)), .val (.ref t)] [(.ref r_104)] zQ → Steps p.tables e below (s₁.setTop (entryFrame m #[(.ref u8), (.int (0 : Int32)), (.ref t)] 3)) zQ := by
    intro tt kt
    refine W0 tt ?_
    refine XS.aloadN X0.here hx rfl (D_ d38_0) rfl rfl ?_
    refine st101 _ ?_
    show SS p e below T101 m 4 #[.val (.ref u8), .val (.int (0 : Int32)), .val (.ref t)] [(.ref u8), (.ref u8)] _
    refine Jvm.RoadKit.acmp (g := (mkF m 4 #[.val (.ref u8), .val (.int (0 : Int32)), .val (.ref t)] [(.ref u8), (.ref u8)])) X101 hx rfl rfl rfl (pc0 := 4) (pc' := 7) (same := true) rfl (D_ d38_4) rfl (decide_eq_true rfl) (by decide) (by decide) ?_
    refine XS.iloadN X101.here hx rfl (D_ d38_7) rfl ?_
    refine XS.aloadN X101.here hx rfl (D_ d38_8) rfl rfl ?_
    refine XS.iconst X101.here hx rfl (D_ d38_9) ?_
    refine st103 _ ?_
    exact kt
  obtain ⟨fs, hr, hrun, hended, hW, hsame⟩ := X103.leave (v := some (.ref r_104)) (fun h => by rw [Bd.returns] at h; cases h)
  refine ⟨_, _, W107 _ (own_retR X103 hx Bd.returns rfl rfl (D_ d38_13) hr), hrun, hended, _, _, rfl, ?_, ⟨_, rfl⟩, hW, hsame.mono (by decide) (by decide)⟩
  show Q_senc1 Z u8 t kb w h0 n0 _ T103.heap _
  exact ⟨r_104, kr_105, ys_106, rfl, N103, (Keep.trans (Keep.refl h0 []) K103 all0), P103_0, P103_1, P103_2⟩
def Q_getBytesU (Z : State) (o : Addr) (u8 : Addr) (u : Addr) (ku : ClassId) (cs : List Int32) (cS : Int32) (h0 : Heap) (n0 : Nat) (vQ_ : Option Value) (hQ_ : Heap) (LQ_ : List Loc) : Prop := ∃ r : Addr, ∃ kr : ClassId, ∃ ys : List Int32, vQ_ = some (.ref r) ∧ Fr n0 LQ_ ∧ Keep h0 hQ_ [] ∧ h0.size ≤ r ∧ Arv Z hQ_ r kr .byte (Int32.ofNat ys.length) (ys.map Value.int) (.int (0 : Int32)) ∧ ys.length ≤ 2
theorem rm_getBytesU (l : Launch) (Z : State) (a0 : Array Value) (hw : HW a0 Z) (ws : List Jvm.Cond) (o : Addr) (u8 : Addr) (u : Addr) (ku : ClassId) (cs : List Int32) (cS : Int32) (h0 : Heap) (n0 : Nat) (Z0 : n0 ≤ h0.size) (O0 : Old Z n0 h0) (S_cs : Sta Z Z.heap "java/lang/String" "COMPACT_STRINGS" "Z" (.int cS)) (hcS : ¬ (cS = (0 : Int32))) (S_ui : Sta Z Z.heap "sun/nio/cs/UTF_8" "INSTANCE" "Lsun/nio/cs/UTF_8;" (.ref u8)) (hS : Str Z h0 o u ku cs) (Eu : Exa Z h0 u "[B") (hl : lat cs = true) (hc1 : cs.length ≤ 1) :
    CT l yn39 (Jvm.Cond.code yn39 jdk_42_method_64_code 2 (some (.array .byte)) :: ws) (⟨4, 1, 2, 64⟩ : Room) #[(.ref o), (.ref u8)] Z h0 (Q_getBytesU Z o u8 u ku cs cS h0 n0) := by
  refine MetFree.of_bodySF (plainFor_of_name pn_java_lang_String) hisR ?_
  intro p e s m args below meth cO s₁ Bd hml hP hK
  obtain ⟨rfl, hZ, hh⟩ := hP
  have hx := Bd.exec
  have hby := Bd.bytes
  have hown : s.vm.findClass "java/lang/String" = some m.cls := findClass_of_methodNamed Bd.named
  have hnm := (name_of_methodNamed Bd.named Bd.method).1
  have X0 : Stand p l e (⟨4, 1, 2, 64⟩ : Room) s m #[(.ref o), (.ref u8)] below meth cO s₁ [] 0 0 := Stand.of_body Bd
  have e0 : s₁.heap = h0 := by rw [← hh, Bd.state]; rfl
  have N0 := Fr.nil n0
  have D_ : ∀ {i : Nat} {x}, decode jdk_42_method_64_code i = x → decode cO.code i = x := fun h => hb hby h
  have W0 : ∀ zQ, SS p e below s₁ m 0 #[.val (.ref o), .val (.ref u8)] [] zQ → Steps p.tables e below (s₁.setTop (entryFrame m #[(.ref o), (.ref u8)] 2)) zQ := fun tt kt => castTop (ef_getBytesU m o u8) kt
  obtain ⟨dhE, dhV, dhC, dhA, okd⟩ := (id hS)
  have hA101 : Arv Z h0 u ku .byte (Int32.ofNat cs.length) (l1 cs) (.int (0 : Int32)) := by have q := enc_lat hl; rw [← q.1, ← q.2.1]; exact dhA
  obtain ⟨cq102, kq102, q102a, q102b, q102c⟩ := isOf hZ e0 dhE
  obtain ⟨_, _, ⟨T102, L102, k102, n102⟩, -, X102, ⟨Lc102, hQ102, l102, y102, z102⟩, st102⟩ := X0.virtualBack hx (y := yn1) (z := yn1) hown (mvT hZ (w151 hw)) (mvT hZ (w152 hw)) (notFace_of_selects (args := #[]) (mvT hZ (w154 hw))) (mvT hZ (w154 hw)) (mvT hZ (w153 hw)) (by decide) (backOf (W := 1) (rm_coder l Z a0 hw [] o (cdr cs) cS h0 n0 Z0 O0 S_cs hcS dhC (own_narcdr cs)) hZ (w155 hw) (w23 hw) (by decide) (by decide)) q102a q102c (g := (mkF m 14 #[.val (.ref o), .val (.ref u8)] [(.ref o), (.ref u8)])) rfl (by rw [hml]; rfl) (Steps.refl _) (argsL := []) (rest := [(.ref u8)]) (lenOf pd0 rfl) rfl (wq rfl) (D_ d39_14) (fun _ _ => ⟨rfl, e0, (nb rfl), (nb rfl)⟩)
  dsimp only [Pt.U, Pt.locs, Pt.cells, Pt.slots] at X102 l102 y102 z102 st102 hQ102
  subst l102 y102 z102
  obtain ⟨rfl, Nq102, eq102⟩ := hQ102
  have N102 := Fr.app N0 Nq102
  obtain ⟨T103, X103, e103, st103⟩ := getF X102 hx hZ hown (host := "") (Or.inl (w100 hw)) Via.refl eq102 dhV (g := (mkF m 18 #[.val (.ref o), .val (.ref u8)] [(.ref o), (.int (0 : Int32)), (.ref u8)])) rfl rfl (D_ d39_18)
  have W104 : ∀ zQ, SS p e below T103 m 21 #[.val (.ref o), .val (.ref u8)] [(.ref u), (.int (0 : Int32)), (.ref u8)] zQ → Steps p.tables e below (s₁.setTop (entryFrame m #[(.ref o), (.ref u8)] 2)) zQ := by
    intro tt kt
    refine W0 tt ?_
    refine XS.aloadN X0.here hx rfl (D_ d39_0) rfl rfl ?_
    refine XS.ifnonnullYes X0.here hx rfl (pc0 := 1) (pc' := 12) rfl (D_ d39_1) rfl (by decide) (by decide) ?_
    refine XS.aloadN X0.here hx rfl (D_ d39_12) rfl rfl ?_
    refine XS.aloadN X0.here hx rfl (D_ d39_13) rfl rfl ?_
    refine st102.trans ?_
    show SS p e below T102 m 17 #[.val (.ref o), .val (.ref u8)] [(.int (cdr cs)), (.ref u8)] _
    rw [show (cdr cs) = (0 : Int32) from (enc_lat hl).2.2]
    refine XS.aloadN X102.here hx rfl (D_ d39_17) rfl rfl ?_
    refine st103 _ ?_
    exact kt
  by_cases hc105 : cs = []
  ·
    have J106 : Arv Z h0 u ku .byte (0 : Int32) [] (.int (0 : Int32)) := by have q := hA101; rw [hc105] at q; exact q
    obtain ⟨_, _, ⟨T107, L107, k107, n107⟩, -, X107, ⟨Lc107, hQ107, l107, y107, z107⟩, st107⟩ := Jvm.LawKit.callS X103 hx (y := yn38) hown (mvT hZ (w166 hw)) (mvT hZ (w167 hw)) (mvT hZ (w23 hw)) (mvT hZ (w168 hw)) (by decide) (backOf (W := 0) (rm_senc0 l Z a0 hw [] u8 u ku h0 n0 Z0 O0 S_ui J106 Eu) hZ (w168 hw) (w23 hw) (by decide) (by decide)) (g := (mkF m 21 #[.val (.ref o), .val (.ref u8)] [(.ref u), (.int (0 : Int32)), (.ref u8)])) rfl (by rw [hml]; rfl) (argsL := [(.ref u8), (.int (0 : Int32)), (.ref u)]) (rest := []) (lenOf pd25 rfl) rfl (wq rfl) (D_ d39_21) (fun _ _ => ⟨rfl, e103, (nb rfl), (nb rfl)⟩)
    dsimp only [Pt.U, Pt.locs, Pt.cells, Pt.slots] at X107 l107 y107 z107 st107 hQ107
    subst l107 y107 z107
    obtain ⟨r_108, kr_109, ys_110, rfl, Nq107, K107, P107_0, P107_1, P107_2⟩ := hQ107
    have N107 := Fr.app N102 Nq107
    have W111 : ∀ zQ, SS p e below T107 m 24 #[.val (.ref o), .val (.ref u8)] [(.ref r_108)] zQ → Steps p.tables e below (s₁.setTop (entryFrame m #[(.ref o), (.ref u8)] 2)) zQ := by
      intro tt kt
      refine W104 tt ?_
      refine st107 _ ?_
      exact kt
    obtain ⟨fs, hr, hrun, hended, hW, hsame⟩ := X107.leave (v := some (.ref r_108)) (fun h => by rw [Bd.returns] at h; cases h)
    refine ⟨_, _, W111 _ (own_retR X107 hx Bd.returns rfl rfl (D_ d39_24) hr), hrun, hended, _, _, rfl, ?_, ⟨_, rfl⟩, hW, hsame.mono (by decide) (by decide)⟩
    show Q_getBytesU Z o u8 u ku cs cS h0 n0 _ T107.heap _
    exact ⟨r_108, kr_109, ys_110, rfl, N107, (Keep.trans (Keep.refl h0 []) K107 all0), P107_0, P107_1, P107_2⟩
  ·
    obtain ⟨c1, hc2⟩ : ∃ c, cs = [c] := by cases cs with | nil => exact absurd rfl hc105 | cons x y => cases y with | nil => exact ⟨x, rfl⟩ | cons z w => simp at hc1
    have J112 : Arv Z h0 u ku .byte (1 : Int32) [(.int (c1.toInt8.toInt32))] (.int (0 : Int32)) := by have q := hA101; rw [hc2] at q; exact q
    obtain ⟨_, _, ⟨T113, L113, k113, n113⟩, -, X113, ⟨Lc113, hQ113, l113, y113, z113⟩, st113⟩ := Jvm.LawKit.callS X103 hx (y := yn38) hown (mvT hZ (w166 hw)) (mvT hZ (w167 hw)) (mvT hZ (w23 hw)) (mvT hZ (w168 hw)) (by decide) (backOf (W := 0) (rm_senc1 l Z a0 hw [] u8 u ku (c1.toInt8.toInt32) h0 n0 Z0 O0 S_ui J112 Eu) hZ (w168 hw) (w23 hw) (by decide) (by decide)) (g := (mkF m 21 #[.val (.ref o), .val (.ref u8)] [(.ref u), (.int (0 : Int32)), (.ref u8)])) rfl (by rw [hml]; rfl) (argsL := [(.ref u8), (.int (0 : Int32)), (.ref u)]) (rest := []) (lenOf pd25 rfl) rfl (wq rfl) (D_ d39_21) (fun _ _ => ⟨rfl, e103, (nb rfl), (nb rfl)⟩)
    dsimp only [Pt.U, Pt.locs, Pt.cells, Pt.slots] at X113 l113 y113 z113 st113 hQ113
    subst l113 y113 z113
    obtain ⟨r_114, kr_115, ys_116, rfl, Nq113, K113, P113_0, P113_1, P113_2⟩ := hQ113
    have N113 := Fr.app N102 Nq113
    have W117 : ∀ zQ, SS p e below T113 m 24 #[.val (.ref o), .val (.ref u8)] [(.ref r_114)] zQ → Steps p.tables e below (s₁.setTop (entryFrame m #[(.ref o), (.ref u8)] 2)) zQ := by
      intro tt kt
      refine W104 tt ?_
      refine st113 _ ?_
      exact kt
    obtain ⟨fs, hr, hrun, hended, hW, hsame⟩ := X113.leave (v := some (.ref r_114)) (fun h => by rw [Bd.returns] at h; cases h)
    refine ⟨_, _, W117 _ (own_retR X113 hx Bd.returns rfl rfl (D_ d39_24) hr), hrun, hended, _, _, rfl, ?_, ⟨_, rfl⟩, hW, hsame.mono (by decide) (by decide)⟩
    show Q_getBytesU Z o u8 u ku cs cS h0 n0 _ T113.heap _
    exact ⟨r_114, kr_115, ys_116, rfl, N113, (Keep.trans (Keep.refl h0 []) K113 all0), P113_0, P113_1, P113_2⟩
theorem lp_ixc {p : Program} {l : Launch} {e : Env} {R : Room} {s : State} {m : MethodId} {args : Array Value} {below : List Frame} {meth : Method} {cO : Code} {cells slots : Nat} {Z : State} {a0 : Array Value} (hx : p.tables.exec = Jvm.exec) (hZ : Z.Warmed39 s.vm) (hw : HW a0 Z) (hby : cO.code = jdk_43_method_23_code) (hml : cO.maxLocals = 6) (hown : s.vm.findClass "java/lang/StringLatin1" = some m.cls) (hRf : 0 ≤ R.frames) (hRl : 0 ≤ R.locals) (hRc : cells ≤ R.cells) (hRs : slots ≤ R.slots) (hret : meth.sig.returnType = some .int) (t : Addr) (c : Int32) (f2 : Int32) (kb : ClassId) (ds : List Int32) (bb : Int32) (n0 : Nat) (hds : ds.length ≤ 16) :
    ∀ k : Nat, ∀ (i : Nat) (T0 : State) (L0 : List Loc) (h0 : Heap) (X0 : Stand p l e R s m args below meth cO T0 L0 cells slots) (e0 : T0.heap = h0) (N0 : Fr n0 L0) (Z0 : n0 ≤ h0.size) (V1 : Arv Z h0 t kb .byte (Int32.ofNat ds.length) (l1 ds) (.int (0 : Int32))) (hk : i + k = ds.length), ∃ (T' : State) (L' : List Loc) (h' : Heap), Stand p l e R s m args below meth cO T' L' cells slots ∧ T'.heap = h' ∧ ∃ rw : Int32, Fr n0 L' ∧ h' = h0 ∧ ∀ fs, (∀ (f : JFrame) (acts : List Action), f.method = m → f.locked = none → f.entered = [] → (doReturn e (T'.setTop f) acts (some (.int rw))).1 = T'.setFrames fs) → SS p e below T0 m 7 #[.val (.ref t), .val (.int c), .val (.int f2), .val (.int (Int32.ofNat ds.length)), .val (.int bb), .val (.int (Int32.ofNat i))] [] (T'.setFrames fs) := by
  have D_ : ∀ {i : Nat} {x}, decode jdk_43_method_23_code i = x → decode cO.code i = x := fun h => hb hby h
  intro k
  induction k with
  | zero =>
    intro i T0 L0 h0 X0 e0 N0 Z0 V1 hk
    have W0 : ∀ zQ, SS p e below T0 m 7 #[.val (.ref t), .val (.int c), .val (.int f2), .val (.int (Int32.ofNat ds.length)), .val (.int bb), .val (.int (Int32.ofNat i))] [] zQ → Steps p.tables e below (T0.setTop (mkF m 7 #[.val (.ref t), .val (.int c), .val (.int f2), .val (.int (Int32.ofNat ds.length)), .val (.int bb), .val (.int (Int32.ofNat i))] [])) zQ := fun tt kt => kt
    have W101 : ∀ zQ, SS p e below T0 m 32 #[.val (.ref t), .val (.int c), .val (.int f2), .val (.int (Int32.ofNat ds.length)), .val (.int bb), .val (.int (Int32.ofNat i))] [(.int (-1 : Int32))] zQ → Steps p.tables e below (T0.setTop (mkF m 7 #[.val (.ref t), .val (.int c), .val (.int f2), .val (.int (Int32.ofNat ds.length)), .val (.int bb), .val (.int (Int32.ofNat i))] [])) zQ := by
      intro tt kt
      refine W0 tt ?_
      refine XS.iload X0.here hx rfl (D_ d40_7) rfl ?_
      refine XS.iloadN X0.here hx rfl (D_ d40_9) rfl ?_
      refine XS.icmpYes X0.here hx rfl (pc0 := 10) (pc' := 31) rfl (D_ d40_10) rfl (flt (own_nlt (by omega) (by omega))).2.1 (by decide) (by decide) ?_
      refine XS.iconst X0.here hx rfl (D_ d40_31) ?_
      exact kt
    exact ⟨T0, _, h0, X0, e0, (-1 : Int32), N0, rfl, fun fs hr => W101 _ (retI X0 hx hret (D_ d40_32) hr)⟩
  | succ k ih =>
    intro i T0 L0 h0 X0 e0 N0 Z0 V1 hk
    have W0 : ∀ zQ, SS p e below T0 m 7 #[.val (.ref t), .val (.int c), .val (.int f2), .val (.int (Int32.ofNat ds.length)), .val (.int bb), .val (.int (Int32.ofNat i))] [] zQ → Steps p.tables e below (T0.setTop (mkF m 7 #[.val (.ref t), .val (.int c), .val (.int f2), .val (.int (Int32.ofNat ds.length)), .val (.int bb), .val (.int (Int32.ofNat i))] [])) zQ := fun tt kt => kt
    obtain ⟨cl102, Ar102, q102, S102, M102, H102, F102g⟩ := id V1
    have hin102 : ¬ ((Int32.ofNat i) < 0 ∨ cl102.slots.size ≤ ((Int32.ofNat i)).toNatClampNeg) := inb_of S102 ⟨own_nneg (by omega), own_lt (by omega) (by omega)⟩
    have hat102 : cl102.slots[((Int32.ofNat i)).toNatClampNeg]? = some (.int ((ds.getD i 0).toInt8.toInt32)) := Has.at H102 hin102 (by rw [own_cl (by omega)]; exact l1_at ds i _ (by omega))
    have W103 : ∀ zQ, SS p e below T0 m 19 #[.val (.ref t), .val (.int c), .val (.int f2), .val (.int (Int32.ofNat ds.length)), .val (.int bb), .val (.int (Int32.ofNat i))] [(.int bb), (.int ((ds.getD i 0).toInt8.toInt32))] zQ → Steps p.tables e below (T0.setTop (mkF m 7 #[.val (.ref t), .val (.int c), .val (.int f2), .val (.int (Int32.ofNat ds.length)), .val (.int bb), .val (.int (Int32.ofNat i))] [])) zQ := by
      intro tt kt
      refine W0 tt ?_
      refine XS.iload X0.here hx rfl (D_ d40_7) rfl ?_
      refine XS.iloadN X0.here hx rfl (D_ d40_9) rfl ?_
      refine XS.icmpNo X0.here hx rfl (D_ d40_10) rfl (tlt (own_lt (by omega) (by omega))).2.1 ?_
      refine XS.aloadN X0.here hx rfl (D_ d40_13) rfl rfl ?_
      refine XS.iload X0.here hx rfl (D_ d40_14) rfl ?_
      refine X0.baloadBytes hx (j := (Int32.ofNat i)) (v := (.int ((ds.getD i 0).toInt8.toInt32))) (by first | exact Ar102.1 | (rw [e0]; exact Ar102.1)) (State.isArrayOf_alike hZ.alike Ar102.2.1) Ar102.2.2 hin102 hat102 (g := (mkF m 16 #[.val (.ref t), .val (.int c), .val (.int f2), .val (.int (Int32.ofNat ds.length)), .val (.int bb), .val (.int (Int32.ofNat i))] [(.int (Int32.ofNat i)), (.ref t)])) rfl rfl (D_ d40_16) _ ?_
      refine XS.iload X0.here hx rfl (D_ d40_17) rfl ?_
      exact kt
    by_cases hc104 : ((ds.getD i 0).toInt8.toInt32) = bb
    ·
      have W105 : ∀ zQ, SS p e below T0 m 24 #[.val (.ref t), .val (.int c), .val (.int f2), .val (.int (Int32.ofNat ds.length)), .val (.int bb), .val (.int (Int32.ofNat i))] [(.int (Int32.ofNat i))] zQ → Steps p.tables e below (T0.setTop (mkF m 7 #[.val (.ref t), .val (.int c), .val (.int f2), .val (.int (Int32.ofNat ds.length)), .val (.int bb), .val (.int (Int32.ofNat i))] [])) zQ := by
        intro tt kt
        refine W103 tt ?_
        refine XS.icmpNo X0.here hx rfl (D_ d40_19) rfl (teq hc104).2 ?_
        refine XS.iload X0.here hx rfl (D_ d40_22) rfl ?_
        exact kt
      exact ⟨T0, _, h0, X0, e0, (Int32.ofNat i), N0, rfl, fun fs hr => W105 _ (retI X0 hx hret (D_ d40_24) hr)⟩
    ·
      have W106 : ∀ zQ, SS p e below T0 m 7 #[.val (.ref t), .val (.int c), .val (.int f2), .val (.int (Int32.ofNat ds.length)), .val (.int bb), .val (.int (Int32.ofNat (i + 1)))] [] zQ → Steps p.tables e below (T0.setTop (mkF m 7 #[.val (.ref t), .val (.int c), .val (.int f2), .val (.int (Int32.ofNat ds.length)), .val (.int bb), .val (.int (Int32.ofNat i))] [])) zQ := by
        intro tt kt
        refine W103 tt ?_
        refine XS.icmpYes X0.here hx rfl (pc0 := 19) (pc' := 25) rfl (D_ d40_19) rfl (feq hc104).2 (by decide) (by decide) ?_
        refine XS.iinc X0.here hx rfl (D_ d40_25) rfl (l' := #[.val (.ref t), .val (.int c), .val (.int f2), .val (.int (Int32.ofNat ds.length)), .val (.int bb), .val (.int ((Int32.ofNat i) + (1 : Int32)))]) rfl ?_
        show SS p e below T0 m 28 #[.val (.ref t), .val (.int c), .val (.int f2), .val (.int (Int32.ofNat ds.length)), .val (.int bb), .val (.int ((Int32.ofNat i) + (1 : Int32)))] [] _
        rw [show ((Int32.ofNat i) + (1 : Int32)) = (Int32.ofNat (i + 1)) from own_succ _]
        refine XS.goto X0.here hx rfl (pc0 := 28) (pc' := 7) rfl (D_ d40_28) (by decide) (by decide) ?_
        exact kt
      obtain ⟨T107, L107, h107, X107, e107, rw_108, N107, K107, st107⟩ := ih (i + 1) T0 _ h0 X0 e0 N0 Z0 V1 (by omega)
      exact ⟨T107, L107, h107, X107, e107, rw_108, N107, K107, fun tt kt => W106 _ (st107 _ kt)⟩
def Q_l1ixc (Z : State) (t : Addr) (c : Int32) (kb : ClassId) (ds : List Int32) (h0 : Heap) (n0 : Nat) (vQ_ : Option Value) (hQ_ : Heap) (LQ_ : List Loc) : Prop := ∃ rw : Int32, vQ_ = some (.int rw) ∧ Fr n0 LQ_ ∧ hQ_ = h0
theorem rm_l1ixc (l : Launch) (Z : State) (a0 : Array Value) (hw : HW a0 Z) (ws : List Jvm.Cond) (t : Addr) (c : Int32) (kb : ClassId) (ds : List Int32) (h0 : Heap) (n0 : Nat) (Z0 : n0 ≤ h0.size) (V1 : Arv Z h0 t kb .byte (Int32.ofNat ds.length) (l1 ds) (.int (0 : Int32))) (hds : ds.length ≤ 16) :
    CT l yn40 (Jvm.Cond.code yn40 jdk_43_method_23_code 6 (some .int) :: ws) (⟨0, 0, 0, 0⟩ : Room) #[(.ref t), (.int c), (.int (0 : Int32)), (.int (Int32.ofNat ds.length))] Z h0 (Q_l1ixc Z t c kb ds h0 n0) := by
  refine MetFree.of_bodySF (plainFor_of_name pn_java_lang_StringLatin1) hisR ?_
  intro p e s m args below meth cO s₁ Bd hml hP hK
  obtain ⟨rfl, hZ, hh⟩ := hP
  have hx := Bd.exec
  have hby := Bd.bytes
  have hown : s.vm.findClass "java/lang/StringLatin1" = some m.cls := findClass_of_methodNamed Bd.named
  have hnm := (name_of_methodNamed Bd.named Bd.method).1
  have X0 : Stand p l e (⟨0, 0, 0, 0⟩ : Room) s m #[(.ref t), (.int c), (.int (0 : Int32)), (.int (Int32.ofNat ds.length))] below meth cO s₁ [] 0 0 := Stand.of_body Bd
  have e0 : s₁.heap = h0 := by rw [← hh, Bd.state]; rfl
  have N0 := Fr.nil n0
  have D_ : ∀ {i : Nat} {x}, decode jdk_43_method_23_code i = x → decode cO.code i = x := fun h => hb hby h
  have W0 : ∀ zQ, SS p e below s₁ m 0 #[.val (.ref t), .val (.int c), .val (.int (0 : Int32)), .val (.int (Int32.ofNat ds.length)), .unset, .unset] [] zQ → Steps p.tables e below (s₁.setTop (entryFrame m #[(.ref t), (.int c), (.int (0 : Int32)), (.int (Int32.ofNat ds.length))] 6)) zQ := fun tt kt => castTop (ef_l1ixc m t c (0 : Int32) (Int32.ofNat ds.length)) kt
  have W101 : ∀ zQ, SS p e below s₁ m 7 #[.val (.ref t), .val (.int c), .val (.int (Int32.ofNat 0)), .val (.int (Int32.ofNat ds.length)), .val (.int (c.toInt8.toInt32)), .val (.int (Int32.ofNat 0))] [] zQ → Steps p.tables e below (s₁.setTop (entryFrame m #[(.ref t), (.int c), (.int (0 : Int32)), (.int (Int32.ofNat ds.length))] 6)) zQ := by
    intro tt kt
    refine W0 tt ?_
    refine XS.iloadN X0.here hx rfl (D_ d40_0) rfl ?_
    refine XS.i2b X0.here hx rfl (D_ d40_1) rfl ?_
    refine XS.istore X0.here hx rfl (D_ d40_2) rfl (l' := #[.val (.ref t), .val (.int c), .val (.int (0 : Int32)), .val (.int (Int32.ofNat ds.length)), .val (.int (c.toInt8.toInt32)), .unset]) rfl ?_
    refine XS.iloadN X0.here hx rfl (D_ d40_4) rfl ?_
    refine XS.istore X0.here hx rfl (D_ d40_5) rfl (l' := #[.val (.ref t), .val (.int c), .val (.int (0 : Int32)), .val (.int (Int32.ofNat ds.length)), .val (.int (c.toInt8.toInt32)), .val (.int (0 : Int32))]) rfl ?_
    show SS p e below s₁ m 7 #[.val (.ref t), .val (.int c), .val (.int (0 : Int32)), .val (.int (Int32.ofNat ds.length)), .val (.int (c.toInt8.toInt32)), .val (.int (0 : Int32))] [] _
    rw [show (0 : Int32) = (Int32.ofNat 0) from rfl]
    exact kt
  obtain ⟨T102, L102, h102, X102, e102, rw_103, Nl102, K102, st102⟩ := lp_ixc hx hZ hw hby hml hown (by decide) (by decide) (by decide) (by decide) Bd.returns t c (Int32.ofNat 0) kb ds (c.toInt8.toInt32) n0 hds ds.length 0 s₁ _ h0 X0 e0 N0 Z0 V1 (Nat.zero_add _)
  obtain ⟨fs, hr, hrun, hended, hW, hsame⟩ := X102.leave (v := some (.int rw_103)) (fun h => by rw [Bd.returns] at h; cases h)
  refine ⟨_, _, W101 _ (st102 _ hr), hrun, hended, _, _, rfl, ?_, ⟨_, rfl⟩, hW, hsame.mono (by decide) (by decide)⟩
  show Q_l1ixc Z t c kb ds h0 n0 _ T102.heap _
  rw [(e102.trans K102)]
  exact ⟨rw_103, rfl, Nl102, rfl⟩
def Q_canEncodeI (Z : State) (c : Int32) (h0 : Heap) (n0 : Nat) (vQ_ : Option Value) (hQ_ : Heap) (LQ_ : List Loc) : Prop := vQ_ = some (.int (1 : Int32)) ∧ Fr n0 LQ_ ∧ hQ_ = h0
theorem rm_canEncodeI (l : Launch) (Z : State) (a0 : Array Value) (hw : HW a0 Z) (ws : List Jvm.Cond) (c : Int32) (h0 : Heap) (n0 : Nat) (Z0 : n0 ≤ h0.size) (hc0 : ¬ (c < (0 : Int32))) (hc1 : ¬ ((255 : Int32) < c)) :
    CT l yn41 (Jvm.Cond.code yn41 jdk_43_method_4_code 1 (some .boolean) :: ws) (⟨0, 0, 0, 0⟩ : Room) #[(.int c)] Z h0 (Q_canEncodeI Z c h0 n0) := by
  refine MetFree.of_bodySF (plainFor_of_name pn_java_lang_StringLatin1) hisR ?_
  intro p e s m args below meth cO s₁ Bd hml hP hK
  obtain ⟨rfl, hZ, hh⟩ := hP
  have hx := Bd.exec
  have hby := Bd.bytes
  have hown : s.vm.findClass "java/lang/StringLatin1" = some m.cls := findClass_of_methodNamed Bd.named
  have hnm := (name_of_methodNamed Bd.named Bd.method).1
  have X0 : Stand p l e (⟨0, 0, 0, 0⟩ : Room) s m #[(.int c)] below meth cO s₁ [] 0 0 := Stand.of_body Bd
  have e0 : s₁.heap = h0 := by rw [← hh, Bd.state]; rfl
  have N0 := Fr.nil n0
  have D_ : ∀ {i : Nat} {x}, decode jdk_43_method_4_code i = x → decode cO.code i = x := fun h => hb hby h
  have W0 : ∀ zQ, SS p e below s₁ m 0 #[.val (.int c)] [] zQ → Steps p.tables e below (s₁.setTop (entryFrame m #[(.int c)] 1)) zQ := fun tt kt => castTop (ef_canEncodeI m c) kt
  have W101 : ∀ zQ, SS p e below s₁ m 16 #[.val (.int c)] [(.int (1 : Int32))] zQ → Steps p.tables e below (s₁.setTop (entryFrame m #[(.int c)] 1)) zQ := by
    intro tt kt
    refine W0 tt ?_
    refine XS.iloadN X0.here hx rfl (D_ d41_0) rfl ?_
    refine XS.ifNo X0.here hx rfl (D_ d41_1) rfl ((if0 _ _).trans (flt hc0).1) ?_
    refine XS.iloadN X0.here hx rfl (D_ d41_4) rfl ?_
    refine XS.sipush X0.here hx rfl (D_ d41_5) ?_
    refine XS.icmpNo X0.here hx rfl (D_ d41_8) rfl (flt hc1).2.2.1 ?_
    refine XS.iconst X0.here hx rfl (D_ d41_11) ?_
    refine XS.goto X0.here hx rfl (pc0 := 12) (pc' := 16) rfl (D_ d41_12) (by decide) (by decide) ?_
    exact kt
  obtain ⟨fs, hr, hrun, hended, hW, hsame⟩ := X0.leave (v := some (.int (nar .boolean (1 : Int32)))) (fun h => by rw [Bd.returns] at h; cases h)
  refine ⟨_, _, W101 _ (retN X0 hx (t := .boolean) Bd.returns (by simp) (D_ d41_16) hr), hrun, hended, _, _, rfl, ?_, ⟨_, rfl⟩, hW, hsame.mono (by decide) (by decide)⟩
  show Q_canEncodeI Z c h0 n0 _ s₁.heap _
  rw [e0]
  exact ⟨rfl, N0, rfl⟩
def Q_l1ix (Z : State) (t : Addr) (c : Int32) (kb : ClassId) (ds : List Int32) (h0 : Heap) (n0 : Nat) (vQ_ : Option Value) (hQ_ : Heap) (LQ_ : List Loc) : Prop := ∃ rw : Int32, vQ_ = some (.int rw) ∧ Fr n0 LQ_ ∧ hQ_ = h0
theorem rm_l1ix (l : Launch) (Z : State) (a0 : Array Value) (hw : HW a0 Z) (ws : List Jvm.Cond) (t : Addr) (c : Int32) (kb : ClassId) (ds : List Int32) (h0 : Heap) (n0 : Nat) (Z0 : n0 ≤ h0.size) (V1 : Arv Z h0 t kb .byte (Int32.ofNat ds.length) (l1 ds) (.int (0 : Int32))) (hds : ds.length ≤ 16) (hc0 : ¬ (c < (0 : Int32))) (hc1 : ¬ ((255 : Int32) < c)) :
    CT l yn42 (Jvm.Cond.code yn42 jdk_43_method_22_code 4 (some .int) :: ws) (⟨1, 0, 0, 17⟩ : Room) #[(.ref t), (.int c), (.int (0 : Int32)), (.int (Int32.ofNat ds.length))] Z h0 (Q_l1ix Z t c kb ds h0 n0) := by
  refine MetFree.of_bodySF (plainFor_of_name pn_java_lang_StringLatin1) hisR ?_
  intro p e s m args below meth cO s₁ Bd hml hP hK
  obtain ⟨rfl, hZ, hh⟩ := hP
  have hx := Bd.exec
  have hby := Bd.bytes
  have hown : s.vm.findClass "java/lang/StringLatin1" = some m.cls := findClass_of_methodNamed Bd.named
  have hnm := (name_of_methodNamed Bd.named Bd.method).1
  have X0 : Stand p l e (⟨1, 0, 0, 17⟩ : Room) s m #[(.ref t), (.int c), (.int (0 : Int32)), (.int (Int32.ofNat ds.length))] below meth cO s₁ [] 0 0 := Stand.of_body Bd
  have e0 : s₁.heap = h0 := by rw [← hh, Bd.state]; rfl
  have N0 := Fr.nil n0
  have D_ : ∀ {i : Nat} {x}, decode jdk_43_method_22_code i = x → decode cO.code i = x := fun h => hb hby h
  have W0 : ∀ zQ, SS p e below s₁ m 0 #[.val (.ref t), .val (.int c), .val (.int (0 : Int32)), .val (.int (Int32.ofNat ds.length))] [] zQ → Steps p.tables e below (s₁.setTop (entryFrame m #[(.ref t), (.int c), (.int (0 : Int32)), (.int (Int32.ofNat ds.length))] 4)) zQ := fun tt kt => castTop (ef_l1ix m t c (0 : Int32) (Int32.ofNat ds.length)) kt
  obtain ⟨_, _, ⟨T101, L101, k101, n101⟩, -, X101, ⟨Lc101, hQ101, l101, y101, z101⟩, st101⟩ := Jvm.LawKit.callS X0 hx (y := yn41) hown (mvT hZ (w211 hw)) (mvT hZ (w212 hw)) (mvT hZ (w120 hw)) (mvT hZ (w213 hw)) (by decide) (backOf (W := 0) (rm_canEncodeI l Z a0 hw [] c h0 n0 Z0 hc0 hc1) hZ (w213 hw) (w120 hw) (by decide) (by decide)) (g := (mkF m 1 #[.val (.ref t), .val (.int c), .val (.int (0 : Int32)), .val (.int (Int32.ofNat ds.length))] [(.int c)])) rfl (by rw [hml]; rfl) (argsL := [(.int c)]) (rest := []) (lenOf pd26 rfl) rfl (wq rfl) (D_ d42_1) (fun _ _ => ⟨rfl, e0, (nb rfl), (nb rfl)⟩)
  dsimp only [Pt.U, Pt.locs, Pt.cells, Pt.slots] at X101 l101 y101 z101 st101 hQ101
  subst l101 y101 z101
  obtain ⟨rfl, Nq101, eq101⟩ := hQ101
  have N101 := Fr.app N0 Nq101
  obtain ⟨_, _, ⟨T102, L102, k102, n102⟩, -, X102, ⟨Lc102, hQ102, l102, y102, z102⟩, st102⟩ := Jvm.LawKit.callS X101 hx (y := yn7) hown (mvT hZ (w214 hw)) (mvT hZ (w215 hw)) (mvT hZ (w94 hw)) (mvT hZ (w216 hw)) (by decide) (backOf (W := 0) (rm_maxi l Z a0 hw [] (0 : Int32) (0 : Int32) h0 n0 Z0 ) hZ (w216 hw) (w94 hw) (by decide) (by decide)) (g := (mkF m 11 #[.val (.ref t), .val (.int c), .val (.int (0 : Int32)), .val (.int (Int32.ofNat ds.length))] [(.int (0 : Int32)), (.int (0 : Int32))])) rfl (by rw [hml]; rfl) (argsL := [(.int (0 : Int32)), (.int (0 : Int32))]) (rest := []) (lenOf pd2 rfl) rfl (wq rfl) (D_ d42_11) (fun _ _ => ⟨rfl, eq101, (nb rfl), (nb rfl)⟩)
  dsimp only [Pt.U, Pt.locs, Pt.cells, Pt.slots] at X102 l102 y102 z102 st102 hQ102
  subst l102 y102 z102
  obtain ⟨rfl, Nq102, eq102⟩ := hQ102
  have N102 := Fr.app N101 Nq102
  obtain ⟨cl103, Ar103, -, S103, M103, -, -⟩ := id V1
  obtain ⟨_, _, ⟨T104, L104, k104, n104⟩, -, X104, ⟨Lc104, hQ104, l104, y104, z104⟩, st104⟩ := Jvm.LawKit.callS X102 hx (y := yn4) hown (mvT hZ (w217 hw)) (mvT hZ (w93 hw)) (mvT hZ (w94 hw)) (mvT hZ (w95 hw)) (by decide) (backOf (W := 0) (rm_mini l Z a0 hw [] (Int32.ofNat ds.length) (Int32.ofNat ds.length) h0 n0 Z0 ) hZ (w95 hw) (w94 hw) (by decide) (by decide)) (g := (mkF m 18 #[.val (.ref t), .val (.int c), .val (.int (0 : Int32)), .val (.int (Int32.ofNat ds.length))] [(.int (Int32.ofNat ds.length)), (.int (Int32.ofNat ds.length))])) rfl (by rw [hml]; rfl) (argsL := [(.int (Int32.ofNat ds.length)), (.int (Int32.ofNat ds.length))]) (rest := []) (lenOf pd2 rfl) rfl (wq rfl) (D_ d42_18) (fun _ _ => ⟨rfl, eq102, (nb rfl), (nb rfl)⟩)
  dsimp only [Pt.U, Pt.locs, Pt.cells, Pt.slots] at X104 l104 y104 z104 st104 hQ104
  subst l104 y104 z104
  obtain ⟨rfl, Nq104, eq104⟩ := hQ104
  have N104 := Fr.app N102 Nq104
  have W105 : ∀ zQ, SS p e below T104 m 24 #[.val (.ref t), .val (.int c), .val (.int (0 : Int32)), .val (.int (Int32.ofNat ds.length))] [(.int (Int32.ofNat ds.length)), (.int (0 : Int32))] zQ → Steps p.tables e below (s₁.setTop (entryFrame m #[(.ref t), (.int c), (.int (0 : Int32)), (.int (Int32.ofNat ds.length))] 4)) zQ := by
    intro tt kt
    refine W0 tt ?_
    refine XS.iloadN X0.here hx rfl (D_ d42_0) rfl ?_
    refine st101 _ ?_
    refine XS.ifYes X101.here hx rfl (pc0 := 4) (pc' := 9) rfl (D_ d42_4) rfl ((if0 _ _).trans (feq (by decide)).2) (by decide) (by decide) ?_
    refine XS.iloadN X101.here hx rfl (D_ d42_9) rfl ?_
    refine XS.iconst X101.here hx rfl (D_ d42_10) ?_
    refine st102 _ ?_
    show SS p e below T102 m 14 #[.val (.ref t), .val (.int c), .val (.int (0 : Int32)), .val (.int (Int32.ofNat ds.length))] [(.int (if (0 : Int32) < (0 : Int32) then (0 : Int32) else (0 : Int32)))] _
    rw [show (if (0 : Int32) < (0 : Int32) then (0 : Int32) else (0 : Int32)) = (0 : Int32) from (by decide)]
    refine XS.istoreN X102.here hx rfl (D_ d42_14) rfl (l' := #[.val (.ref t), .val (.int c), .val (.int (0 : Int32)), .val (.int (Int32.ofNat ds.length))]) rfl ?_
    refine XS.iloadN X102.here hx rfl (D_ d42_15) rfl ?_
    refine XS.aloadN X102.here hx rfl (D_ d42_16) rfl rfl ?_
    refine X102.arraylength hx (by first | exact Ar103.1 | (rw [eq102]; exact Ar103.1)) (State.isArrayOf_alike hZ.alike Ar103.2.1) (g := (mkF m 17 #[.val (.ref t), .val (.int c), .val (.int (0 : Int32)), .val (.int (Int32.ofNat ds.length))] [(.ref t), (.int (Int32.ofNat ds.length))])) rfl rfl (D_ d42_17) _ ?_
    rw [len_of S103 M103]
    refine st104 _ ?_
    show SS p e below T104 m 21 #[.val (.ref t), .val (.int c), .val (.int (0 : Int32)), .val (.int (Int32.ofNat ds.length))] [(.int (if (Int32.ofNat ds.length) < (Int32.ofNat ds.length) then (Int32.ofNat ds.length) else (Int32.ofNat ds.length)))] _
    rw [show (if (Int32.ofNat ds.length) < (Int32.ofNat ds.length) then (Int32.ofNat ds.length) else (Int32.ofNat ds.length)) = (Int32.ofNat ds.length) from (ite_self _)]
    refine XS.istoreN X104.here hx rfl (D_ d42_21) rfl (l' := #[.val (.ref t), .val (.int c), .val (.int (0 : Int32)), .val (.int (Int32.ofNat ds.length))]) rfl ?_
    refine XS.iloadN X104.here hx rfl (D_ d42_22) rfl ?_
    refine XS.iloadN X104.here hx rfl (D_ d42_23) rfl ?_
    exact kt
  by_cases hc106 : (0 : Int32) < (Int32.ofNat ds.length)
  ·
    obtain ⟨_, _, ⟨T107, L107, k107, n107⟩, -, X107, ⟨Lc107, hQ107, l107, y107, z107⟩, st107⟩ := Jvm.LawKit.callS X104 hx (y := yn40) hown (mvT hZ (w281 hw)) (mvT hZ (w282 hw)) (mvT hZ (w120 hw)) (mvT hZ (w283 hw)) (by decide) (backOf (W := 0) (rm_l1ixc l Z a0 hw [] t c kb ds h0 n0 Z0 V1 hds) hZ (w283 hw) (w120 hw) (by decide) (by decide)) (g := (mkF m 33 #[.val (.ref t), .val (.int c), .val (.int (0 : Int32)), .val (.int (Int32.ofNat ds.length))] [(.int (Int32.ofNat ds.length)), (.int (0 : Int32)), (.int c), (.ref t)])) rfl (by rw [hml]; rfl) (argsL := [(.ref t), (.int c), (.int (0 : Int32)), (.int (Int32.ofNat ds.length))]) (rest := []) (lenOf pd27 rfl) rfl (wq rfl) (D_ d42_33) (fun _ _ => ⟨rfl, eq104, (nb rfl), (nb rfl)⟩)
    dsimp only [Pt.U, Pt.locs, Pt.cells, Pt.slots] at X107 l107 y107 z107 st107 hQ107
    subst l107 y107 z107
    obtain ⟨rw_108, rfl, Nq107, eq107⟩ := hQ107
    have N107 := Fr.app N104 Nq107
    have W109 : ∀ zQ, SS p e below T107 m 36 #[.val (.ref t), .val (.int c), .val (.int (0 : Int32)), .val (.int (Int32.ofNat ds.length))] [(.int rw_108)] zQ → Steps p.tables e below (s₁.setTop (entryFrame m #[(.ref t), (.int c), (.int (0 : Int32)), (.int (Int32.ofNat ds.length))] 4)) zQ := by
      intro tt kt
      refine W105 tt ?_
      refine XS.icmpYes X104.here hx rfl (pc0 := 24) (pc' := 29) rfl (D_ d42_24) rfl (tlt hc106).1 (by decide) (by decide) ?_
      refine XS.aloadN X104.here hx rfl (D_ d42_29) rfl rfl ?_
      refine XS.iloadN X104.here hx rfl (D_ d42_30) rfl ?_
      refine XS.iloadN X104.here hx rfl (D_ d42_31) rfl ?_
      refine XS.iloadN X104.here hx rfl (D_ d42_32) rfl ?_
      refine st107 _ ?_
      exact kt
    obtain ⟨fs, hr, hrun, hended, hW, hsame⟩ := X107.leave (v := some (.int rw_108)) (fun h => by rw [Bd.returns] at h; cases h)
    refine ⟨_, _, W109 _ (retI X107 hx Bd.returns (D_ d42_36) hr), hrun, hended, _, _, rfl, ?_, ⟨_, rfl⟩, hW, hsame.mono (by decide) (by decide)⟩
    show Q_l1ix Z t c kb ds h0 n0 _ T107.heap _
    rw [eq107]
    exact ⟨rw_108, rfl, N107, rfl⟩
  ·
    have W110 : ∀ zQ, SS p e below T104 m 28 #[.val (.ref t), .val (.int c), .val (.int (0 : Int32)), .val (.int (Int32.ofNat ds.length))] [(.int (-1 : Int32))] zQ → Steps p.tables e below (s₁.setTop (entryFrame m #[(.ref t), (.int c), (.int (0 : Int32)), (.int (Int32.ofNat ds.length))] 4)) zQ := by
      intro tt kt
      refine W105 tt ?_
      refine XS.icmpNo X104.here hx rfl (D_ d42_24) rfl (flt hc106).1 ?_
      refine XS.iconst X104.here hx rfl (D_ d42_27) ?_
      exact kt
    obtain ⟨fs, hr, hrun, hended, hW, hsame⟩ := X104.leave (v := some (.int (-1 : Int32))) (fun h => by rw [Bd.returns] at h; cases h)
    refine ⟨_, _, W110 _ (retI X104 hx Bd.returns (D_ d42_28) hr), hrun, hended, _, _, rfl, ?_, ⟨_, rfl⟩, hW, hsame.mono (by decide) (by decide)⟩
    show Q_l1ix Z t c kb ds h0 n0 _ T104.heap _
    rw [eq104]
    exact ⟨(-1 : Int32), rfl, N104, rfl⟩
def Q_sixII (Z : State) (a : Addr) (c : Int32) (t : Addr) (kb : ClassId) (ds : List Int32) (cS : Int32) (h0 : Heap) (n0 : Nat) (vQ_ : Option Value) (hQ_ : Heap) (LQ_ : List Loc) : Prop := ∃ rw : Int32, vQ_ = some (.int rw) ∧ Fr n0 LQ_ ∧ hQ_ = h0
theorem rm_sixII (l : Launch) (Z : State) (a0 : Array Value) (hw : HW a0 Z) (ws : List Jvm.Cond) (a : Addr) (c : Int32) (t : Addr) (kb : ClassId) (ds : List Int32) (cS : Int32) (h0 : Heap) (n0 : Nat) (Z0 : n0 ≤ h0.size) (O0 : Old Z n0 h0) (S_cs : Sta Z Z.heap "java/lang/String" "COMPACT_STRINGS" "Z" (.int cS)) (hcS : ¬ (cS = (0 : Int32))) (hS : Str Z h0 a t kb ds) (hl : lat ds = true) (hds : ds.length ≤ 16) (hc0 : ¬ (c < (0 : Int32))) (hc1 : ¬ ((255 : Int32) < c)) :
    CT l yn43 (Jvm.Cond.code yn43 jdk_42_method_80_code 3 (some .int) :: ws) (⟨2, 0, 0, 32⟩ : Room) #[(.ref a), (.int c), (.int (0 : Int32))] Z h0 (Q_sixII Z a c t kb ds cS h0 n0) := by
  refine MetFree.of_bodySF (plainFor_of_name pn_java_lang_String) hisR ?_
  intro p e s m args below meth cO s₁ Bd hml hP hK
  obtain ⟨rfl, hZ, hh⟩ := hP
  have hx := Bd.exec
  have hby := Bd.bytes
  have hown : s.vm.findClass "java/lang/String" = some m.cls := findClass_of_methodNamed Bd.named
  have hnm := (name_of_methodNamed Bd.named Bd.method).1
  have X0 : Stand p l e (⟨2, 0, 0, 32⟩ : Room) s m #[(.ref a), (.int c), (.int (0 : Int32))] below meth cO s₁ [] 0 0 := Stand.of_body Bd
  have e0 : s₁.heap = h0 := by rw [← hh, Bd.state]; rfl
  have N0 := Fr.nil n0
  have D_ : ∀ {i : Nat} {x}, decode jdk_42_method_80_code i = x → decode cO.code i = x := fun h => hb hby h
  have W0 : ∀ zQ, SS p e below s₁ m 0 #[.val (.ref a), .val (.int c), .val (.int (0 : Int32))] [] zQ → Steps p.tables e below (s₁.setTop (entryFrame m #[(.ref a), (.int c), (.int (0 : Int32))] 3)) zQ := fun tt kt => castTop (ef_sixII m a c (0 : Int32)) kt
  obtain ⟨dhE, dhV, dhC, dhA, okd⟩ := (id hS)
  have hA101 : Arv Z h0 t kb .byte (Int32.ofNat ds.length) (l1 ds) (.int (0 : Int32)) := by have q := enc_lat hl; rw [← q.1, ← q.2.1]; exact dhA
  obtain ⟨cq102, kq102, q102a, q102b, q102c⟩ := isOf hZ e0 dhE
  obtain ⟨_, _, ⟨T102, L102, k102, n102⟩, -, X102, ⟨Lc102, hQ102, l102, y102, z102⟩, st102⟩ := X0.virtualBack hx (y := yn0) (z := yn0) hown (mvT hZ (w202 hw)) (mvT hZ (w203 hw)) (notFace_of_selects (args := #[]) (mvT hZ (w205 hw))) (mvT hZ (w205 hw)) (mvT hZ (w204 hw)) (by decide) (backOf (W := 0) (rm_isLatin1 l Z a0 hw [] a (cdr ds) cS h0 n0 Z0 O0 S_cs hcS dhC) hZ (w206 hw) (w23 hw) (by decide) (by decide)) q102a q102c (g := (mkF m 1 #[.val (.ref a), .val (.int c), .val (.int (0 : Int32))] [(.ref a)])) rfl (by rw [hml]; rfl) (Steps.refl _) (argsL := []) (rest := []) (lenOf pd8 rfl) rfl (wq rfl) (D_ d43_1) (fun _ _ => ⟨rfl, e0, (nb rfl), (nb rfl)⟩)
  dsimp only [Pt.U, Pt.locs, Pt.cells, Pt.slots] at X102 l102 y102 z102 st102 hQ102
  subst l102 y102 z102
  obtain ⟨rfl, Nq102, eq102⟩ := hQ102
  have N102 := Fr.app N0 Nq102
  obtain ⟨T103, X103, e103, st103⟩ := getF X102 hx hZ hown (host := "") (Or.inl (w100 hw)) Via.refl eq102 dhV (g := (mkF m 8 #[.val (.ref a), .val (.int c), .val (.int (0 : Int32))] [(.ref a)])) rfl rfl (D_ d43_8)
  obtain ⟨cq104, kq104, q104a, q104b, q104c⟩ := isOf hZ e103 dhE
  obtain ⟨_, _, ⟨T104, L104, k104, n104⟩, -, X104, ⟨Lc104, hQ104, l104, y104, z104⟩, st104⟩ := X103.virtualBack hx (y := yn2) (z := yn2) hown (mvT hZ (w207 hw)) (mvT hZ (w147 hw)) (notFace_of_selects (args := #[]) (mvT hZ (w149 hw))) (mvT hZ (w149 hw)) (mvT hZ (w148 hw)) (by decide) (backOf (W := 3) (rm_length l Z a0 hw [] a t kb ds cS h0 n0 Z0 O0 S_cs hcS hS) hZ (w150 hw) (w23 hw) (by decide) (by decide)) q104a q104c (g := (mkF m 14 #[.val (.ref a), .val (.int c), .val (.int (0 : Int32))] [(.ref a), (.int (0 : Int32)), (.int c), (.ref t)])) rfl (by rw [hml]; rfl) (Steps.refl _) (argsL := []) (rest := [(.int (0 : Int32)), (.int c), (.ref t)]) (lenOf pd13 rfl) rfl (wq rfl) (D_ d43_14) (fun _ _ => ⟨rfl, e103, (nb rfl), (nb rfl)⟩)
  dsimp only [Pt.U, Pt.locs, Pt.cells, Pt.slots] at X104 l104 y104 z104 st104 hQ104
  subst l104 y104 z104
  obtain ⟨rfl, Nq104, eq104⟩ := hQ104
  have N104 := Fr.app N102 Nq104
  obtain ⟨_, _, ⟨T105, L105, k105, n105⟩, -, X105, ⟨Lc105, hQ105, l105, y105, z105⟩, st105⟩ := Jvm.LawKit.callS X104 hx (y := yn42) hown (mvT hZ (w208 hw)) (mvT hZ (w209 hw)) (mvT hZ (w120 hw)) (mvT hZ (w210 hw)) (by decide) (backOf (W := 0) (rm_l1ix l Z a0 hw [] t c kb ds h0 n0 Z0 hA101 hds hc0 hc1) hZ (w210 hw) (w120 hw) (by decide) (by decide)) (g := (mkF m 17 #[.val (.ref a), .val (.int c), .val (.int (0 : Int32))] [(.int (Int32.ofNat ds.length)), (.int (0 : Int32)), (.int c), (.ref t)])) rfl (by rw [hml]; rfl) (argsL := [(.ref t), (.int c), (.int (0 : Int32)), (.int (Int32.ofNat ds.length))]) (rest := []) (lenOf pd27 rfl) rfl (wq rfl) (D_ d43_17) (fun _ _ => ⟨rfl, eq104, (nb rfl), (nb rfl)⟩)
  dsimp only [Pt.U, Pt.locs, Pt.cells, Pt.slots] at X105 l105 y105 z105 st105 hQ105
  subst l105 y105 z105
  obtain ⟨rw_106, rfl, Nq105, eq105⟩ := hQ105
  have N105 := Fr.app N104 Nq105
  have W107 : ∀ zQ, SS p e below T105 m 36 #[.val (.ref a), .val (.int c), .val (.int (0 : Int32))] [(.int rw_106)] zQ → Steps p.tables e below (s₁.setTop (entryFrame m #[(.ref a), (.int c), (.int (0 : Int32))] 3)) zQ := by
    intro tt kt
    refine W0 tt ?_
    refine XS.aloadN X0.here hx rfl (D_ d43_0) rfl rfl ?_
    refine st102.trans ?_
    show SS p e below T102 m 4 #[.val (.ref a), .val (.int c), .val (.int (0 : Int32))] [(.int (if (cdr ds) = (0 : Int32) then (1 : Int32) else (0 : Int32)))] _
    rw [show (if (cdr ds) = (0 : Int32) then (1 : Int32) else (0 : Int32)) = (1 : Int32) from (if_pos (enc_lat hl).2.2)]
    refine XS.ifNo X102.here hx rfl (D_ d43_4) rfl ((if0 _ _).trans (feq (by decide)).1) ?_
    refine XS.aloadN X102.here hx rfl (D_ d43_7) rfl rfl ?_
    refine st103 _ ?_
    refine XS.iloadN X103.here hx rfl (D_ d43_11) rfl ?_
    refine XS.iloadN X103.here hx rfl (D_ d43_12) rfl ?_
    refine XS.aloadN X103.here hx rfl (D_ d43_13) rfl rfl ?_
    refine st104.trans ?_
    refine st105 _ ?_
    refine XS.goto X105.here hx rfl (pc0 := 20) (pc' := 36) rfl (D_ d43_20) (by decide) (by decide) ?_
    exact kt
  obtain ⟨fs, hr, hrun, hended, hW, hsame⟩ := X105.leave (v := some (.int rw_106)) (fun h => by rw [Bd.returns] at h; cases h)
  refine ⟨_, _, W107 _ (retI X105 hx Bd.returns (D_ d43_36) hr), hrun, hended, _, _, rfl, ?_, ⟨_, rfl⟩, hW, hsame.mono (by decide) (by decide)⟩
  show Q_sixII Z a c t kb ds cS h0 n0 _ T105.heap _
  rw [eq105]
  exact ⟨rw_106, rfl, N105, rfl⟩
def Q_six (Z : State) (a : Addr) (c : Int32) (t : Addr) (kb : ClassId) (ds : List Int32) (cS : Int32) (h0 : Heap) (n0 : Nat) (vQ_ : Option Value) (hQ_ : Heap) (LQ_ : List Loc) : Prop := ∃ rw : Int32, vQ_ = some (.int rw) ∧ Fr n0 LQ_ ∧ hQ_ = h0
theorem rm_six (l : Launch) (Z : State) (a0 : Array Value) (hw : HW a0 Z) (ws : List Jvm.Cond) (a : Addr) (c : Int32) (t : Addr) (kb : ClassId) (ds : List Int32) (cS : Int32) (h0 : Heap) (n0 : Nat) (Z0 : n0 ≤ h0.size) (O0 : Old Z n0 h0) (S_cs : Sta Z Z.heap "java/lang/String" "COMPACT_STRINGS" "Z" (.int cS)) (hcS : ¬ (cS = (0 : Int32))) (hS : Str Z h0 a t kb ds) (hl : lat ds = true) (hds : ds.length ≤ 16) (hc0 : ¬ (c < (0 : Int32))) (hc1 : ¬ ((255 : Int32) < c)) :
    CT l yn44 (Jvm.Cond.code yn44 jdk_42_method_79_code 2 (some .int) :: ws) (⟨3, 0, 0, 46⟩ : Room) #[(.ref a), (.int c)] Z h0 (Q_six Z a c t kb ds cS h0 n0) := by
  refine MetFree.of_bodySF (plainFor_of_name pn_java_lang_String) hisR ?_
  intro p e s m args below meth cO s₁ Bd hml hP hK
  obtain ⟨rfl, hZ, hh⟩ := hP
  have hx := Bd.exec
  have hby := Bd.bytes
  have hown : s.vm.findClass "java/lang/String" = some m.cls := findClass_of_methodNamed Bd.named
  have hnm := (name_of_methodNamed Bd.named Bd.method).1
  have X0 : Stand p l e (⟨3, 0, 0, 46⟩ : Room) s m #[(.ref a), (.int c)] below meth cO s₁ [] 0 0 := Stand.of_body Bd
  have e0 : s₁.heap = h0 := by rw [← hh, Bd.state]; rfl
  have N0 := Fr.nil n0
  have D_ : ∀ {i : Nat} {x}, decode jdk_42_method_79_code i = x → decode cO.code i = x := fun h => hb hby h
  have W0 : ∀ zQ, SS p e below s₁ m 0 #[.val (.ref a), .val (.int c)] [] zQ → Steps p.tables e below (s₁.setTop (entryFrame m #[(.ref a), (.int c)] 2)) zQ := fun tt kt => castTop (ef_six m a c) kt
  obtain ⟨cq101, kq101, q101a, q101b, q101c⟩ := isOf hZ e0 hS.1
  obtain ⟨_, _, ⟨T101, L101, k101, n101⟩, -, X101, ⟨Lc101, hQ101, l101, y101, z101⟩, st101⟩ := X0.virtualBack hx (y := yn43) (z := yn43) hown (mvT hZ (w197 hw)) (mvT hZ (w198 hw)) (notFace_of_selects (args := #[]) (mvT hZ (w200 hw))) (mvT hZ (w200 hw)) (mvT hZ (w199 hw)) (by decide) (backOf (W := 0) (rm_sixII l Z a0 hw [] a c t kb ds cS h0 n0 Z0 O0 S_cs hcS hS hl hds hc0 hc1) hZ (w201 hw) (w23 hw) (by decide) (by decide)) q101a q101c (g := (mkF m 3 #[.val (.ref a), .val (.int c)] [(.int (0 : Int32)), (.int c), (.ref a)])) rfl (by rw [hml]; rfl) (Steps.refl _) (argsL := [(.int c), (.int (0 : Int32))]) (rest := []) (lenOf pd2 rfl) rfl (wq rfl) (D_ d44_3) (fun _ _ => ⟨rfl, e0, (nb rfl), (nb rfl)⟩)
  dsimp only [Pt.U, Pt.locs, Pt.cells, Pt.slots] at X101 l101 y101 z101 st101 hQ101
  subst l101 y101 z101
  obtain ⟨rw_102, rfl, Nq101, eq101⟩ := hQ101
  have N101 := Fr.app N0 Nq101
  have W103 : ∀ zQ, SS p e below T101 m 6 #[.val (.ref a), .val (.int c)] [(.int rw_102)] zQ → Steps p.tables e below (s₁.setTop (entryFrame m #[(.ref a), (.int c)] 2)) zQ := by
    intro tt kt
    refine W0 tt ?_
    refine XS.aloadN X0.here hx rfl (D_ d44_0) rfl rfl ?_
    refine XS.iloadN X0.here hx rfl (D_ d44_1) rfl ?_
    refine XS.iconst X0.here hx rfl (D_ d44_2) ?_
    refine st101.trans ?_
    exact kt
  obtain ⟨fs, hr, hrun, hended, hW, hsame⟩ := X101.leave (v := some (.int rw_102)) (fun h => by rw [Bd.returns] at h; cases h)
  refine ⟨_, _, W103 _ (retI X101 hx Bd.returns (D_ d44_6) hr), hrun, hended, _, _, rfl, ?_, ⟨_, rfl⟩, hW, hsame.mono (by decide) (by decide)⟩
  show Q_six Z a c t kb ds cS h0 n0 _ T101.heap _
  rw [eq101]
  exact ⟨rw_102, rfl, N101, rfl⟩
def Q_unres (Z : State) (c : Int32) (h0 : Heap) (n0 : Nat) (vQ_ : Option Value) (hQ_ : Heap) (LQ_ : List Loc) : Prop := ∃ rw : Int32, vQ_ = some (.int rw) ∧ Fr n0 LQ_ ∧ hQ_ = h0
theorem rm_unres (l : Launch) (Z : State) (a0 : Array Value) (hw : HW a0 Z) (ws : List Jvm.Cond) (c : Int32) (h0 : Heap) (n0 : Nat) (Z0 : n0 ≤ h0.size)  :
    CT l yn45 (Jvm.Cond.code yn45 prog_15_method_3_code 1 (some .boolean) :: ws) (⟨0, 0, 0, 0⟩ : Room) #[(.int c)] Z h0 (Q_unres Z c h0 n0) := by
  refine MetFree.of_bodySF (plainFor_of_name pn_com_example_patents_via_api_patentsviaapi_http_PercentEncoding) hisR ?_
  intro p e s m args below meth cO s₁ Bd hml hP hK
  obtain ⟨rfl, hZ, hh⟩ := hP
  have hx := Bd.exec
  have hby := Bd.bytes
  have hown : s.vm.findClass "com/example/patents_via_api/patentsviaapi/http/PercentEncoding" = some m.cls := findClass_of_methodNamed Bd.named
  have hnm := (name_of_methodNamed Bd.named Bd.method).1
  have X0 : Stand p l e (⟨0, 0, 0, 0⟩ : Room) s m #[(.int c)] below meth cO s₁ [] 0 0 := Stand.of_body Bd
  have e0 : s₁.heap = h0 := by rw [← hh, Bd.state]; rfl
  have N0 := Fr.nil n0
  have D_ : ∀ {i : Nat} {x}, decode prog_15_method_3_code i = x → decode cO.code i = x := fun h => hb hby h
  have W0 : ∀ zQ, SS p e below s₁ m 0 #[.val (.int c)] [] zQ → Steps p.tables e below (s₁.setTop (entryFrame m #[(.int c)] 1)) zQ := fun tt kt => castTop (ef_unres m c) kt
  have W101 : ∀ zQ, SS p e below s₁ m 3 #[.val (.int c)] [(.int (65 : Int32)), (.int c)] zQ → Steps p.tables e below (s₁.setTop (entryFrame m #[(.int c)] 1)) zQ := by
    intro tt kt
    refine W0 tt ?_
    refine XS.iloadN X0.here hx rfl (D_ d45_0) rfl ?_
    refine XS.bipush X0.here hx rfl (D_ d45_1) ?_
    exact kt
  by_cases hc102 : c < (65 : Int32)
  ·
    have W103 : ∀ zQ, SS p e below s₁ m 27 #[.val (.int c)] [(.int (48 : Int32)), (.int c)] zQ → Steps p.tables e below (s₁.setTop (entryFrame m #[(.int c)] 1)) zQ := by
      intro tt kt
      refine W101 tt ?_
      refine XS.icmpYes X0.here hx rfl (pc0 := 3) (pc' := 12) rfl (D_ d45_3) rfl (tlt hc102).1 (by decide) (by decide) ?_
      refine XS.iloadN X0.here hx rfl (D_ d45_12) rfl ?_
      refine XS.bipush X0.here hx rfl (D_ d45_13) ?_
      refine XS.icmpYes X0.here hx rfl (pc0 := 15) (pc' := 24) rfl (D_ d45_15) rfl (tlt (own_ltx hc102 (by decide))).1 (by decide) (by decide) ?_
      refine XS.iloadN X0.here hx rfl (D_ d45_24) rfl ?_
      refine XS.bipush X0.here hx rfl (D_ d45_25) ?_
      exact kt
    by_cases hc104 : c < (48 : Int32)
    ·
      have W105 : ∀ zQ, SS p e below s₁ m 39 #[.val (.int c)] [(.int (45 : Int32)), (.int c)] zQ → Steps p.tables e below (s₁.setTop (entryFrame m #[(.int c)] 1)) zQ := by
        intro tt kt
        refine W103 tt ?_
        refine XS.icmpYes X0.here hx rfl (pc0 := 27) (pc' := 36) rfl (D_ d45_27) rfl (tlt hc104).1 (by decide) (by decide) ?_
        refine XS.iloadN X0.here hx rfl (D_ d45_36) rfl ?_
        refine XS.bipush X0.here hx rfl (D_ d45_37) ?_
        exact kt
      by_cases hc106 : c = (45 : Int32)
      ·
        have W107 : ∀ zQ, SS p e below s₁ m 65 #[.val (.int c)] [(.int (1 : Int32))] zQ → Steps p.tables e below (s₁.setTop (entryFrame m #[(.int c)] 1)) zQ := by
          intro tt kt
          refine W105 tt ?_
          refine XS.icmpYes X0.here hx rfl (pc0 := 39) (pc' := 60) rfl (D_ d45_39) rfl (teq hc106).1 (by decide) (by decide) ?_
          refine XS.iconst X0.here hx rfl (D_ d45_60) ?_
          refine XS.goto X0.here hx rfl (pc0 := 61) (pc' := 65) rfl (D_ d45_61) (by decide) (by decide) ?_
          exact kt
        obtain ⟨fs, hr, hrun, hended, hW, hsame⟩ := X0.leave (v := some (.int (nar .boolean (1 : Int32)))) (fun h => by rw [Bd.returns] at h; cases h)
        refine ⟨_, _, W107 _ (retN X0 hx (t := .boolean) Bd.returns (by simp) (D_ d45_65) hr), hrun, hended, _, _, rfl, ?_, ⟨_, rfl⟩, hW, hsame.mono (by decide) (by decide)⟩
        show Q_unres Z c h0 n0 _ s₁.heap _
        rw [e0]
        exact ⟨(1 : Int32), rfl, N0, rfl⟩
      ·
        have W108 : ∀ zQ, SS p e below s₁ m 45 #[.val (.int c)] [(.int (46 : Int32)), (.int c)] zQ → Steps p.tables e below (s₁.setTop (entryFrame m #[(.int c)] 1)) zQ := by
          intro tt kt
          refine W105 tt ?_
          refine XS.icmpNo X0.here hx rfl (D_ d45_39) rfl (feq hc106).1 ?_
          refine XS.iloadN X0.here hx rfl (D_ d45_42) rfl ?_
          refine XS.bipush X0.here hx rfl (D_ d45_43) ?_
          exact kt
        by_cases hc109 : c = (46 : Int32)
        ·
          have W110 : ∀ zQ, SS p e below s₁ m 65 #[.val (.int c)] [(.int (1 : Int32))] zQ → Steps p.tables e below (s₁.setTop (entryFrame m #[(.int c)] 1)) zQ := by
            intro tt kt
            refine W108 tt ?_
            refine XS.icmpYes X0.here hx rfl (pc0 := 45) (pc' := 60) rfl (D_ d45_45) rfl (teq hc109).1 (by decide) (by decide) ?_
            refine XS.iconst X0.here hx rfl (D_ d45_60) ?_
            refine XS.goto X0.here hx rfl (pc0 := 61) (pc' := 65) rfl (D_ d45_61) (by decide) (by decide) ?_
            exact kt
          obtain ⟨fs, hr, hrun, hended, hW, hsame⟩ := X0.leave (v := some (.int (nar .boolean (1 : Int32)))) (fun h => by rw [Bd.returns] at h; cases h)
          refine ⟨_, _, W110 _ (retN X0 hx (t := .boolean) Bd.returns (by simp) (D_ d45_65) hr), hrun, hended, _, _, rfl, ?_, ⟨_, rfl⟩, hW, hsame.mono (by decide) (by decide)⟩
          show Q_unres Z c h0 n0 _ s₁.heap _
          rw [e0]
          exact ⟨(1 : Int32), rfl, N0, rfl⟩
        ·
          have W111 : ∀ zQ, SS p e below s₁ m 51 #[.val (.int c)] [(.int (95 : Int32)), (.int c)] zQ → Steps p.tables e below (s₁.setTop (entryFrame m #[(.int c)] 1)) zQ := by
            intro tt kt
            refine W108 tt ?_
            refine XS.icmpNo X0.here hx rfl (D_ d45_45) rfl (feq hc109).1 ?_
            refine XS.iloadN X0.here hx rfl (D_ d45_48) rfl ?_
            refine XS.bipush X0.here hx rfl (D_ d45_49) ?_
            exact kt
          by_cases hc112 : c = (95 : Int32)
          ·
            have W113 : ∀ zQ, SS p e below s₁ m 65 #[.val (.int c)] [(.int (1 : Int32))] zQ → Steps p.tables e below (s₁.setTop (entryFrame m #[(.int c)] 1)) zQ := by
              intro tt kt
              refine W111 tt ?_
              refine XS.icmpYes X0.here hx rfl (pc0 := 51) (pc' := 60) rfl (D_ d45_51) rfl (teq hc112).1 (by decide) (by decide) ?_
              refine XS.iconst X0.here hx rfl (D_ d45_60) ?_
              refine XS.goto X0.here hx rfl (pc0 := 61) (pc' := 65) rfl (D_ d45_61) (by decide) (by decide) ?_
              exact kt
            obtain ⟨fs, hr, hrun, hended, hW, hsame⟩ := X0.leave (v := some (.int (nar .boolean (1 : Int32)))) (fun h => by rw [Bd.returns] at h; cases h)
            refine ⟨_, _, W113 _ (retN X0 hx (t := .boolean) Bd.returns (by simp) (D_ d45_65) hr), hrun, hended, _, _, rfl, ?_, ⟨_, rfl⟩, hW, hsame.mono (by decide) (by decide)⟩
            show Q_unres Z c h0 n0 _ s₁.heap _
            rw [e0]
            exact ⟨(1 : Int32), rfl, N0, rfl⟩
          ·
            have W114 : ∀ zQ, SS p e below s₁ m 57 #[.val (.int c)] [(.int (126 : Int32)), (.int c)] zQ → Steps p.tables e below (s₁.setTop (entryFrame m #[(.int c)] 1)) zQ := by
              intro tt kt
              refine W111 tt ?_
              refine XS.icmpNo X0.here hx rfl (D_ d45_51) rfl (feq hc112).1 ?_
              refine XS.iloadN X0.here hx rfl (D_ d45_54) rfl ?_
              refine XS.bipush X0.here hx rfl (D_ d45_55) ?_
              exact kt
            by_cases hc115 : c = (126 : Int32)
            ·
              have W116 : ∀ zQ, SS p e below s₁ m 65 #[.val (.int c)] [(.int (1 : Int32))] zQ → Steps p.tables e below (s₁.setTop (entryFrame m #[(.int c)] 1)) zQ := by
                intro tt kt
                refine W114 tt ?_
                refine XS.icmpNo X0.here hx rfl (D_ d45_57) rfl (teq hc115).2 ?_
                refine XS.iconst X0.here hx rfl (D_ d45_60) ?_
                refine XS.goto X0.here hx rfl (pc0 := 61) (pc' := 65) rfl (D_ d45_61) (by decide) (by decide) ?_
                exact kt
              obtain ⟨fs, hr, hrun, hended, hW, hsame⟩ := X0.leave (v := some (.int (nar .boolean (1 : Int32)))) (fun h => by rw [Bd.returns] at h; cases h)
              refine ⟨_, _, W116 _ (retN X0 hx (t := .boolean) Bd.returns (by simp) (D_ d45_65) hr), hrun, hended, _, _, rfl, ?_, ⟨_, rfl⟩, hW, hsame.mono (by decide) (by decide)⟩
              show Q_unres Z c h0 n0 _ s₁.heap _
              rw [e0]
              exact ⟨(1 : Int32), rfl, N0, rfl⟩
            ·
              have W117 : ∀ zQ, SS p e below s₁ m 65 #[.val (.int c)] [(.int (0 : Int32))] zQ → Steps p.tables e below (s₁.setTop (entryFrame m #[(.int c)] 1)) zQ := by
                intro tt kt
                refine W114 tt ?_
                refine XS.icmpYes X0.here hx rfl (pc0 := 57) (pc' := 64) rfl (D_ d45_57) rfl (feq hc115).2 (by decide) (by decide) ?_
                refine XS.iconst X0.here hx rfl (D_ d45_64) ?_
                exact kt
              obtain ⟨fs, hr, hrun, hended, hW, hsame⟩ := X0.leave (v := some (.int (nar .boolean (0 : Int32)))) (fun h => by rw [Bd.returns] at h; cases h)
              refine ⟨_, _, W117 _ (retN X0 hx (t := .boolean) Bd.returns (by simp) (D_ d45_65) hr), hrun, hended, _, _, rfl, ?_, ⟨_, rfl⟩, hW, hsame.mono (by decide) (by decide)⟩
              show Q_unres Z c h0 n0 _ s₁.heap _
              rw [e0]
              exact ⟨(0 : Int32), rfl, N0, rfl⟩
    ·
      have W118 : ∀ zQ, SS p e below s₁ m 33 #[.val (.int c)] [(.int (57 : Int32)), (.int c)] zQ → Steps p.tables e below (s₁.setTop (entryFrame m #[(.int c)] 1)) zQ := by
        intro tt kt
        refine W103 tt ?_
        refine XS.icmpNo X0.here hx rfl (D_ d45_27) rfl (flt hc104).1 ?_
        refine XS.iloadN X0.here hx rfl (D_ d45_30) rfl ?_
        refine XS.bipush X0.here hx rfl (D_ d45_31) ?_
        exact kt
      by_cases hc119 : (57 : Int32) < c
      ·
        have W120 : ∀ zQ, SS p e below s₁ m 39 #[.val (.int c)] [(.int (45 : Int32)), (.int c)] zQ → Steps p.tables e below (s₁.setTop (entryFrame m #[(.int c)] 1)) zQ := by
          intro tt kt
          refine W118 tt ?_
          refine XS.icmpNo X0.here hx rfl (D_ d45_33) rfl (tlt hc119).2.2.2 ?_
          refine XS.iloadN X0.here hx rfl (D_ d45_36) rfl ?_
          refine XS.bipush X0.here hx rfl (D_ d45_37) ?_
          exact kt
        by_cases hc121 : c = (45 : Int32)
        ·
          have W122 : ∀ zQ, SS p e below s₁ m 65 #[.val (.int c)] [(.int (1 : Int32))] zQ → Steps p.tables e below (s₁.setTop (entryFrame m #[(.int c)] 1)) zQ := by
            intro tt kt
            refine W120 tt ?_
            refine XS.icmpYes X0.here hx rfl (pc0 := 39) (pc' := 60) rfl (D_ d45_39) rfl (teq hc121).1 (by decide) (by decide) ?_
            refine XS.iconst X0.here hx rfl (D_ d45_60) ?_
            refine XS.goto X0.here hx rfl (pc0 := 61) (pc' := 65) rfl (D_ d45_61) (by decide) (by decide) ?_
            exact kt
          obtain ⟨fs, hr, hrun, hended, hW, hsame⟩ := X0.leave (v := some (.int (nar .boolean (1 : Int32)))) (fun h => by rw [Bd.returns] at h; cases h)
          refine ⟨_, _, W122 _ (retN X0 hx (t := .boolean) Bd.returns (by simp) (D_ d45_65) hr), hrun, hended, _, _, rfl, ?_, ⟨_, rfl⟩, hW, hsame.mono (by decide) (by decide)⟩
          show Q_unres Z c h0 n0 _ s₁.heap _
          rw [e0]
          exact ⟨(1 : Int32), rfl, N0, rfl⟩
        ·
          have W123 : ∀ zQ, SS p e below s₁ m 45 #[.val (.int c)] [(.int (46 : Int32)), (.int c)] zQ → Steps p.tables e below (s₁.setTop (entryFrame m #[(.int c)] 1)) zQ := by
            intro tt kt
            refine W120 tt ?_
            refine XS.icmpNo X0.here hx rfl (D_ d45_39) rfl (feq hc121).1 ?_
            refine XS.iloadN X0.here hx rfl (D_ d45_42) rfl ?_
            refine XS.bipush X0.here hx rfl (D_ d45_43) ?_
            exact kt
          by_cases hc124 : c = (46 : Int32)
          ·
            have W125 : ∀ zQ, SS p e below s₁ m 65 #[.val (.int c)] [(.int (1 : Int32))] zQ → Steps p.tables e below (s₁.setTop (entryFrame m #[(.int c)] 1)) zQ := by
              intro tt kt
              refine W123 tt ?_
              refine XS.icmpYes X0.here hx rfl (pc0 := 45) (pc' := 60) rfl (D_ d45_45) rfl (teq hc124).1 (by decide) (by decide) ?_
              refine XS.iconst X0.here hx rfl (D_ d45_60) ?_
              refine XS.goto X0.here hx rfl (pc0 := 61) (pc' := 65) rfl (D_ d45_61) (by decide) (by decide) ?_
              exact kt
            obtain ⟨fs, hr, hrun, hended, hW, hsame⟩ := X0.leave (v := some (.int (nar .boolean (1 : Int32)))) (fun h => by rw [Bd.returns] at h; cases h)
            refine ⟨_, _, W125 _ (retN X0 hx (t := .boolean) Bd.returns (by simp) (D_ d45_65) hr), hrun, hended, _, _, rfl, ?_, ⟨_, rfl⟩, hW, hsame.mono (by decide) (by decide)⟩
            show Q_unres Z c h0 n0 _ s₁.heap _
            rw [e0]
            exact ⟨(1 : Int32), rfl, N0, rfl⟩
          ·
            have W126 : ∀ zQ, SS p e below s₁ m 51 #[.val (.int c)] [(.int (95 : Int32)), (.int c)] zQ → Steps p.tables e below (s₁.setTop (entryFrame m #[(.int c)] 1)) zQ := by
              intro tt kt
              refine W123 tt ?_
              refine XS.icmpNo X0.here hx rfl (D_ d45_45) rfl (feq hc124).1 ?_
              refine XS.iloadN X0.here hx rfl (D_ d45_48) rfl ?_
              refine XS.bipush X0.here hx rfl (D_ d45_49) ?_
              exact kt
            by_cases hc127 : c = (95 : Int32)
            ·
              have W128 : ∀ zQ, SS p e below s₁ m 65 #[.val (.int c)] [(.int (1 : Int32))] zQ → Steps p.tables e below (s₁.setTop (entryFrame m #[(.int c)] 1)) zQ := by
                intro tt kt
                refine W126 tt ?_
                refine XS.icmpYes X0.here hx rfl (pc0 := 51) (pc' := 60) rfl (D_ d45_51) rfl (teq hc127).1 (by decide) (by decide) ?_
                refine XS.iconst X0.here hx rfl (D_ d45_60) ?_
                refine XS.goto X0.here hx rfl (pc0 := 61) (pc' := 65) rfl (D_ d45_61) (by decide) (by decide) ?_
                exact kt
              obtain ⟨fs, hr, hrun, hended, hW, hsame⟩ := X0.leave (v := some (.int (nar .boolean (1 : Int32)))) (fun h => by rw [Bd.returns] at h; cases h)
              refine ⟨_, _, W128 _ (retN X0 hx (t := .boolean) Bd.returns (by simp) (D_ d45_65) hr), hrun, hended, _, _, rfl, ?_, ⟨_, rfl⟩, hW, hsame.mono (by decide) (by decide)⟩
              show Q_unres Z c h0 n0 _ s₁.heap _
              rw [e0]
              exact ⟨(1 : Int32), rfl, N0, rfl⟩
            ·
              have W129 : ∀ zQ, SS p e below s₁ m 57 #[.val (.int c)] [(.int (126 : Int32)), (.int c)] zQ → Steps p.tables e below (s₁.setTop (entryFrame m #[(.int c)] 1)) zQ := by
                intro tt kt
                refine W126 tt ?_
                refine XS.icmpNo X0.here hx rfl (D_ d45_51) rfl (feq hc127).1 ?_
                refine XS.iloadN X0.here hx rfl (D_ d45_54) rfl ?_
                refine XS.bipush X0.here hx rfl (D_ d45_55) ?_
                exact kt
              by_cases hc130 : c = (126 : Int32)
              ·
                have W131 : ∀ zQ, SS p e below s₁ m 65 #[.val (.int c)] [(.int (1 : Int32))] zQ → Steps p.tables e below (s₁.setTop (entryFrame m #[(.int c)] 1)) zQ := by
                  intro tt kt
                  refine W129 tt ?_
                  refine XS.icmpNo X0.here hx rfl (D_ d45_57) rfl (teq hc130).2 ?_
                  refine XS.iconst X0.here hx rfl (D_ d45_60) ?_
                  refine XS.goto X0.here hx rfl (pc0 := 61) (pc' := 65) rfl (D_ d45_61) (by decide) (by decide) ?_
                  exact kt
                obtain ⟨fs, hr, hrun, hended, hW, hsame⟩ := X0.leave (v := some (.int (nar .boolean (1 : Int32)))) (fun h => by rw [Bd.returns] at h; cases h)
                refine ⟨_, _, W131 _ (retN X0 hx (t := .boolean) Bd.returns (by simp) (D_ d45_65) hr), hrun, hended, _, _, rfl, ?_, ⟨_, rfl⟩, hW, hsame.mono (by decide) (by decide)⟩
                show Q_unres Z c h0 n0 _ s₁.heap _
                rw [e0]
                exact ⟨(1 : Int32), rfl, N0, rfl⟩
              ·
                have W132 : ∀ zQ, SS p e below s₁ m 65 #[.val (.int c)] [(.int (0 : Int32))] zQ → Steps p.tables e below (s₁.setTop (entryFrame m #[(.int c)] 1)) zQ := by
                  intro tt kt
                  refine W129 tt ?_
                  refine XS.icmpYes X0.here hx rfl (pc0 := 57) (pc' := 64) rfl (D_ d45_57) rfl (feq hc130).2 (by decide) (by decide) ?_
                  refine XS.iconst X0.here hx rfl (D_ d45_64) ?_
                  exact kt
                obtain ⟨fs, hr, hrun, hended, hW, hsame⟩ := X0.leave (v := some (.int (nar .boolean (0 : Int32)))) (fun h => by rw [Bd.returns] at h; cases h)
                refine ⟨_, _, W132 _ (retN X0 hx (t := .boolean) Bd.returns (by simp) (D_ d45_65) hr), hrun, hended, _, _, rfl, ?_, ⟨_, rfl⟩, hW, hsame.mono (by decide) (by decide)⟩
                show Q_unres Z c h0 n0 _ s₁.heap _
                rw [e0]
                exact ⟨(0 : Int32), rfl, N0, rfl⟩
      ·
        have W133 : ∀ zQ, SS p e below s₁ m 65 #[.val (.int c)] [(.int (1 : Int32))] zQ → Steps p.tables e below (s₁.setTop (entryFrame m #[(.int c)] 1)) zQ := by
          intro tt kt
          refine W118 tt ?_
          refine XS.icmpYes X0.here hx rfl (pc0 := 33) (pc' := 60) rfl (D_ d45_33) rfl (flt hc119).2.2.2 (by decide) (by decide) ?_
          refine XS.iconst X0.here hx rfl (D_ d45_60) ?_
          refine XS.goto X0.here hx rfl (pc0 := 61) (pc' := 65) rfl (D_ d45_61) (by decide) (by decide) ?_
          exact kt
        obtain ⟨fs, hr, hrun, hended, hW, hsame⟩ := X0.leave (v := some (.int (nar .boolean (1 : Int32)))) (fun h => by rw [Bd.returns] at h; cases h)
        refine ⟨_, _, W133 _ (retN X0 hx (t := .boolean) Bd.returns (by simp) (D_ d45_65) hr), hrun, hended, _, _, rfl, ?_, ⟨_, rfl⟩, hW, hsame.mono (by decide) (by decide)⟩
        show Q_unres Z c h0 n0 _ s₁.heap _
        rw [e0]
        exact ⟨(1 : Int32), rfl, N0, rfl⟩
  ·
    have W134 : ∀ zQ, SS p e below s₁ m 9 #[.val (.int c)] [(.int (90 : Int32)), (.int c)] zQ → Steps p.tables e below (s₁.setTop (entryFrame m #[(.int c)] 1)) zQ := by
      intro tt kt
      refine W101 tt ?_
      refine XS.icmpNo X0.here hx rfl (D_ d45_3) rfl (flt hc102).1 ?_
      refine XS.iloadN X0.here hx rfl (D_ d45_6) rfl ?_
      refine XS.bipush X0.here hx rfl (D_ d45_7) ?_
      exact kt
    by_cases hc135 : (90 : Int32) < c
    ·
      have W136 : ∀ zQ, SS p e below s₁ m 15 #[.val (.int c)] [(.int (97 : Int32)), (.int c)] zQ → Steps p.tables e below (s₁.setTop (entryFrame m #[(.int c)] 1)) zQ := by
        intro tt kt
        refine W134 tt ?_
        refine XS.icmpNo X0.here hx rfl (D_ d45_9) rfl (tlt hc135).2.2.2 ?_
        refine XS.iloadN X0.here hx rfl (D_ d45_12) rfl ?_
        refine XS.bipush X0.here hx rfl (D_ d45_13) ?_
        exact kt
      by_cases hc137 : c < (97 : Int32)
      ·
        have W138 : ∀ zQ, SS p e below s₁ m 39 #[.val (.int c)] [(.int (45 : Int32)), (.int c)] zQ → Steps p.tables e below (s₁.setTop (entryFrame m #[(.int c)] 1)) zQ := by
          intro tt kt
          refine W136 tt ?_
          refine XS.icmpYes X0.here hx rfl (pc0 := 15) (pc' := 24) rfl (D_ d45_15) rfl (tlt hc137).1 (by decide) (by decide) ?_
          refine XS.iloadN X0.here hx rfl (D_ d45_24) rfl ?_
          refine XS.bipush X0.here hx rfl (D_ d45_25) ?_
          refine XS.icmpNo X0.here hx rfl (D_ d45_27) rfl (flt (fun q => hc102 (own_ltx q (by decide)))).1 ?_
          refine XS.iloadN X0.here hx rfl (D_ d45_30) rfl ?_
          refine XS.bipush X0.here hx rfl (D_ d45_31) ?_
          refine XS.icmpNo X0.here hx rfl (D_ d45_33) rfl (tlt (lt_le_ (by decide) hc135)).2.2.2 ?_
          refine XS.iloadN X0.here hx rfl (D_ d45_36) rfl ?_
          refine XS.bipush X0.here hx rfl (D_ d45_37) ?_
          exact kt
        by_cases hc139 : c = (45 : Int32)
        ·
          have W140 : ∀ zQ, SS p e below s₁ m 65 #[.val (.int c)] [(.int (1 : Int32))] zQ → Steps p.tables e below (s₁.setTop (entryFrame m #[(.int c)] 1)) zQ := by
            intro tt kt
            refine W138 tt ?_
            refine XS.icmpYes X0.here hx rfl (pc0 := 39) (pc' := 60) rfl (D_ d45_39) rfl (teq hc139).1 (by decide) (by decide) ?_
            refine XS.iconst X0.here hx rfl (D_ d45_60) ?_
            refine XS.goto X0.here hx rfl (pc0 := 61) (pc' := 65) rfl (D_ d45_61) (by decide) (by decide) ?_
            exact kt
          obtain ⟨fs, hr, hrun, hended, hW, hsame⟩ := X0.leave (v := some (.int (nar .boolean (1 : Int32)))) (fun h => by rw [Bd.returns] at h; cases h)
          refine ⟨_, _, W140 _ (retN X0 hx (t := .boolean) Bd.returns (by simp) (D_ d45_65) hr), hrun, hended, _, _, rfl, ?_, ⟨_, rfl⟩, hW, hsame.mono (by decide) (by decide)⟩
          show Q_unres Z c h0 n0 _ s₁.heap _
          rw [e0]
          exact ⟨(1 : Int32), rfl, N0, rfl⟩
        ·
          have W141 : ∀ zQ, SS p e below s₁ m 45 #[.val (.int c)] [(.int (46 : Int32)), (.int c)] zQ → Steps p.tables e below (s₁.setTop (entryFrame m #[(.int c)] 1)) zQ := by
            intro tt kt
            refine W138 tt ?_
            refine XS.icmpNo X0.here hx rfl (D_ d45_39) rfl (feq hc139).1 ?_
            refine XS.iloadN X0.here hx rfl (D_ d45_42) rfl ?_
            refine XS.bipush X0.here hx rfl (D_ d45_43) ?_
            exact kt
          by_cases hc142 : c = (46 : Int32)
          ·
            have W143 : ∀ zQ, SS p e below s₁ m 65 #[.val (.int c)] [(.int (1 : Int32))] zQ → Steps p.tables e below (s₁.setTop (entryFrame m #[(.int c)] 1)) zQ := by
              intro tt kt
              refine W141 tt ?_
              refine XS.icmpYes X0.here hx rfl (pc0 := 45) (pc' := 60) rfl (D_ d45_45) rfl (teq hc142).1 (by decide) (by decide) ?_
              refine XS.iconst X0.here hx rfl (D_ d45_60) ?_
              refine XS.goto X0.here hx rfl (pc0 := 61) (pc' := 65) rfl (D_ d45_61) (by decide) (by decide) ?_
              exact kt
            obtain ⟨fs, hr, hrun, hended, hW, hsame⟩ := X0.leave (v := some (.int (nar .boolean (1 : Int32)))) (fun h => by rw [Bd.returns] at h; cases h)
            refine ⟨_, _, W143 _ (retN X0 hx (t := .boolean) Bd.returns (by simp) (D_ d45_65) hr), hrun, hended, _, _, rfl, ?_, ⟨_, rfl⟩, hW, hsame.mono (by decide) (by decide)⟩
            show Q_unres Z c h0 n0 _ s₁.heap _
            rw [e0]
            exact ⟨(1 : Int32), rfl, N0, rfl⟩
          ·
            have W144 : ∀ zQ, SS p e below s₁ m 51 #[.val (.int c)] [(.int (95 : Int32)), (.int c)] zQ → Steps p.tables e below (s₁.setTop (entryFrame m #[(.int c)] 1)) zQ := by
              intro tt kt
              refine W141 tt ?_
              refine XS.icmpNo X0.here hx rfl (D_ d45_45) rfl (feq hc142).1 ?_
              refine XS.iloadN X0.here hx rfl (D_ d45_48) rfl ?_
              refine XS.bipush X0.here hx rfl (D_ d45_49) ?_
              exact kt
            by_cases hc145 : c = (95 : Int32)
            ·
              have W146 : ∀ zQ, SS p e below s₁ m 65 #[.val (.int c)] [(.int (1 : Int32))] zQ → Steps p.tables e below (s₁.setTop (entryFrame m #[(.int c)] 1)) zQ := by
                intro tt kt
                refine W144 tt ?_
                refine XS.icmpYes X0.here hx rfl (pc0 := 51) (pc' := 60) rfl (D_ d45_51) rfl (teq hc145).1 (by decide) (by decide) ?_
                refine XS.iconst X0.here hx rfl (D_ d45_60) ?_
                refine XS.goto X0.here hx rfl (pc0 := 61) (pc' := 65) rfl (D_ d45_61) (by decide) (by decide) ?_
                exact kt
              obtain ⟨fs, hr, hrun, hended, hW, hsame⟩ := X0.leave (v := some (.int (nar .boolean (1 : Int32)))) (fun h => by rw [Bd.returns] at h; cases h)
              refine ⟨_, _, W146 _ (retN X0 hx (t := .boolean) Bd.returns (by simp) (D_ d45_65) hr), hrun, hended, _, _, rfl, ?_, ⟨_, rfl⟩, hW, hsame.mono (by decide) (by decide)⟩
              show Q_unres Z c h0 n0 _ s₁.heap _
              rw [e0]
              exact ⟨(1 : Int32), rfl, N0, rfl⟩
            ·
              have W147 : ∀ zQ, SS p e below s₁ m 57 #[.val (.int c)] [(.int (126 : Int32)), (.int c)] zQ → Steps p.tables e below (s₁.setTop (entryFrame m #[(.int c)] 1)) zQ := by
                intro tt kt
                refine W144 tt ?_
                refine XS.icmpNo X0.here hx rfl (D_ d45_51) rfl (feq hc145).1 ?_
                refine XS.iloadN X0.here hx rfl (D_ d45_54) rfl ?_
                refine XS.bipush X0.here hx rfl (D_ d45_55) ?_
                exact kt
              by_cases hc148 : c = (126 : Int32)
              ·
                have W149 : ∀ zQ, SS p e below s₁ m 65 #[.val (.int c)] [(.int (1 : Int32))] zQ → Steps p.tables e below (s₁.setTop (entryFrame m #[(.int c)] 1)) zQ := by
                  intro tt kt
                  refine W147 tt ?_
                  refine XS.icmpNo X0.here hx rfl (D_ d45_57) rfl (teq hc148).2 ?_
                  refine XS.iconst X0.here hx rfl (D_ d45_60) ?_
                  refine XS.goto X0.here hx rfl (pc0 := 61) (pc' := 65) rfl (D_ d45_61) (by decide) (by decide) ?_
                  exact kt
                obtain ⟨fs, hr, hrun, hended, hW, hsame⟩ := X0.leave (v := some (.int (nar .boolean (1 : Int32)))) (fun h => by rw [Bd.returns] at h; cases h)
                refine ⟨_, _, W149 _ (retN X0 hx (t := .boolean) Bd.returns (by simp) (D_ d45_65) hr), hrun, hended, _, _, rfl, ?_, ⟨_, rfl⟩, hW, hsame.mono (by decide) (by decide)⟩
                show Q_unres Z c h0 n0 _ s₁.heap _
                rw [e0]
                exact ⟨(1 : Int32), rfl, N0, rfl⟩
              ·
                have W150 : ∀ zQ, SS p e below s₁ m 65 #[.val (.int c)] [(.int (0 : Int32))] zQ → Steps p.tables e below (s₁.setTop (entryFrame m #[(.int c)] 1)) zQ := by
                  intro tt kt
                  refine W147 tt ?_
                  refine XS.icmpYes X0.here hx rfl (pc0 := 57) (pc' := 64) rfl (D_ d45_57) rfl (feq hc148).2 (by decide) (by decide) ?_
                  refine XS.iconst X0.here hx rfl (D_ d45_64) ?_
                  exact kt
                obtain ⟨fs, hr, hrun, hended, hW, hsame⟩ := X0.leave (v := some (.int (nar .boolean (0 : Int32)))) (fun h => by rw [Bd.returns] at h; cases h)
                refine ⟨_, _, W150 _ (retN X0 hx (t := .boolean) Bd.returns (by simp) (D_ d45_65) hr), hrun, hended, _, _, rfl, ?_, ⟨_, rfl⟩, hW, hsame.mono (by decide) (by decide)⟩
                show Q_unres Z c h0 n0 _ s₁.heap _
                rw [e0]
                exact ⟨(0 : Int32), rfl, N0, rfl⟩
      ·
        have W151 : ∀ zQ, SS p e below s₁ m 21 #[.val (.int c)] [(.int (122 : Int32)), (.int c)] zQ → Steps p.tables e below (s₁.setTop (entryFrame m #[(.int c)] 1)) zQ := by
          intro tt kt
          refine W136 tt ?_
          refine XS.icmpNo X0.here hx rfl (D_ d45_15) rfl (flt hc137).1 ?_
          refine XS.iloadN X0.here hx rfl (D_ d45_18) rfl ?_
          refine XS.bipush X0.here hx rfl (D_ d45_19) ?_
          exact kt
        by_cases hc152 : (122 : Int32) < c
        ·
          have W153 : ∀ zQ, SS p e below s₁ m 39 #[.val (.int c)] [(.int (45 : Int32)), (.int c)] zQ → Steps p.tables e below (s₁.setTop (entryFrame m #[(.int c)] 1)) zQ := by
            intro tt kt
            refine W151 tt ?_
            refine XS.icmpNo X0.here hx rfl (D_ d45_21) rfl (tlt hc152).2.2.2 ?_
            refine XS.iloadN X0.here hx rfl (D_ d45_24) rfl ?_
            refine XS.bipush X0.here hx rfl (D_ d45_25) ?_
            refine XS.icmpNo X0.here hx rfl (D_ d45_27) rfl (flt (fun q => hc102 (own_ltx q (by decide)))).1 ?_
            refine XS.iloadN X0.here hx rfl (D_ d45_30) rfl ?_
            refine XS.bipush X0.here hx rfl (D_ d45_31) ?_
            refine XS.icmpNo X0.here hx rfl (D_ d45_33) rfl (tlt (lt_le_ (by decide) hc135)).2.2.2 ?_
            refine XS.iloadN X0.here hx rfl (D_ d45_36) rfl ?_
            refine XS.bipush X0.here hx rfl (D_ d45_37) ?_
            exact kt
          by_cases hc154 : c = (45 : Int32)
          ·
            have W155 : ∀ zQ, SS p e below s₁ m 65 #[.val (.int c)] [(.int (1 : Int32))] zQ → Steps p.tables e below (s₁.setTop (entryFrame m #[(.int c)] 1)) zQ := by
              intro tt kt
              refine W153 tt ?_
              refine XS.icmpYes X0.here hx rfl (pc0 := 39) (pc' := 60) rfl (D_ d45_39) rfl (teq hc154).1 (by decide) (by decide) ?_
              refine XS.iconst X0.here hx rfl (D_ d45_60) ?_
              refine XS.goto X0.here hx rfl (pc0 := 61) (pc' := 65) rfl (D_ d45_61) (by decide) (by decide) ?_
              exact kt
            obtain ⟨fs, hr, hrun, hended, hW, hsame⟩ := X0.leave (v := some (.int (nar .boolean (1 : Int32)))) (fun h => by rw [Bd.returns] at h; cases h)
            refine ⟨_, _, W155 _ (retN X0 hx (t := .boolean) Bd.returns (by simp) (D_ d45_65) hr), hrun, hended, _, _, rfl, ?_, ⟨_, rfl⟩, hW, hsame.mono (by decide) (by decide)⟩
            show Q_unres Z c h0 n0 _ s₁.heap _
            rw [e0]
            exact ⟨(1 : Int32), rfl, N0, rfl⟩
          ·
            have W156 : ∀ zQ, SS p e below s₁ m 45 #[.val (.int c)] [(.int (46 : Int32)), (.int c)] zQ → Steps p.tables e below (s₁.setTop (entryFrame m #[(.int c)] 1)) zQ := by
              intro tt kt
              refine W153 tt ?_
              refine XS.icmpNo X0.here hx rfl (D_ d45_39) rfl (feq hc154).1 ?_
              refine XS.iloadN X0.here hx rfl (D_ d45_42) rfl ?_
              refine XS.bipush X0.here hx rfl (D_ d45_43) ?_
              exact kt
            by_cases hc157 : c = (46 : Int32)
            ·
              have W158 : ∀ zQ, SS p e below s₁ m 65 #[.val (.int c)] [(.int (1 : Int32))] zQ → Steps p.tables e below (s₁.setTop (entryFrame m #[(.int c)] 1)) zQ := by
                intro tt kt
                refine W156 tt ?_
                refine XS.icmpYes X0.here hx rfl (pc0 := 45) (pc' := 60) rfl (D_ d45_45) rfl (teq hc157).1 (by decide) (by decide) ?_
                refine XS.iconst X0.here hx rfl (D_ d45_60) ?_
                refine XS.goto X0.here hx rfl (pc0 := 61) (pc' := 65) rfl (D_ d45_61) (by decide) (by decide) ?_
                exact kt
              obtain ⟨fs, hr, hrun, hended, hW, hsame⟩ := X0.leave (v := some (.int (nar .boolean (1 : Int32)))) (fun h => by rw [Bd.returns] at h; cases h)
              refine ⟨_, _, W158 _ (retN X0 hx (t := .boolean) Bd.returns (by simp) (D_ d45_65) hr), hrun, hended, _, _, rfl, ?_, ⟨_, rfl⟩, hW, hsame.mono (by decide) (by decide)⟩
              show Q_unres Z c h0 n0 _ s₁.heap _
              rw [e0]
              exact ⟨(1 : Int32), rfl, N0, rfl⟩
            ·
              have W159 : ∀ zQ, SS p e below s₁ m 51 #[.val (.int c)] [(.int (95 : Int32)), (.int c)] zQ → Steps p.tables e below (s₁.setTop (entryFrame m #[(.int c)] 1)) zQ := by
                intro tt kt
                refine W156 tt ?_
                refine XS.icmpNo X0.here hx rfl (D_ d45_45) rfl (feq hc157).1 ?_
                refine XS.iloadN X0.here hx rfl (D_ d45_48) rfl ?_
                refine XS.bipush X0.here hx rfl (D_ d45_49) ?_
                exact kt
              by_cases hc160 : c = (95 : Int32)
              ·
                have W161 : ∀ zQ, SS p e below s₁ m 65 #[.val (.int c)] [(.int (1 : Int32))] zQ → Steps p.tables e below (s₁.setTop (entryFrame m #[(.int c)] 1)) zQ := by
                  intro tt kt
                  refine W159 tt ?_
                  refine XS.icmpYes X0.here hx rfl (pc0 := 51) (pc' := 60) rfl (D_ d45_51) rfl (teq hc160).1 (by decide) (by decide) ?_
                  refine XS.iconst X0.here hx rfl (D_ d45_60) ?_
                  refine XS.goto X0.here hx rfl (pc0 := 61) (pc' := 65) rfl (D_ d45_61) (by decide) (by decide) ?_
                  exact kt
                obtain ⟨fs, hr, hrun, hended, hW, hsame⟩ := X0.leave (v := some (.int (nar .boolean (1 : Int32)))) (fun h => by rw [Bd.returns] at h; cases h)
                refine ⟨_, _, W161 _ (retN X0 hx (t := .boolean) Bd.returns (by simp) (D_ d45_65) hr), hrun, hended, _, _, rfl, ?_, ⟨_, rfl⟩, hW, hsame.mono (by decide) (by decide)⟩
                show Q_unres Z c h0 n0 _ s₁.heap _
                rw [e0]
                exact ⟨(1 : Int32), rfl, N0, rfl⟩
              ·
                have W162 : ∀ zQ, SS p e below s₁ m 57 #[.val (.int c)] [(.int (126 : Int32)), (.int c)] zQ → Steps p.tables e below (s₁.setTop (entryFrame m #[(.int c)] 1)) zQ := by
                  intro tt kt
                  refine W159 tt ?_
                  refine XS.icmpNo X0.here hx rfl (D_ d45_51) rfl (feq hc160).1 ?_
                  refine XS.iloadN X0.here hx rfl (D_ d45_54) rfl ?_
                  refine XS.bipush X0.here hx rfl (D_ d45_55) ?_
                  exact kt
                by_cases hc163 : c = (126 : Int32)
                ·
                  have W164 : ∀ zQ, SS p e below s₁ m 65 #[.val (.int c)] [(.int (1 : Int32))] zQ → Steps p.tables e below (s₁.setTop (entryFrame m #[(.int c)] 1)) zQ := by
                    intro tt kt
                    refine W162 tt ?_
                    refine XS.icmpNo X0.here hx rfl (D_ d45_57) rfl (teq hc163).2 ?_
                    refine XS.iconst X0.here hx rfl (D_ d45_60) ?_
                    refine XS.goto X0.here hx rfl (pc0 := 61) (pc' := 65) rfl (D_ d45_61) (by decide) (by decide) ?_
                    exact kt
                  obtain ⟨fs, hr, hrun, hended, hW, hsame⟩ := X0.leave (v := some (.int (nar .boolean (1 : Int32)))) (fun h => by rw [Bd.returns] at h; cases h)
                  refine ⟨_, _, W164 _ (retN X0 hx (t := .boolean) Bd.returns (by simp) (D_ d45_65) hr), hrun, hended, _, _, rfl, ?_, ⟨_, rfl⟩, hW, hsame.mono (by decide) (by decide)⟩
                  show Q_unres Z c h0 n0 _ s₁.heap _
                  rw [e0]
                  exact ⟨(1 : Int32), rfl, N0, rfl⟩
                ·
                  have W165 : ∀ zQ, SS p e below s₁ m 65 #[.val (.int c)] [(.int (0 : Int32))] zQ → Steps p.tables e below (s₁.setTop (entryFrame m #[(.int c)] 1)) zQ := by
                    intro tt kt
                    refine W162 tt ?_
                    refine XS.icmpYes X0.here hx rfl (pc0 := 57) (pc' := 64) rfl (D_ d45_57) rfl (feq hc163).2 (by decide) (by decide) ?_
                    refine XS.iconst X0.here hx rfl (D_ d45_64) ?_
                    exact kt
                  obtain ⟨fs, hr, hrun, hended, hW, hsame⟩ := X0.leave (v := some (.int (nar .boolean (0 : Int32)))) (fun h => by rw [Bd.returns] at h; cases h)
                  refine ⟨_, _, W165 _ (retN X0 hx (t := .boolean) Bd.returns (by simp) (D_ d45_65) hr), hrun, hended, _, _, rfl, ?_, ⟨_, rfl⟩, hW, hsame.mono (by decide) (by decide)⟩
                  show Q_unres Z c h0 n0 _ s₁.heap _
                  rw [e0]
                  exact ⟨(0 : Int32), rfl, N0, rfl⟩
        ·
          have W166 : ∀ zQ, SS p e below s₁ m 65 #[.val (.int c)] [(.int (1 : Int32))] zQ → Steps p.tables e below (s₁.setTop (entryFrame m #[(.int c)] 1)) zQ := by
            intro tt kt
            refine W151 tt ?_
            refine XS.icmpYes X0.here hx rfl (pc0 := 21) (pc' := 60) rfl (D_ d45_21) rfl (flt hc152).2.2.2 (by decide) (by decide) ?_
            refine XS.iconst X0.here hx rfl (D_ d45_60) ?_
            refine XS.goto X0.here hx rfl (pc0 := 61) (pc' := 65) rfl (D_ d45_61) (by decide) (by decide) ?_
            exact kt
          obtain ⟨fs, hr, hrun, hended, hW, hsame⟩ := X0.leave (v := some (.int (nar .boolean (1 : Int32)))) (fun h => by rw [Bd.returns] at h; cases h)
          refine ⟨_, _, W166 _ (retN X0 hx (t := .boolean) Bd.returns (by simp) (D_ d45_65) hr), hrun, hended, _, _, rfl, ?_, ⟨_, rfl⟩, hW, hsame.mono (by decide) (by decide)⟩
          show Q_unres Z c h0 n0 _ s₁.heap _
          rw [e0]
          exact ⟨(1 : Int32), rfl, N0, rfl⟩
    ·
      have W167 : ∀ zQ, SS p e below s₁ m 65 #[.val (.int c)] [(.int (1 : Int32))] zQ → Steps p.tables e below (s₁.setTop (entryFrame m #[(.int c)] 1)) zQ := by
        intro tt kt
        refine W134 tt ?_
        refine XS.icmpYes X0.here hx rfl (pc0 := 9) (pc' := 60) rfl (D_ d45_9) rfl (flt hc135).2.2.2 (by decide) (by decide) ?_
        refine XS.iconst X0.here hx rfl (D_ d45_60) ?_
        refine XS.goto X0.here hx rfl (pc0 := 61) (pc' := 65) rfl (D_ d45_61) (by decide) (by decide) ?_
        exact kt
      obtain ⟨fs, hr, hrun, hended, hW, hsame⟩ := X0.leave (v := some (.int (nar .boolean (1 : Int32)))) (fun h => by rw [Bd.returns] at h; cases h)
      refine ⟨_, _, W167 _ (retN X0 hx (t := .boolean) Bd.returns (by simp) (D_ d45_65) hr), hrun, hended, _, _, rfl, ?_, ⟨_, rfl⟩, hW, hsame.mono (by decide) (by decide)⟩
      show Q_unres Z c h0 n0 _ s₁.heap _
      rw [e0]
      exact ⟨(1 : Int32), rfl, N0, rfl⟩
theorem rm_turn {p : Program} {l : Launch} {e : Env} {R : Room} {s : State} {m : MethodId} {args : Array Value} {below : List Frame} {meth : Method} {cO : Code} {cells slots : Nat} {Z : State} {a0 : Array Value} (hx : p.tables.exec = Jvm.exec) (hZ : Z.Warmed39 s.vm) (hw : HW a0 Z) (hby : cO.code = prog_15_method_2_code) (hml : cO.maxLocals = 8) (hown : s.vm.findClass "com/example/patents_via_api/patentsviaapi/http/PercentEncoding" = some m.cls) (hRf : 6 ≤ R.frames) (hRl : 119 ≤ R.locals) (hRc : cells + 3 ≤ R.cells) (hRs : slots + 36 ≤ R.slots) (o : Addr) (o2 : Addr) (a : Addr) (bs : Addr) (ys : List Int32) (i : Nat) (s6 : Slot) (s7 : Slot) (kbs : ClassId) (n : Nat) (t : Addr) (kb : ClassId) (N : Nat) (cs : List Int32) (u2 : Addr) (k2 : ClassId) (ds : List Int32) (cS : Int32) (hd : Addr) (kh : ClassId) (n0 : Nat) (S_cs : Sta Z Z.heap "java/lang/String" "COMPACT_STRINGS" "Z" (.int cS)) (hcS : ¬ (cS = (0 : Int32))) (S_hx : Sta Z Z.heap "com/example/patents_via_api/patentsviaapi/http/PercentEncoding" "HEX_DIGITS" "[C" (.ref hd)) (V_hx : Arv Z Z.heap hd kh .char (16 : Int32) (hexL.map Value.int) (.int (0 : Int32))) (T0 : State) (L0 : List Loc) (h0 : Heap) (X0 : Stand p l e R s m args below meth cO T0 L0 cells slots) (e0 : T0.heap = h0) (N0 : Fr n0 L0) (Z0 : n0 ≤ h0.size) (O0 : Old Z n0 h0) (E1 : Exa Z h0 a "java/lang/StringBuilder") (F1 : Fld Z h0 a "java/lang/AbstractStringBuilder" "value" "[B" (.ref t)) (F2 : Fld Z h0 a "java/lang/AbstractStringBuilder" "coder" "B" (.int (0 : Int32))) (F3 : Fld Z h0 a "java/lang/AbstractStringBuilder" "count" "I" (.int (Int32.ofNat cs.length))) (V1 : Arv Z h0 t kb .byte (Int32.ofNat N) (l1 cs) (.int (0 : Int32))) (E2 : Exa Z h0 t "[B") (Vb : Arv Z h0 bs kbs .byte (Int32.ofNat ys.length) (ys.map Value.int) (.int (0 : Int32))) (hS2 : Str Z h0 o2 u2 k2 ds) (hl2 : lat ds = true) (hds : ds.length ≤ 16) (hi : i < ys.length) (hy : ys.length ≤ 2) (hcn : cs.length ≤ n) (hn3 : n ≤ 3) (hcs : cs.length ≤ N) (hN : N ≤ 12) (hlc : lat cs = true) (okc : OkS cs) (g1 : n0 ≤ a) (g2 : n0 ≤ t) (hbt : bs ≠ t) (hut : u2 ≠ t) (hba : bs ≠ a) (hua : u2 ≠ a) (h6 : One s6) (h7 : One s7) :
    ∃ (T' : State) (L' : List Loc) (h' : Heap), Stand p l e R s m args below meth cO T' L' (cells + 3) (slots + 36) ∧ T'.heap = h' ∧ ∃ t2 : Addr, ∃ kb2 : ClassId, ∃ N2 : Nat, ∃ cs2 : List Int32, ∃ y6 : Int32, ∃ y7 : Int32, Fr n0 L' ∧ Keep h0 h' [a, t] ∧ Fld Z h' a "java/lang/AbstractStringBuilder" "value" "[B" (.ref t2) ∧ Fld Z h' a "java/lang/AbstractStringBuilder" "coder" "B" (.int (0 : Int32)) ∧ Fld Z h' a "java/lang/AbstractStringBuilder" "count" "I" (.int (Int32.ofNat cs2.length)) ∧ Arv Z h' t2 kb2 .byte (Int32.ofNat N2) (l1 cs2) (.int (0 : Int32)) ∧ Exa Z h' t2 "[B" ∧ cs2.length ≤ (n + 3) ∧ cs2.length ≤ N2 ∧ N2 ≤ 12 ∧ lat cs2 = true ∧ OkS cs2 ∧ n0 ≤ t2 ∧ (t2 = t ∨ h0.size ≤ t2) ∧ ∀ zQ, SS p e below T' m 27 #[.val (.ref o), .val (.ref o2), .val (.ref a), .val (.ref bs), .val (.int (Int32.ofNat ys.length)), .val (.int (Int32.ofNat (i + 1))), .val (.int y6), .val (.int y7)] [] zQ → SS p e below T0 m 34 #[.val (.ref o), .val (.ref o2), .val (.ref a), .val (.ref bs), .val (.int (Int32.ofNat ys.length)), .val (.int (Int32.ofNat i)), s6, s7] [] zQ := by
  have D_ : ∀ {i : Nat} {x}, decode prog_15_method_2_code i = x → decode cO.code i = x := fun h => hb hby h
  have W0 : ∀ zQ, SS p e below T0 m 34 #[.val (.ref o), .val (.ref o2), .val (.ref a), .val (.ref bs), .val (.int (Int32.ofNat ys.length)), .val (.int (Int32.ofNat i)), s6, s7] [] zQ → Steps p.tables e below (T0.setTop (mkF m 34 #[.val (.ref o), .val (.ref o2), .val (.ref a), .val (.ref bs), .val (.int (Int32.ofNat ys.length)), .val (.int (Int32.ofNat i)), s6, s7] [])) zQ := fun tt kt => kt
  obtain ⟨cl101, Ar101, q101, S101, M101, H101, F101g⟩ := id Vb
  have hin101 : ¬ ((Int32.ofNat i) < 0 ∨ cl101.slots.size ≤ ((Int32.ofNat i)).toNatClampNeg) := inb_of S101 ⟨own_nneg (by omega), own_lt hi (by omega)⟩
  have hat101 : cl101.slots[((Int32.ofNat i)).toNatClampNeg]? = some (.int (ys.getD i 0)) := Has.at H101 hin101 (by rw [own_cl (by omega)]; exact ch_at ys i _ hi)
  obtain ⟨cc, h_cc⟩ : ∃ z : Int32, z = (((ys.getD i 0) &&& (255 : Int32)).toUInt32.toUInt16.toUInt32.toInt32) := ⟨_, rfl⟩
  have hc0 : ¬ (cc < (0 : Int32)) := by rw [h_cc]; exact (own_c255 _).1
  have hc1 : ¬ ((255 : Int32) < cc) := by rw [h_cc]; exact (own_c255 _).2
  obtain ⟨_, _, ⟨T102, L102, k102, n102⟩, -, X102, ⟨Lc102, hQ102, l102, y102, z102⟩, st102⟩ := Jvm.LawKit.callS X0 hx (y := yn45) hown (mvT hZ (w189 hw)) (mvT hZ (w190 hw)) (mvT hZ (w143 hw)) (mvT hZ (w191 hw)) (by decide) (backOf (W := 0) (rm_unres l Z a0 hw [] cc h0 n0 Z0 ) hZ (w191 hw) (w143 hw) (Nat.le_trans (by decide) hRf) (Nat.le_trans (by decide) hRl)) (g := (mkF m 51 #[.val (.ref o), .val (.ref o2), .val (.ref a), .val (.ref bs), .val (.int (Int32.ofNat ys.length)), .val (.int (Int32.ofNat i)), .val (.int (ys.getD i 0)), .val (.int cc)] [(.int cc)])) rfl (by rw [hml]; rfl) (argsL := [(.int cc)]) (rest := []) (lenOf pd9 rfl) rfl (wq rfl) (D_ d46_51) (fun _ _ => ⟨rfl, e0, (by first | omega | (dsimp only [Pt.cells, Pt.slots]; omega)), (by first | omega | (dsimp only [Pt.cells, Pt.slots]; omega))⟩)
  dsimp only [Pt.U, Pt.locs, Pt.cells, Pt.slots] at X102 l102 y102 z102 st102 hQ102
  subst l102 y102 z102
  obtain ⟨rw_103, rfl, Nq102, eq102⟩ := hQ102
  have N102 := Fr.app N0 Nq102
  have W104 : ∀ zQ, SS p e below T102 m 54 #[.val (.ref o), .val (.ref o2), .val (.ref a), .val (.ref bs), .val (.int (Int32.ofNat ys.length)), .val (.int (Int32.ofNat i)), .val (.int (ys.getD i 0)), .val (.int cc)] [(.int rw_103)] zQ → Steps p.tables e below (T0.setTop (mkF m 34 #[.val (.ref o), .val (.ref o2), .val (.ref a), .val (.ref bs), .val (.int (Int32.ofNat ys.length)), .val (.int (Int32.ofNat i)), s6, s7] [])) zQ := by
    intro tt kt
    refine W0 tt ?_
    refine XS.aloadN X0.here hx rfl (D_ d46_34) rfl rfl ?_
    refine XS.iload X0.here hx rfl (D_ d46_35) rfl ?_
    refine X0.baloadBytes hx (j := (Int32.ofNat i)) (v := (.int (ys.getD i 0))) (by first | exact Ar101.1 | (rw [e0]; exact Ar101.1)) (State.isArrayOf_alike hZ.alike Ar101.2.1) Ar101.2.2 hin101 hat101 (g := (mkF m 37 #[.val (.ref o), .val (.ref o2), .val (.ref a), .val (.ref bs), .val (.int (Int32.ofNat ys.length)), .val (.int (Int32.ofNat i)), s6, s7] [(.int (Int32.ofNat i)), (.ref bs)])) rfl rfl (D_ d46_37) _ ?_
    refine XS.istore X0.here hx rfl (D_ d46_38) rfl (l' := #[.val (.ref o), .val (.ref o2), .val (.ref a), .val (.ref bs), .val (.int (Int32.ofNat ys.length)), .val (.int (Int32.ofNat i)), .val (.int (ys.getD i 0)), s7]) (XS.store1 (o := s6) rfl h6 rfl) ?_
    refine XS.iload X0.here hx rfl (D_ d46_40) rfl ?_
    refine XS.sipush X0.here hx rfl (D_ d46_42) ?_
    refine XS.iand X0.here hx rfl (D_ d46_45) rfl ?_
    refine XS.i2c X0.here hx rfl (D_ d46_46) rfl ?_
    show SS p e below T0 m 47 #[.val (.ref o), .val (.ref o2), .val (.ref a), .val (.ref bs), .val (.int (Int32.ofNat ys.length)), .val (.int (Int32.ofNat i)), .val (.int (ys.getD i 0)), s7] [(.int (((ys.getD i 0) &&& (255 : Int32)).toUInt32.toUInt16.toUInt32.toInt32))] _
    rw [← h_cc]
    refine XS.istore X0.here hx rfl (D_ d46_47) rfl (l' := #[.val (.ref o), .val (.ref o2), .val (.ref a), .val (.ref bs), .val (.int (Int32.ofNat ys.length)), .val (.int (Int32.ofNat i)), .val (.int (ys.getD i 0)), .val (.int cc)]) (XS.store1 (o := s7) rfl h7 rfl) ?_
    refine XS.iload X0.here hx rfl (D_ d46_49) rfl ?_
    refine st102 _ ?_
    exact kt
  by_cases hc105 : rw_103 = (0 : Int32)
  ·
    obtain ⟨cq106, kq106, q106a, q106b, q106c⟩ := isOf hZ eq102 hS2.1
    obtain ⟨_, _, ⟨T106, L106, k106, n106⟩, -, X106, ⟨Lc106, hQ106, l106, y106, z106⟩, st106⟩ := X102.virtualBack hx (y := yn44) (z := yn44) hown (mvT hZ (w192 hw)) (mvT hZ (w193 hw)) (notFace_of_selects (args := #[]) (mvT hZ (w195 hw))) (mvT hZ (w195 hw)) (mvT hZ (w194 hw)) (by decide) (backOf (W := 0) (rm_six l Z a0 hw [] o2 cc u2 k2 ds cS h0 n0 Z0 O0 S_cs hcS hS2 hl2 hds hc0 hc1) hZ (w196 hw) (w23 hw) (Nat.le_trans (by decide) hRf) (Nat.le_trans (by decide) hRl)) q106a q106c (g := (mkF m 60 #[.val (.ref o), .val (.ref o2), .val (.ref a), .val (.ref bs), .val (.int (Int32.ofNat ys.length)), .val (.int (Int32.ofNat i)), .val (.int (ys.getD i 0)), .val (.int cc)] [(.int cc), (.ref o2)])) rfl (by rw [hml]; rfl) (Steps.refl _) (argsL := [(.int cc)]) (rest := []) (lenOf pd5 rfl) rfl (wq rfl) (D_ d46_60) (fun _ _ => ⟨rfl, eq102, (by first | omega | (dsimp only [Pt.cells, Pt.slots]; omega)), (by first | omega | (dsimp only [Pt.cells, Pt.slots]; omega))⟩)
    dsimp only [Pt.U, Pt.locs, Pt.cells, Pt.slots] at X106 l106 y106 z106 st106 hQ106
    subst l106 y106 z106
    obtain ⟨rw_107, rfl, Nq106, eq106⟩ := hQ106
    have N106 := Fr.app N102 Nq106
    have W108 : ∀ zQ, SS p e below T106 m 63 #[.val (.ref o), .val (.ref o2), .val (.ref a), .val (.ref bs), .val (.int (Int32.ofNat ys.length)), .val (.int (Int32.ofNat i)), .val (.int (ys.getD i 0)), .val (.int cc)] [(.int rw_107)] zQ → Steps p.tables e below (T0.setTop (mkF m 34 #[.val (.ref o), .val (.ref o2), .val (.ref a), .val (.ref bs), .val (.int (Int32.ofNat ys.length)), .val (.int (Int32.ofNat i)), s6, s7] [])) zQ := by
      intro tt kt
      refine W104 tt ?_
      refine XS.ifNo X102.here hx rfl (D_ d46_54) rfl ((if0 _ _).trans (teq hc105).2) ?_
      refine XS.aloadN X102.here hx rfl (D_ d46_57) rfl rfl ?_
      refine XS.iload X102.here hx rfl (D_ d46_58) rfl ?_
      refine st106.trans ?_
      exact kt
    by_cases hc109 : rw_107 < (0 : Int32)
    ·
      obtain ⟨cq110, kq110, q110a, q110b, q110c⟩ := isOf hZ eq106 E1
      obtain ⟨_, _, ⟨T110, L110, k110, n110⟩, -, X110, ⟨Lc110, hQ110, l110, y110, z110⟩, st110⟩ := X106.virtualBack hx (y := yn16) (z := yn16) hown (mvT hZ (w218 hw)) (mvT hZ (w219 hw)) (notFace_of_selects (args := #[]) (mvT hZ (w221 hw))) (mvT hZ (w221 hw)) (mvT hZ (w220 hw)) (by decide) (backOf (W := 0) (rm_sbAppC6 l Z a0 hw [] a (37 : Int32) t kb N cs cS h0 n0 Z0 O0 S_cs hcS E1 F1 F2 F3 V1 E2 (by first | decide | omega | (simp only [List.length_append, List.length_singleton, List.length_cons, List.length_nil]; omega) : ¬ ((255 : Int32) < (37 : Int32))) (by first | decide | omega | (simp only [List.length_append, List.length_singleton, List.length_cons, List.length_nil]; omega) : cs.length < 6) hcs hN g1 g2) hZ (w222 hw) (w11 hw) (Nat.le_trans (by decide) hRf) (Nat.le_trans (by decide) hRl)) q110a q110c (g := (mkF m 79 #[.val (.ref o), .val (.ref o2), .val (.ref a), .val (.ref bs), .val (.int (Int32.ofNat ys.length)), .val (.int (Int32.ofNat i)), .val (.int (ys.getD i 0)), .val (.int cc)] [(.int (37 : Int32)), (.ref a)])) rfl (by rw [hml]; rfl) (Steps.refl _) (argsL := [(.int (37 : Int32))]) (rest := []) (lenOf pd28 rfl) rfl (wq rfl) (D_ d46_79) (fun _ _ => ⟨rfl, eq106, (by first | omega | (dsimp only [Pt.cells, Pt.slots]; omega)), (by first | omega | (dsimp only [Pt.cells, Pt.slots]; omega))⟩)
      dsimp only [Pt.U, Pt.locs, Pt.cells, Pt.slots] at X110 l110 y110 z110 st110 hQ110
      subst l110 y110 z110
      obtain ⟨t2_111, kb2_112, N2_113, rfl, Nq110, K110, P110_0, P110_1, P110_2, P110_3, P110_4, P110_5, P110_6, P110_7, P110_8, P110_9⟩ := hQ110
      have N110 := Fr.app N106 Nq110
      have O115 : Old Z n0 T110.heap := (O0.keep K110 (allS g1 (allS g2 all0)))
      have F116 : Sta Z T110.heap "com/example/patents_via_api/patentsviaapi/http/PercentEncoding" "HEX_DIGITS" "[C" (.ref hd) := S_hx.ext O115.2
      obtain ⟨T114, X114, e114, st114⟩ := getS2 X110 hx hZ hown (host := "") (Or.inl (w234 hw)) Via.refl rfl F116 (g := (mkF m 82 #[.val (.ref o), .val (.ref o2), .val (.ref a), .val (.ref bs), .val (.int (Int32.ofNat ys.length)), .val (.int (Int32.ofNat i)), .val (.int (ys.getD i 0)), .val (.int cc)] [(.ref a)])) rfl (D_ d46_82)
      have F117 : Arv Z T110.heap hd kh .char (16 : Int32) (hexL.map Value.int) (.int (0 : Int32)) := V_hx.ext O115.2
      obtain ⟨cl118, Ar118, q118, S118, M118, H118, F118g⟩ := id F117
      have hin118 : ¬ ((cc >>> ((4 : Int32) &&& 31)) < 0 ∨ cl118.slots.size ≤ ((cc >>> ((4 : Int32) &&& 31))).toNatClampNeg) := inb_of S118 (own_hi hc0 hc1)
      have hat118 : cl118.slots[((cc >>> ((4 : Int32) &&& 31))).toNatClampNeg]? = some (.int (hexL.getD ((cc >>> ((4 : Int32) &&& 31))).toNatClampNeg 0)) := Has.at H118 hin118 (ch_at hexL _ _ (own_cl16 (own_hi hc0 hc1)))
      obtain ⟨x1, h_x1⟩ : ∃ z : Int32, z = (hexL.getD ((cc >>> ((4 : Int32) &&& 31))).toNatClampNeg 0) := ⟨_, rfl⟩
      have hx1_0 : ¬ (x1 < (0 : Int32)) := by rw [h_x1]; exact (own_hexr _).1
      have hx1_1 : ¬ ((255 : Int32) < x1) := by rw [h_x1]; exact (own_hexr _).2
      have F119 : Exa Z T110.heap a "java/lang/StringBuilder" := (E1.keep K110)
      obtain ⟨cq120, kq120, q120a, q120b, q120c⟩ := isOf hZ e114 F119
      obtain ⟨_, _, ⟨T120, L120, k120, n120⟩, -, X120, ⟨Lc120, hQ120, l120, y120, z120⟩, st120⟩ := X114.virtualBack hx (y := yn16) (z := yn16) hown (mvT hZ (w218 hw)) (mvT hZ (w219 hw)) (notFace_of_selects (args := #[]) (mvT hZ (w221 hw))) (mvT hZ (w221 hw)) (mvT hZ (w220 hw)) (by decide) (backOf (W := 0) (rm_sbAppC6 l Z a0 hw [] a x1 t2_111 kb2_112 N2_113 (cs ++ [(37 : Int32)]) cS T110.heap n0 (Nat.le_trans Z0 K110.1) O115 S_cs hcS F119 P110_0 P110_1 P110_2 P110_3 P110_4 hx1_1 (by first | decide | omega | (simp only [List.length_append, List.length_singleton, List.length_cons, List.length_nil]; omega) : (cs ++ [(37 : Int32)]).length < 6) P110_5 P110_6 g1 P110_8) hZ (w222 hw) (w11 hw) (Nat.le_trans (by decide) hRf) (Nat.le_trans (by decide) hRl)) q120a q120c (g := (mkF m 90 #[.val (.ref o), .val (.ref o2), .val (.ref a), .val (.ref bs), .val (.int (Int32.ofNat ys.length)), .val (.int (Int32.ofNat i)), .val (.int (ys.getD i 0)), .val (.int cc)] [(.int x1), (.ref a)])) rfl (by rw [hml]; rfl) (Steps.refl _) (argsL := [(.int x1)]) (rest := []) (lenOf pd28 rfl) rfl (wq rfl) (D_ d46_90) (fun _ _ => ⟨rfl, e114, (by first | omega | (dsimp only [Pt.cells, Pt.slots]; omega)), (by first | omega | (dsimp only [Pt.cells, Pt.slots]; omega))⟩)
      dsimp only [Pt.U, Pt.locs, Pt.cells, Pt.slots] at X120 l120 y120 z120 st120 hQ120
      subst l120 y120 z120
      obtain ⟨t2_121, kb2_122, N2_123, rfl, Nq120, K120, P120_0, P120_1, P120_2, P120_3, P120_4, P120_5, P120_6, P120_7, P120_8, P120_9⟩ := hQ120
      have N120 := Fr.app N110 Nq120
      have O125 : Old Z n0 T120.heap := (O115.keep K120 (allS g1 (allS P110_8 all0)))
      have F126 : Sta Z T120.heap "com/example/patents_via_api/patentsviaapi/http/PercentEncoding" "HEX_DIGITS" "[C" (.ref hd) := S_hx.ext O125.2
      obtain ⟨T124, X124, e124, st124⟩ := getS2 X120 hx hZ hown (host := "") (Or.inl (w234 hw)) Via.refl rfl F126 (g := (mkF m 93 #[.val (.ref o), .val (.ref o2), .val (.ref a), .val (.ref bs), .val (.int (Int32.ofNat ys.length)), .val (.int (Int32.ofNat i)), .val (.int (ys.getD i 0)), .val (.int cc)] [(.ref a)])) rfl (D_ d46_93)
      have ne127 : hd ≠ t2_111 := (Nat.ne_of_lt (Nat.lt_of_lt_of_le (Nat.lt_of_lt_of_eq V_hx.lt O0.1) P110_8))
      have ne128 : hd ≠ a := (Nat.ne_of_lt (Nat.lt_of_lt_of_le (Nat.lt_of_lt_of_eq V_hx.lt O0.1) g1))
      have F129 : Arv Z T120.heap hd kh .char (16 : Int32) (hexL.map Value.int) (.int (0 : Int32)) := (F117.keep K120 (ninS ne128 (ninS ne127 nin0)))
      obtain ⟨cl130, Ar130, q130, S130, M130, H130, F130g⟩ := id F129
      have hin130 : ¬ ((cc &&& (15 : Int32)) < 0 ∨ cl130.slots.size ≤ ((cc &&& (15 : Int32))).toNatClampNeg) := inb_of S130 (own_lo cc)
      have hat130 : cl130.slots[((cc &&& (15 : Int32))).toNatClampNeg]? = some (.int (hexL.getD ((cc &&& (15 : Int32))).toNatClampNeg 0)) := Has.at H130 hin130 (ch_at hexL _ _ (own_cl16 (own_lo cc)))
      obtain ⟨x2, h_x2⟩ : ∃ z : Int32, z = (hexL.getD ((cc &&& (15 : Int32))).toNatClampNeg 0) := ⟨_, rfl⟩
      have hx2_0 : ¬ (x2 < (0 : Int32)) := by rw [h_x2]; exact (own_hexr _).1
      have hx2_1 : ¬ ((255 : Int32) < x2) := by rw [h_x2]; exact (own_hexr _).2
      have F131 : Exa Z T120.heap a "java/lang/StringBuilder" := (F119.keep K120)
      have z133 : n0 ≤ T120.heap.size := (Nat.le_trans Z0 (Nat.le_trans K110.1 K120.1))
      obtain ⟨cq132, kq132, q132a, q132b, q132c⟩ := isOf hZ e124 F131
      obtain ⟨_, _, ⟨T132, L132, k132, n132⟩, -, X132, ⟨Lc132, hQ132, l132, y132, z132⟩, st132⟩ := X124.virtualBack hx (y := yn16) (z := yn16) hown (mvT hZ (w218 hw)) (mvT hZ (w219 hw)) (notFace_of_selects (args := #[]) (mvT hZ (w221 hw))) (mvT hZ (w221 hw)) (mvT hZ (w220 hw)) (by decide) (backOf (W := 0) (rm_sbAppC6 l Z a0 hw [] a x2 t2_121 kb2_122 N2_123 ((cs ++ [(37 : Int32)]) ++ [x1]) cS T120.heap n0 z133 O125 S_cs hcS F131 P120_0 P120_1 P120_2 P120_3 P120_4 hx2_1 (by first | decide | omega | (simp only [List.length_append, List.length_singleton, List.length_cons, List.length_nil]; omega) : ((cs ++ [(37 : Int32)]) ++ [x1]).length < 6) P120_5 P120_6 g1 P120_8) hZ (w222 hw) (w11 hw) (Nat.le_trans (by decide) hRf) (Nat.le_trans (by decide) hRl)) q132a q132c (g := (mkF m 102 #[.val (.ref o), .val (.ref o2), .val (.ref a), .val (.ref bs), .val (.int (Int32.ofNat ys.length)), .val (.int (Int32.ofNat i)), .val (.int (ys.getD i 0)), .val (.int cc)] [(.int x2), (.ref a)])) rfl (by rw [hml]; rfl) (Steps.refl _) (argsL := [(.int x2)]) (rest := []) (lenOf pd28 rfl) rfl (wq rfl) (D_ d46_102) (fun _ _ => ⟨rfl, e124, (by first | omega | (dsimp only [Pt.cells, Pt.slots]; omega)), (by first | omega | (dsimp only [Pt.cells, Pt.slots]; omega))⟩)
      dsimp only [Pt.U, Pt.locs, Pt.cells, Pt.slots] at X132 l132 y132 z132 st132 hQ132
      subst l132 y132 z132
      obtain ⟨t2_134, kb2_135, N2_136, rfl, Nq132, K132, P132_0, P132_1, P132_2, P132_3, P132_4, P132_5, P132_6, P132_7, P132_8, P132_9⟩ := hQ132
      have N132 := Fr.app N120 Nq132
      have W137 : ∀ zQ, SS p e below T132 m 27 #[.val (.ref o), .val (.ref o2), .val (.ref a), .val (.ref bs), .val (.int (Int32.ofNat ys.length)), .val (.int (Int32.ofNat (i + 1))), .val (.int (ys.getD i 0)), .val (.int cc)] [] zQ → Steps p.tables e below (T0.setTop (mkF m 34 #[.val (.ref o), .val (.ref o2), .val (.ref a), .val (.ref bs), .val (.int (Int32.ofNat ys.length)), .val (.int (Int32.ofNat i)), s6, s7] [])) zQ := by
        intro tt kt
        refine W108 tt ?_
        refine XS.ifYes X106.here hx rfl (pc0 := 63) (pc' := 76) rfl (D_ d46_63) rfl ((if0 _ _).trans (tlt hc109).1) (by decide) (by decide) ?_
        refine XS.aloadN X106.here hx rfl (D_ d46_76) rfl rfl ?_
        refine XS.bipush X106.here hx rfl (D_ d46_77) ?_
        refine st110.trans ?_
        refine st114 _ ?_
        refine XS.iload X114.here hx rfl (D_ d46_85) rfl ?_
        refine XS.iconst X114.here hx rfl (D_ d46_87) ?_
        refine XS.ishr X114.here hx rfl (D_ d46_88) rfl ?_
        refine X114.caload hx (j := (cc >>> ((4 : Int32) &&& 31))) (v := (.int (hexL.getD ((cc >>> ((4 : Int32) &&& 31))).toNatClampNeg 0))) (by first | exact Ar118.1 | (rw [e114]; exact Ar118.1)) (State.isArrayOf_alike hZ.alike Ar118.2.1) Ar118.2.2 hin118 hat118 (g := (mkF m 89 #[.val (.ref o), .val (.ref o2), .val (.ref a), .val (.ref bs), .val (.int (Int32.ofNat ys.length)), .val (.int (Int32.ofNat i)), .val (.int (ys.getD i 0)), .val (.int cc)] [(.int (cc >>> ((4 : Int32) &&& 31))), (.ref hd), (.ref a)])) rfl rfl (D_ d46_89) _ ?_
        show SS p e below T114 m 90 #[.val (.ref o), .val (.ref o2), .val (.ref a), .val (.ref bs), .val (.int (Int32.ofNat ys.length)), .val (.int (Int32.ofNat i)), .val (.int (ys.getD i 0)), .val (.int cc)] [(.int (hexL.getD ((cc >>> ((4 : Int32) &&& 31))).toNatClampNeg 0)), (.ref a)] _
        rw [← h_x1]
        refine st120.trans ?_
        refine st124 _ ?_
        refine XS.iload X124.here hx rfl (D_ d46_96) rfl ?_
        refine XS.bipush X124.here hx rfl (D_ d46_98) ?_
        refine XS.iand X124.here hx rfl (D_ d46_100) rfl ?_
        refine X124.caload hx (j := (cc &&& (15 : Int32))) (v := (.int (hexL.getD ((cc &&& (15 : Int32))).toNatClampNeg 0))) (by first | exact Ar130.1 | (rw [e124]; exact Ar130.1)) (State.isArrayOf_alike hZ.alike Ar130.2.1) Ar130.2.2 hin130 hat130 (g := (mkF m 101 #[.val (.ref o), .val (.ref o2), .val (.ref a), .val (.ref bs), .val (.int (Int32.ofNat ys.length)), .val (.int (Int32.ofNat i)), .val (.int (ys.getD i 0)), .val (.int cc)] [(.int (cc &&& (15 : Int32))), (.ref hd), (.ref a)])) rfl rfl (D_ d46_101) _ ?_
        show SS p e below T124 m 102 #[.val (.ref o), .val (.ref o2), .val (.ref a), .val (.ref bs), .val (.int (Int32.ofNat ys.length)), .val (.int (Int32.ofNat i)), .val (.int (ys.getD i 0)), .val (.int cc)] [(.int (hexL.getD ((cc &&& (15 : Int32))).toNatClampNeg 0)), (.ref a)] _
        rw [← h_x2]
        refine st132.trans ?_
        refine XS.pop X132.here hx rfl (D_ d46_105) rfl rfl ?_
        refine XS.iinc X132.here hx rfl (D_ d46_106) rfl (l' := #[.val (.ref o), .val (.ref o2), .val (.ref a), .val (.ref bs), .val (.int (Int32.ofNat ys.length)), .val (.int ((Int32.ofNat i) + (1 : Int32))), .val (.int (ys.getD i 0)), .val (.int cc)]) rfl ?_
        show SS p e below T132 m 109 #[.val (.ref o), .val (.ref o2), .val (.ref a), .val (.ref bs), .val (.int (Int32.ofNat ys.length)), .val (.int ((Int32.ofNat i) + (1 : Int32))), .val (.int (ys.getD i 0)), .val (.int cc)] [] _
        rw [show ((Int32.ofNat i) + (1 : Int32)) = (Int32.ofNat (i + 1)) from own_succ _]
        refine XS.goto X132.here hx rfl (pc0 := 109) (pc' := 27) rfl (D_ d46_109) (by decide) (by decide) ?_
        exact kt
      exact ⟨T132, _, T132.heap, (X132.more (by first | omega | (dsimp only [Pt.cells, Pt.slots]; omega)) (by first | omega | (dsimp only [Pt.cells, Pt.slots]; omega))), rfl, t2_134, kb2_135, N2_136, (((cs ++ [(37 : Int32)]) ++ [x1]) ++ [x2]), (ys.getD i 0), cc, N132, (Keep.trans (Keep.trans (Keep.trans (Keep.refl h0 [a, t]) K110 (allS (Or.inl (List.mem_of_getElem? (i := 0) rfl)) (allS (Or.inl (List.mem_of_getElem? (i := 1) rfl)) all0))) K120 (allS (Or.inl (List.mem_of_getElem? (i := 0) rfl)) (allS (own_alke P110_9 (Or.inl (List.mem_of_getElem? (i := 1) rfl)) (Nat.le_refl _)) all0))) K132 (allS (Or.inl (List.mem_of_getElem? (i := 0) rfl)) (allS (own_alke P120_9 (own_alke P110_9 (Or.inl (List.mem_of_getElem? (i := 1) rfl)) (Nat.le_refl _)) K110.1) all0))), P132_0, P132_1, P132_2, P132_3, P132_4, (by first | decide | omega | (simp only [List.length_append, List.length_singleton, List.length_cons, List.length_nil]; omega) : (((cs ++ [(37 : Int32)]) ++ [x1]) ++ [x2]).length ≤ (n + 3)), P132_5, P132_6, (lat_snoc (lat_snoc (lat_snoc hlc (by decide)) hx1_1) hx2_1), (own_okapp (own_okapp (own_okapp okc (own_ok1 (by decide) (by decide)) (by first | omega | (simp only [List.length_append, List.length_singleton]; omega))) (own_ok1 hx1_0 hx1_1) (by first | omega | (simp only [List.length_append, List.length_singleton]; omega))) (own_ok1 hx2_0 hx2_1) (by first | omega | (simp only [List.length_append, List.length_singleton]; omega))), P132_8, (own_altr P132_9 (own_altr P120_9 (own_altr P110_9 (Or.inl rfl) (Nat.le_refl _)) K110.1) (Nat.le_trans K110.1 K120.1)), fun tt kt => W137 _ kt⟩
    ·
      obtain ⟨cq138, kq138, q138a, q138b, q138c⟩ := isOf hZ eq106 E1
      obtain ⟨_, _, ⟨T138, L138, k138, n138⟩, -, X138, ⟨Lc138, hQ138, l138, y138, z138⟩, st138⟩ := X106.virtualBack hx (y := yn16) (z := yn16) hown (mvT hZ (w218 hw)) (mvT hZ (w219 hw)) (notFace_of_selects (args := #[]) (mvT hZ (w221 hw))) (mvT hZ (w221 hw)) (mvT hZ (w220 hw)) (by decide) (backOf (W := 0) (rm_sbAppC6 l Z a0 hw [] a cc t kb N cs cS h0 n0 Z0 O0 S_cs hcS E1 F1 F2 F3 V1 E2 hc1 (by first | decide | omega | (simp only [List.length_append, List.length_singleton, List.length_cons, List.length_nil]; omega) : cs.length < 6) hcs hN g1 g2) hZ (w222 hw) (w11 hw) (Nat.le_trans (by decide) hRf) (Nat.le_trans (by decide) hRl)) q138a q138c (g := (mkF m 69 #[.val (.ref o), .val (.ref o2), .val (.ref a), .val (.ref bs), .val (.int (Int32.ofNat ys.length)), .val (.int (Int32.ofNat i)), .val (.int (ys.getD i 0)), .val (.int cc)] [(.int cc), (.ref a)])) rfl (by rw [hml]; rfl) (Steps.refl _) (argsL := [(.int cc)]) (rest := []) (lenOf pd28 rfl) rfl (wq rfl) (D_ d46_69) (fun _ _ => ⟨rfl, eq106, (by first | omega | (dsimp only [Pt.cells, Pt.slots]; omega)), (by first | omega | (dsimp only [Pt.cells, Pt.slots]; omega))⟩)
      dsimp only [Pt.U, Pt.locs, Pt.cells, Pt.slots] at X138 l138 y138 z138 st138 hQ138
      subst l138 y138 z138
      obtain ⟨t2_139, kb2_140, N2_141, rfl, Nq138, K138, P138_0, P138_1, P138_2, P138_3, P138_4, P138_5, P138_6, P138_7, P138_8, P138_9⟩ := hQ138
      have N138 := Fr.app N106 Nq138
      have W142 : ∀ zQ, SS p e below T138 m 27 #[.val (.ref o), .val (.ref o2), .val (.ref a), .val (.ref bs), .val (.int (Int32.ofNat ys.length)), .val (.int (Int32.ofNat (i + 1))), .val (.int (ys.getD i 0)), .val (.int cc)] [] zQ → Steps p.tables e below (T0.setTop (mkF m 34 #[.val (.ref o), .val (.ref o2), .val (.ref a), .val (.ref bs), .val (.int (Int32.ofNat ys.length)), .val (.int (Int32.ofNat i)), s6, s7] [])) zQ := by
        intro tt kt
        refine W108 tt ?_
        refine XS.ifNo X106.here hx rfl (D_ d46_63) rfl ((if0 _ _).trans (flt hc109).1) ?_
        refine XS.aloadN X106.here hx rfl (D_ d46_66) rfl rfl ?_
        refine XS.iload X106.here hx rfl (D_ d46_67) rfl ?_
        refine st138.trans ?_
        refine XS.pop X138.here hx rfl (D_ d46_72) rfl rfl ?_
        refine XS.goto X138.here hx rfl (pc0 := 73) (pc' := 106) rfl (D_ d46_73) (by decide) (by decide) ?_
        refine XS.iinc X138.here hx rfl (D_ d46_106) rfl (l' := #[.val (.ref o), .val (.ref o2), .val (.ref a), .val (.ref bs), .val (.int (Int32.ofNat ys.length)), .val (.int ((Int32.ofNat i) + (1 : Int32))), .val (.int (ys.getD i 0)), .val (.int cc)]) rfl ?_
        show SS p e below T138 m 109 #[.val (.ref o), .val (.ref o2), .val (.ref a), .val (.ref bs), .val (.int (Int32.ofNat ys.length)), .val (.int ((Int32.ofNat i) + (1 : Int32))), .val (.int (ys.getD i 0)), .val (.int cc)] [] _
        rw [show ((Int32.ofNat i) + (1 : Int32)) = (Int32.ofNat (i + 1)) from own_succ _]
        refine XS.goto X138.here hx rfl (pc0 := 109) (pc' := 27) rfl (D_ d46_109) (by decide) (by decide) ?_
        exact kt
      exact ⟨T138, _, T138.heap, (X138.more (by first | omega | (dsimp only [Pt.cells, Pt.slots]; omega)) (by first | omega | (dsimp only [Pt.cells, Pt.slots]; omega))), rfl, t2_139, kb2_140, N2_141, (cs ++ [cc]), (ys.getD i 0), cc, N138, (Keep.trans (Keep.refl h0 [a, t]) K138 (allS (Or.inl (List.mem_of_getElem? (i := 0) rfl)) (allS (Or.inl (List.mem_of_getElem? (i := 1) rfl)) all0))), P138_0, P138_1, P138_2, P138_3, P138_4, (by first | decide | omega | (simp only [List.length_append, List.length_singleton, List.length_cons, List.length_nil]; omega) : (cs ++ [cc]).length ≤ (n + 3)), P138_5, P138_6, (lat_snoc hlc hc1), (own_okapp okc (own_ok1 hc0 hc1) (by first | omega | (simp only [List.length_append, List.length_singleton]; omega))), P138_8, (own_altr P138_9 (Or.inl rfl) (Nat.le_refl _)), fun tt kt => W142 _ kt⟩
  ·
    obtain ⟨cq143, kq143, q143a, q143b, q143c⟩ := isOf hZ eq102 E1
    obtain ⟨_, _, ⟨T143, L143, k143, n143⟩, -, X143, ⟨Lc143, hQ143, l143, y143, z143⟩, st143⟩ := X102.virtualBack hx (y := yn16) (z := yn16) hown (mvT hZ (w218 hw)) (mvT hZ (w219 hw)) (notFace_of_selects (args := #[]) (mvT hZ (w221 hw))) (mvT hZ (w221 hw)) (mvT hZ (w220 hw)) (by decide) (backOf (W := 0) (rm_sbAppC6 l Z a0 hw [] a cc t kb N cs cS h0 n0 Z0 O0 S_cs hcS E1 F1 F2 F3 V1 E2 hc1 (by first | decide | omega | (simp only [List.length_append, List.length_singleton, List.length_cons, List.length_nil]; omega) : cs.length < 6) hcs hN g1 g2) hZ (w222 hw) (w11 hw) (Nat.le_trans (by decide) hRf) (Nat.le_trans (by decide) hRl)) q143a q143c (g := (mkF m 69 #[.val (.ref o), .val (.ref o2), .val (.ref a), .val (.ref bs), .val (.int (Int32.ofNat ys.length)), .val (.int (Int32.ofNat i)), .val (.int (ys.getD i 0)), .val (.int cc)] [(.int cc), (.ref a)])) rfl (by rw [hml]; rfl) (Steps.refl _) (argsL := [(.int cc)]) (rest := []) (lenOf pd28 rfl) rfl (wq rfl) (D_ d46_69) (fun _ _ => ⟨rfl, eq102, (by first | omega | (dsimp only [Pt.cells, Pt.slots]; omega)), (by first | omega | (dsimp only [Pt.cells, Pt.slots]; omega))⟩)
    dsimp only [Pt.U, Pt.locs, Pt.cells, Pt.slots] at X143 l143 y143 z143 st143 hQ143
    subst l143 y143 z143
    obtain ⟨t2_144, kb2_145, N2_146, rfl, Nq143, K143, P143_0, P143_1, P143_2, P143_3, P143_4, P143_5, P143_6, P143_7, P143_8, P143_9⟩ := hQ143
    have N143 := Fr.app N102 Nq143
    have W147 : ∀ zQ, SS p e below T143 m 27 #[.val (.ref o), .val (.ref o2), .val (.ref a), .val (.ref bs), .val (.int (Int32.ofNat ys.length)), .val (.int (Int32.ofNat (i + 1))), .val (.int (ys.getD i 0)), .val (.int cc)] [] zQ → Steps p.tables e below (T0.setTop (mkF m 34 #[.val (.ref o), .val (.ref o2), .val (.ref a), .val (.ref bs), .val (.int (Int32.ofNat ys.length)), .val (.int (Int32.ofNat i)), s6, s7] [])) zQ := by
      intro tt kt
      refine W104 tt ?_
      refine XS.ifYes X102.here hx rfl (pc0 := 54) (pc' := 66) rfl (D_ d46_54) rfl ((if0 _ _).trans (feq hc105).2) (by decide) (by decide) ?_
      refine XS.aloadN X102.here hx rfl (D_ d46_66) rfl rfl ?_
      refine XS.iload X102.here hx rfl (D_ d46_67) rfl ?_
      refine st143.trans ?_
      refine XS.pop X143.here hx rfl (D_ d46_72) rfl rfl ?_
      refine XS.goto X143.here hx rfl (pc0 := 73) (pc' := 106) rfl (D_ d46_73) (by decide) (by decide) ?_
      refine XS.iinc X143.here hx rfl (D_ d46_106) rfl (l' := #[.val (.ref o), .val (.ref o2), .val (.ref a), .val (.ref bs), .val (.int (Int32.ofNat ys.length)), .val (.int ((Int32.ofNat i) + (1 : Int32))), .val (.int (ys.getD i 0)), .val (.int cc)]) rfl ?_
      show SS p e below T143 m 109 #[.val (.ref o), .val (.ref o2), .val (.ref a), .val (.ref bs), .val (.int (Int32.ofNat ys.length)), .val (.int ((Int32.ofNat i) + (1 : Int32))), .val (.int (ys.getD i 0)), .val (.int cc)] [] _
      rw [show ((Int32.ofNat i) + (1 : Int32)) = (Int32.ofNat (i + 1)) from own_succ _]
      refine XS.goto X143.here hx rfl (pc0 := 109) (pc' := 27) rfl (D_ d46_109) (by decide) (by decide) ?_
      exact kt
    exact ⟨T143, _, T143.heap, (X143.more (by first | omega | (dsimp only [Pt.cells, Pt.slots]; omega)) (by first | omega | (dsimp only [Pt.cells, Pt.slots]; omega))), rfl, t2_144, kb2_145, N2_146, (cs ++ [cc]), (ys.getD i 0), cc, N143, (Keep.trans (Keep.refl h0 [a, t]) K143 (allS (Or.inl (List.mem_of_getElem? (i := 0) rfl)) (allS (Or.inl (List.mem_of_getElem? (i := 1) rfl)) all0))), P143_0, P143_1, P143_2, P143_3, P143_4, (by first | decide | omega | (simp only [List.length_append, List.length_singleton, List.length_cons, List.length_nil]; omega) : (cs ++ [cc]).length ≤ (n + 3)), P143_5, P143_6, (lat_snoc hlc hc1), (own_okapp okc (own_ok1 hc0 hc1) (by first | omega | (simp only [List.length_append, List.length_singleton]; omega))), P143_8, (own_altr P143_9 (Or.inl rfl) (Nat.le_refl _)), fun tt kt => W147 _ kt⟩
def Q_pencode (Z : State) (o : Addr) (o2 : Addr) (u : Addr) (ku : ClassId) (cs : List Int32) (u2 : Addr) (k2 : ClassId) (ds : List Int32) (cS : Int32) (u8 : Addr) (hd : Addr) (kh : ClassId) (h0 : Heap) (n0 : Nat) (vQ_ : Option Value) (hQ_ : Heap) (LQ_ : List Loc) : Prop := ∃ r : Addr, ∃ t2 : Addr, ∃ kb2 : ClassId, ∃ es : List Int32, vQ_ = some (.ref r) ∧ Fr n0 LQ_ ∧ Keep h0 hQ_ [] ∧ h0.size ≤ r ∧ h0.size ≤ t2 ∧ Str Z hQ_ r t2 kb2 es ∧ lat es = true ∧ es.length ≤ 6
theorem rm_pencode (l : Launch) (Z : State) (a0 : Array Value) (hw : HW a0 Z) (ws : List Jvm.Cond) (o : Addr) (o2 : Addr) (u : Addr) (ku : ClassId) (cs : List Int32) (u2 : Addr) (k2 : ClassId) (ds : List Int32) (cS : Int32) (u8 : Addr) (hd : Addr) (kh : ClassId) (h0 : Heap) (n0 : Nat) (Z0 : n0 ≤ h0.size) (O0 : Old Z n0 h0) (S_cs : Sta Z Z.heap "java/lang/String" "COMPACT_STRINGS" "Z" (.int cS)) (hcS : ¬ (cS = (0 : Int32))) (S_ui : Sta Z Z.heap "sun/nio/cs/UTF_8" "INSTANCE" "Lsun/nio/cs/UTF_8;" (.ref u8)) (S_u8 : Sta Z Z.heap "java/nio/charset/StandardCharsets" "UTF_8" "Ljava/nio/charset/Charset;" (.ref u8)) (S_hx : Sta Z Z.heap "com/example/patents_via_api/patentsviaapi/http/PercentEncoding" "HEX_DIGITS" "[C" (.ref hd)) (V_hx : Arv Z Z.heap hd kh .char (16 : Int32) (hexL.map Value.int) (.int (0 : Int32))) (hS : Str Z h0 o u ku cs) (Eu : Exa Z h0 u "[B") (hl : lat cs = true) (hc1 : cs.length ≤ 1) (hS2 : Str Z h0 o2 u2 k2 ds) (hl2 : lat ds = true) (hds : ds.length ≤ 16) :
    CT l yn46 (Jvm.Cond.code yn46 prog_15_method_2_code 8 (some (.object "java/lang/String")) :: ws) (⟨6, 11, 182, 137⟩ : Room) #[(.ref o), (.ref o2)] Z h0 (Q_pencode Z o o2 u ku cs u2 k2 ds cS u8 hd kh h0 n0) := by
  refine MetFree.of_bodySF (plainFor_of_name pn_com_example_patents_via_api_patentsviaapi_http_PercentEncoding) hisR ?_
  intro p e s m args below meth cO s₁ Bd hml hP hK
  obtain ⟨rfl, hZ, hh⟩ := hP
  have hx := Bd.exec
  have hby := Bd.bytes
  have hown : s.vm.findClass "com/example/patents_via_api/patentsviaapi/http/PercentEncoding" = some m.cls := findClass_of_methodNamed Bd.named
  have hnm := (name_of_methodNamed Bd.named Bd.method).1
  have X0 : Stand p l e (⟨6, 11, 182, 137⟩ : Room) s m #[(.ref o), (.ref o2)] below meth cO s₁ [] 0 0 := Stand.of_body Bd
  have e0 : s₁.heap = h0 := by rw [← hh, Bd.state]; rfl
  have N0 := Fr.nil n0
  have D_ : ∀ {i : Nat} {x}, decode prog_15_method_2_code i = x → decode cO.code i = x := fun h => hb hby h
  have W0 : ∀ zQ, SS p e below s₁ m 0 #[.val (.ref o), .val (.ref o2), .unset, .unset, .unset, .unset, .unset, .unset] [] zQ → Steps p.tables e below (s₁.setTop (entryFrame m #[(.ref o), (.ref o2)] 8)) zQ := fun tt kt => castTop (ef_pencode m o o2) kt
  obtain ⟨T101, h101, X101, e101, E101, A101, D101, U101, st101⟩ := newO X0 hx hZ hown (w145 hw) (w10 hw) (w11 hw) e0 (g := (mkF m 0 #[.val (.ref o), .val (.ref o2), .unset, .unset, .unset, .unset, .unset, .unset] [])) rfl (D_ d46_0) (by decide) (by decide)
  obtain ⟨b101, g101⟩ : ∃ z, z = h0.size := ⟨_, rfl⟩
  rw [← g101] at A101 D101 U101 st101
  have K101 := (Keep.refl h0 []).ext E101
  have G101_value : Fld Z h101 b101 "java/lang/AbstractStringBuilder" "value" "[B" .null := D101 (Or.inl (w26 hw)) (ty := (.array .byte)) (by decide)
  have G101_coder : Fld Z h101 b101 "java/lang/AbstractStringBuilder" "coder" "B" (.int (0 : Int32)) := D101 (Or.inl (w28 hw)) (ty := .byte) (by decide)
  have G101_count : Fld Z h101 b101 "java/lang/AbstractStringBuilder" "count" "I" (.int (0 : Int32)) := D101 (Or.inl (w47 hw)) (ty := .int) (by decide)
  have F102 : Str Z h101 o u ku cs := (hS.keep K101 nin0 nin0)
  have O103 : Old Z n0 h101 := (O0.keep K101 all0)
  obtain ⟨cq104, kq104, q104a, q104b, q104c⟩ := isOf hZ e101 F102.1
  obtain ⟨_, _, ⟨T104, L104, k104, n104⟩, -, X104, ⟨Lc104, hQ104, l104, y104, z104⟩, st104⟩ := X101.virtualBack hx (y := yn2) (z := yn2) hown (mvT hZ (w146 hw)) (mvT hZ (w147 hw)) (notFace_of_selects (args := #[]) (mvT hZ (w149 hw))) (mvT hZ (w149 hw)) (mvT hZ (w148 hw)) (by decide) (backOf (W := 2) (rm_length l Z a0 hw [] o u ku cs cS h101 n0 (Nat.le_trans Z0 K101.1) O103 S_cs hcS F102) hZ (w150 hw) (w23 hw) (by decide) (by decide)) q104a q104c (g := (mkF m 5 #[.val (.ref o), .val (.ref o2), .unset, .unset, .unset, .unset, .unset, .unset] [(.ref o), (.ref b101), (.ref b101)])) rfl (by rw [hml]; rfl) (Steps.refl _) (argsL := []) (rest := [(.ref b101), (.ref b101)]) (lenOf pd13 rfl) rfl (wq rfl) (D_ d46_5) (fun _ _ => ⟨rfl, e101, (nb rfl), (nb rfl)⟩)
  dsimp only [Pt.U, Pt.locs, Pt.cells, Pt.slots] at X104 l104 y104 z104 st104 hQ104
  subst l104 y104 z104
  obtain ⟨rfl, Nq104, eq104⟩ := hQ104
  have N104 := Fr.app N0 Nq104
  obtain ⟨_, _, ⟨T105, L105, k105, n105⟩, -, X105, ⟨Lc105, hQ105, l105, y105, z105⟩, st105⟩ := X104.specialBack hx (y := yn23) rfl hown (mvT hZ (w156 hw)) (mvT hZ (w157 hw)) (mvT hZ (w158 hw)) (by decide) (backOf (W := 1) (rm_sbinit l Z a0 hw [] b101 cs.length cS h101 n0 (Nat.le_trans Z0 K101.1) O103 S_cs hcS A101 G101_value G101_coder G101_count (Nat.le_trans Z0 (Nat.le_of_eq g101.symm)) (by omega : cs.length ≤ 16)) hZ (w158 hw) (w11 hw) (by decide) (by decide)) (g := (mkF m 8 #[.val (.ref o), .val (.ref o2), .unset, .unset, .unset, .unset, .unset, .unset] [(.int (Int32.ofNat cs.length)), (.ref b101), (.ref b101)])) rfl (by rw [hml]; rfl) (Steps.refl _) (a := b101) (argsL := [(.int (Int32.ofNat cs.length))]) (rest := [(.ref b101)]) (lenOf pd7 rfl) rfl (wq rfl) (D_ d46_8) (fun _ _ => ⟨rfl, eq104, (nb rfl), (nb rfl)⟩)
  dsimp only [Pt.U, Pt.locs, Pt.cells, Pt.slots] at X105 l105 y105 z105 st105 hQ105
  subst l105 y105 z105
  obtain ⟨t_106, kb_107, rfl, Nq105, K105, P105_0, P105_1, P105_2, P105_3, P105_4, P105_5⟩ := hQ105
  have N105 := Fr.app N104 Nq105
  have J108 : Arv Z T105.heap t_106 kb_107 .byte (Int32.ofNat cs.length) (l1 ([] : List Int32)) (.int (0 : Int32)) := P105_4
  have J109 : Fld Z T105.heap b101 "java/lang/AbstractStringBuilder" "count" "I" (.int (Int32.ofNat ([] : List Int32).length)) := P105_3
  have O111 : Old Z n0 T105.heap := (O103.keep K105 (allS (Nat.le_trans Z0 (Nat.le_of_eq g101.symm)) all0))
  have F112 : Sta Z T105.heap "java/nio/charset/StandardCharsets" "UTF_8" "Ljava/nio/charset/Charset;" (.ref u8) := S_u8.ext O111.2
  obtain ⟨T110, X110, e110, st110⟩ := getS2 X105 hx hZ hown (host := "") (Or.inl (w159 hw)) Via.refl rfl F112 (g := (mkF m 13 #[.val (.ref o), .val (.ref o2), .val (.ref b101), .unset, .unset, .unset, .unset, .unset] [(.ref o)])) rfl (D_ d46_13)
  have F113 : Str Z T105.heap o u ku cs := (F102.keep K105 (ninS (Nat.ne_of_lt (Nat.lt_of_lt_of_le hS.lt (Nat.le_of_eq g101.symm))) nin0) (ninS (Nat.ne_of_lt (Nat.lt_of_lt_of_le hS.lt2 (Nat.le_of_eq g101.symm))) nin0))
  have F114 : Exa Z T105.heap u "[B" := ((Eu.keep K101).keep K105)
  have z116 : n0 ≤ T105.heap.size := (Nat.le_trans Z0 (Nat.le_trans K101.1 K105.1))
  obtain ⟨cq115, kq115, q115a, q115b, q115c⟩ := isOf hZ e110 F113.1
  obtain ⟨_, _, ⟨T115, L115, k115, n115⟩, -, X115, ⟨Lc115, hQ115, l115, y115, z115⟩, st115⟩ := X110.virtualBack hx (y := yn39) (z := yn39) hown (mvT hZ (w161 hw)) (mvT hZ (w162 hw)) (notFace_of_selects (args := #[]) (mvT hZ (w164 hw))) (mvT hZ (w164 hw)) (mvT hZ (w163 hw)) (by decide) (backOf (W := 0) (rm_getBytesU l Z a0 hw [] o u8 u ku cs cS T105.heap n0 z116 O111 S_cs hcS S_ui F113 F114 hl hc1) hZ (w165 hw) (w23 hw) (by decide) (by decide)) q115a q115c (g := (mkF m 16 #[.val (.ref o), .val (.ref o2), .val (.ref b101), .unset, .unset, .unset, .unset, .unset] [(.ref u8), (.ref o)])) rfl (by rw [hml]; rfl) (Steps.refl _) (argsL := [(.ref u8)]) (rest := []) (lenOf pd29 rfl) rfl (wq rfl) (D_ d46_16) (fun _ _ => ⟨rfl, e110, (nb rfl), (nb rfl)⟩)
  dsimp only [Pt.U, Pt.locs, Pt.cells, Pt.slots] at X115 l115 y115 z115 st115 hQ115
  subst l115 y115 z115
  obtain ⟨r_117, kr_118, ys_119, rfl, Nq115, K115, P115_0, P115_1, P115_2⟩ := hQ115
  have N115 := Fr.app N105 Nq115
  obtain ⟨cl120, Ar120, -, S120, M120, -, -⟩ := id P115_1
  have W121 : ∀ zQ, SS p e below T115 m 31 #[.val (.ref o), .val (.ref o2), .val (.ref b101), .val (.ref r_117), .val (.int (Int32.ofNat ys_119.length)), .val (.int (Int32.ofNat 0)), .unset, .unset] [(.int (Int32.ofNat ys_119.length)), (.int (Int32.ofNat 0))] zQ → Steps p.tables e below (s₁.setTop (entryFrame m #[(.ref o), (.ref o2)] 8)) zQ := by
    intro tt kt
    refine W0 tt ?_
    refine st101 _ ?_
    refine XS.dup X101.here hx rfl (D_ d46_3) rfl rfl ?_
    refine XS.aloadN X101.here hx rfl (D_ d46_4) rfl rfl ?_
    refine st104.trans ?_
    refine st105.trans ?_
    refine XS.astoreN X105.here hx rfl (D_ d46_11) rfl rfl (l' := #[.val (.ref o), .val (.ref o2), .val (.ref b101), .unset, .unset, .unset, .unset, .unset]) rfl ?_
    refine XS.aloadN X105.here hx rfl (D_ d46_12) rfl rfl ?_
    refine st110 _ ?_
    refine st115.trans ?_
    refine XS.astoreN X115.here hx rfl (D_ d46_19) rfl rfl (l' := #[.val (.ref o), .val (.ref o2), .val (.ref b101), .val (.ref r_117), .unset, .unset, .unset, .unset]) rfl ?_
    refine XS.aloadN X115.here hx rfl (D_ d46_20) rfl rfl ?_
    refine X115.arraylength hx (by first | exact Ar120.1 | (rw [rfl]; exact Ar120.1)) (State.isArrayOf_alike hZ.alike Ar120.2.1) (g := (mkF m 21 #[.val (.ref o), .val (.ref o2), .val (.ref b101), .val (.ref r_117), .unset, .unset, .unset, .unset] [(.ref r_117)])) rfl rfl (D_ d46_21) _ ?_
    rw [len_of S120 M120]
    refine XS.istore X115.here hx rfl (D_ d46_22) rfl (l' := #[.val (.ref o), .val (.ref o2), .val (.ref b101), .val (.ref r_117), .val (.int (Int32.ofNat ys_119.length)), .unset, .unset, .unset]) rfl ?_
    refine XS.iconst X115.here hx rfl (D_ d46_24) ?_
    refine XS.istore X115.here hx rfl (D_ d46_25) rfl (l' := #[.val (.ref o), .val (.ref o2), .val (.ref b101), .val (.ref r_117), .val (.int (Int32.ofNat ys_119.length)), .val (.int (0 : Int32)), .unset, .unset]) rfl ?_
    show SS p e below T115 m 27 #[.val (.ref o), .val (.ref o2), .val (.ref b101), .val (.ref r_117), .val (.int (Int32.ofNat ys_119.length)), .val (.int (0 : Int32)), .unset, .unset] [] _
    rw [show (0 : Int32) = (Int32.ofNat 0) from rfl]
    refine XS.iload X115.here hx rfl (D_ d46_27) rfl ?_
    refine XS.iload X115.here hx rfl (D_ d46_29) rfl ?_
    exact kt
  by_cases hc122 : (Int32.ofNat 0) < (Int32.ofNat ys_119.length)
  ·
    have hlt0 : 0 < ys_119.length := own_ltof (by omega) (by omega) hc122
    have O124 : Old Z n0 T115.heap := (O111.keep K115 all0)
    have F125 : Exa Z T115.heap b101 "java/lang/StringBuilder" := ((A101.keep K105).keep K115)
    have F126 : Fld Z T115.heap b101 "java/lang/AbstractStringBuilder" "value" "[B" (.ref t_106) := (P105_1.keep K115 nin0)
    have F127 : Fld Z T115.heap b101 "java/lang/AbstractStringBuilder" "coder" "B" (.int (0 : Int32)) := (P105_2.keep K115 nin0)
    have F128 : Fld Z T115.heap b101 "java/lang/AbstractStringBuilder" "count" "I" (.int (Int32.ofNat ([] : List Int32).length)) := (J109.keep K115 nin0)
    have F129 : Arv Z T115.heap t_106 kb_107 .byte (Int32.ofNat cs.length) (l1 ([] : List Int32)) (.int (0 : Int32)) := (J108.keep K115 nin0)
    have F130 : Exa Z T115.heap t_106 "[B" := (P105_5.keep K115)
    have F131 : Str Z T115.heap o2 u2 k2 ds := (((hS2.keep K101 nin0 nin0).keep K105 (ninS (Nat.ne_of_lt (Nat.lt_of_lt_of_le hS2.lt (Nat.le_of_eq g101.symm))) nin0) (ninS (Nat.ne_of_lt (Nat.lt_of_lt_of_le hS2.lt2 (Nat.le_of_eq g101.symm))) nin0)).keep K115 nin0 nin0)
    have ne132 : u2 ≠ t_106 := (Nat.ne_of_lt (Nat.lt_of_lt_of_le (Nat.lt_of_lt_of_le hS2.lt2 K101.1) P105_0))
    have ne133 : r_117 ≠ b101 := (Ne.symm (Nat.ne_of_lt (Nat.lt_of_lt_of_le (Nat.lt_of_lt_of_le A101.lt K105.1) P115_0)))
    obtain ⟨T123, L123, h123, X123, e123, t2_134, kb2_135, N2_136, cs2_137, y6_138, y7_139, Nl123, K123, P123_0, P123_1, P123_2, P123_3, P123_4, P123_5, P123_6, P123_7, P123_8, P123_9, P123_10, P123_11, st123⟩ := rm_turn hx hZ hw hby hml hown (by decide) (by decide) (by decide) (by decide) o o2 b101 r_117 ys_119 0 .unset .unset kr_118 0 t_106 kb_107 cs.length ([] : List Int32) u2 k2 ds cS hd kh n0 S_cs hcS S_hx V_hx T115 _ T115.heap X115 rfl N115 (Nat.le_trans z116 K115.1) O124 F125 F126 F127 F128 F129 F130 P115_1 F131 hl2 hds hlt0 P115_2 (Nat.le_refl _) (by decide : 0 ≤ 3) (Nat.zero_le _) (by omega) (by decide : lat ([] : List Int32) = true) own_ok0 (Nat.le_trans Z0 (Nat.le_of_eq g101.symm)) (Nat.le_trans Z0 (Nat.le_trans K101.1 P105_0)) (Ne.symm (Nat.ne_of_lt (Nat.lt_of_lt_of_le P105_4.lt P115_0))) ne132 ne133 (Nat.ne_of_lt (Nat.lt_of_lt_of_le hS2.lt2 (Nat.le_of_eq g101.symm))) One.u One.u
    have W140 : ∀ zQ, SS p e below T123 m 31 #[.val (.ref o), .val (.ref o2), .val (.ref b101), .val (.ref r_117), .val (.int (Int32.ofNat ys_119.length)), .val (.int (Int32.ofNat (0 + 1))), .val (.int y6_138), .val (.int y7_139)] [(.int (Int32.ofNat ys_119.length)), (.int (Int32.ofNat (0 + 1)))] zQ → Steps p.tables e below (s₁.setTop (entryFrame m #[(.ref o), (.ref o2)] 8)) zQ := by
      intro tt kt
      refine W121 tt ?_
      refine XS.icmpNo X115.here hx rfl (D_ d46_31) rfl (tlt hc122).2.1 ?_
      refine st123 _ ?_
      refine XS.iload X123.here hx rfl (D_ d46_27) rfl ?_
      refine XS.iload X123.here hx rfl (D_ d46_29) rfl ?_
      exact kt
    by_cases hc141 : (Int32.ofNat (0 + 1)) < (Int32.ofNat ys_119.length)
    ·
      have hlt1 : (0 + 1) < ys_119.length := own_ltof (by omega) (by omega) hc141
      have O143 : Old Z n0 h123 := (O124.keep K123 (allS (Nat.le_trans Z0 (Nat.le_of_eq g101.symm)) (allS (Nat.le_trans Z0 (Nat.le_trans K101.1 P105_0)) all0)))
      have F144 : Exa Z h123 b101 "java/lang/StringBuilder" := (F125.keep K123)
      have F145 : Arv Z h123 r_117 kr_118 .byte (Int32.ofNat ys_119.length) (ys_119.map Value.int) (.int (0 : Int32)) := (P115_1.keep K123 (ninS ne133 (ninS (Ne.symm (Nat.ne_of_lt (Nat.lt_of_lt_of_le P105_4.lt P115_0))) nin0)))
      have ne146 : o2 ≠ t_106 := (Nat.ne_of_lt (Nat.lt_of_lt_of_le (Nat.lt_of_lt_of_le hS2.lt K101.1) P105_0))
      have F147 : Str Z h123 o2 u2 k2 ds := (F131.keep K123 (ninS (Nat.ne_of_lt (Nat.lt_of_lt_of_le hS2.lt (Nat.le_of_eq g101.symm))) (ninS ne146 nin0)) (ninS (Nat.ne_of_lt (Nat.lt_of_lt_of_le hS2.lt2 (Nat.le_of_eq g101.symm))) (ninS ne132 nin0)))
      have ne148 : r_117 ≠ t2_134 := (own_alne P123_11 P115_1.lt (Ne.symm (Nat.ne_of_lt (Nat.lt_of_lt_of_le P105_4.lt P115_0))))
      have ne149 : u2 ≠ t2_134 := (own_alne P123_11 (Nat.lt_of_lt_of_le hS2.lt2 (Nat.le_trans (Nat.le_trans K101.1 K105.1) K115.1)) ne132)
      have z156 : n0 ≤ h123.size := (Nat.le_trans z116 (Nat.le_trans K115.1 K123.1))
      obtain ⟨T142, L142, h142, X142, e142, t2_150, kb2_151, N2_152, cs2_153, y6_154, y7_155, Nl142, K142, P142_0, P142_1, P142_2, P142_3, P142_4, P142_5, P142_6, P142_7, P142_8, P142_9, P142_10, P142_11, st142⟩ := rm_turn hx hZ hw hby hml hown (by decide) (by decide) (by decide) (by decide) o o2 b101 r_117 ys_119 (0 + 1) (.val (.int y6_138)) (.val (.int y7_139)) kr_118 (0 + 3) t2_134 kb2_135 N2_136 cs2_137 u2 k2 ds cS hd kh n0 S_cs hcS S_hx V_hx T123 _ h123 X123 e123 Nl123 z156 O143 F144 P123_0 P123_1 P123_2 P123_3 P123_4 F145 F147 hl2 hds hlt1 P115_2 P123_5 (by decide : (0 + 3) ≤ 3) P123_6 P123_7 P123_8 P123_9 (Nat.le_trans Z0 (Nat.le_of_eq g101.symm)) P123_10 ne148 ne149 ne133 (Nat.ne_of_lt (Nat.lt_of_lt_of_le hS2.lt2 (Nat.le_of_eq g101.symm))) (One.val rfl) (One.val rfl)
      have F157 : Exa Z h142 b101 "java/lang/StringBuilder" := (F144.keep K142)
      have O158 : Old Z n0 h142 := (O143.keep K142 (allS (Nat.le_trans Z0 (Nat.le_of_eq g101.symm)) (allS P123_10 all0)))
      obtain ⟨cq159, kq159, q159a, q159b, q159c⟩ := isOf hZ e142 F157
      obtain ⟨_, _, ⟨T159, L159, k159, n159⟩, -, X159, ⟨Lc159, hQ159, l159, y159, z159⟩, st159⟩ := X142.virtualBack hx (y := yn29) (z := yn29) hown (mvT hZ (w251 hw)) (mvT hZ (w54 hw)) (notFace_of_selects (args := #[]) (mvT hZ (w56 hw))) (mvT hZ (w56 hw)) (mvT hZ (w55 hw)) (by decide) (backOf (W := 0) (rm_sbToString l Z a0 hw [] b101 t2_150 kb2_151 N2_152 cs2_153 cS h142 n0 (Nat.le_trans z156 K142.1) O158 S_cs hcS F157 P142_0 P142_1 P142_2 P142_3 P142_4 P142_6 (by omega : N2_152 ≤ 84) P142_8 P142_9) hZ (w57 hw) (w11 hw) (by decide) (by decide)) q159a q159c (g := (mkF m 113 #[.val (.ref o), .val (.ref o2), .val (.ref b101), .val (.ref r_117), .val (.int (Int32.ofNat ys_119.length)), .val (.int (Int32.ofNat ((0 + 1) + 1))), .val (.int y6_154), .val (.int y7_155)] [(.ref b101)])) rfl (by rw [hml]; rfl) (Steps.refl _) (argsL := []) (rest := []) (lenOf pd30 rfl) rfl (wq rfl) (D_ d46_113) (fun _ _ => ⟨rfl, e142, (nb rfl), (nb rfl)⟩)
      dsimp only [Pt.U, Pt.locs, Pt.cells, Pt.slots] at X159 l159 y159 z159 st159 hQ159
      subst l159 y159 z159
      obtain ⟨r_160, t2_161, kb2_162, rfl, Nq159, K159, P159_0, P159_1, P159_2⟩ := hQ159
      have N159 := Fr.app Nl142 Nq159
      have W163 : ∀ zQ, SS p e below T159 m 116 #[.val (.ref o), .val (.ref o2), .val (.ref b101), .val (.ref r_117), .val (.int (Int32.ofNat ys_119.length)), .val (.int (Int32.ofNat ((0 + 1) + 1))), .val (.int y6_154), .val (.int y7_155)] [(.ref r_160)] zQ → Steps p.tables e below (s₁.setTop (entryFrame m #[(.ref o), (.ref o2)] 8)) zQ := by
        intro tt kt
        refine W140 tt ?_
        refine XS.icmpNo X123.here hx rfl (D_ d46_31) rfl (tlt hc141).2.1 ?_
        refine st142 _ ?_
        refine XS.iload X142.here hx rfl (D_ d46_27) rfl ?_
        refine XS.iload X142.here hx rfl (D_ d46_29) rfl ?_
        refine XS.icmpYes X142.here hx rfl (pc0 := 31) (pc' := 112) rfl (D_ d46_31) rfl (flt (own_nlt (by omega) (by omega))).2.1 (by decide) (by decide) ?_
        refine XS.aloadN X142.here hx rfl (D_ d46_112) rfl rfl ?_
        refine st159.trans ?_
        exact kt
      obtain ⟨fs, hr, hrun, hended, hW, hsame⟩ := X159.leave (v := some (.ref r_160)) (fun h => by rw [Bd.returns] at h; cases h)
      refine ⟨_, _, W163 _ (own_retR X159 hx Bd.returns rfl rfl (D_ d46_116) hr), hrun, hended, _, _, rfl, ?_, ⟨_, rfl⟩, hW, hsame.mono (by decide) (by decide)⟩
      show Q_pencode Z o o2 u ku cs u2 k2 ds cS u8 hd kh h0 n0 _ T159.heap _
      exact ⟨r_160, t2_161, kb2_162, cs2_153, rfl, N159, (Keep.trans (Keep.trans (Keep.trans (Keep.trans (Keep.trans (Keep.trans (Keep.refl h0 []) K101 all0) K105 (allS (Or.inr (Nat.le_of_eq g101.symm)) all0)) K115 all0) K123 (allS (Or.inr (Nat.le_of_eq g101.symm)) (allS (Or.inr (Nat.le_trans K101.1 P105_0)) all0))) K142 (allS (Or.inr (Nat.le_of_eq g101.symm)) (allS (Or.inr (own_alge P123_11 (Nat.le_trans K101.1 P105_0) (Nat.le_trans (Nat.le_trans K101.1 K105.1) K115.1))) all0))) K159 all0), (Nat.le_trans (Nat.le_trans (Nat.le_trans (Nat.le_trans (Nat.le_trans K101.1 K105.1) K115.1) K123.1) K142.1) P159_0), (Nat.le_trans (Nat.le_trans (Nat.le_trans (Nat.le_trans (Nat.le_trans K101.1 K105.1) K115.1) K123.1) K142.1) P159_1), P159_2, P142_8, (by first | decide | omega)⟩
    ·
      have F164 : Exa Z h123 b101 "java/lang/StringBuilder" := (F125.keep K123)
      have O165 : Old Z n0 h123 := (O124.keep K123 (allS (Nat.le_trans Z0 (Nat.le_of_eq g101.symm)) (allS (Nat.le_trans Z0 (Nat.le_trans K101.1 P105_0)) all0)))
      have z167 : n0 ≤ h123.size := (Nat.le_trans z116 (Nat.le_trans K115.1 K123.1))
      obtain ⟨cq166, kq166, q166a, q166b, q166c⟩ := isOf hZ e123 F164
      obtain ⟨_, _, ⟨T166, L166, k166, n166⟩, -, X166, ⟨Lc166, hQ166, l166, y166, z166⟩, st166⟩ := X123.virtualBack hx (y := yn29) (z := yn29) hown (mvT hZ (w251 hw)) (mvT hZ (w54 hw)) (notFace_of_selects (args := #[]) (mvT hZ (w56 hw))) (mvT hZ (w56 hw)) (mvT hZ (w55 hw)) (by decide) (backOf (W := 0) (rm_sbToString l Z a0 hw [] b101 t2_134 kb2_135 N2_136 cs2_137 cS h123 n0 z167 O165 S_cs hcS F164 P123_0 P123_1 P123_2 P123_3 P123_4 P123_6 (by omega : N2_136 ≤ 84) P123_8 P123_9) hZ (w57 hw) (w11 hw) (by decide) (by decide)) q166a q166c (g := (mkF m 113 #[.val (.ref o), .val (.ref o2), .val (.ref b101), .val (.ref r_117), .val (.int (Int32.ofNat ys_119.length)), .val (.int (Int32.ofNat (0 + 1))), .val (.int y6_138), .val (.int y7_139)] [(.ref b101)])) rfl (by rw [hml]; rfl) (Steps.refl _) (argsL := []) (rest := []) (lenOf pd30 rfl) rfl (wq rfl) (D_ d46_113) (fun _ _ => ⟨rfl, e123, (nb rfl), (nb rfl)⟩)
      dsimp only [Pt.U, Pt.locs, Pt.cells, Pt.slots] at X166 l166 y166 z166 st166 hQ166
      subst l166 y166 z166
      obtain ⟨r_168, t2_169, kb2_170, rfl, Nq166, K166, P166_0, P166_1, P166_2⟩ := hQ166
      have N166 := Fr.app Nl123 Nq166
      have W171 : ∀ zQ, SS p e below T166 m 116 #[.val (.ref o), .val (.ref o2), .val (.ref b101), .val (.ref r_117), .val (.int (Int32.ofNat ys_119.length)), .val (.int (Int32.ofNat (0 + 1))), .val (.int y6_138), .val (.int y7_139)] [(.ref r_168)] zQ → Steps p.tables e below (s₁.setTop (entryFrame m #[(.ref o), (.ref o2)] 8)) zQ := by
        intro tt kt
        refine W140 tt ?_
        refine XS.icmpYes X123.here hx rfl (pc0 := 31) (pc' := 112) rfl (D_ d46_31) rfl (flt hc141).2.1 (by decide) (by decide) ?_
        refine XS.aloadN X123.here hx rfl (D_ d46_112) rfl rfl ?_
        refine st166.trans ?_
        exact kt
      obtain ⟨fs, hr, hrun, hended, hW, hsame⟩ := X166.leave (v := some (.ref r_168)) (fun h => by rw [Bd.returns] at h; cases h)
      refine ⟨_, _, W171 _ (own_retR X166 hx Bd.returns rfl rfl (D_ d46_116) hr), hrun, hended, _, _, rfl, ?_, ⟨_, rfl⟩, hW, hsame.mono (by decide) (by decide)⟩
      show Q_pencode Z o o2 u ku cs u2 k2 ds cS u8 hd kh h0 n0 _ T166.heap _
      exact ⟨r_168, t2_169, kb2_170, cs2_137, rfl, N166, (Keep.trans (Keep.trans (Keep.trans (Keep.trans (Keep.trans (Keep.refl h0 []) K101 all0) K105 (allS (Or.inr (Nat.le_of_eq g101.symm)) all0)) K115 all0) K123 (allS (Or.inr (Nat.le_of_eq g101.symm)) (allS (Or.inr (Nat.le_trans K101.1 P105_0)) all0))) K166 all0), (Nat.le_trans (Nat.le_trans (Nat.le_trans (Nat.le_trans K101.1 K105.1) K115.1) K123.1) P166_0), (Nat.le_trans (Nat.le_trans (Nat.le_trans (Nat.le_trans K101.1 K105.1) K115.1) K123.1) P166_1), P166_2, P123_8, (by first | decide | omega)⟩
  ·
    have F172 : Exa Z T115.heap b101 "java/lang/StringBuilder" := ((A101.keep K105).keep K115)
    have F173 : Fld Z T115.heap b101 "java/lang/AbstractStringBuilder" "value" "[B" (.ref t_106) := (P105_1.keep K115 nin0)
    have F174 : Fld Z T115.heap b101 "java/lang/AbstractStringBuilder" "coder" "B" (.int (0 : Int32)) := (P105_2.keep K115 nin0)
    have F175 : Fld Z T115.heap b101 "java/lang/AbstractStringBuilder" "count" "I" (.int (Int32.ofNat ([] : List Int32).length)) := (J109.keep K115 nin0)
    have F176 : Arv Z T115.heap t_106 kb_107 .byte (Int32.ofNat cs.length) (l1 ([] : List Int32)) (.int (0 : Int32)) := (J108.keep K115 nin0)
    have F177 : Exa Z T115.heap t_106 "[B" := (P105_5.keep K115)
    have O178 : Old Z n0 T115.heap := (O111.keep K115 all0)
    obtain ⟨cq179, kq179, q179a, q179b, q179c⟩ := isOf hZ rfl F172
    obtain ⟨_, _, ⟨T179, L179, k179, n179⟩, -, X179, ⟨Lc179, hQ179, l179, y179, z179⟩, st179⟩ := X115.virtualBack hx (y := yn29) (z := yn29) hown (mvT hZ (w251 hw)) (mvT hZ (w54 hw)) (notFace_of_selects (args := #[]) (mvT hZ (w56 hw))) (mvT hZ (w56 hw)) (mvT hZ (w55 hw)) (by decide) (backOf (W := 0) (rm_sbToString l Z a0 hw [] b101 t_106 kb_107 cs.length ([] : List Int32) cS T115.heap n0 (Nat.le_trans z116 K115.1) O178 S_cs hcS F172 F173 F174 F175 F176 F177 (Nat.zero_le _) (by omega : cs.length ≤ 84) rfl own_ok0) hZ (w57 hw) (w11 hw) (by decide) (by decide)) q179a q179c (g := (mkF m 113 #[.val (.ref o), .val (.ref o2), .val (.ref b101), .val (.ref r_117), .val (.int (Int32.ofNat ys_119.length)), .val (.int (Int32.ofNat 0)), .unset, .unset] [(.ref b101)])) rfl (by rw [hml]; rfl) (Steps.refl _) (argsL := []) (rest := []) (lenOf pd30 rfl) rfl (wq rfl) (D_ d46_113) (fun _ _ => ⟨rfl, rfl, (nb rfl), (nb rfl)⟩)
    dsimp only [Pt.U, Pt.locs, Pt.cells, Pt.slots] at X179 l179 y179 z179 st179 hQ179
    subst l179 y179 z179
    obtain ⟨r_180, t2_181, kb2_182, rfl, Nq179, K179, P179_0, P179_1, P179_2⟩ := hQ179
    have N179 := Fr.app N115 Nq179
    have W183 : ∀ zQ, SS p e below T179 m 116 #[.val (.ref o), .val (.ref o2), .val (.ref b101), .val (.ref r_117), .val (.int (Int32.ofNat ys_119.length)), .val (.int (Int32.ofNat 0)), .unset, .unset] [(.ref r_180)] zQ → Steps p.tables e below (s₁.setTop (entryFrame m #[(.ref o), (.ref o2)] 8)) zQ := by
      intro tt kt
      refine W121 tt ?_
      refine XS.icmpYes X115.here hx rfl (pc0 := 31) (pc' := 112) rfl (D_ d46_31) rfl (flt hc122).2.1 (by decide) (by decide) ?_
      refine XS.aloadN X115.here hx rfl (D_ d46_112) rfl rfl ?_
      refine st179.trans ?_
      exact kt
    obtain ⟨fs, hr, hrun, hended, hW, hsame⟩ := X179.leave (v := some (.ref r_180)) (fun h => by rw [Bd.returns] at h; cases h)
    refine ⟨_, _, W183 _ (own_retR X179 hx Bd.returns rfl rfl (D_ d46_116) hr), hrun, hended, _, _, rfl, ?_, ⟨_, rfl⟩, hW, hsame.mono (by decide) (by decide)⟩
    show Q_pencode Z o o2 u ku cs u2 k2 ds cS u8 hd kh h0 n0 _ T179.heap _
    exact ⟨r_180, t2_181, kb2_182, ([] : List Int32), rfl, N179, (Keep.trans (Keep.trans (Keep.trans (Keep.trans (Keep.refl h0 []) K101 all0) K105 (allS (Or.inr (Nat.le_of_eq g101.symm)) all0)) K115 all0) K179 all0), (Nat.le_trans (Nat.le_trans (Nat.le_trans K101.1 K105.1) K115.1) P179_0), (Nat.le_trans (Nat.le_trans (Nat.le_trans K101.1 K105.1) K115.1) P179_1), P179_2, rfl, (by first | decide | omega)⟩
def Q_text (Z : State) (bits : Int32) (c : Int32) (cS : Int32) (h0 : Heap) (n0 : Nat) (vQ_ : Option Value) (hQ_ : Heap) (LQ_ : List Loc) : Prop := ∃ r : Addr, ∃ t : Addr, ∃ kb : ClassId, ∃ cs : List Int32, vQ_ = some (.ref r) ∧ Fr n0 LQ_ ∧ Keep h0 hQ_ [] ∧ Str Z hQ_ r t kb cs ∧ Exa Z hQ_ t "[B" ∧ cs.length ≤ 1 ∧ lat cs = true
theorem rm_text (l : Launch) (Z : State) (a0 : Array Value) (hw : HW a0 Z) (ws : List Jvm.Cond) (bits : Int32) (c : Int32) (cS : Int32) (h0 : Heap) (n0 : Nat) (Z0 : n0 ≤ h0.size) (O0 : Old Z n0 h0) (S_cs : Sta Z Z.heap "java/lang/String" "COMPACT_STRINGS" "Z" (.int cS)) (hcS : ¬ (cS = (0 : Int32))) :
    MetFree l yn47 (head1 (Jvm.Cond.code yn47 method_4_code 2 (some (.object "java/lang/String")) :: ws) (⟨3, 2, 5, 39⟩ : Room)) (fun aQ_ UQ => aQ_ = #[(.int bits), (.int c)] ∧ Z.Warmed39 UQ.vm ∧ UQ.heap = h0 ∧ CHv Z EL_1 UQ.vm h0) (fun _ _ _ _ _ => True) (fun _ UQ oQ UQ' => ∃ vQ_ LQ_, oQ = .returned vQ_ ∧ Q_text Z bits c cS h0 n0 vQ_ UQ'.heap LQ_ ∧ CHr Z EL_1 UQ.vm UQ.heap UQ'.vm UQ'.heap ∧ ReturnedEndW UQ oQ UQ' LQ_ (⟨3, 2, 5, 39⟩ : Room).cells (⟨3, 2, 5, 39⟩ : Room).slots) := by
  refine MetFree.of_bodySF (plainFor_of_name pn_com_example_patents_via_api_patentsviaapi_http_QueryStringIsEmptyPinLaw) hisR ?_
  intro p e s m args below meth cO s₁ Bd hml hP hK
  obtain ⟨rfl, hZ, hh, hH⟩ := hP
  have hx := Bd.exec
  have hby := Bd.bytes
  have hown : s.vm.findClass "com/example/patents_via_api/patentsviaapi/http/QueryStringIsEmptyPinLaw" = some m.cls := findClass_of_methodNamed Bd.named
  have hnm := (name_of_methodNamed Bd.named Bd.method).1
  have X0 : Stand p l e (⟨3, 2, 5, 39⟩ : Room) (s.setVm s.vm) m #[(.int bits), (.int c)] below meth cO s₁ [] 0 0 := Stand.of_body Bd
  have e0 : s₁.heap = h0 := by rw [← hh, Bd.state]; rfl
  have N0 := Fr.nil n0
  have hZ0 : Z.Warmed39 (s.setVm s.vm).vm := hZ
  have hown0 : (s.setVm s.vm).vm.findClass "com/example/patents_via_api/patentsviaapi/http/QueryStringIsEmptyPinLaw" = some m.cls := hown
  have hS0 : s.Since s.vm 0 := (State.WarmedH.refl s).since 0
  have hk0 : 0 ≤ h0.size := Nat.zero_le _
  have hEL : EW Z a0 EL_1 := own_EW hw
  have R0 : CHr Z EL_1 s.vm h0 s.vm h0 := CHr.refl hH
  have D_ : ∀ {i : Nat} {x}, decode method_4_code i = x → decode cO.code i = x := fun h => hb hby h
  have W0 : ∀ zQ, SS p e below s₁ m 0 #[.val (.int bits), .val (.int c)] [] zQ → Steps p.tables e below (s₁.setTop (entryFrame m #[(.int bits), (.int c)] 2)) zQ := fun tt kt => castTop (ef_text m bits c) kt
  have W101 : ∀ zQ, SS p e below s₁ m 3 #[.val (.int bits), .val (.int c)] [(.int (bits &&& (1 : Int32)))] zQ → Steps p.tables e below (s₁.setTop (entryFrame m #[(.int bits), (.int c)] 2)) zQ := by
    intro tt kt
    refine W0 tt ?_
    refine XS.iloadN X0.here hx rfl (D_ d47_0) rfl ?_
    refine XS.iconst X0.here hx rfl (D_ d47_1) ?_
    refine XS.iand X0.here hx rfl (D_ d47_2) rfl ?_
    exact kt
  by_cases hc102 : (bits &&& (1 : Int32)) = (0 : Int32)
  ·
    obtain ⟨b103, T103, h103, k103, c103, kb103, X103, e103, E103, hS103, hk103, hZ103, hown103, LE103, LC103, LV103, LA103, l1103, l2103, A103, -, sf103, st103⟩ := ldcCH X0 hx hZ0 hown0 (w284 hw) (own_wS hw) e0 hS0 hk0 hEL (by decide +kernel) R0.1 (vs := (l1 ([] : List Int32))) (z := (0 : Int32)) (by decide +kernel) (by decide) (by decide) (g := (mkF m 6 #[.val (.int bits), .val (.int c)] [])) rfl (D_ d47_6) (n := 0) (by decide) (by decide) (by decide) (by decide)
    have K103 := (Keep.refl h0 []).ext E103
    have R104 : CHr Z EL_1 s.vm h0 T103.vm h103 := R0.trans A103
    have LS103 : Str Z h103 b103 c103 kb103 ([] : List Int32) := ⟨LE103, LV103, LC103, LA103, by decide, by decide⟩
    have LB103 : Exa Z h103 c103 "[B" := own_exaB hZ103.alike sf103 LA103
    have W105 : ∀ zQ, SS p e below T103 m 8 #[.val (.int bits), .val (.int c)] [(.ref b103)] zQ → Steps p.tables e below (s₁.setTop (entryFrame m #[(.int bits), (.int c)] 2)) zQ := by
      intro tt kt
      refine W101 tt ?_
      refine XS.ifNo X0.here hx rfl (D_ d47_3) rfl ((if0 _ _).trans (teq hc102).2) ?_
      refine st103 _ ?_
      exact kt
    obtain ⟨fs, hr, hrun, hended, hRW⟩ := Jvm.Stand.leaveW X103 hS103 (by rw [e103]; exact hk103) (v := some (.ref b103)) (fun h => by rw [Bd.returns] at h; cases h) (BodyLoose.notSynchronized Bd)
    refine ⟨_, _, W105 _ (own_retR X103 hx Bd.returns rfl rfl (D_ d47_8) hr), hrun, hended, _, _, rfl, ?_, own_chr (T := T103) R104 (CHv.at X103 hZ103 hEL R104.1) hh.symm e103, own_rw hRW (by decide) (by decide)⟩
    show Q_text Z bits c cS h0 n0 _ T103.heap _
    rw [e103]
    exact ⟨b103, c103, kb103, ([] : List Int32), rfl, N0, (Keep.trans (Keep.refl h0 []) K103 all0), LS103, LB103, (Nat.le_of_ble_eq_true rfl), rfl⟩
  ·
    obtain ⟨cc, h_cc⟩ : ∃ z : Int32, z = ((c &&& (255 : Int32)).toUInt32.toUInt16.toUInt32.toInt32) := ⟨_, rfl⟩
    have hc0 : ¬ (cc < (0 : Int32)) := by rw [h_cc]; exact (own_c255 _).1
    have hc1 : ¬ ((255 : Int32) < cc) := by rw [h_cc]; exact (own_c255 _).2
    obtain ⟨_, _, ⟨T106, L106, k106, n106⟩, -, X106, ⟨Lc106, hQ106, l106, y106, z106⟩, st106⟩ := Jvm.LawKit.callS X0 hx (y := yn32) hown0 (mvT hZ0 (w114 hw)) (mvT hZ0 (w115 hw)) (mvT hZ0 (w23 hw)) (mvT hZ0 (w116 hw)) (by decide) (backOf (W := 0) (rm_valueOfC l Z a0 hw [] cc cS h0 n0 Z0 O0 S_cs hcS hc0 hc1) hZ0 (w116 hw) (w23 hw) (by decide) (by decide)) (g := (mkF m 15 #[.val (.int bits), .val (.int c)] [(.int cc)])) rfl (by rw [hml]; rfl) (argsL := [(.int cc)]) (rest := []) (lenOf pd31 rfl) rfl (wq rfl) (D_ d47_15) (fun _ _ => ⟨rfl, e0, (nb rfl), (nb rfl)⟩)
    dsimp only [Pt.U, Pt.locs, Pt.cells, Pt.slots] at X106 l106 y106 z106 st106 hQ106
    subst l106 y106 z106
    obtain ⟨r_107, t_108, kb_109, rfl, Nq106, K106, P106_0, P106_1, P106_2, P106_3⟩ := hQ106
    have N106 := Fr.app N0 Nq106
    have R110 : CHr Z EL_1 s.vm h0 s.vm T106.heap := R0.trans (CHr.keep K106 sf0 R0.1)
    have W111 : ∀ zQ, SS p e below T106 m 18 #[.val (.int bits), .val (.int c)] [(.ref r_107)] zQ → Steps p.tables e below (s₁.setTop (entryFrame m #[(.int bits), (.int c)] 2)) zQ := by
      intro tt kt
      refine W101 tt ?_
      refine XS.ifYes X0.here hx rfl (pc0 := 3) (pc' := 9) rfl (D_ d47_3) rfl ((if0 _ _).trans (feq hc102).2) (by decide) (by decide) ?_
      refine XS.iloadN X0.here hx rfl (D_ d47_9) rfl ?_
      refine XS.sipush X0.here hx rfl (D_ d47_10) ?_
      refine XS.iand X0.here hx rfl (D_ d47_13) rfl ?_
      refine XS.i2c X0.here hx rfl (D_ d47_14) rfl ?_
      show SS p e below s₁ m 15 #[.val (.int bits), .val (.int c)] [(.int ((c &&& (255 : Int32)).toUInt32.toUInt16.toUInt32.toInt32))] _
      rw [← h_cc]
      refine st106 _ ?_
      exact kt
    obtain ⟨fs, hr, hrun, hended, hRW⟩ := Jvm.Stand.leaveW X106 hS0 (Nat.le_trans hk0 K106.1) (v := some (.ref r_107)) (fun h => by rw [Bd.returns] at h; cases h) (BodyLoose.notSynchronized Bd)
    refine ⟨_, _, W111 _ (own_retR X106 hx Bd.returns rfl rfl (D_ d47_18) hr), hrun, hended, _, _, rfl, ?_, own_chr (T := T106) R110 (CHv.at X106 hZ0 hEL R110.1) hh.symm rfl, own_rw hRW (by decide) (by decide)⟩
    show Q_text Z bits c cS h0 n0 _ T106.heap _
    exact ⟨r_107, t_108, kb_109, [cc], rfl, N106, (Keep.trans (Keep.refl h0 []) K106 all0), P106_2, P106_3, (Nat.le_of_ble_eq_true rfl), (own_lat1 hc1)⟩
def Q_qsinit (Z : State) (q : Addr) (cS : Int32) (h0 : Heap) (n0 : Nat) (vQ_ : Option Value) (hQ_ : Heap) (LQ_ : List Loc) : Prop := ∃ a : Addr, ∃ t : Addr, ∃ kb : ClassId, vQ_ = none ∧ Fr n0 LQ_ ∧ Keep h0 hQ_ [q] ∧ h0.size ≤ a ∧ h0.size ≤ t ∧ Fld Z hQ_ q "com/example/patents_via_api/patentsviaapi/http/QueryString" "query" "Ljava/lang/StringBuilder;" (.ref a) ∧ Exa Z hQ_ a "java/lang/StringBuilder" ∧ Fld Z hQ_ a "java/lang/AbstractStringBuilder" "value" "[B" (.ref t) ∧ Fld Z hQ_ a "java/lang/AbstractStringBuilder" "coder" "B" (.int (0 : Int32)) ∧ Fld Z hQ_ a "java/lang/AbstractStringBuilder" "count" "I" (.int (Int32.ofNat ([] : List Int32).length)) ∧ Arv Z hQ_ t kb .byte (Int32.ofNat 16) (l1 ([] : List Int32)) (.int (0 : Int32)) ∧ Exa Z hQ_ t "[B"
theorem rm_qsinit (l : Launch) (Z : State) (a0 : Array Value) (hw : HW a0 Z) (ws : List Jvm.Cond) (q : Addr) (cS : Int32) (h0 : Heap) (n0 : Nat) (Z0 : n0 ≤ h0.size) (O0 : Old Z n0 h0) (S_cs : Sta Z Z.heap "java/lang/String" "COMPACT_STRINGS" "Z" (.int cS)) (hcS : ¬ (cS = (0 : Int32))) (Eq : Exa Z h0 q "com/example/patents_via_api/patentsviaapi/http/QueryString") (Fq : Fld Z h0 q "com/example/patents_via_api/patentsviaapi/http/QueryString" "query" "Ljava/lang/StringBuilder;" .null) (g1 : n0 ≤ q) :
    CT l yn48 (Jvm.Cond.code yn48 prog_16_method_1_code 1 none :: ws) (⟨3, 2, 20, 39⟩ : Room) #[(.ref q)] Z h0 (Q_qsinit Z q cS h0 n0) := by
  refine MetFree.of_bodySF (plainFor_of_name pn_com_example_patents_via_api_patentsviaapi_http_QueryString) hisR ?_
  intro p e s m args below meth cO s₁ Bd hml hP hK
  obtain ⟨rfl, hZ, hh⟩ := hP
  have hx := Bd.exec
  have hby := Bd.bytes
  have hown : s.vm.findClass "com/example/patents_via_api/patentsviaapi/http/QueryString" = some m.cls := findClass_of_methodNamed Bd.named
  have hnm := (name_of_methodNamed Bd.named Bd.method).1
  have X0 : Stand p l e (⟨3, 2, 20, 39⟩ : Room) s m #[(.ref q)] below meth cO s₁ [] 0 0 := Stand.of_body Bd
  have e0 : s₁.heap = h0 := by rw [← hh, Bd.state]; rfl
  have N0 := Fr.nil n0
  have D_ : ∀ {i : Nat} {x}, decode prog_16_method_1_code i = x → decode cO.code i = x := fun h => hb hby h
  have W0 : ∀ zQ, SS p e below s₁ m 0 #[.val (.ref q)] [] zQ → Steps p.tables e below (s₁.setTop (entryFrame m #[(.ref q)] 1)) zQ := fun tt kt => castTop (ef_qsinit m q) kt
  obtain ⟨T101, X101, e101, st101⟩ := initO X0 hx hZ hown (w6 hw) (w7 hw) (w8 hw) e0 (g := (mkF m 1 #[.val (.ref q)] [(.ref q)])) rfl (by rw [hml]; rfl) rfl (D_ d48_1) (by decide) (W := 0) (by show 2 * 0 + _ ≤ _; exact Nat.le_of_eq rfl) (by decide)
  obtain ⟨T102, h102, X102, e102, E102, A102, D102, U102, st102⟩ := newO X101 hx hZ hown (w9 hw) (w10 hw) (w11 hw) e101 (g := (mkF m 5 #[.val (.ref q)] [(.ref q)])) rfl (D_ d48_5) (by decide) (by decide)
  obtain ⟨b102, g102⟩ : ∃ z, z = h0.size := ⟨_, rfl⟩
  rw [← g102] at A102 D102 U102 st102
  have K102 := (Keep.refl h0 []).ext E102
  have G102_value : Fld Z h102 b102 "java/lang/AbstractStringBuilder" "value" "[B" .null := D102 (Or.inl (w26 hw)) (ty := (.array .byte)) (by decide)
  have G102_coder : Fld Z h102 b102 "java/lang/AbstractStringBuilder" "coder" "B" (.int (0 : Int32)) := D102 (Or.inl (w28 hw)) (ty := .byte) (by decide)
  have G102_count : Fld Z h102 b102 "java/lang/AbstractStringBuilder" "count" "I" (.int (0 : Int32)) := D102 (Or.inl (w47 hw)) (ty := .int) (by decide)
  have O103 : Old Z n0 h102 := (O0.keep K102 all0)
  obtain ⟨_, _, ⟨T104, L104, k104, n104⟩, -, X104, ⟨Lc104, hQ104, l104, y104, z104⟩, st104⟩ := X102.specialBack hx (y := yn24) rfl hown (mvT hZ (w12 hw)) (mvT hZ (w13 hw)) (mvT hZ (w14 hw)) (by decide) (backOf (W := 2) (rm_sbinit0 l Z a0 hw [] b102 cS h102 n0 (Nat.le_trans Z0 K102.1) O103 S_cs hcS A102 G102_value G102_coder G102_count (Nat.le_trans Z0 (Nat.le_of_eq g102.symm))) hZ (w14 hw) (w11 hw) (by decide) (by decide)) (g := (mkF m 9 #[.val (.ref q)] [(.ref b102), (.ref b102), (.ref q)])) rfl (by rw [hml]; rfl) (Steps.refl _) (a := b102) (argsL := []) (rest := [(.ref b102), (.ref q)]) (lenOf pd32 rfl) rfl (wq rfl) (D_ d48_9) (fun _ _ => ⟨rfl, e102, (nb rfl), (nb rfl)⟩)
  dsimp only [Pt.U, Pt.locs, Pt.cells, Pt.slots] at X104 l104 y104 z104 st104 hQ104
  subst l104 y104 z104
  obtain ⟨t_105, kb_106, rfl, Nq104, K104, P104_0, P104_1, P104_2, P104_3, P104_4, P104_5⟩ := hQ104
  have N104 := Fr.app N0 Nq104
  have J107 : Arv Z T104.heap t_105 kb_106 .byte (Int32.ofNat 16) (l1 ([] : List Int32)) (.int (0 : Int32)) := P104_4
  have J108 : Fld Z T104.heap b102 "java/lang/AbstractStringBuilder" "count" "I" (.int (Int32.ofNat ([] : List Int32).length)) := P104_3
  have F109 : Exa Z T104.heap q "com/example/patents_via_api/patentsviaapi/http/QueryString" := ((Eq.keep K102).keep K104)
  have F110 : Fld Z T104.heap q "com/example/patents_via_api/patentsviaapi/http/QueryString" "query" "Ljava/lang/StringBuilder;" .null := ((Fq.keep K102 nin0).keep K104 (ninS (Nat.ne_of_lt (Nat.lt_of_lt_of_le Eq.lt (Nat.le_of_eq g102.symm))) nin0))
  obtain ⟨T111, h111, X111, e111, Wr111, st111⟩ := putF X104 hx hZ hown (host := "") (Or.inl (w29 hw)) Via.refl rfl F110 F109 (Or.inr ⟨(w30 hw), rfl, hnm⟩) (w1 hw) (ty := (.object "java/lang/StringBuilder")) (by decide) rfl rfl (g := (mkF m 12 #[.val (.ref q)] [(.ref b102), (.ref q)])) rfl rfl (D_ d48_12)
  have K111 := Keep.of_wr Wr111
  have G111 := F110.same Wr111
  have N111 := Fr.snoc X111 N104 g1
  have W112 : ∀ zQ, SS p e below T111 m 15 #[.val (.ref q)] [] zQ → Steps p.tables e below (s₁.setTop (entryFrame m #[(.ref q)] 1)) zQ := by
    intro tt kt
    refine W0 tt ?_
    refine XS.aloadN X0.here hx rfl (D_ d48_0) rfl rfl ?_
    refine st101 _ ?_
    refine XS.aloadN X101.here hx rfl (D_ d48_4) rfl rfl ?_
    refine st102 _ ?_
    refine XS.dup X102.here hx rfl (D_ d48_8) rfl rfl ?_
    refine st104.trans ?_
    refine st111 _ ?_
    exact kt
  have F113 : Exa Z h111 b102 "java/lang/StringBuilder" := ((A102.keep K104).keep K111)
  have ne114 : b102 ≠ q := (Ne.symm (Nat.ne_of_lt (Nat.lt_of_lt_of_le Eq.lt (Nat.le_of_eq g102.symm))))
  have F115 : Fld Z h111 b102 "java/lang/AbstractStringBuilder" "value" "[B" (.ref t_105) := (P104_1.keep K111 (ninS ne114 nin0))
  have F116 : Fld Z h111 b102 "java/lang/AbstractStringBuilder" "coder" "B" (.int (0 : Int32)) := (P104_2.keep K111 (ninS ne114 nin0))
  have F117 : Fld Z h111 b102 "java/lang/AbstractStringBuilder" "count" "I" (.int (Int32.ofNat ([] : List Int32).length)) := (J108.keep K111 (ninS ne114 nin0))
  have ne118 : t_105 ≠ q := (Ne.symm (Nat.ne_of_lt (Nat.lt_of_lt_of_le (Nat.lt_of_lt_of_le Eq.lt K102.1) P104_0)))
  have F119 : Arv Z h111 t_105 kb_106 .byte (Int32.ofNat 16) (l1 ([] : List Int32)) (.int (0 : Int32)) := (J107.keep K111 (ninS ne118 nin0))
  have F120 : Exa Z h111 t_105 "[B" := (P104_5.keep K111)
  obtain ⟨fs, hr, hrun, hended, hW, hsame⟩ := X111.leave (v := none) (fun _ => rfl)
  refine ⟨_, _, W112 _ (X111.returnOut hx Bd.returns (D_ d48_15) hr), hrun, hended, _, _, rfl, ?_, ⟨_, rfl⟩, hW, hsame.mono (by decide) (by decide)⟩
  show Q_qsinit Z q cS h0 n0 _ T111.heap _
  rw [e111]
  exact ⟨b102, t_105, kb_106, rfl, N111, (Keep.trans (Keep.trans (Keep.trans (Keep.refl h0 [q]) K102 all0) K104 (allS (Or.inr (Nat.le_of_eq g102.symm)) all0)) K111 (allS (Or.inl (List.mem_of_getElem? (i := 0) rfl)) all0)), (Nat.le_of_eq g102.symm), (Nat.le_trans K102.1 P104_0), G111, F113, F115, F116, F117, F119, F120⟩
def Q_qsEmpty (Z : State) (q : Addr) (a : Addr) (w : Int32) (h0 : Heap) (n0 : Nat) (vQ_ : Option Value) (hQ_ : Heap) (LQ_ : List Loc) : Prop := vQ_ = some (.int (if w = (0 : Int32) then (1 : Int32) else (0 : Int32))) ∧ Fr n0 LQ_ ∧ hQ_ = h0
theorem rm_qsEmpty (l : Launch) (Z : State) (a0 : Array Value) (hw : HW a0 Z) (ws : List Jvm.Cond) (q : Addr) (a : Addr) (w : Int32) (h0 : Heap) (n0 : Nat) (Z0 : n0 ≤ h0.size) (Fq : Fld Z h0 q "com/example/patents_via_api/patentsviaapi/http/QueryString" "query" "Ljava/lang/StringBuilder;" (.ref a)) (E1 : Exa Z h0 a "java/lang/StringBuilder") (F3 : Fld Z h0 a "java/lang/AbstractStringBuilder" "count" "I" (.int w)) :
    CT l yn49 (Jvm.Cond.code yn49 prog_16_method_4_code 1 (some .boolean) :: ws) (⟨2, 0, 0, 24⟩ : Room) #[(.ref q)] Z h0 (Q_qsEmpty Z q a w h0 n0) := by
  refine MetFree.of_bodySF (plainFor_of_name pn_com_example_patents_via_api_patentsviaapi_http_QueryString) hisR ?_
  intro p e s m args below meth cO s₁ Bd hml hP hK
  obtain ⟨rfl, hZ, hh⟩ := hP
  have hx := Bd.exec
  have hby := Bd.bytes
  have hown : s.vm.findClass "com/example/patents_via_api/patentsviaapi/http/QueryString" = some m.cls := findClass_of_methodNamed Bd.named
  have hnm := (name_of_methodNamed Bd.named Bd.method).1
  have X0 : Stand p l e (⟨2, 0, 0, 24⟩ : Room) s m #[(.ref q)] below meth cO s₁ [] 0 0 := Stand.of_body Bd
  have e0 : s₁.heap = h0 := by rw [← hh, Bd.state]; rfl
  have N0 := Fr.nil n0
  have D_ : ∀ {i : Nat} {x}, decode prog_16_method_4_code i = x → decode cO.code i = x := fun h => hb hby h
  have W0 : ∀ zQ, SS p e below s₁ m 0 #[.val (.ref q)] [] zQ → Steps p.tables e below (s₁.setTop (entryFrame m #[(.ref q)] 1)) zQ := fun tt kt => castTop (ef_qsEmpty m q) kt
  obtain ⟨T101, X101, e101, st101⟩ := getF X0 hx hZ hown (host := "") (Or.inl (w29 hw)) Via.refl e0 Fq (g := (mkF m 1 #[.val (.ref q)] [(.ref q)])) rfl rfl (D_ d49_1)
  obtain ⟨cq102, kq102, q102a, q102b, q102c⟩ := isOf hZ e101 E1
  obtain ⟨_, _, ⟨T102, L102, k102, n102⟩, -, X102, ⟨Lc102, hQ102, l102, y102, z102⟩, st102⟩ := X101.virtualBack hx (y := yn26) (z := yn26) hown (mvT hZ (w36 hw)) (mvT hZ (w37 hw)) (notFace_of_selects (args := #[]) (mvT hZ (w39 hw))) (mvT hZ (w39 hw)) (mvT hZ (w38 hw)) (by decide) (backOf (W := 0) (rm_sbLength l Z a0 hw [] a w h0 n0 Z0 E1 F3) hZ (w40 hw) (w11 hw) (by decide) (by decide)) q102a q102c (g := (mkF m 4 #[.val (.ref q)] [(.ref a)])) rfl (by rw [hml]; rfl) (Steps.refl _) (argsL := []) (rest := []) (lenOf pd13 rfl) rfl (wq rfl) (D_ d49_4) (fun _ _ => ⟨rfl, e101, (nb rfl), (nb rfl)⟩)
  dsimp only [Pt.U, Pt.locs, Pt.cells, Pt.slots] at X102 l102 y102 z102 st102 hQ102
  subst l102 y102 z102
  obtain ⟨rfl, Nq102, eq102⟩ := hQ102
  have N102 := Fr.app N0 Nq102
  have W103 : ∀ zQ, SS p e below T102 m 7 #[.val (.ref q)] [(.int w)] zQ → Steps p.tables e below (s₁.setTop (entryFrame m #[(.ref q)] 1)) zQ := by
    intro tt kt
    refine W0 tt ?_
    refine XS.aloadN X0.here hx rfl (D_ d49_0) rfl rfl ?_
    refine st101 _ ?_
    refine st102.trans ?_
    exact kt
  have W105 : ∀ zQ, SS p e below T102 m 15 #[.val (.ref q)] [(.int (if w = (0 : Int32) then (1 : Int32) else (0 : Int32)))] zQ → Steps p.tables e below (s₁.setTop (entryFrame m #[(.ref q)] 1)) zQ := by
    intro tt kt
    refine W103 tt ?_
    by_cases hj104 : w = (0 : Int32)
    ·
      refine XS.ifNo X102.here hx rfl (D_ d49_7) rfl ((if0 _ _).trans (teq hj104).2) ?_
      refine XS.iconst X102.here hx rfl (D_ d49_10) ?_
      refine XS.goto X102.here hx rfl (pc0 := 11) (pc' := 15) rfl (D_ d49_11) (by decide) (by decide) ?_
      exact castTop (by first | rfl | (simp only [if_pos hj104]; first | done | rfl)) kt
    ·
      refine XS.ifYes X102.here hx rfl (pc0 := 7) (pc' := 14) rfl (D_ d49_7) rfl ((if0 _ _).trans (feq hj104).2) (by decide) (by decide) ?_
      refine XS.iconst X102.here hx rfl (D_ d49_14) ?_
      exact castTop (by first | rfl | (simp only [if_neg hj104]; first | done | rfl)) kt
  obtain ⟨fs, hr, hrun, hended, hW, hsame⟩ := X102.leave (v := some (.int (nar .boolean (if w = (0 : Int32) then (1 : Int32) else (0 : Int32))))) (fun h => by rw [Bd.returns] at h; cases h)
  refine ⟨_, _, W105 _ (retN X102 hx (t := .boolean) Bd.returns (by simp) (D_ d49_15) hr), hrun, hended, _, _, rfl, ?_, ⟨_, rfl⟩, hW, hsame.mono (by decide) (by decide)⟩
  show Q_qsEmpty Z q a w h0 n0 _ T102.heap _
  rw [eq102]
  exact ⟨(congrArg (fun q => some (Value.int q)) own_bool), N102, rfl⟩
def Q_qsStr (Z : State) (q : Addr) (o : Addr) (t : Addr) (kb : ClassId) (N : Nat) (cs : List Int32) (cS : Int32) (h0 : Heap) (n0 : Nat) (vQ_ : Option Value) (hQ_ : Heap) (LQ_ : List Loc) : Prop := ∃ r : Addr, ∃ t2 : Addr, ∃ kb2 : ClassId, vQ_ = some (.ref r) ∧ Fr n0 LQ_ ∧ Keep h0 hQ_ [] ∧ h0.size ≤ r ∧ h0.size ≤ t2 ∧ Str Z hQ_ r t2 kb2 cs
theorem rm_qsStr (l : Launch) (Z : State) (a0 : Array Value) (hw : HW a0 Z) (ws : List Jvm.Cond) (q : Addr) (o : Addr) (t : Addr) (kb : ClassId) (N : Nat) (cs : List Int32) (cS : Int32) (h0 : Heap) (n0 : Nat) (Z0 : n0 ≤ h0.size) (O0 : Old Z n0 h0) (S_cs : Sta Z Z.heap "java/lang/String" "COMPACT_STRINGS" "Z" (.int cS)) (hcS : ¬ (cS = (0 : Int32))) (Fq : Fld Z h0 q "com/example/patents_via_api/patentsviaapi/http/QueryString" "query" "Ljava/lang/StringBuilder;" (.ref o)) (E1 : Exa Z h0 o "java/lang/StringBuilder") (F1 : Fld Z h0 o "java/lang/AbstractStringBuilder" "value" "[B" (.ref t)) (F2 : Fld Z h0 o "java/lang/AbstractStringBuilder" "coder" "B" (.int (0 : Int32))) (F3 : Fld Z h0 o "java/lang/AbstractStringBuilder" "count" "I" (.int (Int32.ofNat cs.length))) (V1 : Arv Z h0 t kb .byte (Int32.ofNat N) (l1 cs) (.int (0 : Int32))) (E2 : Exa Z h0 t "[B") (hle : cs.length ≤ N) (hN : N ≤ 84) (hl : lat cs = true) (ok : OkS cs) :
    CT l yn50 (Jvm.Cond.code yn50 prog_16_method_5_code 1 (some (.object "java/lang/String")) :: ws) (⟨6, 2, 88, 137⟩ : Room) #[(.ref q)] Z h0 (Q_qsStr Z q o t kb N cs cS h0 n0) := by
  refine MetFree.of_bodySF (plainFor_of_name pn_com_example_patents_via_api_patentsviaapi_http_QueryString) hisR ?_
  intro p e s m args below meth cO s₁ Bd hml hP hK
  obtain ⟨rfl, hZ, hh⟩ := hP
  have hx := Bd.exec
  have hby := Bd.bytes
  have hown : s.vm.findClass "com/example/patents_via_api/patentsviaapi/http/QueryString" = some m.cls := findClass_of_methodNamed Bd.named
  have hnm := (name_of_methodNamed Bd.named Bd.method).1
  have X0 : Stand p l e (⟨6, 2, 88, 137⟩ : Room) s m #[(.ref q)] below meth cO s₁ [] 0 0 := Stand.of_body Bd
  have e0 : s₁.heap = h0 := by rw [← hh, Bd.state]; rfl
  have N0 := Fr.nil n0
  have D_ : ∀ {i : Nat} {x}, decode prog_16_method_5_code i = x → decode cO.code i = x := fun h => hb hby h
  have W0 : ∀ zQ, SS p e below s₁ m 0 #[.val (.ref q)] [] zQ → Steps p.tables e below (s₁.setTop (entryFrame m #[(.ref q)] 1)) zQ := fun tt kt => castTop (ef_qsStr m q) kt
  obtain ⟨T101, X101, e101, st101⟩ := getF X0 hx hZ hown (host := "") (Or.inl (w29 hw)) Via.refl e0 Fq (g := (mkF m 1 #[.val (.ref q)] [(.ref q)])) rfl rfl (D_ d50_1)
  obtain ⟨cq102, kq102, q102a, q102b, q102c⟩ := isOf hZ e101 E1
  obtain ⟨_, _, ⟨T102, L102, k102, n102⟩, -, X102, ⟨Lc102, hQ102, l102, y102, z102⟩, st102⟩ := X101.virtualBack hx (y := yn29) (z := yn29) hown (mvT hZ (w53 hw)) (mvT hZ (w54 hw)) (notFace_of_selects (args := #[]) (mvT hZ (w56 hw))) (mvT hZ (w56 hw)) (mvT hZ (w55 hw)) (by decide) (backOf (W := 0) (rm_sbToString l Z a0 hw [] o t kb N cs cS h0 n0 Z0 O0 S_cs hcS E1 F1 F2 F3 V1 E2 hle hN hl ok) hZ (w57 hw) (w11 hw) (by decide) (by decide)) q102a q102c (g := (mkF m 4 #[.val (.ref q)] [(.ref o)])) rfl (by rw [hml]; rfl) (Steps.refl _) (argsL := []) (rest := []) (lenOf pd30 rfl) rfl (wq rfl) (D_ d50_4) (fun _ _ => ⟨rfl, e101, (nb rfl), (nb rfl)⟩)
  dsimp only [Pt.U, Pt.locs, Pt.cells, Pt.slots] at X102 l102 y102 z102 st102 hQ102
  subst l102 y102 z102
  obtain ⟨r_103, t2_104, kb2_105, rfl, Nq102, K102, P102_0, P102_1, P102_2⟩ := hQ102
  have N102 := Fr.app N0 Nq102
  have W106 : ∀ zQ, SS p e below T102 m 7 #[.val (.ref q)] [(.ref r_103)] zQ → Steps p.tables e below (s₁.setTop (entryFrame m #[(.ref q)] 1)) zQ := by
    intro tt kt
    refine W0 tt ?_
    refine XS.aloadN X0.here hx rfl (D_ d50_0) rfl rfl ?_
    refine st101 _ ?_
    refine st102.trans ?_
    exact kt
  obtain ⟨fs, hr, hrun, hended, hW, hsame⟩ := X102.leave (v := some (.ref r_103)) (fun h => by rw [Bd.returns] at h; cases h)
  refine ⟨_, _, W106 _ (own_retR X102 hx Bd.returns rfl rfl (D_ d50_7) hr), hrun, hended, _, _, rfl, ?_, ⟨_, rfl⟩, hW, hsame.mono (by decide) (by decide)⟩
  show Q_qsStr Z q o t kb N cs cS h0 n0 _ T102.heap _
  exact ⟨r_103, t2_104, kb2_105, rfl, N102, (Keep.trans (Keep.refl h0 []) K102 all0), P102_0, P102_1, P102_2⟩
def Q_sEmpty (Z : State) (a : Addr) (t : Addr) (kb : ClassId) (cs : List Int32) (h0 : Heap) (n0 : Nat) (vQ_ : Option Value) (hQ_ : Heap) (LQ_ : List Loc) : Prop := vQ_ = some (.int (if (Int32.ofNat (blen cs)) = (0 : Int32) then (1 : Int32) else (0 : Int32))) ∧ Fr n0 LQ_ ∧ hQ_ = h0
theorem rm_sEmpty (l : Launch) (Z : State) (a0 : Array Value) (hw : HW a0 Z) (ws : List Jvm.Cond) (a : Addr) (t : Addr) (kb : ClassId) (cs : List Int32) (h0 : Heap) (n0 : Nat) (Z0 : n0 ≤ h0.size) (hS : Str Z h0 a t kb cs) :
    CT l yn51 (Jvm.Cond.code yn51 jdk_42_method_55_code 1 (some .boolean) :: ws) (⟨0, 0, 0, 0⟩ : Room) #[(.ref a)] Z h0 (Q_sEmpty Z a t kb cs h0 n0) := by
  refine MetFree.of_bodySF (plainFor_of_name pn_java_lang_String) hisR ?_
  intro p e s m args below meth cO s₁ Bd hml hP hK
  obtain ⟨rfl, hZ, hh⟩ := hP
  have hx := Bd.exec
  have hby := Bd.bytes
  have hown : s.vm.findClass "java/lang/String" = some m.cls := findClass_of_methodNamed Bd.named
  have hnm := (name_of_methodNamed Bd.named Bd.method).1
  have X0 : Stand p l e (⟨0, 0, 0, 0⟩ : Room) s m #[(.ref a)] below meth cO s₁ [] 0 0 := Stand.of_body Bd
  have e0 : s₁.heap = h0 := by rw [← hh, Bd.state]; rfl
  have N0 := Fr.nil n0
  have D_ : ∀ {i : Nat} {x}, decode jdk_42_method_55_code i = x → decode cO.code i = x := fun h => hb hby h
  have W0 : ∀ zQ, SS p e below s₁ m 0 #[.val (.ref a)] [] zQ → Steps p.tables e below (s₁.setTop (entryFrame m #[(.ref a)] 1)) zQ := fun tt kt => castTop (ef_sEmpty m a) kt
  obtain ⟨hE, hV, hC, hA, ok⟩ := (id hS)
  obtain ⟨T101, X101, e101, st101⟩ := getF X0 hx hZ hown (host := "") (Or.inl (w100 hw)) Via.refl e0 hV (g := (mkF m 1 #[.val (.ref a)] [(.ref a)])) rfl rfl (D_ d51_1)
  obtain ⟨cl102, Ar102, -, S102, M102, -, -⟩ := id hA
  have W103 : ∀ zQ, SS p e below T101 m 5 #[.val (.ref a)] [(.int (Int32.ofNat (blen cs)))] zQ → Steps p.tables e below (s₁.setTop (entryFrame m #[(.ref a)] 1)) zQ := by
    intro tt kt
    refine W0 tt ?_
    refine XS.aloadN X0.here hx rfl (D_ d51_0) rfl rfl ?_
    refine st101 _ ?_
    refine X101.arraylength hx (by first | exact Ar102.1 | (rw [e101]; exact Ar102.1)) (State.isArrayOf_alike hZ.alike Ar102.2.1) (g := (mkF m 4 #[.val (.ref a)] [(.ref t)])) rfl rfl (D_ d51_4) _ ?_
    rw [len_of S102 M102]
    exact kt
  have W105 : ∀ zQ, SS p e below T101 m 13 #[.val (.ref a)] [(.int (if (Int32.ofNat (blen cs)) = (0 : Int32) then (1 : Int32) else (0 : Int32)))] zQ → Steps p.tables e below (s₁.setTop (entryFrame m #[(.ref a)] 1)) zQ := by
    intro tt kt
    refine W103 tt ?_
    by_cases hj104 : (Int32.ofNat (blen cs)) = (0 : Int32)
    ·
      refine XS.ifNo X101.here hx rfl (D_ d51_5) rfl ((if0 _ _).trans (teq hj104).2) ?_
      refine XS.iconst X101.here hx rfl (D_ d51_8) ?_
      refine XS.goto X101.here hx rfl (pc0 := 9) (pc' := 13) rfl (D_ d51_9) (by decide) (by decide) ?_
      exact castTop (by first | rfl | (simp only [if_pos hj104]; first | done | rfl)) kt
    ·
      refine XS.ifYes X101.here hx rfl (pc0 := 5) (pc' := 12) rfl (D_ d51_5) rfl ((if0 _ _).trans (feq hj104).2) (by decide) (by decide) ?_
      refine XS.iconst X101.here hx rfl (D_ d51_12) ?_
      exact castTop (by first | rfl | (simp only [if_neg hj104]; first | done | rfl)) kt
  obtain ⟨fs, hr, hrun, hended, hW, hsame⟩ := X101.leave (v := some (.int (nar .boolean (if (Int32.ofNat (blen cs)) = (0 : Int32) then (1 : Int32) else (0 : Int32))))) (fun h => by rw [Bd.returns] at h; cases h)
  refine ⟨_, _, W105 _ (retN X101 hx (t := .boolean) Bd.returns (by simp) (D_ d51_13) hr), hrun, hended, _, _, rfl, ?_, ⟨_, rfl⟩, hW, hsame.mono (by decide) (by decide)⟩
  show Q_sEmpty Z a t kb cs h0 n0 _ T101.heap _
  rw [e101]
  exact ⟨(congrArg (fun q => some (Value.int q)) own_bool), N0, rfl⟩
theorem rm_amp {p : Program} {l : Launch} {e : Env} {R : Room} {s : State} {m : MethodId} {args : Array Value} {below : List Frame} {meth : Method} {cO : Code} {cells slots : Nat} {Z : State} {a0 : Array Value} (hx : p.tables.exec = Jvm.exec) (hZ : Z.Warmed39 s.vm) (hw : HW a0 Z) (hby : cO.code = prog_16_method_6_code) (hml : cO.maxLocals = 4) (hown : s.vm.findClass "com/example/patents_via_api/patentsviaapi/http/QueryString" = some m.cls) (hRf : 6 ≤ R.frames) (hRl : 119 ≤ R.locals) (hRc : cells + 1 ≤ R.cells) (hRs : slots + 84 ≤ R.slots) (q : Addr) (o : Addr) (o2 : Addr) (fl : Int32) (a : Addr) (t : Addr) (kb : ClassId) (N : Nat) (qs : List Int32) (nq : Nat) (cS : Int32) (n0 : Nat) (S_cs : Sta Z Z.heap "java/lang/String" "COMPACT_STRINGS" "Z" (.int cS)) (hcS : ¬ (cS = (0 : Int32))) (T0 : State) (L0 : List Loc) (h0 : Heap) (X0 : Stand p l e R s m args below meth cO T0 L0 cells slots) (e0 : T0.heap = h0) (N0 : Fr n0 L0) (Z0 : n0 ≤ h0.size) (O0 : Old Z n0 h0) (Eq : Exa Z h0 q "com/example/patents_via_api/patentsviaapi/http/QueryString") (Fq : Fld Z h0 q "com/example/patents_via_api/patentsviaapi/http/QueryString" "query" "Ljava/lang/StringBuilder;" (.ref a)) (E1 : Exa Z h0 a "java/lang/StringBuilder") (F1 : Fld Z h0 a "java/lang/AbstractStringBuilder" "value" "[B" (.ref t)) (F2 : Fld Z h0 a "java/lang/AbstractStringBuilder" "coder" "B" (.int (0 : Int32))) (F3 : Fld Z h0 a "java/lang/AbstractStringBuilder" "count" "I" (.int (Int32.ofNat qs.length))) (V1 : Arv Z h0 t kb .byte (Int32.ofNat N) (l1 qs) (.int (0 : Int32))) (E2 : Exa Z h0 t "[B") (hlq : lat qs = true) (okq : OkS qs) (hq : qs.length ≤ nq) (hnq : nq ≤ 28) (hqN : qs.length ≤ N) (h16 : 16 ≤ N) (hN : N ≤ 84) (g1 : n0 ≤ a) (g2 : n0 ≤ t) :
    ∃ (T' : State) (L' : List Loc) (h' : Heap), Stand p l e R s m args below meth cO T' L' (cells + 1) (slots + 84) ∧ T'.heap = h' ∧ ∃ t2 : Addr, ∃ kb2 : ClassId, ∃ N2 : Nat, ∃ qs2 : List Int32, Fr n0 L' ∧ Keep h0 h' [a, t] ∧ Fld Z h' a "java/lang/AbstractStringBuilder" "value" "[B" (.ref t2) ∧ Fld Z h' a "java/lang/AbstractStringBuilder" "coder" "B" (.int (0 : Int32)) ∧ Fld Z h' a "java/lang/AbstractStringBuilder" "count" "I" (.int (Int32.ofNat qs2.length)) ∧ Arv Z h' t2 kb2 .byte (Int32.ofNat N2) (l1 qs2) (.int (0 : Int32)) ∧ Exa Z h' t2 "[B" ∧ qs2.length ≤ (nq + 1) ∧ qs2.length ≤ N2 ∧ N ≤ N2 ∧ N2 ≤ 84 ∧ lat qs2 = true ∧ OkS qs2 ∧ n0 ≤ t2 ∧ (t2 = t ∨ h0.size ≤ t2) ∧ ∀ zQ, SS p e below T' m 20 #[.val (.ref q), .val (.ref o), .val (.ref o2), .val (.int fl)] [] zQ → SS p e below T0 m 0 #[.val (.ref q), .val (.ref o), .val (.ref o2), .val (.int fl)] [] zQ := by
  have D_ : ∀ {i : Nat} {x}, decode prog_16_method_6_code i = x → decode cO.code i = x := fun h => hb hby h
  have W0 : ∀ zQ, SS p e below T0 m 0 #[.val (.ref q), .val (.ref o), .val (.ref o2), .val (.int fl)] [] zQ → Steps p.tables e below (T0.setTop (mkF m 0 #[.val (.ref q), .val (.ref o), .val (.ref o2), .val (.int fl)] [])) zQ := fun tt kt => kt
  obtain ⟨T101, X101, e101, st101⟩ := getF X0 hx hZ hown (host := "") (Or.inl (w29 hw)) Via.refl e0 Fq (g := (mkF m 1 #[.val (.ref q), .val (.ref o), .val (.ref o2), .val (.int fl)] [(.ref q)])) rfl rfl (D_ d52_1)
  obtain ⟨cq102, kq102, q102a, q102b, q102c⟩ := isOf hZ e101 E1
  obtain ⟨_, _, ⟨T102, L102, k102, n102⟩, -, X102, ⟨Lc102, hQ102, l102, y102, z102⟩, st102⟩ := X101.virtualBack hx (y := yn26) (z := yn26) hown (mvT hZ (w36 hw)) (mvT hZ (w37 hw)) (notFace_of_selects (args := #[]) (mvT hZ (w39 hw))) (mvT hZ (w39 hw)) (mvT hZ (w38 hw)) (by decide) (backOf (W := 0) (rm_sbLength l Z a0 hw [] a (Int32.ofNat qs.length) h0 n0 Z0 E1 F3) hZ (w40 hw) (w11 hw) (Nat.le_trans (by decide) hRf) (Nat.le_trans (by decide) hRl)) q102a q102c (g := (mkF m 4 #[.val (.ref q), .val (.ref o), .val (.ref o2), .val (.int fl)] [(.ref a)])) rfl (by rw [hml]; rfl) (Steps.refl _) (argsL := []) (rest := []) (lenOf pd13 rfl) rfl (wq rfl) (D_ d52_4) (fun _ _ => ⟨rfl, e101, (by first | omega | (dsimp only [Pt.cells, Pt.slots]; omega)), (by first | omega | (dsimp only [Pt.cells, Pt.slots]; omega))⟩)
  dsimp only [Pt.U, Pt.locs, Pt.cells, Pt.slots] at X102 l102 y102 z102 st102 hQ102
  subst l102 y102 z102
  obtain ⟨rfl, Nq102, eq102⟩ := hQ102
  have N102 := Fr.app N0 Nq102
  have W103 : ∀ zQ, SS p e below T102 m 7 #[.val (.ref q), .val (.ref o), .val (.ref o2), .val (.int fl)] [(.int (Int32.ofNat qs.length))] zQ → Steps p.tables e below (T0.setTop (mkF m 0 #[.val (.ref q), .val (.ref o), .val (.ref o2), .val (.int fl)] [])) zQ := by
    intro tt kt
    refine W0 tt ?_
    refine XS.aloadN X0.here hx rfl (D_ d52_0) rfl rfl ?_
    refine st101 _ ?_
    refine st102.trans ?_
    exact kt
  by_cases hc104 : (0 : Int32) < (Int32.ofNat qs.length)
  ·
    obtain ⟨T105, X105, e105, st105⟩ := getF X102 hx hZ hown (host := "") (Or.inl (w29 hw)) Via.refl eq102 Fq (g := (mkF m 11 #[.val (.ref q), .val (.ref o), .val (.ref o2), .val (.int fl)] [(.ref q)])) rfl rfl (D_ d52_11)
    obtain ⟨cq106, kq106, q106a, q106b, q106c⟩ := isOf hZ e105 E1
    obtain ⟨_, _, ⟨T106, L106, k106, n106⟩, -, X106, ⟨Lc106, hQ106, l106, y106, z106⟩, st106⟩ := X105.virtualBack hx (y := yn16) (z := yn16) hown (mvT hZ (w279 hw)) (mvT hZ (w219 hw)) (notFace_of_selects (args := #[]) (mvT hZ (w221 hw))) (mvT hZ (w221 hw)) (mvT hZ (w220 hw)) (by decide) (backOf (W := 0) (rm_sbAppC42 l Z a0 hw [] a (38 : Int32) t kb N qs cS h0 n0 Z0 O0 S_cs hcS E1 F1 F2 F3 V1 E2 (by first | decide | omega | (simp only [List.length_append, List.length_singleton, List.length_cons, List.length_nil]; omega) : ¬ ((255 : Int32) < (38 : Int32))) (by first | decide | omega | (simp only [List.length_append, List.length_singleton, List.length_cons, List.length_nil]; omega) : qs.length < 42) hqN hN g1 g2) hZ (w222 hw) (w11 hw) (Nat.le_trans (by decide) hRf) (Nat.le_trans (by decide) hRl)) q106a q106c (g := (mkF m 16 #[.val (.ref q), .val (.ref o), .val (.ref o2), .val (.int fl)] [(.int (38 : Int32)), (.ref a)])) rfl (by rw [hml]; rfl) (Steps.refl _) (argsL := [(.int (38 : Int32))]) (rest := []) (lenOf pd28 rfl) rfl (wq rfl) (D_ d52_16) (fun _ _ => ⟨rfl, e105, (by first | omega | (dsimp only [Pt.cells, Pt.slots]; omega)), (by first | omega | (dsimp only [Pt.cells, Pt.slots]; omega))⟩)
    dsimp only [Pt.U, Pt.locs, Pt.cells, Pt.slots] at X106 l106 y106 z106 st106 hQ106
    subst l106 y106 z106
    obtain ⟨t2_107, kb2_108, N2_109, rfl, Nq106, K106, P106_0, P106_1, P106_2, P106_3, P106_4, P106_5, P106_6, P106_7, P106_8, P106_9⟩ := hQ106
    have N106 := Fr.app N102 Nq106
    have W110 : ∀ zQ, SS p e below T106 m 20 #[.val (.ref q), .val (.ref o), .val (.ref o2), .val (.int fl)] [] zQ → Steps p.tables e below (T0.setTop (mkF m 0 #[.val (.ref q), .val (.ref o), .val (.ref o2), .val (.int fl)] [])) zQ := by
      intro tt kt
      refine W103 tt ?_
      refine XS.ifNo X102.here hx rfl (D_ d52_7) rfl ((if0 _ _).trans (tlt hc104).2.2.2) ?_
      refine XS.aloadN X102.here hx rfl (D_ d52_10) rfl rfl ?_
      refine st105 _ ?_
      refine XS.bipush X105.here hx rfl (D_ d52_14) ?_
      refine st106.trans ?_
      refine XS.pop X106.here hx rfl (D_ d52_19) rfl rfl ?_
      exact kt
    exact ⟨T106, _, T106.heap, (X106.more (by first | omega | (dsimp only [Pt.cells, Pt.slots]; omega)) (by first | omega | (dsimp only [Pt.cells, Pt.slots]; omega))), rfl, t2_107, kb2_108, N2_109, (qs ++ [(38 : Int32)]), N106, (Keep.trans (Keep.refl h0 [a, t]) K106 (allS (Or.inl (List.mem_of_getElem? (i := 0) rfl)) (allS (Or.inl (List.mem_of_getElem? (i := 1) rfl)) all0))), P106_0, P106_1, P106_2, P106_3, P106_4, (by first | decide | omega | (simp only [List.length_append, List.length_singleton, List.length_cons, List.length_nil]; omega) : (qs ++ [(38 : Int32)]).length ≤ (nq + 1)), P106_5, P106_7, P106_6, (lat_snoc hlq (by decide)), (own_okapp okq (own_ok1 (by decide) (by decide)) (by first | omega | (simp only [List.length_append, List.length_singleton]; omega))), P106_8, (own_altr P106_9 (Or.inl rfl) (Nat.le_refl _)), fun tt kt => W110 _ kt⟩
  ·
    have W111 : ∀ zQ, SS p e below T102 m 20 #[.val (.ref q), .val (.ref o), .val (.ref o2), .val (.int fl)] [] zQ → Steps p.tables e below (T0.setTop (mkF m 0 #[.val (.ref q), .val (.ref o), .val (.ref o2), .val (.int fl)] [])) zQ := by
      intro tt kt
      refine W103 tt ?_
      refine XS.ifYes X102.here hx rfl (pc0 := 7) (pc' := 20) rfl (D_ d52_7) rfl ((if0 _ _).trans (flt hc104).2.2.2) (by decide) (by decide) ?_
      exact kt
    exact ⟨T102, _, h0, (X102.more (by first | omega | (dsimp only [Pt.cells, Pt.slots]; omega)) (by first | omega | (dsimp only [Pt.cells, Pt.slots]; omega))), eq102, t, kb, N, qs, N102, (Keep.refl h0 [a, t]), F1, F2, F3, V1, E2, (by first | decide | omega | (simp only [List.length_append, List.length_singleton, List.length_cons, List.length_nil]; omega) : qs.length ≤ (nq + 1)), hqN, (by first | decide | omega | (simp only [List.length_append, List.length_singleton, List.length_cons, List.length_nil]; omega) : N ≤ N), hN, hlq, okq, g2, (Or.inl rfl), fun tt kt => W111 _ kt⟩
def Q_qsApp0 (Z : State) (q : Addr) (o : Addr) (o2 : Addr) (a : Addr) (t : Addr) (kb : ClassId) (N : Nat) (qs : List Int32) (nq : Nat) (u : Addr) (ku : ClassId) (cs : List Int32) (u2 : Addr) (k2 : ClassId) (ds : List Int32) (cS : Int32) (u8 : Addr) (hd : Addr) (kh : ClassId) (h0 : Heap) (n0 : Nat) (vQ_ : Option Value) (hQ_ : Heap) (LQ_ : List Loc) : Prop := ∃ t2 : Addr, ∃ kb2 : ClassId, ∃ N2 : Nat, ∃ qs2 : List Int32, vQ_ = some (.ref q) ∧ Fr n0 LQ_ ∧ Keep h0 hQ_ [a, t] ∧ Fld Z hQ_ a "java/lang/AbstractStringBuilder" "value" "[B" (.ref t2) ∧ Fld Z hQ_ a "java/lang/AbstractStringBuilder" "coder" "B" (.int (0 : Int32)) ∧ Fld Z hQ_ a "java/lang/AbstractStringBuilder" "count" "I" (.int (Int32.ofNat qs2.length)) ∧ Arv Z hQ_ t2 kb2 .byte (Int32.ofNat N2) (l1 qs2) (.int (0 : Int32)) ∧ Exa Z hQ_ t2 "[B" ∧ lat qs2 = true ∧ OkS qs2 ∧ qs2.length ≤ (nq + 14) ∧ 0 < qs2.length ∧ qs2.length ≤ N2 ∧ 16 ≤ N2 ∧ N2 ≤ 84 ∧ n0 ≤ t2 ∧ (t2 = t ∨ h0.size ≤ t2)
theorem rm_qsApp0 (l : Launch) (Z : State) (a0 : Array Value) (hw : HW a0 Z) (ws : List Jvm.Cond) (q : Addr) (o : Addr) (o2 : Addr) (a : Addr) (t : Addr) (kb : ClassId) (N : Nat) (qs : List Int32) (nq : Nat) (u : Addr) (ku : ClassId) (cs : List Int32) (u2 : Addr) (k2 : ClassId) (ds : List Int32) (cS : Int32) (u8 : Addr) (hd : Addr) (kh : ClassId) (h0 : Heap) (n0 : Nat) (Z0 : n0 ≤ h0.size) (O0 : Old Z n0 h0) (S_cs : Sta Z Z.heap "java/lang/String" "COMPACT_STRINGS" "Z" (.int cS)) (hcS : ¬ (cS = (0 : Int32))) (S_ui : Sta Z Z.heap "sun/nio/cs/UTF_8" "INSTANCE" "Lsun/nio/cs/UTF_8;" (.ref u8)) (S_u8 : Sta Z Z.heap "java/nio/charset/StandardCharsets" "UTF_8" "Ljava/nio/charset/Charset;" (.ref u8)) (S_hx : Sta Z Z.heap "com/example/patents_via_api/patentsviaapi/http/PercentEncoding" "HEX_DIGITS" "[C" (.ref hd)) (V_hx : Arv Z Z.heap hd kh .char (16 : Int32) (hexL.map Value.int) (.int (0 : Int32))) (Eq : Exa Z h0 q "com/example/patents_via_api/patentsviaapi/http/QueryString") (Fq : Fld Z h0 q "com/example/patents_via_api/patentsviaapi/http/QueryString" "query" "Ljava/lang/StringBuilder;" (.ref a)) (E1 : Exa Z h0 a "java/lang/StringBuilder") (F1 : Fld Z h0 a "java/lang/AbstractStringBuilder" "value" "[B" (.ref t)) (F2 : Fld Z h0 a "java/lang/AbstractStringBuilder" "coder" "B" (.int (0 : Int32))) (F3 : Fld Z h0 a "java/lang/AbstractStringBuilder" "count" "I" (.int (Int32.ofNat qs.length))) (V1 : Arv Z h0 t kb .byte (Int32.ofNat N) (l1 qs) (.int (0 : Int32))) (E2 : Exa Z h0 t "[B") (hlq : lat qs = true) (okq : OkS qs) (hq : qs.length ≤ nq) (hnq : nq ≤ 28) (hqN : qs.length ≤ N) (h16 : 16 ≤ N) (hN : N ≤ 84) (g1 : n0 ≤ a) (g2 : n0 ≤ t) (hS : Str Z h0 o u ku cs) (Eu : Exa Z h0 u "[B") (hl : lat cs = true) (hc1 : cs.length ≤ 1) (hS2 : Str Z h0 o2 u2 k2 ds) (Eu2 : Exa Z h0 u2 "[B") (hl2 : lat ds = true) (hd1 : ds.length ≤ 1) :
    MetFree l yn52 (head1 (Jvm.Cond.code yn52 prog_16_method_6_code 4 (some (.object "com/example/patents_via_api/patentsviaapi/http/QueryString")) :: ws) (⟨7, 30, 708, 157⟩ : Room)) (fun aQ_ UQ => aQ_ = #[(.ref q), (.ref o), (.ref o2), (.int (0 : Int32))] ∧ Z.Warmed39 UQ.vm ∧ UQ.heap = h0 ∧ CHv Z EL_1 UQ.vm h0) (fun _ _ _ _ _ => True) (fun _ UQ oQ UQ' => ∃ vQ_ LQ_, oQ = .returned vQ_ ∧ Q_qsApp0 Z q o o2 a t kb N qs nq u ku cs u2 k2 ds cS u8 hd kh h0 n0 vQ_ UQ'.heap LQ_ ∧ CHr Z EL_1 UQ.vm UQ.heap UQ'.vm UQ'.heap ∧ ReturnedEndW UQ oQ UQ' LQ_ (⟨7, 30, 708, 157⟩ : Room).cells (⟨7, 30, 708, 157⟩ : Room).slots) := by
  refine MetFree.of_bodySF (plainFor_of_name pn_com_example_patents_via_api_patentsviaapi_http_QueryString) hisR ?_
  intro p e s m args below meth cO s₁ Bd hml hP hK
  obtain ⟨rfl, hZ, hh, hH⟩ := hP
  have hx := Bd.exec
  have hby := Bd.bytes
  have hown : s.vm.findClass "com/example/patents_via_api/patentsviaapi/http/QueryString" = some m.cls := findClass_of_methodNamed Bd.named
  have hnm := (name_of_methodNamed Bd.named Bd.method).1
  have X0 : Stand p l e (⟨7, 30, 708, 157⟩ : Room) (s.setVm s.vm) m #[(.ref q), (.ref o), (.ref o2), (.int (0 : Int32))] below meth cO s₁ [] 0 0 := Stand.of_body Bd
  have e0 : s₁.heap = h0 := by rw [← hh, Bd.state]; rfl
  have N0 := Fr.nil n0
  have hZ0 : Z.Warmed39 (s.setVm s.vm).vm := hZ
  have hown0 : (s.setVm s.vm).vm.findClass "com/example/patents_via_api/patentsviaapi/http/QueryString" = some m.cls := hown
  have hS0 : s.Since s.vm 0 := (State.WarmedH.refl s).since 0
  have hk0 : 0 ≤ h0.size := Nat.zero_le _
  have hEL : EW Z a0 EL_1 := own_EW hw
  have R0 : CHr Z EL_1 s.vm h0 s.vm h0 := CHr.refl hH
  have D_ : ∀ {i : Nat} {x}, decode prog_16_method_6_code i = x → decode cO.code i = x := fun h => hb hby h
  have W0 : ∀ zQ, SS p e below s₁ m 0 #[.val (.ref q), .val (.ref o), .val (.ref o2), .val (.int (0 : Int32))] [] zQ → Steps p.tables e below (s₁.setTop (entryFrame m #[(.ref q), (.ref o), (.ref o2), (.int (0 : Int32))] 4)) zQ := fun tt kt => castTop (ef_qsApp0 m q o o2 (0 : Int32)) kt
  obtain ⟨n_hE, n_hV, n_hC, n_hA, okn⟩ := (id hS)
  have hA101 : Arv Z h0 u ku .byte (Int32.ofNat cs.length) (l1 cs) (.int (0 : Int32)) := by have q := enc_lat hl; rw [← q.1, ← q.2.1]; exact n_hA
  obtain ⟨v_hE, v_hV, v_hC, v_hA, okv⟩ := (id hS2)
  have hA102 : Arv Z h0 u2 k2 .byte (Int32.ofNat ds.length) (l1 ds) (.int (0 : Int32)) := by have q := enc_lat hl2; rw [← q.1, ← q.2.1]; exact v_hA
  have hut : u ≠ t := own_neA hA101 V1 (by omega) (by omega)
  have hvt : u2 ≠ t := own_neA hA102 V1 (by omega) (by omega)
  obtain ⟨T103, L103, h103, X103, e103, t2_104, kb2_105, N2_106, qs2_107, Nl103, K103, P103_0, P103_1, P103_2, P103_3, P103_4, P103_5, P103_6, P103_7, P103_8, P103_9, P103_10, P103_11, P103_12, st103⟩ := rm_amp hx hZ0 hw hby hml hown0 (by decide) (by decide) (by decide) (by decide) q o o2 (0 : Int32) a t kb N qs nq cS n0 S_cs hcS s₁ _ h0 X0 e0 N0 Z0 O0 Eq Fq E1 F1 F2 F3 V1 E2 hlq okq hq hnq hqN h16 hN g1 g2
  have Sf108 : Safe Z EL_1 s.vm h0 t := own_safeLen hZ0 (own_E16 hw) V1 (by rw [own_cl (by omega)]; omega)
  have R109 : CHr Z EL_1 s.vm h0 s.vm h103 := R0.trans (CHr.keep K103 (sfS (Safe.exa hZ0.alike E1 (by decide) (by decide)) (sfS Sf108 sf0)) R0.1)
  have F110 : Fld Z h103 q "com/example/patents_via_api/patentsviaapi/http/QueryString" "query" "Ljava/lang/StringBuilder;" (.ref a) := (Fq.keep K103 (ninS (Exa.ne Eq E1 (by decide)) (ninS (Exa.ne Eq E2 (by decide)) nin0)))
  obtain ⟨T111, X111, e111, st111⟩ := getF X103 hx hZ0 hown0 (host := "") (Or.inl (w29 hw)) Via.refl e103 F110 (g := (mkF m 21 #[.val (.ref q), .val (.ref o), .val (.ref o2), .val (.int (0 : Int32))] [(.ref q)])) rfl rfl (D_ d52_21)
  obtain ⟨b112, T112, h112, k112, c112, kb112, X112, e112, E112, hS112, hk112, hZ112, hown112, LE112, LC112, LV112, LA112, l1112, l2112, A112, -, sf112, st112⟩ := ldcCH X111 hx hZ0 hown0 (w138 hw) (own_wS hw) e111 hS0 (Nat.le_trans hk0 K103.1) hEL (by decide +kernel) R109.1 (vs := (l1 ([] : List Int32))) (z := (0 : Int32)) (by decide +kernel) (by decide) (by decide) (g := (mkF m 25 #[.val (.ref q), .val (.ref o), .val (.ref o2), .val (.int (0 : Int32))] [(.ref o), (.ref a)])) rfl (D_ d52_25) (n := 0) (by decide) (by decide) (by decide) (by decide)
  have K112 := (Keep.refl h103 []).ext E112
  have R113 : CHr Z EL_1 s.vm h0 T112.vm h112 := R109.trans A112
  have LS112 : Str Z h112 b112 c112 kb112 ([] : List Int32) := ⟨LE112, LV112, LC112, LA112, by decide, by decide⟩
  have LB112 : Exa Z h112 c112 "[B" := own_exaB hZ112.alike sf112 LA112
  have F114 : Exa Z h112 q "com/example/patents_via_api/patentsviaapi/http/QueryString" := ((Eq.keep K103).keep K112)
  have F115 : Exa Z h112 a "java/lang/StringBuilder" := ((E1.keep K103).keep K112)
  have Sf116 : Safe Z EL_1 T112.vm h112 t := (CHr.safe A112 (Nat.lt_of_lt_of_le V1.lt K103.1) (Safe.keep K103 (sfS (Safe.exa hZ0.alike E1 (by decide) (by decide)) (sfS Sf108 sf0)) R0.1 Sf108))
  have F118 : Arv Z h112 t2_104 kb2_105 .byte (Int32.ofNat N2_106) (l1 qs2_107) (.int (0 : Int32)) := (P103_3.keep K112 nin0)
  have Sf117 : Safe Z EL_1 T112.vm h112 t2_104 := own_safeLen hZ112 (own_E16 hw) F118 (by rw [own_cl (by omega)]; omega)
  have F119 : Str Z h112 o u ku cs := ((hS.keep K103 (ninS (Exa.ne n_hE E1 (by decide)) (ninS (Exa.ne n_hE E2 (by decide)) nin0)) (ninS (Exa.ne Eu E1 (by decide)) (ninS hut nin0))).keep K112 nin0 nin0)
  have F120 : Exa Z h112 u "[B" := ((Eu.keep K103).keep K112)
  have O121 : Old Z n0 h112 := ((O0.keep K103 (allS g1 (allS g2 all0))).keep K112 all0)
  have z123 : n0 ≤ h112.size := (Nat.le_trans Z0 (Nat.le_trans K103.1 K112.1))
  obtain ⟨_, _, ⟨T122, L122, k122, n122⟩, -, X122, ⟨Lc122, hQ122, l122, y122, z122⟩, st122⟩ := Jvm.LawKit.callS X112 hx (y := yn46) hown112 (mvT hZ112 (w141 hw)) (mvT hZ112 (w142 hw)) (mvT hZ112 (w143 hw)) (mvT hZ112 (w144 hw)) (by decide) (backOf (W := 1) (rm_pencode l Z a0 hw [] o b112 u ku cs c112 kb112 ([] : List Int32) cS u8 hd kh h112 n0 z123 O121 S_cs hcS S_ui S_u8 S_hx V_hx F119 F120 hl hc1 LS112 (by first | decide | omega | (simp only [List.length_append, List.length_singleton, List.length_cons, List.length_nil]; omega) : lat ([] : List Int32) = true) (by first | decide | omega | (simp only [List.length_append, List.length_singleton, List.length_cons, List.length_nil]; omega) : ([] : List Int32).length ≤ 16)) hZ112 (w144 hw) (w143 hw) (by decide) (by decide)) (g := (mkF m 27 #[.val (.ref q), .val (.ref o), .val (.ref o2), .val (.int (0 : Int32))] [(.ref b112), (.ref o), (.ref a)])) rfl (by rw [hml]; rfl) (argsL := [(.ref o), (.ref b112)]) (rest := [(.ref a)]) (lenOf pd33 rfl) rfl (wq rfl) (D_ d52_27) (fun _ _ => ⟨rfl, e112, (nb rfl), (nb rfl)⟩)
  dsimp only [Pt.U, Pt.locs, Pt.cells, Pt.slots] at X122 l122 y122 z122 st122 hQ122
  subst l122 y122 z122
  obtain ⟨r_124, t2_125, kb2_126, es_127, rfl, Nq122, K122, P122_0, P122_1, P122_2, P122_3, P122_4⟩ := hQ122
  have N122 := Fr.app Nl103 Nq122
  have R128 : CHr Z EL_1 s.vm h0 T112.vm T122.heap := R113.trans (CHr.keep K122 sf0 R113.1)
  have F129 : Exa Z T122.heap a "java/lang/StringBuilder" := (F115.keep K122)
  have F130 : Fld Z T122.heap a "java/lang/AbstractStringBuilder" "value" "[B" (.ref t2_104) := ((P103_0.keep K112 nin0).keep K122 nin0)
  have F131 : Fld Z T122.heap a "java/lang/AbstractStringBuilder" "coder" "B" (.int (0 : Int32)) := ((P103_1.keep K112 nin0).keep K122 nin0)
  have F132 : Fld Z T122.heap a "java/lang/AbstractStringBuilder" "count" "I" (.int (Int32.ofNat qs2_107.length)) := ((P103_2.keep K112 nin0).keep K122 nin0)
  have F133 : Arv Z T122.heap t2_104 kb2_105 .byte (Int32.ofNat N2_106) (l1 qs2_107) (.int (0 : Int32)) := (F118.keep K122 nin0)
  have F134 : Exa Z T122.heap t2_104 "[B" := ((P103_4.keep K112).keep K122)
  have ne135 : t2_125 ≠ t2_104 := (Ne.symm (Nat.ne_of_lt (Nat.lt_of_lt_of_le (Nat.lt_of_lt_of_le P103_3.lt K112.1) P122_1)))
  have O136 : Old Z n0 T122.heap := (O121.keep K122 all0)
  obtain ⟨cq137, kq137, q137a, q137b, q137c⟩ := isOf hZ112 rfl F129
  obtain ⟨_, _, ⟨T137, L137, k137, n137⟩, -, X137, ⟨Lc137, hQ137, l137, y137, z137⟩, st137⟩ := X122.virtualBack hx (y := yn21) (z := yn21) hown112 (mvT hZ112 (w252 hw)) (mvT hZ112 (w253 hw)) (notFace_of_selects (args := #[]) (mvT hZ112 (w255 hw))) (mvT hZ112 (w255 hw)) (mvT hZ112 (w254 hw)) (by decide) (backOf (W := 0) (rm_sbAppS l Z a0 hw [] a r_124 t2_125 kb2_126 es_127 t2_104 kb2_105 N2_106 qs2_107 cS T122.heap n0 (Nat.le_trans z123 K122.1) O136 S_cs hcS F129 F130 F131 F132 P122_2 P122_3 F133 F134 (by first | decide | omega | (simp only [List.length_append, List.length_singleton, List.length_cons, List.length_nil]; omega) : qs2_107.length + es_127.length ≤ 42) P103_6 P103_8 g1 P103_11 ne135) hZ112 (w256 hw) (w11 hw) (by decide) (by decide)) q137a q137c (g := (mkF m 30 #[.val (.ref q), .val (.ref o), .val (.ref o2), .val (.int (0 : Int32))] [(.ref r_124), (.ref a)])) rfl (by rw [hml]; rfl) (Steps.refl _) (argsL := [(.ref r_124)]) (rest := []) (lenOf pd34 rfl) rfl (wq rfl) (D_ d52_30) (fun _ _ => ⟨rfl, rfl, (nb rfl), (nb rfl)⟩)
  dsimp only [Pt.U, Pt.locs, Pt.cells, Pt.slots] at X137 l137 y137 z137 st137 hQ137
  subst l137 y137 z137
  obtain ⟨t2_138, kb2_139, N2_140, rfl, Nq137, K137, P137_0, P137_1, P137_2, P137_3, P137_4, P137_5, P137_6, P137_7, P137_8, P137_9⟩ := hQ137
  have N137 := Fr.app N122 Nq137
  have Sf141 : Safe Z EL_1 T112.vm T122.heap t2_104 := (Safe.keep K122 sf0 R113.1 Sf117)
  have R142 : CHr Z EL_1 s.vm h0 T112.vm T137.heap := R128.trans (CHr.keep K137 (sfS (Safe.exa hZ112.alike F129 (by decide) (by decide)) (sfS Sf141 sf0)) R128.1)
  have F143 : Fld Z T137.heap q "com/example/patents_via_api/patentsviaapi/http/QueryString" "query" "Ljava/lang/StringBuilder;" (.ref a) := (((F110.keep K112 nin0).keep K122 nin0).keep K137 (ninS (Exa.ne Eq E1 (by decide)) (ninS (own_alne P103_12 Eq.lt (Exa.ne Eq E2 (by decide))) nin0)))
  obtain ⟨T144, X144, e144, st144⟩ := getF X137 hx hZ112 hown112 (host := "") (Or.inl (w29 hw)) Via.refl rfl F143 (g := (mkF m 35 #[.val (.ref q), .val (.ref o), .val (.ref o2), .val (.int (0 : Int32))] [(.ref q)])) rfl rfl (D_ d52_35)
  have F145 : Exa Z T137.heap a "java/lang/StringBuilder" := (F129.keep K137)
  have O146 : Old Z n0 T137.heap := (O136.keep K137 (allS g1 (allS P103_11 all0)))
  have z148 : n0 ≤ T137.heap.size := (Nat.le_trans z123 (Nat.le_trans K122.1 K137.1))
  obtain ⟨cq147, kq147, q147a, q147b, q147c⟩ := isOf hZ112 e144 F145
  obtain ⟨_, _, ⟨T147, L147, k147, n147⟩, -, X147, ⟨Lc147, hQ147, l147, y147, z147⟩, st147⟩ := X144.virtualBack hx (y := yn16) (z := yn16) hown112 (mvT hZ112 (w279 hw)) (mvT hZ112 (w219 hw)) (notFace_of_selects (args := #[]) (mvT hZ112 (w221 hw))) (mvT hZ112 (w221 hw)) (mvT hZ112 (w220 hw)) (by decide) (backOf (W := 0) (rm_sbAppC42 l Z a0 hw [] a (61 : Int32) t2_138 kb2_139 N2_140 (qs2_107 ++ es_127) cS T137.heap n0 z148 O146 S_cs hcS F145 P137_0 P137_1 P137_2 P137_3 P137_4 (by first | decide | omega | (simp only [List.length_append, List.length_singleton, List.length_cons, List.length_nil]; omega) : ¬ ((255 : Int32) < (61 : Int32))) (by first | decide | omega | (simp only [List.length_append, List.length_singleton, List.length_cons, List.length_nil]; omega) : (qs2_107 ++ es_127).length < 42) P137_5 P137_6 g1 P137_8) hZ112 (w222 hw) (w11 hw) (by decide) (by decide)) q147a q147c (g := (mkF m 40 #[.val (.ref q), .val (.ref o), .val (.ref o2), .val (.int (0 : Int32))] [(.int (61 : Int32)), (.ref a)])) rfl (by rw [hml]; rfl) (Steps.refl _) (argsL := [(.int (61 : Int32))]) (rest := []) (lenOf pd28 rfl) rfl (wq rfl) (D_ d52_40) (fun _ _ => ⟨rfl, e144, (nb rfl), (nb rfl)⟩)
  dsimp only [Pt.U, Pt.locs, Pt.cells, Pt.slots] at X147 l147 y147 z147 st147 hQ147
  subst l147 y147 z147
  obtain ⟨t2_149, kb2_150, N2_151, rfl, Nq147, K147, P147_0, P147_1, P147_2, P147_3, P147_4, P147_5, P147_6, P147_7, P147_8, P147_9⟩ := hQ147
  have N147 := Fr.app N137 Nq147
  have Sf152 : Safe Z EL_1 T112.vm T137.heap t2_138 := own_safeLen hZ112 (own_E16 hw) P137_3 (by rw [own_cl (by omega)]; omega)
  have R153 : CHr Z EL_1 s.vm h0 T112.vm T147.heap := R142.trans (CHr.keep K147 (sfS (Safe.exa hZ112.alike F145 (by decide) (by decide)) (sfS Sf152 sf0)) R142.1)
  have ne154 : q ≠ t2_138 := (own_alne P137_9 (Nat.lt_of_lt_of_le Eq.lt (Nat.le_trans (Nat.le_trans K103.1 K112.1) K122.1)) (own_alne P103_12 Eq.lt (Exa.ne Eq E2 (by decide))))
  have F155 : Fld Z T147.heap q "com/example/patents_via_api/patentsviaapi/http/QueryString" "query" "Ljava/lang/StringBuilder;" (.ref a) := (F143.keep K147 (ninS (Exa.ne Eq E1 (by decide)) (ninS ne154 nin0)))
  obtain ⟨T156, X156, e156, st156⟩ := getF X147 hx hZ112 hown112 (host := "") (Or.inl (w29 hw)) Via.refl rfl F155 (g := (mkF m 45 #[.val (.ref q), .val (.ref o), .val (.ref o2), .val (.int (0 : Int32))] [(.ref q)])) rfl rfl (D_ d52_45)
  obtain ⟨b157, T157, h157, k157, c157, kb157, X157, e157, E157, hS157, hk157, hZ157, hown157, LE157, LC157, LV157, LA157, l1157, l2157, A157, -, sf157, st157⟩ := ldcCH X156 hx hZ112 hown112 (w138 hw) (own_wS hw) e156 hS112 (Nat.le_trans hk112 (Nat.le_trans (Nat.le_trans K122.1 K137.1) K147.1)) hEL (by decide +kernel) R153.1 (vs := (l1 ([] : List Int32))) (z := (0 : Int32)) (by decide +kernel) (by decide) (by decide) (g := (mkF m 58 #[.val (.ref q), .val (.ref o), .val (.ref o2), .val (.int (0 : Int32))] [(.ref o2), (.ref a)])) rfl (D_ d52_58) (n := 0) (by decide) (by decide) (by decide) (by decide)
  have K157 := (Keep.refl T147.heap []).ext E157
  have R158 : CHr Z EL_1 s.vm h0 T157.vm h157 := R153.trans A157
  have LS157 : Str Z h157 b157 c157 kb157 ([] : List Int32) := ⟨LE157, LV157, LC157, LA157, by decide, by decide⟩
  have LB157 : Exa Z h157 c157 "[B" := own_exaB hZ157.alike sf157 LA157
  have F159 : Exa Z h157 q "com/example/patents_via_api/patentsviaapi/http/QueryString" := ((((F114.keep K122).keep K137).keep K147).keep K157)
  have F160 : Exa Z h157 a "java/lang/StringBuilder" := ((F145.keep K147).keep K157)
  have Sf161 : Safe Z EL_1 T157.vm h157 t := (CHr.safe A157 (Nat.lt_of_lt_of_le V1.lt (Nat.le_trans (Nat.le_trans (Nat.le_trans (Nat.le_trans K103.1 K112.1) K122.1) K137.1) K147.1)) (Safe.keep K147 (sfS (Safe.exa hZ112.alike F145 (by decide) (by decide)) (sfS Sf152 sf0)) R142.1 (Safe.keep K137 (sfS (Safe.exa hZ112.alike F129 (by decide) (by decide)) (sfS Sf141 sf0)) R128.1 (Safe.keep K122 sf0 R113.1 Sf116))))
  have Sf162 : Safe Z EL_1 T157.vm h157 t2_104 := (CHr.safe A157 (Nat.lt_of_lt_of_le P103_3.lt (Nat.le_trans (Nat.le_trans (Nat.le_trans K112.1 K122.1) K137.1) K147.1)) (Safe.keep K147 (sfS (Safe.exa hZ112.alike F145 (by decide) (by decide)) (sfS Sf152 sf0)) R142.1 (Safe.keep K137 (sfS (Safe.exa hZ112.alike F129 (by decide) (by decide)) (sfS Sf141 sf0)) R128.1 Sf141)))
  have Sf163 : Safe Z EL_1 T157.vm h157 r_124 := (CHr.safe A157 (Nat.lt_of_lt_of_le P122_2.lt (Nat.le_trans K137.1 K147.1)) (Safe.keep K147 (sfS (Safe.exa hZ112.alike F145 (by decide) (by decide)) (sfS Sf152 sf0)) R142.1 (Safe.keep K137 (sfS (Safe.exa hZ112.alike F129 (by decide) (by decide)) (sfS Sf141 sf0)) R128.1 (Safe.keep K122 sf0 R113.1 (Safe.new P122_0)))))
  have Sf164 : Safe Z EL_1 T157.vm h157 t2_125 := (CHr.safe A157 (Nat.lt_of_lt_of_le P122_2.lt2 (Nat.le_trans K137.1 K147.1)) (Safe.keep K147 (sfS (Safe.exa hZ112.alike F145 (by decide) (by decide)) (sfS Sf152 sf0)) R142.1 (Safe.keep K137 (sfS (Safe.exa hZ112.alike F129 (by decide) (by decide)) (sfS Sf141 sf0)) R128.1 (Safe.keep K122 sf0 R113.1 (Safe.new P122_1)))))
  have Sf165 : Safe Z EL_1 T157.vm h157 t2_138 := (CHr.safe A157 (Nat.lt_of_lt_of_le P137_3.lt K147.1) (Safe.keep K147 (sfS (Safe.exa hZ112.alike F145 (by decide) (by decide)) (sfS Sf152 sf0)) R142.1 Sf152))
  have F167 : Arv Z h157 t2_149 kb2_150 .byte (Int32.ofNat N2_151) (l1 ((qs2_107 ++ es_127) ++ [(61 : Int32)])) (.int (0 : Int32)) := (P147_3.keep K157 nin0)
  have Sf166 : Safe Z EL_1 T157.vm h157 t2_149 := own_safeLen hZ157 (own_E16 hw) F167 (by rw [own_cl (by omega)]; omega)
  have ne168 : o2 ≠ t2_138 := (own_alne P137_9 (Nat.lt_of_lt_of_le hS2.lt (Nat.le_trans (Nat.le_trans K103.1 K112.1) K122.1)) (own_alne P103_12 hS2.lt (Exa.ne v_hE E2 (by decide))))
  have ne169 : u2 ≠ t2_138 := (own_alne P137_9 (Nat.lt_of_lt_of_le hS2.lt2 (Nat.le_trans (Nat.le_trans K103.1 K112.1) K122.1)) (own_alne P103_12 hS2.lt2 hvt))
  have F170 : Str Z h157 o2 u2 k2 ds := ((((((hS2.keep K103 (ninS (Exa.ne v_hE E1 (by decide)) (ninS (Exa.ne v_hE E2 (by decide)) nin0)) (ninS (Exa.ne Eu2 E1 (by decide)) (ninS hvt nin0))).keep K112 nin0 nin0).keep K122 nin0 nin0).keep K137 (ninS (Exa.ne v_hE E1 (by decide)) (ninS (own_alne P103_12 hS2.lt (Exa.ne v_hE E2 (by decide))) nin0)) (ninS (Exa.ne Eu2 E1 (by decide)) (ninS (own_alne P103_12 hS2.lt2 hvt) nin0))).keep K147 (ninS (Exa.ne v_hE E1 (by decide)) (ninS ne168 nin0)) (ninS (Exa.ne Eu2 E1 (by decide)) (ninS ne169 nin0))).keep K157 nin0 nin0)
  have F171 : Exa Z h157 u2 "[B" := ((((((Eu2.keep K103).keep K112).keep K122).keep K137).keep K147).keep K157)
  have O172 : Old Z n0 h157 := ((O146.keep K147 (allS g1 (allS P137_8 all0))).keep K157 all0)
  have z174 : n0 ≤ h157.size := (Nat.le_trans z148 (Nat.le_trans K147.1 K157.1))
  obtain ⟨_, _, ⟨T173, L173, k173, n173⟩, -, X173, ⟨Lc173, hQ173, l173, y173, z173⟩, st173⟩ := Jvm.LawKit.callS X157 hx (y := yn46) hown157 (mvT hZ157 (w141 hw)) (mvT hZ157 (w142 hw)) (mvT hZ157 (w143 hw)) (mvT hZ157 (w144 hw)) (by decide) (backOf (W := 1) (rm_pencode l Z a0 hw [] o2 b157 u2 k2 ds c157 kb157 ([] : List Int32) cS u8 hd kh h157 n0 z174 O172 S_cs hcS S_ui S_u8 S_hx V_hx F170 F171 hl2 hd1 LS157 (by first | decide | omega | (simp only [List.length_append, List.length_singleton, List.length_cons, List.length_nil]; omega) : lat ([] : List Int32) = true) (by first | decide | omega | (simp only [List.length_append, List.length_singleton, List.length_cons, List.length_nil]; omega) : ([] : List Int32).length ≤ 16)) hZ157 (w144 hw) (w143 hw) (by decide) (by decide)) (g := (mkF m 60 #[.val (.ref q), .val (.ref o), .val (.ref o2), .val (.int (0 : Int32))] [(.ref b157), (.ref o2), (.ref a)])) rfl (by rw [hml]; rfl) (argsL := [(.ref o2), (.ref b157)]) (rest := [(.ref a)]) (lenOf pd33 rfl) rfl (wq rfl) (D_ d52_60) (fun _ _ => ⟨rfl, e157, (nb rfl), (by dsimp only [Pt.slots]; omega)⟩)
  dsimp only [Pt.U, Pt.locs, Pt.cells, Pt.slots] at X173 l173 y173 z173 st173 hQ173
  subst l173 y173 z173
  obtain ⟨r_175, t2_176, kb2_177, es_178, rfl, Nq173, K173, P173_0, P173_1, P173_2, P173_3, P173_4⟩ := hQ173
  have N173 := Fr.app N147 Nq173
  have R179 : CHr Z EL_1 s.vm h0 T157.vm T173.heap := R158.trans (CHr.keep K173 sf0 R158.1)
  have F180 : Exa Z T173.heap a "java/lang/StringBuilder" := (F160.keep K173)
  have F181 : Fld Z T173.heap a "java/lang/AbstractStringBuilder" "value" "[B" (.ref t2_149) := ((P147_0.keep K157 nin0).keep K173 nin0)
  have F182 : Fld Z T173.heap a "java/lang/AbstractStringBuilder" "coder" "B" (.int (0 : Int32)) := ((P147_1.keep K157 nin0).keep K173 nin0)
  have F183 : Fld Z T173.heap a "java/lang/AbstractStringBuilder" "count" "I" (.int (Int32.ofNat ((qs2_107 ++ es_127) ++ [(61 : Int32)]).length)) := ((P147_2.keep K157 nin0).keep K173 nin0)
  have F184 : Arv Z T173.heap t2_149 kb2_150 .byte (Int32.ofNat N2_151) (l1 ((qs2_107 ++ es_127) ++ [(61 : Int32)])) (.int (0 : Int32)) := (F167.keep K173 nin0)
  have F185 : Exa Z T173.heap t2_149 "[B" := ((P147_4.keep K157).keep K173)
  have ne186 : t2_176 ≠ t2_149 := (Ne.symm (Nat.ne_of_lt (Nat.lt_of_lt_of_le (Nat.lt_of_lt_of_le P147_3.lt K157.1) P173_1)))
  have O187 : Old Z n0 T173.heap := (O172.keep K173 all0)
  obtain ⟨cq188, kq188, q188a, q188b, q188c⟩ := isOf hZ157 rfl F180
  obtain ⟨_, _, ⟨T188, L188, k188, n188⟩, -, X188, ⟨Lc188, hQ188, l188, y188, z188⟩, st188⟩ := X173.virtualBack hx (y := yn21) (z := yn21) hown157 (mvT hZ157 (w252 hw)) (mvT hZ157 (w253 hw)) (notFace_of_selects (args := #[]) (mvT hZ157 (w255 hw))) (mvT hZ157 (w255 hw)) (mvT hZ157 (w254 hw)) (by decide) (backOf (W := 0) (rm_sbAppS l Z a0 hw [] a r_175 t2_176 kb2_177 es_178 t2_149 kb2_150 N2_151 ((qs2_107 ++ es_127) ++ [(61 : Int32)]) cS T173.heap n0 (Nat.le_trans z174 K173.1) O187 S_cs hcS F180 F181 F182 F183 P173_2 P173_3 F184 F185 (by first | decide | omega | (simp only [List.length_append, List.length_singleton, List.length_cons, List.length_nil]; omega) : ((qs2_107 ++ es_127) ++ [(61 : Int32)]).length + es_178.length ≤ 42) P147_5 P147_6 g1 P147_8 ne186) hZ157 (w256 hw) (w11 hw) (by decide) (by decide)) q188a q188c (g := (mkF m 63 #[.val (.ref q), .val (.ref o), .val (.ref o2), .val (.int (0 : Int32))] [(.ref r_175), (.ref a)])) rfl (by rw [hml]; rfl) (Steps.refl _) (argsL := [(.ref r_175)]) (rest := []) (lenOf pd34 rfl) rfl (wq rfl) (D_ d52_63) (fun _ _ => ⟨rfl, rfl, (nb rfl), (by dsimp only [Pt.slots]; omega)⟩)
  dsimp only [Pt.U, Pt.locs, Pt.cells, Pt.slots] at X188 l188 y188 z188 st188 hQ188
  subst l188 y188 z188
  obtain ⟨t2_189, kb2_190, N2_191, rfl, Nq188, K188, P188_0, P188_1, P188_2, P188_3, P188_4, P188_5, P188_6, P188_7, P188_8, P188_9⟩ := hQ188
  have N188 := Fr.app N173 Nq188
  have Sf192 : Safe Z EL_1 T157.vm T173.heap t2_149 := (Safe.keep K173 sf0 R158.1 Sf166)
  have R193 : CHr Z EL_1 s.vm h0 T157.vm T188.heap := R179.trans (CHr.keep K188 (sfS (Safe.exa hZ157.alike F180 (by decide) (by decide)) (sfS Sf192 sf0)) R179.1)
  have W194 : ∀ zQ, SS p e below T188 m 68 #[.val (.ref q), .val (.ref o), .val (.ref o2), .val (.int (0 : Int32))] [(.ref q)] zQ → Steps p.tables e below (s₁.setTop (entryFrame m #[(.ref q), (.ref o), (.ref o2), (.int (0 : Int32))] 4)) zQ := by
    intro tt kt
    refine W0 tt ?_
    refine st103 _ ?_
    refine XS.aloadN X103.here hx rfl (D_ d52_20) rfl rfl ?_
    refine st111 _ ?_
    refine XS.aloadN X111.here hx rfl (D_ d52_24) rfl rfl ?_
    refine st112 _ ?_
    refine st122 _ ?_
    refine st137.trans ?_
    refine XS.pop X137.here hx rfl (D_ d52_33) rfl rfl ?_
    refine XS.aloadN X137.here hx rfl (D_ d52_34) rfl rfl ?_
    refine st144 _ ?_
    refine XS.bipush X144.here hx rfl (D_ d52_38) ?_
    refine st147.trans ?_
    refine XS.pop X147.here hx rfl (D_ d52_43) rfl rfl ?_
    refine XS.aloadN X147.here hx rfl (D_ d52_44) rfl rfl ?_
    refine st156 _ ?_
    refine XS.aloadN X156.here hx rfl (D_ d52_48) rfl rfl ?_
    refine XS.iloadN X156.here hx rfl (D_ d52_49) rfl ?_
    refine XS.ifYes X156.here hx rfl (pc0 := 50) (pc' := 58) rfl (D_ d52_50) rfl ((if0 _ _).trans (teq (by decide)).1) (by decide) (by decide) ?_
    refine st157 _ ?_
    refine st173 _ ?_
    refine st188.trans ?_
    refine XS.pop X188.here hx rfl (D_ d52_66) rfl rfl ?_
    refine XS.aloadN X188.here hx rfl (D_ d52_67) rfl rfl ?_
    exact kt
  obtain ⟨fs, hr, hrun, hended, hRW⟩ := Jvm.Stand.leaveW X188 hS157 (Nat.le_trans hk157 (Nat.le_trans K173.1 K188.1)) (v := some (.ref q)) (fun h => by rw [Bd.returns] at h; cases h) (BodyLoose.notSynchronized Bd)
  refine ⟨_, _, W194 _ (own_retR X188 hx Bd.returns rfl rfl (D_ d52_68) hr), hrun, hended, _, _, rfl, ?_, own_chr (T := T188) R193 (CHv.at X188 hZ157 hEL R193.1) hh.symm rfl, own_rw hRW (by decide) (by decide)⟩
  show Q_qsApp0 Z q o o2 a t kb N qs nq u ku cs u2 k2 ds cS u8 hd kh h0 n0 _ T188.heap _
  exact ⟨t2_189, kb2_190, N2_191, (((qs2_107 ++ es_127) ++ [(61 : Int32)]) ++ es_178), rfl, N188, (Keep.trans (Keep.trans (Keep.trans (Keep.trans (Keep.trans (Keep.trans (Keep.trans (Keep.trans (Keep.refl h0 [a, t]) K103 (allS (Or.inl (List.mem_of_getElem? (i := 0) rfl)) (allS (Or.inl (List.mem_of_getElem? (i := 1) rfl)) all0))) K112 all0) K122 all0) K137 (allS (Or.inl (List.mem_of_getElem? (i := 0) rfl)) (allS (own_alke P103_12 (Or.inl (List.mem_of_getElem? (i := 1) rfl)) (Nat.le_refl _)) all0))) K147 (allS (Or.inl (List.mem_of_getElem? (i := 0) rfl)) (allS (own_alke P137_9 (own_alke P103_12 (Or.inl (List.mem_of_getElem? (i := 1) rfl)) (Nat.le_refl _)) (Nat.le_trans (Nat.le_trans K103.1 K112.1) K122.1)) all0))) K157 all0) K173 all0) K188 (allS (Or.inl (List.mem_of_getElem? (i := 0) rfl)) (allS (own_alke P147_9 (own_alke P137_9 (own_alke P103_12 (Or.inl (List.mem_of_getElem? (i := 1) rfl)) (Nat.le_refl _)) (Nat.le_trans (Nat.le_trans K103.1 K112.1) K122.1)) (Nat.le_trans (Nat.le_trans (Nat.le_trans K103.1 K112.1) K122.1) K137.1)) all0))), P188_0, P188_1, P188_2, P188_3, P188_4, (lat_app (lat_snoc (lat_app P103_9 P122_3) (by decide)) P173_3), (own_okapp (own_okapp (own_okapp P103_10 P122_2.2.2.2.2 (by first | omega | (simp only [List.length_append, List.length_singleton]; omega))) (own_ok1 (by decide) (by decide)) (by first | omega | (simp only [List.length_append, List.length_singleton]; omega))) P173_2.2.2.2.2 (by first | omega | (simp only [List.length_append, List.length_singleton]; omega))), (by first | decide | omega | (simp only [List.length_append, List.length_singleton, List.length_cons, List.length_nil]; omega) : (((qs2_107 ++ es_127) ++ [(61 : Int32)]) ++ es_178).length ≤ (nq + 14)), (by first | decide | omega | (simp only [List.length_append, List.length_singleton, List.length_cons, List.length_nil]; omega) : 0 < (((qs2_107 ++ es_127) ++ [(61 : Int32)]) ++ es_178).length), P188_5, (by first | decide | omega | (simp only [List.length_append, List.length_singleton, List.length_cons, List.length_nil]; omega) : 16 ≤ N2_191), P188_6, P188_8, (own_altr P188_9 (own_altr P147_9 (own_altr P137_9 (own_altr P103_12 (Or.inl rfl) (Nat.le_refl _)) (Nat.le_trans (Nat.le_trans K103.1 K112.1) K122.1)) (Nat.le_trans (Nat.le_trans (Nat.le_trans K103.1 K112.1) K122.1) K137.1)) (Nat.le_trans (Nat.le_trans (Nat.le_trans (Nat.le_trans (Nat.le_trans (Nat.le_trans K103.1 K112.1) K122.1) K137.1) K147.1) K157.1) K173.1))⟩
def Q_add (Z : State) (q : Addr) (o : Addr) (o2 : Addr) (a : Addr) (t : Addr) (kb : ClassId) (N : Nat) (qs : List Int32) (nq : Nat) (u : Addr) (ku : ClassId) (cs : List Int32) (u2 : Addr) (k2 : ClassId) (ds : List Int32) (cS : Int32) (u8 : Addr) (hd : Addr) (kh : ClassId) (h0 : Heap) (n0 : Nat) (vQ_ : Option Value) (hQ_ : Heap) (LQ_ : List Loc) : Prop := ∃ t2 : Addr, ∃ kb2 : ClassId, ∃ N2 : Nat, ∃ qs2 : List Int32, vQ_ = some (.ref q) ∧ Fr n0 LQ_ ∧ Keep h0 hQ_ [a, t] ∧ Fld Z hQ_ a "java/lang/AbstractStringBuilder" "value" "[B" (.ref t2) ∧ Fld Z hQ_ a "java/lang/AbstractStringBuilder" "coder" "B" (.int (0 : Int32)) ∧ Fld Z hQ_ a "java/lang/AbstractStringBuilder" "count" "I" (.int (Int32.ofNat qs2.length)) ∧ Arv Z hQ_ t2 kb2 .byte (Int32.ofNat N2) (l1 qs2) (.int (0 : Int32)) ∧ Exa Z hQ_ t2 "[B" ∧ lat qs2 = true ∧ OkS qs2 ∧ qs2.length ≤ (nq + 14) ∧ 0 < qs2.length ∧ qs2.length ≤ N2 ∧ 16 ≤ N2 ∧ N2 ≤ 84 ∧ n0 ≤ t2 ∧ (t2 = t ∨ h0.size ≤ t2)
theorem rm_add (l : Launch) (Z : State) (a0 : Array Value) (hw : HW a0 Z) (ws : List Jvm.Cond) (q : Addr) (o : Addr) (o2 : Addr) (a : Addr) (t : Addr) (kb : ClassId) (N : Nat) (qs : List Int32) (nq : Nat) (u : Addr) (ku : ClassId) (cs : List Int32) (u2 : Addr) (k2 : ClassId) (ds : List Int32) (cS : Int32) (u8 : Addr) (hd : Addr) (kh : ClassId) (h0 : Heap) (n0 : Nat) (Z0 : n0 ≤ h0.size) (O0 : Old Z n0 h0) (S_cs : Sta Z Z.heap "java/lang/String" "COMPACT_STRINGS" "Z" (.int cS)) (hcS : ¬ (cS = (0 : Int32))) (S_ui : Sta Z Z.heap "sun/nio/cs/UTF_8" "INSTANCE" "Lsun/nio/cs/UTF_8;" (.ref u8)) (S_u8 : Sta Z Z.heap "java/nio/charset/StandardCharsets" "UTF_8" "Ljava/nio/charset/Charset;" (.ref u8)) (S_hx : Sta Z Z.heap "com/example/patents_via_api/patentsviaapi/http/PercentEncoding" "HEX_DIGITS" "[C" (.ref hd)) (V_hx : Arv Z Z.heap hd kh .char (16 : Int32) (hexL.map Value.int) (.int (0 : Int32))) (Eq : Exa Z h0 q "com/example/patents_via_api/patentsviaapi/http/QueryString") (Fq : Fld Z h0 q "com/example/patents_via_api/patentsviaapi/http/QueryString" "query" "Ljava/lang/StringBuilder;" (.ref a)) (E1 : Exa Z h0 a "java/lang/StringBuilder") (F1 : Fld Z h0 a "java/lang/AbstractStringBuilder" "value" "[B" (.ref t)) (F2 : Fld Z h0 a "java/lang/AbstractStringBuilder" "coder" "B" (.int (0 : Int32))) (F3 : Fld Z h0 a "java/lang/AbstractStringBuilder" "count" "I" (.int (Int32.ofNat qs.length))) (V1 : Arv Z h0 t kb .byte (Int32.ofNat N) (l1 qs) (.int (0 : Int32))) (E2 : Exa Z h0 t "[B") (hlq : lat qs = true) (okq : OkS qs) (hq : qs.length ≤ nq) (hnq : nq ≤ 28) (hqN : qs.length ≤ N) (h16 : 16 ≤ N) (hN : N ≤ 84) (g1 : n0 ≤ a) (g2 : n0 ≤ t) (hS : Str Z h0 o u ku cs) (Eu : Exa Z h0 u "[B") (hl : lat cs = true) (hc1 : cs.length ≤ 1) (hS2 : Str Z h0 o2 u2 k2 ds) (Eu2 : Exa Z h0 u2 "[B") (hl2 : lat ds = true) (hd1 : ds.length ≤ 1) :
    MetFree l yn53 (head1 (Jvm.Cond.code yn53 prog_16_method_2_code 3 (some (.object "com/example/patents_via_api/patentsviaapi/http/QueryString")) :: ws) (⟨8, 30, 708, 172⟩ : Room)) (fun aQ_ UQ => aQ_ = #[(.ref q), (.ref o), (.ref o2)] ∧ Z.Warmed39 UQ.vm ∧ UQ.heap = h0 ∧ CHv Z EL_1 UQ.vm h0) (fun _ _ _ _ _ => True) (fun _ UQ oQ UQ' => ∃ vQ_ LQ_, oQ = .returned vQ_ ∧ Q_add Z q o o2 a t kb N qs nq u ku cs u2 k2 ds cS u8 hd kh h0 n0 vQ_ UQ'.heap LQ_ ∧ CHr Z EL_1 UQ.vm UQ.heap UQ'.vm UQ'.heap ∧ ReturnedEndW UQ oQ UQ' LQ_ (⟨8, 30, 708, 172⟩ : Room).cells (⟨8, 30, 708, 172⟩ : Room).slots) := by
  refine MetFree.of_bodySF (plainFor_of_name pn_com_example_patents_via_api_patentsviaapi_http_QueryString) hisR ?_
  intro p e s m args below meth cO s₁ Bd hml hP hK
  obtain ⟨rfl, hZ, hh, hH⟩ := hP
  have hx := Bd.exec
  have hby := Bd.bytes
  have hown : s.vm.findClass "com/example/patents_via_api/patentsviaapi/http/QueryString" = some m.cls := findClass_of_methodNamed Bd.named
  have hnm := (name_of_methodNamed Bd.named Bd.method).1
  have X0 : Stand p l e (⟨8, 30, 708, 172⟩ : Room) (s.setVm s.vm) m #[(.ref q), (.ref o), (.ref o2)] below meth cO s₁ [] 0 0 := Stand.of_body Bd
  have e0 : s₁.heap = h0 := by rw [← hh, Bd.state]; rfl
  have N0 := Fr.nil n0
  have hZ0 : Z.Warmed39 (s.setVm s.vm).vm := hZ
  have hown0 : (s.setVm s.vm).vm.findClass "com/example/patents_via_api/patentsviaapi/http/QueryString" = some m.cls := hown
  have hS0 : s.Since s.vm 0 := (State.WarmedH.refl s).since 0
  have hk0 : 0 ≤ h0.size := Nat.zero_le _
  have hEL : EW Z a0 EL_1 := own_EW hw
  have R0 : CHr Z EL_1 s.vm h0 s.vm h0 := CHr.refl hH
  have D_ : ∀ {i : Nat} {x}, decode prog_16_method_2_code i = x → decode cO.code i = x := fun h => hb hby h
  have W0 : ∀ zQ, SS p e below s₁ m 0 #[.val (.ref q), .val (.ref o), .val (.ref o2)] [] zQ → Steps p.tables e below (s₁.setTop (entryFrame m #[(.ref q), (.ref o), (.ref o2)] 3)) zQ := fun tt kt => castTop (ef_add m q o o2) kt
  obtain ⟨cq101, q101, q101'⟩ := Eq.cell
  obtain ⟨_, _, ⟨T101, L101, k101, n101⟩, -, X101', hS101', hgr101, ⟨Lc101, hQ101, l101, y101, z101, A101⟩, st101⟩ := X0.privateBackS hx (y := yn52) hown0 (mvT hZ0 (w134 hw)) (mvT hZ0 (w135 hw)) (mvT hZ0 (own_psel2 (y := yn52) (own_nf (y := yn52) (y' := yn49) rfl (w34 hw) (w32 hw)) (w136 hw) (w135 hw) (by decide))) (Cond.privateMethod_at (mvP hZ0 (w136 hw) (args := #[]))) (mvT hZ0 (w137 hw)) (by decide) (backOfSH (W := 0) (rm_qsApp0 l Z a0 hw [] q o o2 a t kb N qs nq u ku cs u2 k2 ds cS u8 hd kh h0 n0 Z0 O0 S_cs hcS S_ui S_u8 S_hx V_hx Eq Fq E1 F1 F2 F3 V1 E2 hlq okq hq hnq hqN h16 hN g1 g2 hS Eu hl hc1 hS2 Eu2 hl2 hd1) hZ0 (w137 hw) (w2 hw) (by decide) (by decide) hEL R0.1) (g := (mkF m 4 #[.val (.ref q), .val (.ref o), .val (.ref o2)] [(.int (0 : Int32)), (.ref o2), (.ref o), (.ref q)])) rfl (by rw [hml]; rfl) (Steps.refl _) (a := q) (by rw [e0]; exact q101) q101' (argsL := [(.ref o), (.ref o2), (.int (0 : Int32))]) (rest := []) (lenOf pd35 rfl) rfl (wq rfl) (D_ d53_4) (fun _ _ => ⟨rfl, e0, (nb rfl), (by dsimp only [Pt.slots]; omega)⟩)
  dsimp only [Pt.U, Pt.locs, Pt.cells, Pt.slots] at X101' hS101' hgr101 l101 y101 z101 st101 hQ101 A101
  subst l101 y101 z101
  obtain ⟨X101, hS101, hZ101, hown101⟩ := rebS hS0 (by rw [e0]; exact hk0) X101' hS101' hgr101 hZ0 hown0
  obtain ⟨t2_102, kb2_103, N2_104, qs2_105, rfl, Nq101, K101, P101_0, P101_1, P101_2, P101_3, P101_4, P101_5, P101_6, P101_7, P101_8, P101_9, P101_10, P101_11, P101_12, P101_13⟩ := hQ101
  have N101 := Fr.app N0 Nq101
  have R106 : CHr Z EL_1 s.vm h0 T101.vm T101.heap := R0.trans A101
  have hk101 : T101.heap.size ≤ T101.heap.size := Nat.le_refl _
  have W107 : ∀ zQ, SS p e below T101 m 7 #[.val (.ref q), .val (.ref o), .val (.ref o2)] [(.ref q)] zQ → Steps p.tables e below (s₁.setTop (entryFrame m #[(.ref q), (.ref o), (.ref o2)] 3)) zQ := by
    intro tt kt
    refine W0 tt ?_
    refine XS.aloadN X0.here hx rfl (D_ d53_0) rfl rfl ?_
    refine XS.aloadN X0.here hx rfl (D_ d53_1) rfl rfl ?_
    refine XS.aloadN X0.here hx rfl (D_ d53_2) rfl rfl ?_
    refine XS.iconst X0.here hx rfl (D_ d53_3) ?_
    refine st101.trans ?_
    exact kt
  obtain ⟨fs, hr, hrun, hended, hRW⟩ := Jvm.Stand.leaveW X101 hS101 hk101 (v := some (.ref q)) (fun h => by rw [Bd.returns] at h; cases h) (BodyLoose.notSynchronized Bd)
  refine ⟨_, _, W107 _ (own_retR X101 hx Bd.returns rfl rfl (D_ d53_7) hr), hrun, hended, _, _, rfl, ?_, own_chr (T := T101) R106 (CHv.at X101 hZ101 hEL R106.1) hh.symm rfl, own_rw hRW (by decide) (by decide)⟩
  show Q_add Z q o o2 a t kb N qs nq u ku cs u2 k2 ds cS u8 hd kh h0 n0 _ T101.heap _
  exact ⟨t2_102, kb2_103, N2_104, qs2_105, rfl, N101, (Keep.trans (Keep.refl h0 [a, t]) K101 (allS (Or.inl (List.mem_of_getElem? (i := 0) rfl)) (allS (Or.inl (List.mem_of_getElem? (i := 1) rfl)) all0))), P101_0, P101_1, P101_2, P101_3, P101_4, P101_5, P101_6, P101_7, P101_8, P101_9, P101_10, P101_11, P101_12, (own_altr P101_13 (Or.inl rfl) (Nat.le_refl _))⟩
def Q_qsApp1 (Z : State) (q : Addr) (o : Addr) (o2 : Addr) (a : Addr) (t : Addr) (kb : ClassId) (N : Nat) (qs : List Int32) (nq : Nat) (u : Addr) (ku : ClassId) (cs : List Int32) (u2 : Addr) (k2 : ClassId) (ds : List Int32) (cS : Int32) (u8 : Addr) (hd : Addr) (kh : ClassId) (h0 : Heap) (n0 : Nat) (vQ_ : Option Value) (hQ_ : Heap) (LQ_ : List Loc) : Prop := ∃ t2 : Addr, ∃ kb2 : ClassId, ∃ N2 : Nat, ∃ qs2 : List Int32, vQ_ = some (.ref q) ∧ Fr n0 LQ_ ∧ Keep h0 hQ_ [a, t] ∧ Fld Z hQ_ a "java/lang/AbstractStringBuilder" "value" "[B" (.ref t2) ∧ Fld Z hQ_ a "java/lang/AbstractStringBuilder" "coder" "B" (.int (0 : Int32)) ∧ Fld Z hQ_ a "java/lang/AbstractStringBuilder" "count" "I" (.int (Int32.ofNat qs2.length)) ∧ Arv Z hQ_ t2 kb2 .byte (Int32.ofNat N2) (l1 qs2) (.int (0 : Int32)) ∧ Exa Z hQ_ t2 "[B" ∧ lat qs2 = true ∧ OkS qs2 ∧ qs2.length ≤ (nq + 14) ∧ 0 < qs2.length ∧ qs2.length ≤ N2 ∧ 16 ≤ N2 ∧ N2 ≤ 84 ∧ n0 ≤ t2 ∧ (t2 = t ∨ h0.size ≤ t2)
theorem rm_qsApp1 (l : Launch) (Z : State) (a0 : Array Value) (hw : HW a0 Z) (ws : List Jvm.Cond) (q : Addr) (o : Addr) (o2 : Addr) (a : Addr) (t : Addr) (kb : ClassId) (N : Nat) (qs : List Int32) (nq : Nat) (u : Addr) (ku : ClassId) (cs : List Int32) (u2 : Addr) (k2 : ClassId) (ds : List Int32) (cS : Int32) (u8 : Addr) (hd : Addr) (kh : ClassId) (h0 : Heap) (n0 : Nat) (Z0 : n0 ≤ h0.size) (O0 : Old Z n0 h0) (S_cs : Sta Z Z.heap "java/lang/String" "COMPACT_STRINGS" "Z" (.int cS)) (hcS : ¬ (cS = (0 : Int32))) (S_ui : Sta Z Z.heap "sun/nio/cs/UTF_8" "INSTANCE" "Lsun/nio/cs/UTF_8;" (.ref u8)) (S_u8 : Sta Z Z.heap "java/nio/charset/StandardCharsets" "UTF_8" "Ljava/nio/charset/Charset;" (.ref u8)) (S_hx : Sta Z Z.heap "com/example/patents_via_api/patentsviaapi/http/PercentEncoding" "HEX_DIGITS" "[C" (.ref hd)) (V_hx : Arv Z Z.heap hd kh .char (16 : Int32) (hexL.map Value.int) (.int (0 : Int32))) (Eq : Exa Z h0 q "com/example/patents_via_api/patentsviaapi/http/QueryString") (Fq : Fld Z h0 q "com/example/patents_via_api/patentsviaapi/http/QueryString" "query" "Ljava/lang/StringBuilder;" (.ref a)) (E1 : Exa Z h0 a "java/lang/StringBuilder") (F1 : Fld Z h0 a "java/lang/AbstractStringBuilder" "value" "[B" (.ref t)) (F2 : Fld Z h0 a "java/lang/AbstractStringBuilder" "coder" "B" (.int (0 : Int32))) (F3 : Fld Z h0 a "java/lang/AbstractStringBuilder" "count" "I" (.int (Int32.ofNat qs.length))) (V1 : Arv Z h0 t kb .byte (Int32.ofNat N) (l1 qs) (.int (0 : Int32))) (E2 : Exa Z h0 t "[B") (hlq : lat qs = true) (okq : OkS qs) (hq : qs.length ≤ nq) (hnq : nq ≤ 28) (hqN : qs.length ≤ N) (h16 : 16 ≤ N) (hN : N ≤ 84) (g1 : n0 ≤ a) (g2 : n0 ≤ t) (hS : Str Z h0 o u ku cs) (Eu : Exa Z h0 u "[B") (hl : lat cs = true) (hc1 : cs.length ≤ 1) (hS2 : Str Z h0 o2 u2 k2 ds) (Eu2 : Exa Z h0 u2 "[B") (hl2 : lat ds = true) (hd1 : ds.length ≤ 1) :
    MetFree l yn52 (head1 (Jvm.Cond.code yn52 prog_16_method_6_code 4 (some (.object "com/example/patents_via_api/patentsviaapi/http/QueryString")) :: ws) (⟨7, 30, 752, 157⟩ : Room)) (fun aQ_ UQ => aQ_ = #[(.ref q), (.ref o), (.ref o2), (.int (1 : Int32))] ∧ Z.Warmed39 UQ.vm ∧ UQ.heap = h0 ∧ CHv Z EL_1 UQ.vm h0) (fun _ _ _ _ _ => True) (fun _ UQ oQ UQ' => ∃ vQ_ LQ_, oQ = .returned vQ_ ∧ Q_qsApp1 Z q o o2 a t kb N qs nq u ku cs u2 k2 ds cS u8 hd kh h0 n0 vQ_ UQ'.heap LQ_ ∧ CHr Z EL_1 UQ.vm UQ.heap UQ'.vm UQ'.heap ∧ ReturnedEndW UQ oQ UQ' LQ_ (⟨7, 30, 752, 157⟩ : Room).cells (⟨7, 30, 752, 157⟩ : Room).slots) := by
  refine MetFree.of_bodySF (plainFor_of_name pn_com_example_patents_via_api_patentsviaapi_http_QueryString) hisR ?_
  intro p e s m args below meth cO s₁ Bd hml hP hK
  obtain ⟨rfl, hZ, hh, hH⟩ := hP
  have hx := Bd.exec
  have hby := Bd.bytes
  have hown : s.vm.findClass "com/example/patents_via_api/patentsviaapi/http/QueryString" = some m.cls := findClass_of_methodNamed Bd.named
  have hnm := (name_of_methodNamed Bd.named Bd.method).1
  have X0 : Stand p l e (⟨7, 30, 752, 157⟩ : Room) (s.setVm s.vm) m #[(.ref q), (.ref o), (.ref o2), (.int (1 : Int32))] below meth cO s₁ [] 0 0 := Stand.of_body Bd
  have e0 : s₁.heap = h0 := by rw [← hh, Bd.state]; rfl
  have N0 := Fr.nil n0
  have hZ0 : Z.Warmed39 (s.setVm s.vm).vm := hZ
  have hown0 : (s.setVm s.vm).vm.findClass "com/example/patents_via_api/patentsviaapi/http/QueryString" = some m.cls := hown
  have hS0 : s.Since s.vm 0 := (State.WarmedH.refl s).since 0
  have hk0 : 0 ≤ h0.size := Nat.zero_le _
  have hEL : EW Z a0 EL_1 := own_EW hw
  have R0 : CHr Z EL_1 s.vm h0 s.vm h0 := CHr.refl hH
  have D_ : ∀ {i : Nat} {x}, decode prog_16_method_6_code i = x → decode cO.code i = x := fun h => hb hby h
  have W0 : ∀ zQ, SS p e below s₁ m 0 #[.val (.ref q), .val (.ref o), .val (.ref o2), .val (.int (1 : Int32))] [] zQ → Steps p.tables e below (s₁.setTop (entryFrame m #[(.ref q), (.ref o), (.ref o2), (.int (1 : Int32))] 4)) zQ := fun tt kt => castTop (ef_qsApp1 m q o o2 (1 : Int32)) kt
  obtain ⟨n_hE, n_hV, n_hC, n_hA, okn⟩ := (id hS)
  have hA101 : Arv Z h0 u ku .byte (Int32.ofNat cs.length) (l1 cs) (.int (0 : Int32)) := by have q := enc_lat hl; rw [← q.1, ← q.2.1]; exact n_hA
  obtain ⟨v_hE, v_hV, v_hC, v_hA, okv⟩ := (id hS2)
  have hA102 : Arv Z h0 u2 k2 .byte (Int32.ofNat ds.length) (l1 ds) (.int (0 : Int32)) := by have q := enc_lat hl2; rw [← q.1, ← q.2.1]; exact v_hA
  have hut : u ≠ t := own_neA hA101 V1 (by omega) (by omega)
  have hvt : u2 ≠ t := own_neA hA102 V1 (by omega) (by omega)
  obtain ⟨T103, L103, h103, X103, e103, t2_104, kb2_105, N2_106, qs2_107, Nl103, K103, P103_0, P103_1, P103_2, P103_3, P103_4, P103_5, P103_6, P103_7, P103_8, P103_9, P103_10, P103_11, P103_12, st103⟩ := rm_amp hx hZ0 hw hby hml hown0 (by decide) (by decide) (by decide) (by decide) q o o2 (1 : Int32) a t kb N qs nq cS n0 S_cs hcS s₁ _ h0 X0 e0 N0 Z0 O0 Eq Fq E1 F1 F2 F3 V1 E2 hlq okq hq hnq hqN h16 hN g1 g2
  have Sf108 : Safe Z EL_1 s.vm h0 t := own_safeLen hZ0 (own_E16 hw) V1 (by rw [own_cl (by omega)]; omega)
  have R109 : CHr Z EL_1 s.vm h0 s.vm h103 := R0.trans (CHr.keep K103 (sfS (Safe.exa hZ0.alike E1 (by decide) (by decide)) (sfS Sf108 sf0)) R0.1)
  have F110 : Fld Z h103 q "com/example/patents_via_api/patentsviaapi/http/QueryString" "query" "Ljava/lang/StringBuilder;" (.ref a) := (Fq.keep K103 (ninS (Exa.ne Eq E1 (by decide)) (ninS (Exa.ne Eq E2 (by decide)) nin0)))
  obtain ⟨T111, X111, e111, st111⟩ := getF X103 hx hZ0 hown0 (host := "") (Or.inl (w29 hw)) Via.refl e103 F110 (g := (mkF m 21 #[.val (.ref q), .val (.ref o), .val (.ref o2), .val (.int (1 : Int32))] [(.ref q)])) rfl rfl (D_ d52_21)
  obtain ⟨b112, T112, h112, k112, c112, kb112, X112, e112, E112, hS112, hk112, hZ112, hown112, LE112, LC112, LV112, LA112, l1112, l2112, A112, -, sf112, st112⟩ := ldcCH X111 hx hZ0 hown0 (w138 hw) (own_wS hw) e111 hS0 (Nat.le_trans hk0 K103.1) hEL (by decide +kernel) R109.1 (vs := (l1 ([] : List Int32))) (z := (0 : Int32)) (by decide +kernel) (by decide) (by decide) (g := (mkF m 25 #[.val (.ref q), .val (.ref o), .val (.ref o2), .val (.int (1 : Int32))] [(.ref o), (.ref a)])) rfl (D_ d52_25) (n := 0) (by decide) (by decide) (by decide) (by decide)
  have K112 := (Keep.refl h103 []).ext E112
  have R113 : CHr Z EL_1 s.vm h0 T112.vm h112 := R109.trans A112
  have LS112 : Str Z h112 b112 c112 kb112 ([] : List Int32) := ⟨LE112, LV112, LC112, LA112, by decide, by decide⟩
  have LB112 : Exa Z h112 c112 "[B" := own_exaB hZ112.alike sf112 LA112
  have F114 : Exa Z h112 q "com/example/patents_via_api/patentsviaapi/http/QueryString" := ((Eq.keep K103).keep K112)
  have F115 : Exa Z h112 a "java/lang/StringBuilder" := ((E1.keep K103).keep K112)
  have Sf116 : Safe Z EL_1 T112.vm h112 t := (CHr.safe A112 (Nat.lt_of_lt_of_le V1.lt K103.1) (Safe.keep K103 (sfS (Safe.exa hZ0.alike E1 (by decide) (by decide)) (sfS Sf108 sf0)) R0.1 Sf108))
  have F118 : Arv Z h112 t2_104 kb2_105 .byte (Int32.ofNat N2_106) (l1 qs2_107) (.int (0 : Int32)) := (P103_3.keep K112 nin0)
  have Sf117 : Safe Z EL_1 T112.vm h112 t2_104 := own_safeLen hZ112 (own_E16 hw) F118 (by rw [own_cl (by omega)]; omega)
  have F119 : Str Z h112 o u ku cs := ((hS.keep K103 (ninS (Exa.ne n_hE E1 (by decide)) (ninS (Exa.ne n_hE E2 (by decide)) nin0)) (ninS (Exa.ne Eu E1 (by decide)) (ninS hut nin0))).keep K112 nin0 nin0)
  have F120 : Exa Z h112 u "[B" := ((Eu.keep K103).keep K112)
  have O121 : Old Z n0 h112 := ((O0.keep K103 (allS g1 (allS g2 all0))).keep K112 all0)
  have z123 : n0 ≤ h112.size := (Nat.le_trans Z0 (Nat.le_trans K103.1 K112.1))
  obtain ⟨_, _, ⟨T122, L122, k122, n122⟩, -, X122, ⟨Lc122, hQ122, l122, y122, z122⟩, st122⟩ := Jvm.LawKit.callS X112 hx (y := yn46) hown112 (mvT hZ112 (w141 hw)) (mvT hZ112 (w142 hw)) (mvT hZ112 (w143 hw)) (mvT hZ112 (w144 hw)) (by decide) (backOf (W := 1) (rm_pencode l Z a0 hw [] o b112 u ku cs c112 kb112 ([] : List Int32) cS u8 hd kh h112 n0 z123 O121 S_cs hcS S_ui S_u8 S_hx V_hx F119 F120 hl hc1 LS112 (by first | decide | omega | (simp only [List.length_append, List.length_singleton, List.length_cons, List.length_nil]; omega) : lat ([] : List Int32) = true) (by first | decide | omega | (simp only [List.length_append, List.length_singleton, List.length_cons, List.length_nil]; omega) : ([] : List Int32).length ≤ 16)) hZ112 (w144 hw) (w143 hw) (by decide) (by decide)) (g := (mkF m 27 #[.val (.ref q), .val (.ref o), .val (.ref o2), .val (.int (1 : Int32))] [(.ref b112), (.ref o), (.ref a)])) rfl (by rw [hml]; rfl) (argsL := [(.ref o), (.ref b112)]) (rest := [(.ref a)]) (lenOf pd33 rfl) rfl (wq rfl) (D_ d52_27) (fun _ _ => ⟨rfl, e112, (nb rfl), (nb rfl)⟩)
  dsimp only [Pt.U, Pt.locs, Pt.cells, Pt.slots] at X122 l122 y122 z122 st122 hQ122
  subst l122 y122 z122
  obtain ⟨r_124, t2_125, kb2_126, es_127, rfl, Nq122, K122, P122_0, P122_1, P122_2, P122_3, P122_4⟩ := hQ122
  have N122 := Fr.app Nl103 Nq122
  have R128 : CHr Z EL_1 s.vm h0 T112.vm T122.heap := R113.trans (CHr.keep K122 sf0 R113.1)
  have F129 : Exa Z T122.heap a "java/lang/StringBuilder" := (F115.keep K122)
  have F130 : Fld Z T122.heap a "java/lang/AbstractStringBuilder" "value" "[B" (.ref t2_104) := ((P103_0.keep K112 nin0).keep K122 nin0)
  have F131 : Fld Z T122.heap a "java/lang/AbstractStringBuilder" "coder" "B" (.int (0 : Int32)) := ((P103_1.keep K112 nin0).keep K122 nin0)
  have F132 : Fld Z T122.heap a "java/lang/AbstractStringBuilder" "count" "I" (.int (Int32.ofNat qs2_107.length)) := ((P103_2.keep K112 nin0).keep K122 nin0)
  have F133 : Arv Z T122.heap t2_104 kb2_105 .byte (Int32.ofNat N2_106) (l1 qs2_107) (.int (0 : Int32)) := (F118.keep K122 nin0)
  have F134 : Exa Z T122.heap t2_104 "[B" := ((P103_4.keep K112).keep K122)
  have ne135 : t2_125 ≠ t2_104 := (Ne.symm (Nat.ne_of_lt (Nat.lt_of_lt_of_le (Nat.lt_of_lt_of_le P103_3.lt K112.1) P122_1)))
  have O136 : Old Z n0 T122.heap := (O121.keep K122 all0)
  obtain ⟨cq137, kq137, q137a, q137b, q137c⟩ := isOf hZ112 rfl F129
  obtain ⟨_, _, ⟨T137, L137, k137, n137⟩, -, X137, ⟨Lc137, hQ137, l137, y137, z137⟩, st137⟩ := X122.virtualBack hx (y := yn21) (z := yn21) hown112 (mvT hZ112 (w252 hw)) (mvT hZ112 (w253 hw)) (notFace_of_selects (args := #[]) (mvT hZ112 (w255 hw))) (mvT hZ112 (w255 hw)) (mvT hZ112 (w254 hw)) (by decide) (backOf (W := 0) (rm_sbAppS l Z a0 hw [] a r_124 t2_125 kb2_126 es_127 t2_104 kb2_105 N2_106 qs2_107 cS T122.heap n0 (Nat.le_trans z123 K122.1) O136 S_cs hcS F129 F130 F131 F132 P122_2 P122_3 F133 F134 (by first | decide | omega | (simp only [List.length_append, List.length_singleton, List.length_cons, List.length_nil]; omega) : qs2_107.length + es_127.length ≤ 42) P103_6 P103_8 g1 P103_11 ne135) hZ112 (w256 hw) (w11 hw) (by decide) (by decide)) q137a q137c (g := (mkF m 30 #[.val (.ref q), .val (.ref o), .val (.ref o2), .val (.int (1 : Int32))] [(.ref r_124), (.ref a)])) rfl (by rw [hml]; rfl) (Steps.refl _) (argsL := [(.ref r_124)]) (rest := []) (lenOf pd34 rfl) rfl (wq rfl) (D_ d52_30) (fun _ _ => ⟨rfl, rfl, (nb rfl), (nb rfl)⟩)
  dsimp only [Pt.U, Pt.locs, Pt.cells, Pt.slots] at X137 l137 y137 z137 st137 hQ137
  subst l137 y137 z137
  obtain ⟨t2_138, kb2_139, N2_140, rfl, Nq137, K137, P137_0, P137_1, P137_2, P137_3, P137_4, P137_5, P137_6, P137_7, P137_8, P137_9⟩ := hQ137
  have N137 := Fr.app N122 Nq137
  have Sf141 : Safe Z EL_1 T112.vm T122.heap t2_104 := (Safe.keep K122 sf0 R113.1 Sf117)
  have R142 : CHr Z EL_1 s.vm h0 T112.vm T137.heap := R128.trans (CHr.keep K137 (sfS (Safe.exa hZ112.alike F129 (by decide) (by decide)) (sfS Sf141 sf0)) R128.1)
  have F143 : Fld Z T137.heap q "com/example/patents_via_api/patentsviaapi/http/QueryString" "query" "Ljava/lang/StringBuilder;" (.ref a) := (((F110.keep K112 nin0).keep K122 nin0).keep K137 (ninS (Exa.ne Eq E1 (by decide)) (ninS (own_alne P103_12 Eq.lt (Exa.ne Eq E2 (by decide))) nin0)))
  obtain ⟨T144, X144, e144, st144⟩ := getF X137 hx hZ112 hown112 (host := "") (Or.inl (w29 hw)) Via.refl rfl F143 (g := (mkF m 35 #[.val (.ref q), .val (.ref o), .val (.ref o2), .val (.int (1 : Int32))] [(.ref q)])) rfl rfl (D_ d52_35)
  have F145 : Exa Z T137.heap a "java/lang/StringBuilder" := (F129.keep K137)
  have O146 : Old Z n0 T137.heap := (O136.keep K137 (allS g1 (allS P103_11 all0)))
  have z148 : n0 ≤ T137.heap.size := (Nat.le_trans z123 (Nat.le_trans K122.1 K137.1))
  obtain ⟨cq147, kq147, q147a, q147b, q147c⟩ := isOf hZ112 e144 F145
  obtain ⟨_, _, ⟨T147, L147, k147, n147⟩, -, X147, ⟨Lc147, hQ147, l147, y147, z147⟩, st147⟩ := X144.virtualBack hx (y := yn16) (z := yn16) hown112 (mvT hZ112 (w279 hw)) (mvT hZ112 (w219 hw)) (notFace_of_selects (args := #[]) (mvT hZ112 (w221 hw))) (mvT hZ112 (w221 hw)) (mvT hZ112 (w220 hw)) (by decide) (backOf (W := 0) (rm_sbAppC42 l Z a0 hw [] a (61 : Int32) t2_138 kb2_139 N2_140 (qs2_107 ++ es_127) cS T137.heap n0 z148 O146 S_cs hcS F145 P137_0 P137_1 P137_2 P137_3 P137_4 (by first | decide | omega | (simp only [List.length_append, List.length_singleton, List.length_cons, List.length_nil]; omega) : ¬ ((255 : Int32) < (61 : Int32))) (by first | decide | omega | (simp only [List.length_append, List.length_singleton, List.length_cons, List.length_nil]; omega) : (qs2_107 ++ es_127).length < 42) P137_5 P137_6 g1 P137_8) hZ112 (w222 hw) (w11 hw) (by decide) (by decide)) q147a q147c (g := (mkF m 40 #[.val (.ref q), .val (.ref o), .val (.ref o2), .val (.int (1 : Int32))] [(.int (61 : Int32)), (.ref a)])) rfl (by rw [hml]; rfl) (Steps.refl _) (argsL := [(.int (61 : Int32))]) (rest := []) (lenOf pd28 rfl) rfl (wq rfl) (D_ d52_40) (fun _ _ => ⟨rfl, e144, (nb rfl), (nb rfl)⟩)
  dsimp only [Pt.U, Pt.locs, Pt.cells, Pt.slots] at X147 l147 y147 z147 st147 hQ147
  subst l147 y147 z147
  obtain ⟨t2_149, kb2_150, N2_151, rfl, Nq147, K147, P147_0, P147_1, P147_2, P147_3, P147_4, P147_5, P147_6, P147_7, P147_8, P147_9⟩ := hQ147
  have N147 := Fr.app N137 Nq147
  have Sf152 : Safe Z EL_1 T112.vm T137.heap t2_138 := own_safeLen hZ112 (own_E16 hw) P137_3 (by rw [own_cl (by omega)]; omega)
  have R153 : CHr Z EL_1 s.vm h0 T112.vm T147.heap := R142.trans (CHr.keep K147 (sfS (Safe.exa hZ112.alike F145 (by decide) (by decide)) (sfS Sf152 sf0)) R142.1)
  have ne154 : q ≠ t2_138 := (own_alne P137_9 (Nat.lt_of_lt_of_le Eq.lt (Nat.le_trans (Nat.le_trans K103.1 K112.1) K122.1)) (own_alne P103_12 Eq.lt (Exa.ne Eq E2 (by decide))))
  have F155 : Fld Z T147.heap q "com/example/patents_via_api/patentsviaapi/http/QueryString" "query" "Ljava/lang/StringBuilder;" (.ref a) := (F143.keep K147 (ninS (Exa.ne Eq E1 (by decide)) (ninS ne154 nin0)))
  obtain ⟨T156, X156, e156, st156⟩ := getF X147 hx hZ112 hown112 (host := "") (Or.inl (w29 hw)) Via.refl rfl F155 (g := (mkF m 45 #[.val (.ref q), .val (.ref o), .val (.ref o2), .val (.int (1 : Int32))] [(.ref q)])) rfl rfl (D_ d52_45)
  obtain ⟨b157, T157, h157, k157, c157, kb157, X157, e157, E157, hS157, hk157, hZ157, hown157, LE157, LC157, LV157, LA157, l1157, l2157, A157, -, sf157, st157⟩ := ldcCH X156 hx hZ112 hown112 (w280 hw) (own_wS hw) e156 hS112 (Nat.le_trans hk112 (Nat.le_trans (Nat.le_trans K122.1 K137.1) K147.1)) hEL (by decide +kernel) R153.1 (vs := (l1 ([(58 : Int32), (64 : Int32), (47 : Int32), (63 : Int32), (33 : Int32), (36 : Int32), (39 : Int32), (40 : Int32), (41 : Int32), (42 : Int32), (44 : Int32)] : List Int32))) (z := (11 : Int32)) (by decide +kernel) (by decide) (by decide) (g := (mkF m 53 #[.val (.ref q), .val (.ref o), .val (.ref o2), .val (.int (1 : Int32))] [(.ref o2), (.ref a)])) rfl (D_ d52_53) (n := 44) (by decide) (by decide) (by decide) (by decide)
  have K157 := (Keep.refl T147.heap []).ext E157
  have R158 : CHr Z EL_1 s.vm h0 T157.vm h157 := R153.trans A157
  have LS157 : Str Z h157 b157 c157 kb157 ([(58 : Int32), (64 : Int32), (47 : Int32), (63 : Int32), (33 : Int32), (36 : Int32), (39 : Int32), (40 : Int32), (41 : Int32), (42 : Int32), (44 : Int32)] : List Int32) := ⟨LE157, LV157, LC157, LA157, by decide, by decide⟩
  have LB157 : Exa Z h157 c157 "[B" := own_exaB hZ157.alike sf157 LA157
  have F159 : Exa Z h157 q "com/example/patents_via_api/patentsviaapi/http/QueryString" := ((((F114.keep K122).keep K137).keep K147).keep K157)
  have F160 : Exa Z h157 a "java/lang/StringBuilder" := ((F145.keep K147).keep K157)
  have Sf161 : Safe Z EL_1 T157.vm h157 t := (CHr.safe A157 (Nat.lt_of_lt_of_le V1.lt (Nat.le_trans (Nat.le_trans (Nat.le_trans (Nat.le_trans K103.1 K112.1) K122.1) K137.1) K147.1)) (Safe.keep K147 (sfS (Safe.exa hZ112.alike F145 (by decide) (by decide)) (sfS Sf152 sf0)) R142.1 (Safe.keep K137 (sfS (Safe.exa hZ112.alike F129 (by decide) (by decide)) (sfS Sf141 sf0)) R128.1 (Safe.keep K122 sf0 R113.1 Sf116))))
  have Sf162 : Safe Z EL_1 T157.vm h157 t2_104 := (CHr.safe A157 (Nat.lt_of_lt_of_le P103_3.lt (Nat.le_trans (Nat.le_trans (Nat.le_trans K112.1 K122.1) K137.1) K147.1)) (Safe.keep K147 (sfS (Safe.exa hZ112.alike F145 (by decide) (by decide)) (sfS Sf152 sf0)) R142.1 (Safe.keep K137 (sfS (Safe.exa hZ112.alike F129 (by decide) (by decide)) (sfS Sf141 sf0)) R128.1 Sf141)))
  have Sf163 : Safe Z EL_1 T157.vm h157 r_124 := (CHr.safe A157 (Nat.lt_of_lt_of_le P122_2.lt (Nat.le_trans K137.1 K147.1)) (Safe.keep K147 (sfS (Safe.exa hZ112.alike F145 (by decide) (by decide)) (sfS Sf152 sf0)) R142.1 (Safe.keep K137 (sfS (Safe.exa hZ112.alike F129 (by decide) (by decide)) (sfS Sf141 sf0)) R128.1 (Safe.keep K122 sf0 R113.1 (Safe.new P122_0)))))
  have Sf164 : Safe Z EL_1 T157.vm h157 t2_125 := (CHr.safe A157 (Nat.lt_of_lt_of_le P122_2.lt2 (Nat.le_trans K137.1 K147.1)) (Safe.keep K147 (sfS (Safe.exa hZ112.alike F145 (by decide) (by decide)) (sfS Sf152 sf0)) R142.1 (Safe.keep K137 (sfS (Safe.exa hZ112.alike F129 (by decide) (by decide)) (sfS Sf141 sf0)) R128.1 (Safe.keep K122 sf0 R113.1 (Safe.new P122_1)))))
  have Sf165 : Safe Z EL_1 T157.vm h157 t2_138 := (CHr.safe A157 (Nat.lt_of_lt_of_le P137_3.lt K147.1) (Safe.keep K147 (sfS (Safe.exa hZ112.alike F145 (by decide) (by decide)) (sfS Sf152 sf0)) R142.1 Sf152))
  have F167 : Arv Z h157 t2_149 kb2_150 .byte (Int32.ofNat N2_151) (l1 ((qs2_107 ++ es_127) ++ [(61 : Int32)])) (.int (0 : Int32)) := (P147_3.keep K157 nin0)
  have Sf166 : Safe Z EL_1 T157.vm h157 t2_149 := own_safeLen hZ157 (own_E16 hw) F167 (by rw [own_cl (by omega)]; omega)
  have ne168 : o2 ≠ t2_138 := (own_alne P137_9 (Nat.lt_of_lt_of_le hS2.lt (Nat.le_trans (Nat.le_trans K103.1 K112.1) K122.1)) (own_alne P103_12 hS2.lt (Exa.ne v_hE E2 (by decide))))
  have ne169 : u2 ≠ t2_138 := (own_alne P137_9 (Nat.lt_of_lt_of_le hS2.lt2 (Nat.le_trans (Nat.le_trans K103.1 K112.1) K122.1)) (own_alne P103_12 hS2.lt2 hvt))
  have F170 : Str Z h157 o2 u2 k2 ds := ((((((hS2.keep K103 (ninS (Exa.ne v_hE E1 (by decide)) (ninS (Exa.ne v_hE E2 (by decide)) nin0)) (ninS (Exa.ne Eu2 E1 (by decide)) (ninS hvt nin0))).keep K112 nin0 nin0).keep K122 nin0 nin0).keep K137 (ninS (Exa.ne v_hE E1 (by decide)) (ninS (own_alne P103_12 hS2.lt (Exa.ne v_hE E2 (by decide))) nin0)) (ninS (Exa.ne Eu2 E1 (by decide)) (ninS (own_alne P103_12 hS2.lt2 hvt) nin0))).keep K147 (ninS (Exa.ne v_hE E1 (by decide)) (ninS ne168 nin0)) (ninS (Exa.ne Eu2 E1 (by decide)) (ninS ne169 nin0))).keep K157 nin0 nin0)
  have F171 : Exa Z h157 u2 "[B" := ((((((Eu2.keep K103).keep K112).keep K122).keep K137).keep K147).keep K157)
  have O172 : Old Z n0 h157 := ((O146.keep K147 (allS g1 (allS P137_8 all0))).keep K157 all0)
  have z174 : n0 ≤ h157.size := (Nat.le_trans z148 (Nat.le_trans K147.1 K157.1))
  obtain ⟨_, _, ⟨T173, L173, k173, n173⟩, -, X173, ⟨Lc173, hQ173, l173, y173, z173⟩, st173⟩ := Jvm.LawKit.callS X157 hx (y := yn46) hown157 (mvT hZ157 (w141 hw)) (mvT hZ157 (w142 hw)) (mvT hZ157 (w143 hw)) (mvT hZ157 (w144 hw)) (by decide) (backOf (W := 1) (rm_pencode l Z a0 hw [] o2 b157 u2 k2 ds c157 kb157 ([(58 : Int32), (64 : Int32), (47 : Int32), (63 : Int32), (33 : Int32), (36 : Int32), (39 : Int32), (40 : Int32), (41 : Int32), (42 : Int32), (44 : Int32)] : List Int32) cS u8 hd kh h157 n0 z174 O172 S_cs hcS S_ui S_u8 S_hx V_hx F170 F171 hl2 hd1 LS157 (by first | decide | omega | (simp only [List.length_append, List.length_singleton, List.length_cons, List.length_nil]; omega) : lat ([(58 : Int32), (64 : Int32), (47 : Int32), (63 : Int32), (33 : Int32), (36 : Int32), (39 : Int32), (40 : Int32), (41 : Int32), (42 : Int32), (44 : Int32)] : List Int32) = true) (by first | decide | omega | (simp only [List.length_append, List.length_singleton, List.length_cons, List.length_nil]; omega) : ([(58 : Int32), (64 : Int32), (47 : Int32), (63 : Int32), (33 : Int32), (36 : Int32), (39 : Int32), (40 : Int32), (41 : Int32), (42 : Int32), (44 : Int32)] : List Int32).length ≤ 16)) hZ157 (w144 hw) (w143 hw) (by decide) (by decide)) (g := (mkF m 60 #[.val (.ref q), .val (.ref o), .val (.ref o2), .val (.int (1 : Int32))] [(.ref b157), (.ref o2), (.ref a)])) rfl (by rw [hml]; rfl) (argsL := [(.ref o2), (.ref b157)]) (rest := [(.ref a)]) (lenOf pd33 rfl) rfl (wq rfl) (D_ d52_60) (fun _ _ => ⟨rfl, e157, (nb rfl), (by dsimp only [Pt.slots]; omega)⟩)
  dsimp only [Pt.U, Pt.locs, Pt.cells, Pt.slots] at X173 l173 y173 z173 st173 hQ173
  subst l173 y173 z173
  obtain ⟨r_175, t2_176, kb2_177, es_178, rfl, Nq173, K173, P173_0, P173_1, P173_2, P173_3, P173_4⟩ := hQ173
  have N173 := Fr.app N147 Nq173
  have R179 : CHr Z EL_1 s.vm h0 T157.vm T173.heap := R158.trans (CHr.keep K173 sf0 R158.1)
  have F180 : Exa Z T173.heap a "java/lang/StringBuilder" := (F160.keep K173)
  have F181 : Fld Z T173.heap a "java/lang/AbstractStringBuilder" "value" "[B" (.ref t2_149) := ((P147_0.keep K157 nin0).keep K173 nin0)
  have F182 : Fld Z T173.heap a "java/lang/AbstractStringBuilder" "coder" "B" (.int (0 : Int32)) := ((P147_1.keep K157 nin0).keep K173 nin0)
  have F183 : Fld Z T173.heap a "java/lang/AbstractStringBuilder" "count" "I" (.int (Int32.ofNat ((qs2_107 ++ es_127) ++ [(61 : Int32)]).length)) := ((P147_2.keep K157 nin0).keep K173 nin0)
  have F184 : Arv Z T173.heap t2_149 kb2_150 .byte (Int32.ofNat N2_151) (l1 ((qs2_107 ++ es_127) ++ [(61 : Int32)])) (.int (0 : Int32)) := (F167.keep K173 nin0)
  have F185 : Exa Z T173.heap t2_149 "[B" := ((P147_4.keep K157).keep K173)
  have ne186 : t2_176 ≠ t2_149 := (Ne.symm (Nat.ne_of_lt (Nat.lt_of_lt_of_le (Nat.lt_of_lt_of_le P147_3.lt K157.1) P173_1)))
  have O187 : Old Z n0 T173.heap := (O172.keep K173 all0)
  obtain ⟨cq188, kq188, q188a, q188b, q188c⟩ := isOf hZ157 rfl F180
  obtain ⟨_, _, ⟨T188, L188, k188, n188⟩, -, X188, ⟨Lc188, hQ188, l188, y188, z188⟩, st188⟩ := X173.virtualBack hx (y := yn21) (z := yn21) hown157 (mvT hZ157 (w252 hw)) (mvT hZ157 (w253 hw)) (notFace_of_selects (args := #[]) (mvT hZ157 (w255 hw))) (mvT hZ157 (w255 hw)) (mvT hZ157 (w254 hw)) (by decide) (backOf (W := 0) (rm_sbAppS l Z a0 hw [] a r_175 t2_176 kb2_177 es_178 t2_149 kb2_150 N2_151 ((qs2_107 ++ es_127) ++ [(61 : Int32)]) cS T173.heap n0 (Nat.le_trans z174 K173.1) O187 S_cs hcS F180 F181 F182 F183 P173_2 P173_3 F184 F185 (by first | decide | omega | (simp only [List.length_append, List.length_singleton, List.length_cons, List.length_nil]; omega) : ((qs2_107 ++ es_127) ++ [(61 : Int32)]).length + es_178.length ≤ 42) P147_5 P147_6 g1 P147_8 ne186) hZ157 (w256 hw) (w11 hw) (by decide) (by decide)) q188a q188c (g := (mkF m 63 #[.val (.ref q), .val (.ref o), .val (.ref o2), .val (.int (1 : Int32))] [(.ref r_175), (.ref a)])) rfl (by rw [hml]; rfl) (Steps.refl _) (argsL := [(.ref r_175)]) (rest := []) (lenOf pd34 rfl) rfl (wq rfl) (D_ d52_63) (fun _ _ => ⟨rfl, rfl, (nb rfl), (by dsimp only [Pt.slots]; omega)⟩)
  dsimp only [Pt.U, Pt.locs, Pt.cells, Pt.slots] at X188 l188 y188 z188 st188 hQ188
  subst l188 y188 z188
  obtain ⟨t2_189, kb2_190, N2_191, rfl, Nq188, K188, P188_0, P188_1, P188_2, P188_3, P188_4, P188_5, P188_6, P188_7, P188_8, P188_9⟩ := hQ188
  have N188 := Fr.app N173 Nq188
  have Sf192 : Safe Z EL_1 T157.vm T173.heap t2_149 := (Safe.keep K173 sf0 R158.1 Sf166)
  have R193 : CHr Z EL_1 s.vm h0 T157.vm T188.heap := R179.trans (CHr.keep K188 (sfS (Safe.exa hZ157.alike F180 (by decide) (by decide)) (sfS Sf192 sf0)) R179.1)
  have W194 : ∀ zQ, SS p e below T188 m 68 #[.val (.ref q), .val (.ref o), .val (.ref o2), .val (.int (1 : Int32))] [(.ref q)] zQ → Steps p.tables e below (s₁.setTop (entryFrame m #[(.ref q), (.ref o), (.ref o2), (.int (1 : Int32))] 4)) zQ := by
    intro tt kt
    refine W0 tt ?_
    refine st103 _ ?_
    refine XS.aloadN X103.here hx rfl (D_ d52_20) rfl rfl ?_
    refine st111 _ ?_
    refine XS.aloadN X111.here hx rfl (D_ d52_24) rfl rfl ?_
    refine st112 _ ?_
    refine st122 _ ?_
    refine st137.trans ?_
    refine XS.pop X137.here hx rfl (D_ d52_33) rfl rfl ?_
    refine XS.aloadN X137.here hx rfl (D_ d52_34) rfl rfl ?_
    refine st144 _ ?_
    refine XS.bipush X144.here hx rfl (D_ d52_38) ?_
    refine st147.trans ?_
    refine XS.pop X147.here hx rfl (D_ d52_43) rfl rfl ?_
    refine XS.aloadN X147.here hx rfl (D_ d52_44) rfl rfl ?_
    refine st156 _ ?_
    refine XS.aloadN X156.here hx rfl (D_ d52_48) rfl rfl ?_
    refine XS.iloadN X156.here hx rfl (D_ d52_49) rfl ?_
    refine XS.ifNo X156.here hx rfl (D_ d52_50) rfl ((if0 _ _).trans (feq (by decide)).1) ?_
    refine st157 _ ?_
    refine XS.goto X157.here hx rfl (pc0 := 55) (pc' := 60) rfl (D_ d52_55) (by decide) (by decide) ?_
    refine st173 _ ?_
    refine st188.trans ?_
    refine XS.pop X188.here hx rfl (D_ d52_66) rfl rfl ?_
    refine XS.aloadN X188.here hx rfl (D_ d52_67) rfl rfl ?_
    exact kt
  obtain ⟨fs, hr, hrun, hended, hRW⟩ := Jvm.Stand.leaveW X188 hS157 (Nat.le_trans hk157 (Nat.le_trans K173.1 K188.1)) (v := some (.ref q)) (fun h => by rw [Bd.returns] at h; cases h) (BodyLoose.notSynchronized Bd)
  refine ⟨_, _, W194 _ (own_retR X188 hx Bd.returns rfl rfl (D_ d52_68) hr), hrun, hended, _, _, rfl, ?_, own_chr (T := T188) R193 (CHv.at X188 hZ157 hEL R193.1) hh.symm rfl, own_rw hRW (by decide) (by decide)⟩
  show Q_qsApp1 Z q o o2 a t kb N qs nq u ku cs u2 k2 ds cS u8 hd kh h0 n0 _ T188.heap _
  exact ⟨t2_189, kb2_190, N2_191, (((qs2_107 ++ es_127) ++ [(61 : Int32)]) ++ es_178), rfl, N188, (Keep.trans (Keep.trans (Keep.trans (Keep.trans (Keep.trans (Keep.trans (Keep.trans (Keep.trans (Keep.refl h0 [a, t]) K103 (allS (Or.inl (List.mem_of_getElem? (i := 0) rfl)) (allS (Or.inl (List.mem_of_getElem? (i := 1) rfl)) all0))) K112 all0) K122 all0) K137 (allS (Or.inl (List.mem_of_getElem? (i := 0) rfl)) (allS (own_alke P103_12 (Or.inl (List.mem_of_getElem? (i := 1) rfl)) (Nat.le_refl _)) all0))) K147 (allS (Or.inl (List.mem_of_getElem? (i := 0) rfl)) (allS (own_alke P137_9 (own_alke P103_12 (Or.inl (List.mem_of_getElem? (i := 1) rfl)) (Nat.le_refl _)) (Nat.le_trans (Nat.le_trans K103.1 K112.1) K122.1)) all0))) K157 all0) K173 all0) K188 (allS (Or.inl (List.mem_of_getElem? (i := 0) rfl)) (allS (own_alke P147_9 (own_alke P137_9 (own_alke P103_12 (Or.inl (List.mem_of_getElem? (i := 1) rfl)) (Nat.le_refl _)) (Nat.le_trans (Nat.le_trans K103.1 K112.1) K122.1)) (Nat.le_trans (Nat.le_trans (Nat.le_trans K103.1 K112.1) K122.1) K137.1)) all0))), P188_0, P188_1, P188_2, P188_3, P188_4, (lat_app (lat_snoc (lat_app P103_9 P122_3) (by decide)) P173_3), (own_okapp (own_okapp (own_okapp P103_10 P122_2.2.2.2.2 (by first | omega | (simp only [List.length_append, List.length_singleton]; omega))) (own_ok1 (by decide) (by decide)) (by first | omega | (simp only [List.length_append, List.length_singleton]; omega))) P173_2.2.2.2.2 (by first | omega | (simp only [List.length_append, List.length_singleton]; omega))), (by first | decide | omega | (simp only [List.length_append, List.length_singleton, List.length_cons, List.length_nil]; omega) : (((qs2_107 ++ es_127) ++ [(61 : Int32)]) ++ es_178).length ≤ (nq + 14)), (by first | decide | omega | (simp only [List.length_append, List.length_singleton, List.length_cons, List.length_nil]; omega) : 0 < (((qs2_107 ++ es_127) ++ [(61 : Int32)]) ++ es_178).length), P188_5, (by first | decide | omega | (simp only [List.length_append, List.length_singleton, List.length_cons, List.length_nil]; omega) : 16 ≤ N2_191), P188_6, P188_8, (own_altr P188_9 (own_altr P147_9 (own_altr P137_9 (own_altr P103_12 (Or.inl rfl) (Nat.le_refl _)) (Nat.le_trans (Nat.le_trans K103.1 K112.1) K122.1)) (Nat.le_trans (Nat.le_trans (Nat.le_trans K103.1 K112.1) K122.1) K137.1)) (Nat.le_trans (Nat.le_trans (Nat.le_trans (Nat.le_trans (Nat.le_trans (Nat.le_trans K103.1 K112.1) K122.1) K137.1) K147.1) K157.1) K173.1))⟩
def Q_addR (Z : State) (q : Addr) (o : Addr) (o2 : Addr) (a : Addr) (t : Addr) (kb : ClassId) (N : Nat) (qs : List Int32) (nq : Nat) (u : Addr) (ku : ClassId) (cs : List Int32) (u2 : Addr) (k2 : ClassId) (ds : List Int32) (cS : Int32) (u8 : Addr) (hd : Addr) (kh : ClassId) (h0 : Heap) (n0 : Nat) (vQ_ : Option Value) (hQ_ : Heap) (LQ_ : List Loc) : Prop := ∃ t2 : Addr, ∃ kb2 : ClassId, ∃ N2 : Nat, ∃ qs2 : List Int32, vQ_ = some (.ref q) ∧ Fr n0 LQ_ ∧ Keep h0 hQ_ [a, t] ∧ Fld Z hQ_ a "java/lang/AbstractStringBuilder" "value" "[B" (.ref t2) ∧ Fld Z hQ_ a "java/lang/AbstractStringBuilder" "coder" "B" (.int (0 : Int32)) ∧ Fld Z hQ_ a "java/lang/AbstractStringBuilder" "count" "I" (.int (Int32.ofNat qs2.length)) ∧ Arv Z hQ_ t2 kb2 .byte (Int32.ofNat N2) (l1 qs2) (.int (0 : Int32)) ∧ Exa Z hQ_ t2 "[B" ∧ lat qs2 = true ∧ OkS qs2 ∧ qs2.length ≤ (nq + 14) ∧ 0 < qs2.length ∧ qs2.length ≤ N2 ∧ 16 ≤ N2 ∧ N2 ≤ 84 ∧ n0 ≤ t2 ∧ (t2 = t ∨ h0.size ≤ t2)
theorem rm_addR (l : Launch) (Z : State) (a0 : Array Value) (hw : HW a0 Z) (ws : List Jvm.Cond) (q : Addr) (o : Addr) (o2 : Addr) (a : Addr) (t : Addr) (kb : ClassId) (N : Nat) (qs : List Int32) (nq : Nat) (u : Addr) (ku : ClassId) (cs : List Int32) (u2 : Addr) (k2 : ClassId) (ds : List Int32) (cS : Int32) (u8 : Addr) (hd : Addr) (kh : ClassId) (h0 : Heap) (n0 : Nat) (Z0 : n0 ≤ h0.size) (O0 : Old Z n0 h0) (S_cs : Sta Z Z.heap "java/lang/String" "COMPACT_STRINGS" "Z" (.int cS)) (hcS : ¬ (cS = (0 : Int32))) (S_ui : Sta Z Z.heap "sun/nio/cs/UTF_8" "INSTANCE" "Lsun/nio/cs/UTF_8;" (.ref u8)) (S_u8 : Sta Z Z.heap "java/nio/charset/StandardCharsets" "UTF_8" "Ljava/nio/charset/Charset;" (.ref u8)) (S_hx : Sta Z Z.heap "com/example/patents_via_api/patentsviaapi/http/PercentEncoding" "HEX_DIGITS" "[C" (.ref hd)) (V_hx : Arv Z Z.heap hd kh .char (16 : Int32) (hexL.map Value.int) (.int (0 : Int32))) (Eq : Exa Z h0 q "com/example/patents_via_api/patentsviaapi/http/QueryString") (Fq : Fld Z h0 q "com/example/patents_via_api/patentsviaapi/http/QueryString" "query" "Ljava/lang/StringBuilder;" (.ref a)) (E1 : Exa Z h0 a "java/lang/StringBuilder") (F1 : Fld Z h0 a "java/lang/AbstractStringBuilder" "value" "[B" (.ref t)) (F2 : Fld Z h0 a "java/lang/AbstractStringBuilder" "coder" "B" (.int (0 : Int32))) (F3 : Fld Z h0 a "java/lang/AbstractStringBuilder" "count" "I" (.int (Int32.ofNat qs.length))) (V1 : Arv Z h0 t kb .byte (Int32.ofNat N) (l1 qs) (.int (0 : Int32))) (E2 : Exa Z h0 t "[B") (hlq : lat qs = true) (okq : OkS qs) (hq : qs.length ≤ nq) (hnq : nq ≤ 28) (hqN : qs.length ≤ N) (h16 : 16 ≤ N) (hN : N ≤ 84) (g1 : n0 ≤ a) (g2 : n0 ≤ t) (hS : Str Z h0 o u ku cs) (Eu : Exa Z h0 u "[B") (hl : lat cs = true) (hc1 : cs.length ≤ 1) (hS2 : Str Z h0 o2 u2 k2 ds) (Eu2 : Exa Z h0 u2 "[B") (hl2 : lat ds = true) (hd1 : ds.length ≤ 1) :
    MetFree l yn54 (head1 (Jvm.Cond.code yn54 prog_16_method_3_code 3 (some (.object "com/example/patents_via_api/patentsviaapi/http/QueryString")) :: ws) (⟨8, 30, 752, 172⟩ : Room)) (fun aQ_ UQ => aQ_ = #[(.ref q), (.ref o), (.ref o2)] ∧ Z.Warmed39 UQ.vm ∧ UQ.heap = h0 ∧ CHv Z EL_1 UQ.vm h0) (fun _ _ _ _ _ => True) (fun _ UQ oQ UQ' => ∃ vQ_ LQ_, oQ = .returned vQ_ ∧ Q_addR Z q o o2 a t kb N qs nq u ku cs u2 k2 ds cS u8 hd kh h0 n0 vQ_ UQ'.heap LQ_ ∧ CHr Z EL_1 UQ.vm UQ.heap UQ'.vm UQ'.heap ∧ ReturnedEndW UQ oQ UQ' LQ_ (⟨8, 30, 752, 172⟩ : Room).cells (⟨8, 30, 752, 172⟩ : Room).slots) := by
  refine MetFree.of_bodySF (plainFor_of_name pn_com_example_patents_via_api_patentsviaapi_http_QueryString) hisR ?_
  intro p e s m args below meth cO s₁ Bd hml hP hK
  obtain ⟨rfl, hZ, hh, hH⟩ := hP
  have hx := Bd.exec
  have hby := Bd.bytes
  have hown : s.vm.findClass "com/example/patents_via_api/patentsviaapi/http/QueryString" = some m.cls := findClass_of_methodNamed Bd.named
  have hnm := (name_of_methodNamed Bd.named Bd.method).1
  have X0 : Stand p l e (⟨8, 30, 752, 172⟩ : Room) (s.setVm s.vm) m #[(.ref q), (.ref o), (.ref o2)] below meth cO s₁ [] 0 0 := Stand.of_body Bd
  have e0 : s₁.heap = h0 := by rw [← hh, Bd.state]; rfl
  have N0 := Fr.nil n0
  have hZ0 : Z.Warmed39 (s.setVm s.vm).vm := hZ
  have hown0 : (s.setVm s.vm).vm.findClass "com/example/patents_via_api/patentsviaapi/http/QueryString" = some m.cls := hown
  have hS0 : s.Since s.vm 0 := (State.WarmedH.refl s).since 0
  have hk0 : 0 ≤ h0.size := Nat.zero_le _
  have hEL : EW Z a0 EL_1 := own_EW hw
  have R0 : CHr Z EL_1 s.vm h0 s.vm h0 := CHr.refl hH
  have D_ : ∀ {i : Nat} {x}, decode prog_16_method_3_code i = x → decode cO.code i = x := fun h => hb hby h
  have W0 : ∀ zQ, SS p e below s₁ m 0 #[.val (.ref q), .val (.ref o), .val (.ref o2)] [] zQ → Steps p.tables e below (s₁.setTop (entryFrame m #[(.ref q), (.ref o), (.ref o2)] 3)) zQ := fun tt kt => castTop (ef_addR m q o o2) kt
  obtain ⟨cq101, q101, q101'⟩ := Eq.cell
  obtain ⟨_, _, ⟨T101, L101, k101, n101⟩, -, X101', hS101', hgr101, ⟨Lc101, hQ101, l101, y101, z101, A101⟩, st101⟩ := X0.privateBackS hx (y := yn52) hown0 (mvT hZ0 (w134 hw)) (mvT hZ0 (w135 hw)) (mvT hZ0 (own_psel2 (y := yn52) (own_nf (y := yn52) (y' := yn49) rfl (w34 hw) (w32 hw)) (w136 hw) (w135 hw) (by decide))) (Cond.privateMethod_at (mvP hZ0 (w136 hw) (args := #[]))) (mvT hZ0 (w137 hw)) (by decide) (backOfSH (W := 0) (rm_qsApp1 l Z a0 hw [] q o o2 a t kb N qs nq u ku cs u2 k2 ds cS u8 hd kh h0 n0 Z0 O0 S_cs hcS S_ui S_u8 S_hx V_hx Eq Fq E1 F1 F2 F3 V1 E2 hlq okq hq hnq hqN h16 hN g1 g2 hS Eu hl hc1 hS2 Eu2 hl2 hd1) hZ0 (w137 hw) (w2 hw) (by decide) (by decide) hEL R0.1) (g := (mkF m 4 #[.val (.ref q), .val (.ref o), .val (.ref o2)] [(.int (1 : Int32)), (.ref o2), (.ref o), (.ref q)])) rfl (by rw [hml]; rfl) (Steps.refl _) (a := q) (by rw [e0]; exact q101) q101' (argsL := [(.ref o), (.ref o2), (.int (1 : Int32))]) (rest := []) (lenOf pd35 rfl) rfl (wq rfl) (D_ d54_4) (fun _ _ => ⟨rfl, e0, (nb rfl), (by dsimp only [Pt.slots]; omega)⟩)
  dsimp only [Pt.U, Pt.locs, Pt.cells, Pt.slots] at X101' hS101' hgr101 l101 y101 z101 st101 hQ101 A101
  subst l101 y101 z101
  obtain ⟨X101, hS101, hZ101, hown101⟩ := rebS hS0 (by rw [e0]; exact hk0) X101' hS101' hgr101 hZ0 hown0
  obtain ⟨t2_102, kb2_103, N2_104, qs2_105, rfl, Nq101, K101, P101_0, P101_1, P101_2, P101_3, P101_4, P101_5, P101_6, P101_7, P101_8, P101_9, P101_10, P101_11, P101_12, P101_13⟩ := hQ101
  have N101 := Fr.app N0 Nq101
  have R106 : CHr Z EL_1 s.vm h0 T101.vm T101.heap := R0.trans A101
  have hk101 : T101.heap.size ≤ T101.heap.size := Nat.le_refl _
  have W107 : ∀ zQ, SS p e below T101 m 7 #[.val (.ref q), .val (.ref o), .val (.ref o2)] [(.ref q)] zQ → Steps p.tables e below (s₁.setTop (entryFrame m #[(.ref q), (.ref o), (.ref o2)] 3)) zQ := by
    intro tt kt
    refine W0 tt ?_
    refine XS.aloadN X0.here hx rfl (D_ d54_0) rfl rfl ?_
    refine XS.aloadN X0.here hx rfl (D_ d54_1) rfl rfl ?_
    refine XS.aloadN X0.here hx rfl (D_ d54_2) rfl rfl ?_
    refine XS.iconst X0.here hx rfl (D_ d54_3) ?_
    refine st101.trans ?_
    exact kt
  obtain ⟨fs, hr, hrun, hended, hRW⟩ := Jvm.Stand.leaveW X101 hS101 hk101 (v := some (.ref q)) (fun h => by rw [Bd.returns] at h; cases h) (BodyLoose.notSynchronized Bd)
  refine ⟨_, _, W107 _ (own_retR X101 hx Bd.returns rfl rfl (D_ d54_7) hr), hrun, hended, _, _, rfl, ?_, own_chr (T := T101) R106 (CHv.at X101 hZ101 hEL R106.1) hh.symm rfl, own_rw hRW (by decide) (by decide)⟩
  show Q_addR Z q o o2 a t kb N qs nq u ku cs u2 k2 ds cS u8 hd kh h0 n0 _ T101.heap _
  exact ⟨t2_102, kb2_103, N2_104, qs2_105, rfl, N101, (Keep.trans (Keep.refl h0 [a, t]) K101 (allS (Or.inl (List.mem_of_getElem? (i := 0) rfl)) (allS (Or.inl (List.mem_of_getElem? (i := 1) rfl)) all0))), P101_0, P101_1, P101_2, P101_3, P101_4, P101_5, P101_6, P101_7, P101_8, P101_9, P101_10, P101_11, P101_12, (own_altr P101_13 (Or.inl rfl) (Nat.le_refl _))⟩
def Q_addOne (Z : State) (q : Addr) (bits : Int32) (cn : Int32) (cv : Int32) (a : Addr) (t : Addr) (kb : ClassId) (N : Nat) (qs : List Int32) (nq : Nat) (cS : Int32) (u8 : Addr) (hd : Addr) (kh : ClassId) (h0 : Heap) (n0 : Nat) (vQ_ : Option Value) (hQ_ : Heap) (LQ_ : List Loc) : Prop := ∃ t2 : Addr, ∃ kb2 : ClassId, ∃ N2 : Nat, ∃ qs2 : List Int32, vQ_ = none ∧ Fr n0 LQ_ ∧ Keep h0 hQ_ [a, t] ∧ Fld Z hQ_ a "java/lang/AbstractStringBuilder" "value" "[B" (.ref t2) ∧ Fld Z hQ_ a "java/lang/AbstractStringBuilder" "coder" "B" (.int (0 : Int32)) ∧ Fld Z hQ_ a "java/lang/AbstractStringBuilder" "count" "I" (.int (Int32.ofNat qs2.length)) ∧ Arv Z hQ_ t2 kb2 .byte (Int32.ofNat N2) (l1 qs2) (.int (0 : Int32)) ∧ Exa Z hQ_ t2 "[B" ∧ lat qs2 = true ∧ OkS qs2 ∧ qs2.length ≤ (nq + 14) ∧ 0 < qs2.length ∧ qs2.length ≤ N2 ∧ 16 ≤ N2 ∧ N2 ≤ 84 ∧ n0 ≤ t2 ∧ (t2 = t ∨ h0.size ≤ t2)
theorem rm_addOne (l : Launch) (Z : State) (a0 : Array Value) (hw : HW a0 Z) (ws : List Jvm.Cond) (q : Addr) (bits : Int32) (cn : Int32) (cv : Int32) (a : Addr) (t : Addr) (kb : ClassId) (N : Nat) (qs : List Int32) (nq : Nat) (cS : Int32) (u8 : Addr) (hd : Addr) (kh : ClassId) (h0 : Heap) (n0 : Nat) (Z0 : n0 ≤ h0.size) (O0 : Old Z n0 h0) (S_cs : Sta Z Z.heap "java/lang/String" "COMPACT_STRINGS" "Z" (.int cS)) (hcS : ¬ (cS = (0 : Int32))) (S_ui : Sta Z Z.heap "sun/nio/cs/UTF_8" "INSTANCE" "Lsun/nio/cs/UTF_8;" (.ref u8)) (S_u8 : Sta Z Z.heap "java/nio/charset/StandardCharsets" "UTF_8" "Ljava/nio/charset/Charset;" (.ref u8)) (S_hx : Sta Z Z.heap "com/example/patents_via_api/patentsviaapi/http/PercentEncoding" "HEX_DIGITS" "[C" (.ref hd)) (V_hx : Arv Z Z.heap hd kh .char (16 : Int32) (hexL.map Value.int) (.int (0 : Int32))) (Eq : Exa Z h0 q "com/example/patents_via_api/patentsviaapi/http/QueryString") (Fq : Fld Z h0 q "com/example/patents_via_api/patentsviaapi/http/QueryString" "query" "Ljava/lang/StringBuilder;" (.ref a)) (E1 : Exa Z h0 a "java/lang/StringBuilder") (F1 : Fld Z h0 a "java/lang/AbstractStringBuilder" "value" "[B" (.ref t)) (F2 : Fld Z h0 a "java/lang/AbstractStringBuilder" "coder" "B" (.int (0 : Int32))) (F3 : Fld Z h0 a "java/lang/AbstractStringBuilder" "count" "I" (.int (Int32.ofNat qs.length))) (V1 : Arv Z h0 t kb .byte (Int32.ofNat N) (l1 qs) (.int (0 : Int32))) (E2 : Exa Z h0 t "[B") (hlq : lat qs = true) (okq : OkS qs) (hq : qs.length ≤ nq) (hnq : nq ≤ 28) (hqN : qs.length ≤ N) (h16 : 16 ≤ N) (hN : N ≤ 84) (g1 : n0 ≤ a) (g2 : n0 ≤ t) :
    MetFree l yn55 (head1 (Jvm.Cond.code yn55 method_3_code 6 none :: ws) (⟨9, 34, 762, 186⟩ : Room)) (fun aQ_ UQ => aQ_ = #[(.ref q), (.int bits), (.int cn), (.int cv)] ∧ Z.Warmed39 UQ.vm ∧ UQ.heap = h0 ∧ CHv Z EL_1 UQ.vm h0) (fun _ _ _ _ _ => True) (fun _ UQ oQ UQ' => ∃ vQ_ LQ_, oQ = .returned vQ_ ∧ Q_addOne Z q bits cn cv a t kb N qs nq cS u8 hd kh h0 n0 vQ_ UQ'.heap LQ_ ∧ CHr Z EL_1 UQ.vm UQ.heap UQ'.vm UQ'.heap ∧ ReturnedEndW UQ oQ UQ' LQ_ (⟨9, 34, 762, 186⟩ : Room).cells (⟨9, 34, 762, 186⟩ : Room).slots) := by
  refine MetFree.of_bodySF (plainFor_of_name pn_com_example_patents_via_api_patentsviaapi_http_QueryStringIsEmptyPinLaw) hisR ?_
  intro p e s m args below meth cO s₁ Bd hml hP hK
  obtain ⟨rfl, hZ, hh, hH⟩ := hP
  have hx := Bd.exec
  have hby := Bd.bytes
  have hown : s.vm.findClass "com/example/patents_via_api/patentsviaapi/http/QueryStringIsEmptyPinLaw" = some m.cls := findClass_of_methodNamed Bd.named
  have hnm := (name_of_methodNamed Bd.named Bd.method).1
  have X0 : Stand p l e (⟨9, 34, 762, 186⟩ : Room) (s.setVm s.vm) m #[(.ref q), (.int bits), (.int cn), (.int cv)] below meth cO s₁ [] 0 0 := Stand.of_body Bd
  have e0 : s₁.heap = h0 := by rw [← hh, Bd.state]; rfl
  have N0 := Fr.nil n0
  have hZ0 : Z.Warmed39 (s.setVm s.vm).vm := hZ
  have hown0 : (s.setVm s.vm).vm.findClass "com/example/patents_via_api/patentsviaapi/http/QueryStringIsEmptyPinLaw" = some m.cls := hown
  have hS0 : s.Since s.vm 0 := (State.WarmedH.refl s).since 0
  have hk0 : 0 ≤ h0.size := Nat.zero_le _
  have hEL : EW Z a0 EL_1 := own_EW hw
  have R0 : CHr Z EL_1 s.vm h0 s.vm h0 := CHr.refl hH
  have D_ : ∀ {i : Nat} {x}, decode method_3_code i = x → decode cO.code i = x := fun h => hb hby h
  have W0 : ∀ zQ, SS p e below s₁ m 0 #[.val (.ref q), .val (.int bits), .val (.int cn), .val (.int cv), .unset, .unset] [] zQ → Steps p.tables e below (s₁.setTop (entryFrame m #[(.ref q), (.int bits), (.int cn), (.int cv)] 6)) zQ := fun tt kt => castTop (ef_addOne m q bits cn cv) kt
  obtain ⟨_, _, ⟨T101, L101, k101, n101⟩, -, X101', hS101', hgr101, ⟨Lc101, hQ101, l101, y101, z101, A101⟩, st101⟩ := callSS X0 hx (y := yn47) hown0 (mvT hZ0 (w111 hw)) (mvT hZ0 (w112 hw)) (mvT hZ0 (w109 hw)) (mvT hZ0 (w113 hw)) (by decide) (backOfSH (W := 0) (rm_text l Z a0 hw [] bits cn cS h0 n0 Z0 O0 S_cs hcS) hZ0 (w113 hw) (w109 hw) (by decide) (by decide) hEL R0.1) (g := (mkF m 2 #[.val (.ref q), .val (.int bits), .val (.int cn), .val (.int cv), .unset, .unset] [(.int cn), (.int bits)])) rfl (by rw [hml]; rfl) (argsL := [(.int bits), (.int cn)]) (rest := []) (lenOf pd36 rfl) rfl (wq rfl) (D_ d55_2) (fun _ _ => ⟨rfl, e0, (nb rfl), (nb rfl)⟩)
  dsimp only [Pt.U, Pt.locs, Pt.cells, Pt.slots] at X101' hS101' hgr101 l101 y101 z101 st101 hQ101 A101
  subst l101 y101 z101
  obtain ⟨X101, hS101, hZ101, hown101⟩ := rebS hS0 (by rw [e0]; exact hk0) X101' hS101' hgr101 hZ0 hown0
  obtain ⟨r_102, t_103, kb_104, cs_105, rfl, Nq101, K101, P101_0, P101_1, P101_2, P101_3⟩ := hQ101
  have N101 := Fr.app N0 Nq101
  have R106 : CHr Z EL_1 s.vm h0 T101.vm T101.heap := R0.trans A101
  have hk101 : T101.heap.size ≤ T101.heap.size := Nat.le_refl _
  have O107 : Old Z n0 T101.heap := (O0.keep K101 all0)
  obtain ⟨_, _, ⟨T108, L108, k108, n108⟩, -, X108', hS108', hgr108, ⟨Lc108, hQ108, l108, y108, z108, A108⟩, st108⟩ := callSS X101 hx (y := yn47) hown101 (mvT hZ101 (w111 hw)) (mvT hZ101 (w112 hw)) (mvT hZ101 (w109 hw)) (mvT hZ101 (w113 hw)) (by decide) (backOfSH (W := 0) (rm_text l Z a0 hw [] ((bits.toUInt32 >>> ((1 : Int32) &&& 31).toUInt32).toInt32) cv cS T101.heap n0 (Nat.le_trans Z0 K101.1) O107 S_cs hcS) hZ101 (w113 hw) (w109 hw) (by decide) (by decide) hEL R106.1) (g := (mkF m 11 #[.val (.ref q), .val (.int bits), .val (.int cn), .val (.int cv), .val (.ref r_102), .unset] [(.int cv), (.int ((bits.toUInt32 >>> ((1 : Int32) &&& 31).toUInt32).toInt32))])) rfl (by rw [hml]; rfl) (argsL := [(.int ((bits.toUInt32 >>> ((1 : Int32) &&& 31).toUInt32).toInt32)), (.int cv)]) (rest := []) (lenOf pd36 rfl) rfl (wq rfl) (D_ d55_11) (fun _ _ => ⟨rfl, rfl, (nb rfl), (nb rfl)⟩)
  dsimp only [Pt.U, Pt.locs, Pt.cells, Pt.slots] at X108' hS108' hgr108 l108 y108 z108 st108 hQ108 A108
  subst l108 y108 z108
  obtain ⟨X108, hS108, hZ108, hown108⟩ := rebS hS101 hk101 X108' hS108' hgr108 hZ101 hown101
  obtain ⟨r_109, t_110, kb_111, cs_112, rfl, Nq108, K108, P108_0, P108_1, P108_2, P108_3⟩ := hQ108
  have N108 := Fr.app N101 Nq108
  have R113 : CHr Z EL_1 s.vm h0 T108.vm T108.heap := R106.trans A108
  have hk108 : T108.heap.size ≤ T108.heap.size := Nat.le_refl _
  have W114 : ∀ zQ, SS p e below T108 m 19 #[.val (.ref q), .val (.int bits), .val (.int cn), .val (.int cv), .val (.ref r_102), .val (.ref r_109)] [(.int (bits &&& (4 : Int32)))] zQ → Steps p.tables e below (s₁.setTop (entryFrame m #[(.ref q), (.int bits), (.int cn), (.int cv)] 6)) zQ := by
    intro tt kt
    refine W0 tt ?_
    refine XS.iloadN X0.here hx rfl (D_ d55_0) rfl ?_
    refine XS.iloadN X0.here hx rfl (D_ d55_1) rfl ?_
    refine st101.trans ?_
    refine XS.astore X101.here hx rfl (D_ d55_5) rfl rfl (l' := #[.val (.ref q), .val (.int bits), .val (.int cn), .val (.int cv), .val (.ref r_102), .unset]) rfl ?_
    refine XS.iloadN X101.here hx rfl (D_ d55_7) rfl ?_
    refine XS.iconst X101.here hx rfl (D_ d55_8) ?_
    refine XS.iushr X101.here hx rfl (D_ d55_9) rfl ?_
    refine XS.iloadN X101.here hx rfl (D_ d55_10) rfl ?_
    refine st108.trans ?_
    refine XS.astore X108.here hx rfl (D_ d55_14) rfl rfl (l' := #[.val (.ref q), .val (.int bits), .val (.int cn), .val (.int cv), .val (.ref r_102), .val (.ref r_109)]) rfl ?_
    refine XS.iloadN X108.here hx rfl (D_ d55_16) rfl ?_
    refine XS.iconst X108.here hx rfl (D_ d55_17) ?_
    refine XS.iand X108.here hx rfl (D_ d55_18) rfl ?_
    exact kt
  by_cases hc115 : (bits &&& (4 : Int32)) = (0 : Int32)
  ·
    have F116 : Exa Z T108.heap q "com/example/patents_via_api/patentsviaapi/http/QueryString" := ((Eq.keep K101).keep K108)
    have F117 : Fld Z T108.heap q "com/example/patents_via_api/patentsviaapi/http/QueryString" "query" "Ljava/lang/StringBuilder;" (.ref a) := ((Fq.keep K101 nin0).keep K108 nin0)
    have F118 : Exa Z T108.heap a "java/lang/StringBuilder" := ((E1.keep K101).keep K108)
    have F119 : Fld Z T108.heap a "java/lang/AbstractStringBuilder" "value" "[B" (.ref t) := ((F1.keep K101 nin0).keep K108 nin0)
    have F120 : Fld Z T108.heap a "java/lang/AbstractStringBuilder" "coder" "B" (.int (0 : Int32)) := ((F2.keep K101 nin0).keep K108 nin0)
    have F121 : Fld Z T108.heap a "java/lang/AbstractStringBuilder" "count" "I" (.int (Int32.ofNat qs.length)) := ((F3.keep K101 nin0).keep K108 nin0)
    have F122 : Arv Z T108.heap t kb .byte (Int32.ofNat N) (l1 qs) (.int (0 : Int32)) := ((V1.keep K101 nin0).keep K108 nin0)
    have F123 : Exa Z T108.heap t "[B" := ((E2.keep K101).keep K108)
    have F124 : Str Z T108.heap r_102 t_103 kb_104 cs_105 := (P101_0.keep K108 nin0 nin0)
    have F125 : Exa Z T108.heap t_103 "[B" := (P101_1.keep K108)
    have O126 : Old Z n0 T108.heap := (O107.keep K108 all0)
    have z128 : n0 ≤ T108.heap.size := (Nat.le_trans Z0 (Nat.le_trans K101.1 K108.1))
    obtain ⟨cq127, kq127, q127a, q127b, q127c⟩ := isOf hZ108 rfl F116
    obtain ⟨_, _, ⟨T127, L127, k127, n127⟩, -, X127', hS127', hgr127, ⟨Lc127, hQ127, l127, y127, z127, A127⟩, st127⟩ := X108.virtualBackS hx (y := yn53) (z := yn53) hown108 (mvT hZ108 (w285 hw)) (mvT hZ108 (w286 hw)) (notFace_of_selects (args := #[]) (mvT hZ108 (w288 hw))) (mvT hZ108 (w288 hw)) (mvT hZ108 (w287 hw)) (by decide) (backOfSH (W := 0) (rm_add l Z a0 hw [] q r_102 r_109 a t kb N qs nq t_103 kb_104 cs_105 t_110 kb_111 cs_112 cS u8 hd kh T108.heap n0 z128 O126 S_cs hcS S_ui S_u8 S_hx V_hx F116 F117 F118 F119 F120 F121 F122 F123 hlq okq hq hnq hqN h16 hN g1 g2 F124 F125 P101_3 P101_2 P108_0 P108_1 P108_3 P108_2) hZ108 (w289 hw) (w2 hw) (by decide) (by decide) hEL R113.1) q127a q127c (g := (mkF m 39 #[.val (.ref q), .val (.int bits), .val (.int cn), .val (.int cv), .val (.ref r_102), .val (.ref r_109)] [(.ref r_109), (.ref r_102), (.ref q)])) rfl (by rw [hml]; rfl) (Steps.refl _) (argsL := [(.ref r_102), (.ref r_109)]) (rest := []) (lenOf pd37 rfl) rfl (wq rfl) (D_ d55_39) (fun _ _ => ⟨rfl, rfl, (nb rfl), (by dsimp only [Pt.slots]; omega)⟩)
    dsimp only [Pt.U, Pt.locs, Pt.cells, Pt.slots] at X127' hS127' hgr127 l127 y127 z127 st127 hQ127 A127
    subst l127 y127 z127
    obtain ⟨X127, hS127, hZ127, hown127⟩ := rebS hS108 hk108 X127' hS127' hgr127 hZ108 hown108
    obtain ⟨t2_129, kb2_130, N2_131, qs2_132, rfl, Nq127, K127, P127_0, P127_1, P127_2, P127_3, P127_4, P127_5, P127_6, P127_7, P127_8, P127_9, P127_10, P127_11, P127_12, P127_13⟩ := hQ127
    have N127 := Fr.app N108 Nq127
    have R133 : CHr Z EL_1 s.vm h0 T127.vm T127.heap := R113.trans A127
    have hk127 : T127.heap.size ≤ T127.heap.size := Nat.le_refl _
    have W134 : ∀ zQ, SS p e below T127 m 43 #[.val (.ref q), .val (.int bits), .val (.int cn), .val (.int cv), .val (.ref r_102), .val (.ref r_109)] [] zQ → Steps p.tables e below (s₁.setTop (entryFrame m #[(.ref q), (.int bits), (.int cn), (.int cv)] 6)) zQ := by
      intro tt kt
      refine W114 tt ?_
      refine XS.ifYes X108.here hx rfl (pc0 := 19) (pc' := 34) rfl (D_ d55_19) rfl ((if0 _ _).trans (teq hc115).1) (by decide) (by decide) ?_
      refine XS.aloadN X108.here hx rfl (D_ d55_34) rfl rfl ?_
      refine XS.aload X108.here hx rfl (D_ d55_35) rfl rfl ?_
      refine XS.aload X108.here hx rfl (D_ d55_37) rfl rfl ?_
      refine st127.trans ?_
      refine XS.pop X127.here hx rfl (D_ d55_42) rfl rfl ?_
      exact kt
    obtain ⟨fs, hr, hrun, hended, hRW⟩ := Jvm.Stand.leaveW X127 hS127 hk127 (v := none) (fun _ => rfl) (BodyLoose.notSynchronized Bd)
    refine ⟨_, _, W134 _ (X127.returnOut hx Bd.returns (D_ d55_43) hr), hrun, hended, _, _, rfl, ?_, own_chr (T := T127) R133 (CHv.at X127 hZ127 hEL R133.1) hh.symm rfl, own_rw hRW (by decide) (by decide)⟩
    show Q_addOne Z q bits cn cv a t kb N qs nq cS u8 hd kh h0 n0 _ T127.heap _
    exact ⟨t2_129, kb2_130, N2_131, qs2_132, rfl, N127, (Keep.trans (Keep.trans (Keep.trans (Keep.refl h0 [a, t]) K101 all0) K108 all0) K127 (allS (Or.inl (List.mem_of_getElem? (i := 0) rfl)) (allS (Or.inl (List.mem_of_getElem? (i := 1) rfl)) all0))), P127_0, P127_1, P127_2, P127_3, P127_4, P127_5, P127_6, P127_7, P127_8, P127_9, P127_10, P127_11, P127_12, (own_altr P127_13 (Or.inl rfl) (Nat.le_trans K101.1 K108.1))⟩
  ·
    have F135 : Exa Z T108.heap q "com/example/patents_via_api/patentsviaapi/http/QueryString" := ((Eq.keep K101).keep K108)
    have F136 : Fld Z T108.heap q "com/example/patents_via_api/patentsviaapi/http/QueryString" "query" "Ljava/lang/StringBuilder;" (.ref a) := ((Fq.keep K101 nin0).keep K108 nin0)
    have F137 : Exa Z T108.heap a "java/lang/StringBuilder" := ((E1.keep K101).keep K108)
    have F138 : Fld Z T108.heap a "java/lang/AbstractStringBuilder" "value" "[B" (.ref t) := ((F1.keep K101 nin0).keep K108 nin0)
    have F139 : Fld Z T108.heap a "java/lang/AbstractStringBuilder" "coder" "B" (.int (0 : Int32)) := ((F2.keep K101 nin0).keep K108 nin0)
    have F140 : Fld Z T108.heap a "java/lang/AbstractStringBuilder" "count" "I" (.int (Int32.ofNat qs.length)) := ((F3.keep K101 nin0).keep K108 nin0)
    have F141 : Arv Z T108.heap t kb .byte (Int32.ofNat N) (l1 qs) (.int (0 : Int32)) := ((V1.keep K101 nin0).keep K108 nin0)
    have F142 : Exa Z T108.heap t "[B" := ((E2.keep K101).keep K108)
    have F143 : Str Z T108.heap r_102 t_103 kb_104 cs_105 := (P101_0.keep K108 nin0 nin0)
    have F144 : Exa Z T108.heap t_103 "[B" := (P101_1.keep K108)
    have O145 : Old Z n0 T108.heap := (O107.keep K108 all0)
    have z147 : n0 ≤ T108.heap.size := (Nat.le_trans Z0 (Nat.le_trans K101.1 K108.1))
    obtain ⟨cq146, kq146, q146a, q146b, q146c⟩ := isOf hZ108 rfl F135
    obtain ⟨_, _, ⟨T146, L146, k146, n146⟩, -, X146', hS146', hgr146, ⟨Lc146, hQ146, l146, y146, z146, A146⟩, st146⟩ := X108.virtualBackS hx (y := yn54) (z := yn54) hown108 (mvT hZ108 (w129 hw)) (mvT hZ108 (w130 hw)) (notFace_of_selects (args := #[]) (mvT hZ108 (w132 hw))) (mvT hZ108 (w132 hw)) (mvT hZ108 (w131 hw)) (by decide) (backOfSH (W := 0) (rm_addR l Z a0 hw [] q r_102 r_109 a t kb N qs nq t_103 kb_104 cs_105 t_110 kb_111 cs_112 cS u8 hd kh T108.heap n0 z147 O145 S_cs hcS S_ui S_u8 S_hx V_hx F135 F136 F137 F138 F139 F140 F141 F142 hlq okq hq hnq hqN h16 hN g1 g2 F143 F144 P101_3 P101_2 P108_0 P108_1 P108_3 P108_2) hZ108 (w133 hw) (w2 hw) (by decide) (by decide) hEL R113.1) q146a q146c (g := (mkF m 27 #[.val (.ref q), .val (.int bits), .val (.int cn), .val (.int cv), .val (.ref r_102), .val (.ref r_109)] [(.ref r_109), (.ref r_102), (.ref q)])) rfl (by rw [hml]; rfl) (Steps.refl _) (argsL := [(.ref r_102), (.ref r_109)]) (rest := []) (lenOf pd37 rfl) rfl (wq rfl) (D_ d55_27) (fun _ _ => ⟨rfl, rfl, (nb rfl), (by dsimp only [Pt.slots]; omega)⟩)
    dsimp only [Pt.U, Pt.locs, Pt.cells, Pt.slots] at X146' hS146' hgr146 l146 y146 z146 st146 hQ146 A146
    subst l146 y146 z146
    obtain ⟨X146, hS146, hZ146, hown146⟩ := rebS hS108 hk108 X146' hS146' hgr146 hZ108 hown108
    obtain ⟨t2_148, kb2_149, N2_150, qs2_151, rfl, Nq146, K146, P146_0, P146_1, P146_2, P146_3, P146_4, P146_5, P146_6, P146_7, P146_8, P146_9, P146_10, P146_11, P146_12, P146_13⟩ := hQ146
    have N146 := Fr.app N108 Nq146
    have R152 : CHr Z EL_1 s.vm h0 T146.vm T146.heap := R113.trans A146
    have hk146 : T146.heap.size ≤ T146.heap.size := Nat.le_refl _
    have W153 : ∀ zQ, SS p e below T146 m 43 #[.val (.ref q), .val (.int bits), .val (.int cn), .val (.int cv), .val (.ref r_102), .val (.ref r_109)] [] zQ → Steps p.tables e below (s₁.setTop (entryFrame m #[(.ref q), (.int bits), (.int cn), (.int cv)] 6)) zQ := by
      intro tt kt
      refine W114 tt ?_
      refine XS.ifNo X108.here hx rfl (D_ d55_19) rfl ((if0 _ _).trans (feq hc115).1) ?_
      refine XS.aloadN X108.here hx rfl (D_ d55_22) rfl rfl ?_
      refine XS.aload X108.here hx rfl (D_ d55_23) rfl rfl ?_
      refine XS.aload X108.here hx rfl (D_ d55_25) rfl rfl ?_
      refine st146.trans ?_
      refine XS.pop X146.here hx rfl (D_ d55_30) rfl rfl ?_
      refine XS.goto X146.here hx rfl (pc0 := 31) (pc' := 43) rfl (D_ d55_31) (by decide) (by decide) ?_
      exact kt
    obtain ⟨fs, hr, hrun, hended, hRW⟩ := Jvm.Stand.leaveW X146 hS146 hk146 (v := none) (fun _ => rfl) (BodyLoose.notSynchronized Bd)
    refine ⟨_, _, W153 _ (X146.returnOut hx Bd.returns (D_ d55_43) hr), hrun, hended, _, _, rfl, ?_, own_chr (T := T146) R152 (CHv.at X146 hZ146 hEL R152.1) hh.symm rfl, own_rw hRW (by decide) (by decide)⟩
    show Q_addOne Z q bits cn cv a t kb N qs nq cS u8 hd kh h0 n0 _ T146.heap _
    exact ⟨t2_148, kb2_149, N2_150, qs2_151, rfl, N146, (Keep.trans (Keep.trans (Keep.trans (Keep.refl h0 [a, t]) K101 all0) K108 all0) K146 (allS (Or.inl (List.mem_of_getElem? (i := 0) rfl)) (allS (Or.inl (List.mem_of_getElem? (i := 1) rfl)) all0))), P146_0, P146_1, P146_2, P146_3, P146_4, P146_5, P146_6, P146_7, P146_8, P146_9, P146_10, P146_11, P146_12, (own_altr P146_13 (Or.inl rfl) (Nat.le_trans K101.1 K108.1))⟩
theorem own_kz {k x : Int32} (e : k = x &&& (3 : Int32)) (h : k < (1 : Int32)) : k = (0 : Int32) := by rw [e] at h ⊢; exact own_k3 x h
def Q_law (Z : State) (ct : Int32) (fg : Int32) (c0 : Int32) (c1 : Int32) (cS : Int32) (u8 : Addr) (hd : Addr) (kh : ClassId) (h0 : Heap) (n0 : Nat) (vQ_ : Option Value) (hQ_ : Heap) (LQ_ : List Loc) : Prop := vQ_ = some (.int (1 : Int32)) ∧ Fr n0 LQ_ ∧ Keep h0 hQ_ []
theorem rm_law (l : Launch) (Z : State) (a0 : Array Value) (hw : HW a0 Z) (ws : List Jvm.Cond) (ct : Int32) (fg : Int32) (c0 : Int32) (c1 : Int32) (cS : Int32) (u8 : Addr) (hd : Addr) (kh : ClassId) (h0 : Heap) (n0 : Nat) (Z0 : n0 ≤ h0.size) (O0 : Old Z n0 h0) (S_cs : Sta Z Z.heap "java/lang/String" "COMPACT_STRINGS" "Z" (.int cS)) (hcS : ¬ (cS = (0 : Int32))) (S_ui : Sta Z Z.heap "sun/nio/cs/UTF_8" "INSTANCE" "Lsun/nio/cs/UTF_8;" (.ref u8)) (S_u8 : Sta Z Z.heap "java/nio/charset/StandardCharsets" "UTF_8" "Ljava/nio/charset/Charset;" (.ref u8)) (S_hx : Sta Z Z.heap "com/example/patents_via_api/patentsviaapi/http/PercentEncoding" "HEX_DIGITS" "[C" (.ref hd)) (V_hx : Arv Z Z.heap hd kh .char (16 : Int32) (hexL.map Value.int) (.int (0 : Int32))) :
    MetFree l x (head1 (Jvm.Cond.code x code maxLocals ret :: ws) room_1) (fun aQ_ UQ => aQ_ = #[(.int ct), (.int fg), (.int c0), (.int c1)] ∧ Z.Warmed39 UQ.vm ∧ UQ.heap = h0 ∧ CHv Z EL_1 UQ.vm h0) (fun _ _ _ _ _ => True) (fun _ UQ oQ UQ' => ∃ vQ_ LQ_, oQ = .returned vQ_ ∧ Q_law Z ct fg c0 c1 cS u8 hd kh h0 n0 vQ_ UQ'.heap LQ_ ∧ CHr Z EL_1 UQ.vm UQ.heap UQ'.vm UQ'.heap ∧ ReturnedEndW UQ oQ UQ' LQ_ room_1.cells room_1.slots) := by
  refine MetFree.of_bodySF (plainFor_of_name pn_com_example_patents_via_api_patentsviaapi_http_QueryStringIsEmptyPinLaw) hisR ?_
  intro p e s m args below meth cO s₁ Bd hml0 hP hK
  obtain ⟨rfl, hZ, hh, hH⟩ := hP
  have hx := Bd.exec
  have hby := Bd.bytes
  have hml : cO.maxLocals = 9 := hml0
  have hown : s.vm.findClass "com/example/patents_via_api/patentsviaapi/http/QueryStringIsEmptyPinLaw" = some m.cls := findClass_of_methodNamed Bd.named
  have hnm := (name_of_methodNamed Bd.named Bd.method).1
  have X0 : Stand p l e room_1 (s.setVm s.vm) m #[(.int ct), (.int fg), (.int c0), (.int c1)] below meth cO s₁ [] 0 0 := Stand.of_body Bd
  have e0 : s₁.heap = h0 := by rw [← hh, Bd.state]; rfl
  have N0 := Fr.nil n0
  have hZ0 : Z.Warmed39 (s.setVm s.vm).vm := hZ
  have hown0 : (s.setVm s.vm).vm.findClass "com/example/patents_via_api/patentsviaapi/http/QueryStringIsEmptyPinLaw" = some m.cls := hown
  have hS0 : s.Since s.vm 0 := (State.WarmedH.refl s).since 0
  have hk0 : 0 ≤ h0.size := Nat.zero_le _
  have hEL : EW Z a0 EL_1 := own_EW hw
  have R0 : CHr Z EL_1 s.vm h0 s.vm h0 := CHr.refl hH
  have D_ : ∀ {i : Nat} {x}, decode code i = x → decode cO.code i = x := fun h => hb hby h
  have W0 : ∀ zQ, SS p e below s₁ m 0 #[.val (.int ct), .val (.int fg), .val (.int c0), .val (.int c1), .unset, .unset, .unset, .unset, .unset] [] zQ → Steps p.tables e below (s₁.setTop (entryFrame m #[(.int ct), (.int fg), (.int c0), (.int c1)] maxLocals)) zQ := fun tt kt => castTop (ef_law m ct fg c0 c1) kt
  obtain ⟨kk, h_kk⟩ : ∃ z : Int32, z = (ct &&& (3 : Int32)) := ⟨_, rfl⟩
  obtain ⟨T101, h101, X101, e101, E101, A101, D101, U101, st101⟩ := newO X0 hx hZ0 hown0 (w0 hw) (w1 hw) (w2 hw) e0 (g := (mkF m 5 #[.val (.int ct), .val (.int fg), .val (.int c0), .val (.int c1), .val (.int kk), .unset, .unset, .unset, .unset] [])) rfl (D_ at_5) (by decide) (by decide)
  obtain ⟨b101, g101⟩ : ∃ z, z = h0.size := ⟨_, rfl⟩
  rw [← g101] at A101 D101 U101 st101
  have K101 := (Keep.refl h0 []).ext E101
  have R102 : CHr Z EL_1 s.vm h0 s.vm h101 := R0.trans (CHr.keep K101 sf0 R0.1)
  have G101_query : Fld Z h101 b101 "com/example/patents_via_api/patentsviaapi/http/QueryString" "query" "Ljava/lang/StringBuilder;" .null := D101 (Or.inr (w30 hw)) (ty := (.object "java/lang/StringBuilder")) (by decide)
  have O103 : Old Z n0 h101 := (O0.keep K101 all0)
  obtain ⟨_, _, ⟨T104, L104, k104, n104⟩, -, X104, ⟨Lc104, hQ104, l104, y104, z104⟩, st104⟩ := X101.specialBack hx (y := yn48) rfl hown0 (mvT hZ0 (w3 hw)) (mvT hZ0 (w4 hw)) (mvT hZ0 (w5 hw)) (by decide) (backOf (W := 1) (rm_qsinit l Z a0 hw [] b101 cS h101 n0 (Nat.le_trans Z0 K101.1) O103 S_cs hcS A101 G101_query (Nat.le_trans Z0 (Nat.le_of_eq g101.symm))) hZ0 (w5 hw) (w2 hw) (by decide) (by decide)) (g := (mkF m 9 #[.val (.int ct), .val (.int fg), .val (.int c0), .val (.int c1), .val (.int kk), .unset, .unset, .unset, .unset] [(.ref b101), (.ref b101)])) rfl (by rw [hml]; rfl) (Steps.refl _) (a := b101) (argsL := []) (rest := [(.ref b101)]) (lenOf pd32 rfl) rfl (wq rfl) (D_ at_9) (fun _ _ => ⟨rfl, e101, (nb rfl), (nb rfl)⟩)
  dsimp only [Pt.U, Pt.locs, Pt.cells, Pt.slots] at X104 l104 y104 z104 st104 hQ104
  subst l104 y104 z104
  obtain ⟨a_105, t_106, kb_107, rfl, Nq104, K104, P104_0, P104_1, P104_2, P104_3, P104_4, P104_5, P104_6, P104_7, P104_8⟩ := hQ104
  have N104 := Fr.app N0 Nq104
  have R108 : CHr Z EL_1 s.vm h0 s.vm T104.heap := R102.trans (CHr.keep K104 (sfS (Safe.exa hZ0.alike A101 (by decide) (by decide)) sf0) R102.1)
  have z110 : n0 ≤ T104.heap.size := (Nat.le_trans Z0 (Nat.le_trans K101.1 K104.1))
  have F111 : Exa Z T104.heap b101 "com/example/patents_via_api/patentsviaapi/http/QueryString" := (A101.keep K104)
  obtain ⟨cq109, kq109, q109a, q109b, q109c⟩ := isOf hZ0 rfl F111
  obtain ⟨_, _, ⟨T109, L109, k109, n109⟩, -, X109, ⟨Lc109, hQ109, l109, y109, z109⟩, st109⟩ := X104.virtualBack hx (y := yn49) (z := yn49) hown0 (mvT hZ0 (w31 hw)) (mvT hZ0 (w32 hw)) (notFace_of_selects (args := #[]) (mvT hZ0 (w34 hw))) (mvT hZ0 (w34 hw)) (mvT hZ0 (w33 hw)) (by decide) (backOf (W := 0) (rm_qsEmpty l Z a0 hw [] b101 a_105 (Int32.ofNat ([] : List Int32).length) T104.heap n0 z110 P104_2 P104_3 P104_6) hZ0 (w35 hw) (w2 hw) (by decide) (by decide)) q109a q109c (g := (mkF m 16 #[.val (.int ct), .val (.int fg), .val (.int c0), .val (.int c1), .val (.int kk), .val (.ref b101), .unset, .unset, .unset] [(.ref b101)])) rfl (by rw [hml]; rfl) (Steps.refl _) (argsL := []) (rest := []) (lenOf pd8 rfl) rfl (wq rfl) (D_ at_16) (fun _ _ => ⟨rfl, rfl, (nb rfl), (nb rfl)⟩)
  dsimp only [Pt.U, Pt.locs, Pt.cells, Pt.slots] at X109 l109 y109 z109 st109 hQ109
  subst l109 y109 z109
  obtain ⟨rfl, Nq109, eq109⟩ := hQ109
  have N109 := Fr.app N104 Nq109
  have W112 : ∀ zQ, SS p e below T109 m 24 #[.val (.int ct), .val (.int fg), .val (.int c0), .val (.int c1), .val (.int kk), .val (.ref b101), .val (.int (1 : Int32)), .unset, .unset] [(.int (1 : Int32)), (.int kk)] zQ → Steps p.tables e below (s₁.setTop (entryFrame m #[(.int ct), (.int fg), (.int c0), (.int c1)] maxLocals)) zQ := by
    intro tt kt
    refine W0 tt ?_
    refine XS.iloadN X0.here hx rfl (D_ at_0) rfl ?_
    refine XS.iconst X0.here hx rfl (D_ at_1) ?_
    refine XS.iand X0.here hx rfl (D_ at_2) rfl ?_
    show SS p e below s₁ m 3 #[.val (.int ct), .val (.int fg), .val (.int c0), .val (.int c1), .unset, .unset, .unset, .unset, .unset] [(.int (ct &&& (3 : Int32)))] _
    rw [← h_kk]
    refine XS.istore X0.here hx rfl (D_ at_3) rfl (l' := #[.val (.int ct), .val (.int fg), .val (.int c0), .val (.int c1), .val (.int kk), .unset, .unset, .unset, .unset]) rfl ?_
    refine st101 _ ?_
    refine XS.dup X101.here hx rfl (D_ at_8) rfl rfl ?_
    refine st104.trans ?_
    refine XS.astore X104.here hx rfl (D_ at_12) rfl rfl (l' := #[.val (.int ct), .val (.int fg), .val (.int c0), .val (.int c1), .val (.int kk), .val (.ref b101), .unset, .unset, .unset]) rfl ?_
    refine XS.aload X104.here hx rfl (D_ at_14) rfl rfl ?_
    refine st109.trans ?_
    show SS p e below T109 m 19 #[.val (.int ct), .val (.int fg), .val (.int c0), .val (.int c1), .val (.int kk), .val (.ref b101), .unset, .unset, .unset] [(.int (if (Int32.ofNat ([] : List Int32).length) = (0 : Int32) then (1 : Int32) else (0 : Int32)))] _
    rw [show (if (Int32.ofNat ([] : List Int32).length) = (0 : Int32) then (1 : Int32) else (0 : Int32)) = (1 : Int32) from (if_pos rfl)]
    refine XS.istore X109.here hx rfl (D_ at_19) rfl (l' := #[.val (.int ct), .val (.int fg), .val (.int c0), .val (.int c1), .val (.int kk), .val (.ref b101), .val (.int (1 : Int32)), .unset, .unset]) rfl ?_
    refine XS.iload X109.here hx rfl (D_ at_21) rfl ?_
    refine XS.iconst X109.here hx rfl (D_ at_23) ?_
    exact kt
  by_cases hc113 : kk < (1 : Int32)
  ·
    obtain ⟨cq114, kq114, q114a, q114b, q114c⟩ := isOf hZ0 eq109 F111
    obtain ⟨_, _, ⟨T114, L114, k114, n114⟩, -, X114, ⟨Lc114, hQ114, l114, y114, z114⟩, st114⟩ := X109.virtualBack hx (y := yn49) (z := yn49) hown0 (mvT hZ0 (w31 hw)) (mvT hZ0 (w32 hw)) (notFace_of_selects (args := #[]) (mvT hZ0 (w34 hw))) (mvT hZ0 (w34 hw)) (mvT hZ0 (w33 hw)) (by decide) (backOf (W := 0) (rm_qsEmpty l Z a0 hw [] b101 a_105 (Int32.ofNat ([] : List Int32).length) T104.heap n0 z110 P104_2 P104_3 P104_6) hZ0 (w35 hw) (w2 hw) (by decide) (by decide)) q114a q114c (g := (mkF m 77 #[.val (.int ct), .val (.int fg), .val (.int c0), .val (.int c1), .val (.int kk), .val (.ref b101), .val (.int (1 : Int32)), .unset, .unset] [(.ref b101)])) rfl (by rw [hml]; rfl) (Steps.refl _) (argsL := []) (rest := []) (lenOf pd8 rfl) rfl (wq rfl) (D_ at_77) (fun _ _ => ⟨rfl, eq109, (nb rfl), (nb rfl)⟩)
    dsimp only [Pt.U, Pt.locs, Pt.cells, Pt.slots] at X114 l114 y114 z114 st114 hQ114
    subst l114 y114 z114
    obtain ⟨rfl, Nq114, eq114⟩ := hQ114
    have N114 := Fr.app N109 Nq114
    have O115 : Old Z n0 T104.heap := (O103.keep K104 (allS (Nat.le_trans Z0 (Nat.le_of_eq g101.symm)) all0))
    obtain ⟨cq116, kq116, q116a, q116b, q116c⟩ := isOf hZ0 eq114 F111
    obtain ⟨_, _, ⟨T116, L116, k116, n116⟩, -, X116, ⟨Lc116, hQ116, l116, y116, z116⟩, st116⟩ := X114.virtualBack hx (y := yn50) (z := yn50) hown0 (mvT hZ0 (w48 hw)) (mvT hZ0 (w49 hw)) (notFace_of_selects (args := #[]) (mvT hZ0 (w51 hw))) (mvT hZ0 (w51 hw)) (mvT hZ0 (w50 hw)) (by decide) (backOf (W := 0) (rm_qsStr l Z a0 hw [] b101 a_105 t_106 kb_107 16 ([] : List Int32) cS T104.heap n0 z110 O115 S_cs hcS P104_2 P104_3 P104_4 P104_5 P104_6 P104_7 P104_8 (by first | decide | omega | (simp only [List.length_append, List.length_singleton, List.length_cons, List.length_nil]; omega) : ([] : List Int32).length ≤ 16) (by first | decide | omega | (simp only [List.length_append, List.length_singleton, List.length_cons, List.length_nil]; omega) : 16 ≤ 84) (by first | decide | omega | (simp only [List.length_append, List.length_singleton, List.length_cons, List.length_nil]; omega) : lat ([] : List Int32) = true) own_ok0) hZ0 (w52 hw) (w2 hw) (by decide) (by decide)) q116a q116c (g := (mkF m 84 #[.val (.int ct), .val (.int fg), .val (.int c0), .val (.int c1), .val (.int kk), .val (.ref b101), .val (.int (1 : Int32)), .val (.int (1 : Int32)), .unset] [(.ref b101)])) rfl (by rw [hml]; rfl) (Steps.refl _) (argsL := []) (rest := []) (lenOf pd30 rfl) rfl (wq rfl) (D_ at_84) (fun _ _ => ⟨rfl, eq114, (nb rfl), (nb rfl)⟩)
    dsimp only [Pt.U, Pt.locs, Pt.cells, Pt.slots] at X116 l116 y116 z116 st116 hQ116
    subst l116 y116 z116
    obtain ⟨r_117, t2_118, kb2_119, rfl, Nq116, K116, P116_0, P116_1, P116_2⟩ := hQ116
    have N116 := Fr.app N114 Nq116
    have R120 : CHr Z EL_1 s.vm h0 s.vm T116.heap := R108.trans (CHr.keep K116 sf0 R108.1)
    obtain ⟨cq121, kq121, q121a, q121b, q121c⟩ := isOf hZ0 rfl P116_2.1
    obtain ⟨_, _, ⟨T121, L121, k121, n121⟩, -, X121, ⟨Lc121, hQ121, l121, y121, z121⟩, st121⟩ := X116.virtualBack hx (y := yn51) (z := yn51) hown0 (mvT hZ0 (w102 hw)) (mvT hZ0 (w103 hw)) (notFace_of_selects (args := #[]) (mvT hZ0 (w105 hw))) (mvT hZ0 (w105 hw)) (mvT hZ0 (w104 hw)) (by decide) (backOf (W := 1) (rm_sEmpty l Z a0 hw [] r_117 t2_118 kb2_119 ([] : List Int32) T116.heap n0 (Nat.le_trans z110 K116.1) P116_2) hZ0 (w106 hw) (w23 hw) (by decide) (by decide)) q121a q121c (g := (mkF m 113 #[.val (.int ct), .val (.int fg), .val (.int c0), .val (.int c1), .val (.int kk), .val (.ref b101), .val (.int (1 : Int32)), .val (.int (1 : Int32)), .val (.ref r_117)] [(.ref r_117), (.int (1 : Int32))])) rfl (by rw [hml]; rfl) (Steps.refl _) (argsL := []) (rest := [(.int (1 : Int32))]) (lenOf pd8 rfl) rfl (wq rfl) (D_ at_113) (fun _ _ => ⟨rfl, rfl, (nb rfl), (nb rfl)⟩)
    dsimp only [Pt.U, Pt.locs, Pt.cells, Pt.slots] at X121 l121 y121 z121 st121 hQ121
    subst l121 y121 z121
    obtain ⟨rfl, Nq121, eq121⟩ := hQ121
    have N121 := Fr.app N116 Nq121
    have W122 : ∀ zQ, SS p e below T121 m 124 #[.val (.int ct), .val (.int fg), .val (.int c0), .val (.int c1), .val (.int kk), .val (.ref b101), .val (.int (1 : Int32)), .val (.int (1 : Int32)), .val (.ref r_117)] [(.int (1 : Int32))] zQ → Steps p.tables e below (s₁.setTop (entryFrame m #[(.int ct), (.int fg), (.int c0), (.int c1)] maxLocals)) zQ := by
      intro tt kt
      refine W112 tt ?_
      refine XS.icmpYes X109.here hx rfl (pc0 := 24) (pc' := 35) rfl (D_ at_24) rfl (tlt hc113).1 (by decide) (by decide) ?_
      refine XS.iload X109.here hx rfl (D_ at_35) rfl ?_
      refine XS.iconst X109.here hx rfl (D_ at_37) ?_
      refine XS.icmpYes X109.here hx rfl (pc0 := 38) (pc' := 52) rfl (D_ at_38) rfl (tlt (own_ltx hc113 (by decide))).1 (by decide) (by decide) ?_
      refine XS.iload X109.here hx rfl (D_ at_52) rfl ?_
      refine XS.iconst X109.here hx rfl (D_ at_54) ?_
      refine XS.icmpYes X109.here hx rfl (pc0 := 55) (pc' := 75) rfl (D_ at_55) rfl (tlt (own_ltx hc113 (by decide))).1 (by decide) (by decide) ?_
      refine XS.aload X109.here hx rfl (D_ at_75) rfl rfl ?_
      refine st114.trans ?_
      show SS p e below T114 m 80 #[.val (.int ct), .val (.int fg), .val (.int c0), .val (.int c1), .val (.int kk), .val (.ref b101), .val (.int (1 : Int32)), .unset, .unset] [(.int (if (Int32.ofNat ([] : List Int32).length) = (0 : Int32) then (1 : Int32) else (0 : Int32)))] _
      rw [show (if (Int32.ofNat ([] : List Int32).length) = (0 : Int32) then (1 : Int32) else (0 : Int32)) = (1 : Int32) from (if_pos rfl)]
      refine XS.istore X114.here hx rfl (D_ at_80) rfl (l' := #[.val (.int ct), .val (.int fg), .val (.int c0), .val (.int c1), .val (.int kk), .val (.ref b101), .val (.int (1 : Int32)), .val (.int (1 : Int32)), .unset]) rfl ?_
      refine XS.aload X114.here hx rfl (D_ at_82) rfl rfl ?_
      refine st116.trans ?_
      refine XS.astore X116.here hx rfl (D_ at_87) rfl rfl (l' := #[.val (.int ct), .val (.int fg), .val (.int c0), .val (.int c1), .val (.int kk), .val (.ref b101), .val (.int (1 : Int32)), .val (.int (1 : Int32)), .val (.ref r_117)]) rfl ?_
      refine XS.iload X116.here hx rfl (D_ at_89) rfl ?_
      refine XS.ifNo X116.here hx rfl (D_ at_91) rfl ((if0 _ _).trans (feq (by decide)).1) ?_
      refine XS.iload X116.here hx rfl (D_ at_94) rfl ?_
      refine XS.iload X116.here hx rfl (D_ at_96) rfl ?_
      refine XS.ifNo X116.here hx rfl (D_ at_98) rfl ((if0 _ _).trans (teq (own_kz h_kk hc113)).2) ?_
      refine XS.iconst X116.here hx rfl (D_ at_101) ?_
      refine XS.goto X116.here hx rfl (pc0 := 102) (pc' := 106) rfl (D_ at_102) (by decide) (by decide) ?_
      refine XS.icmpNo X116.here hx rfl (D_ at_106) rfl (teq (by decide)).2 ?_
      refine XS.iload X116.here hx rfl (D_ at_109) rfl ?_
      refine XS.aload X116.here hx rfl (D_ at_111) rfl rfl ?_
      refine st121.trans ?_
      show SS p e below T121 m 116 #[.val (.int ct), .val (.int fg), .val (.int c0), .val (.int c1), .val (.int kk), .val (.ref b101), .val (.int (1 : Int32)), .val (.int (1 : Int32)), .val (.ref r_117)] [(.int (if (Int32.ofNat (blen ([] : List Int32))) = (0 : Int32) then (1 : Int32) else (0 : Int32))), (.int (1 : Int32))] _
      rw [show (if (Int32.ofNat (blen ([] : List Int32))) = (0 : Int32) then (1 : Int32) else (0 : Int32)) = (1 : Int32) from (if_pos rfl)]
      refine XS.icmpNo X121.here hx rfl (D_ at_116) rfl (teq (by decide)).2 ?_
      refine XS.iconst X121.here hx rfl (D_ at_119) ?_
      refine XS.goto X121.here hx rfl (pc0 := 120) (pc' := 124) rfl (D_ at_120) (by decide) (by decide) ?_
      exact kt
    obtain ⟨fs, hr, hrun, hended, hRW⟩ := Jvm.Stand.leaveW X121 hS0 (by rw [eq121]; exact (Nat.le_trans hk0 (Nat.le_trans (Nat.le_trans K101.1 K104.1) K116.1))) (v := some (.int (nar .boolean (1 : Int32)))) (fun h => by rw [Bd.returns] at h; cases h) (BodyLoose.notSynchronized Bd)
    refine ⟨_, _, W122 _ (retN X121 hx (t := .boolean) Bd.returns (by simp) (D_ at_124) hr), hrun, hended, _, _, rfl, ?_, own_chr (T := T121) R120 (CHv.at X121 hZ0 hEL R120.1) hh.symm eq121, own_rw hRW (by decide) (by decide)⟩
    show Q_law Z ct fg c0 c1 cS u8 hd kh h0 n0 _ T121.heap _
    rw [eq121]
    exact ⟨rfl, N121, (Keep.trans (Keep.trans (Keep.trans (Keep.refl h0 []) K101 all0) K104 (allS (Or.inr (Nat.le_of_eq g101.symm)) all0)) K116 all0)⟩
  ·
    have O123 : Old Z n0 T104.heap := (O103.keep K104 (allS (Nat.le_trans Z0 (Nat.le_of_eq g101.symm)) all0))
    obtain ⟨_, _, ⟨T124, L124, k124, n124⟩, -, X124', hS124', hgr124, ⟨Lc124, hQ124, l124, y124, z124, A124⟩, st124⟩ := callSS X109 hx (y := yn55) hown0 (mvT hZ0 (w107 hw)) (mvT hZ0 (w108 hw)) (mvT hZ0 (w109 hw)) (mvT hZ0 (w110 hw)) (by decide) (backOfSH (W := 0) (rm_addOne l Z a0 hw [] b101 fg c0 c1 a_105 t_106 kb_107 16 ([] : List Int32) 0 cS u8 hd kh T104.heap n0 z110 O123 S_cs hcS S_ui S_u8 S_hx V_hx F111 P104_2 P104_3 P104_4 P104_5 P104_6 P104_7 P104_8 (by first | decide | omega | (simp only [List.length_append, List.length_singleton, List.length_cons, List.length_nil]; omega) : lat ([] : List Int32) = true) own_ok0 (by first | decide | omega | (simp only [List.length_append, List.length_singleton, List.length_cons, List.length_nil]; omega) : ([] : List Int32).length ≤ 0) (by first | decide | omega | (simp only [List.length_append, List.length_singleton, List.length_cons, List.length_nil]; omega) : 0 ≤ 28) (by first | decide | omega | (simp only [List.length_append, List.length_singleton, List.length_cons, List.length_nil]; omega) : ([] : List Int32).length ≤ 16) (by first | decide | omega | (simp only [List.length_append, List.length_singleton, List.length_cons, List.length_nil]; omega) : 16 ≤ 16) (by first | decide | omega | (simp only [List.length_append, List.length_singleton, List.length_cons, List.length_nil]; omega) : 16 ≤ 84) (Nat.le_trans Z0 (Nat.le_trans K101.1 P104_0)) (Nat.le_trans Z0 (Nat.le_trans K101.1 P104_1))) hZ0 (w110 hw) (w109 hw) (by decide) (by decide) hEL R108.1) (g := (mkF m 32 #[.val (.int ct), .val (.int fg), .val (.int c0), .val (.int c1), .val (.int kk), .val (.ref b101), .val (.int (1 : Int32)), .unset, .unset] [(.int c1), (.int c0), (.int fg), (.ref b101)])) rfl (by rw [hml]; rfl) (argsL := [(.ref b101), (.int fg), (.int c0), (.int c1)]) (rest := []) (lenOf pd38 rfl) rfl (wq rfl) (D_ at_32) (fun _ _ => ⟨rfl, eq109, (nb rfl), (by dsimp only [Pt.slots, room_1]; omega)⟩)
    dsimp only [Pt.U, Pt.locs, Pt.cells, Pt.slots] at X124' hS124' hgr124 l124 y124 z124 st124 hQ124 A124
    subst l124 y124 z124
    obtain ⟨X124, hS124, hZ124, hown124⟩ := rebS hS0 (by rw [eq109]; exact (Nat.le_trans hk0 (Nat.le_trans K101.1 K104.1))) X124' hS124' hgr124 hZ0 hown0
    obtain ⟨t2_125, kb2_126, N2_127, qs2_128, rfl, Nq124, K124, P124_0, P124_1, P124_2, P124_3, P124_4, P124_5, P124_6, P124_7, P124_8, P124_9, P124_10, P124_11, P124_12, P124_13⟩ := hQ124
    have N124 := Fr.app N109 Nq124
    have R129 : CHr Z EL_1 s.vm h0 T124.vm T124.heap := R108.trans A124
    have hk124 : T124.heap.size ≤ T124.heap.size := Nat.le_refl _
    have W130 : ∀ zQ, SS p e below T124 m 38 #[.val (.int ct), .val (.int fg), .val (.int c0), .val (.int c1), .val (.int kk), .val (.ref b101), .val (.int (1 : Int32)), .unset, .unset] [(.int (2 : Int32)), (.int kk)] zQ → Steps p.tables e below (s₁.setTop (entryFrame m #[(.int ct), (.int fg), (.int c0), (.int c1)] maxLocals)) zQ := by
      intro tt kt
      refine W112 tt ?_
      refine XS.icmpNo X109.here hx rfl (D_ at_24) rfl (flt hc113).1 ?_
      refine XS.aload X109.here hx rfl (D_ at_27) rfl rfl ?_
      refine XS.iloadN X109.here hx rfl (D_ at_29) rfl ?_
      refine XS.iloadN X109.here hx rfl (D_ at_30) rfl ?_
      refine XS.iloadN X109.here hx rfl (D_ at_31) rfl ?_
      refine st124.trans ?_
      refine XS.iload X124.here hx rfl (D_ at_35) rfl ?_
      refine XS.iconst X124.here hx rfl (D_ at_37) ?_
      exact kt
    by_cases hc131 : kk < (2 : Int32)
    ·
      have F132 : Fld Z T124.heap b101 "com/example/patents_via_api/patentsviaapi/http/QueryString" "query" "Ljava/lang/StringBuilder;" (.ref a_105) := (P104_2.keep K124 (ninS (Nat.ne_of_lt (Nat.lt_of_lt_of_le A101.lt P104_0)) (ninS (Nat.ne_of_lt (Nat.lt_of_lt_of_le A101.lt P104_1)) nin0)))
      have F133 : Exa Z T124.heap a_105 "java/lang/StringBuilder" := (P104_3.keep K124)
      have F135 : Exa Z T124.heap b101 "com/example/patents_via_api/patentsviaapi/http/QueryString" := (F111.keep K124)
      obtain ⟨cq134, kq134, q134a, q134b, q134c⟩ := isOf hZ124 rfl F135
      obtain ⟨_, _, ⟨T134, L134, k134, n134⟩, -, X134, ⟨Lc134, hQ134, l134, y134, z134⟩, st134⟩ := X124.virtualBack hx (y := yn49) (z := yn49) hown124 (mvT hZ124 (w31 hw)) (mvT hZ124 (w32 hw)) (notFace_of_selects (args := #[]) (mvT hZ124 (w34 hw))) (mvT hZ124 (w34 hw)) (mvT hZ124 (w33 hw)) (by decide) (backOf (W := 0) (rm_qsEmpty l Z a0 hw [] b101 a_105 (Int32.ofNat qs2_128.length) T124.heap n0 (Nat.le_trans z110 K124.1) F132 F133 P124_2) hZ124 (w35 hw) (w2 hw) (by decide) (by decide)) q134a q134c (g := (mkF m 77 #[.val (.int ct), .val (.int fg), .val (.int c0), .val (.int c1), .val (.int kk), .val (.ref b101), .val (.int (1 : Int32)), .unset, .unset] [(.ref b101)])) rfl (by rw [hml]; rfl) (Steps.refl _) (argsL := []) (rest := []) (lenOf pd8 rfl) rfl (wq rfl) (D_ at_77) (fun _ _ => ⟨rfl, rfl, (nb rfl), (nb rfl)⟩)
      dsimp only [Pt.U, Pt.locs, Pt.cells, Pt.slots] at X134 l134 y134 z134 st134 hQ134
      subst l134 y134 z134
      obtain ⟨rfl, Nq134, eq134⟩ := hQ134
      have N134 := Fr.app N124 Nq134
      have O136 : Old Z n0 T124.heap := (O123.keep K124 (allS (Nat.le_trans Z0 (Nat.le_trans K101.1 P104_0)) (allS (Nat.le_trans Z0 (Nat.le_trans K101.1 P104_1)) all0)))
      obtain ⟨cq137, kq137, q137a, q137b, q137c⟩ := isOf hZ124 eq134 F135
      obtain ⟨_, _, ⟨T137, L137, k137, n137⟩, -, X137, ⟨Lc137, hQ137, l137, y137, z137⟩, st137⟩ := X134.virtualBack hx (y := yn50) (z := yn50) hown124 (mvT hZ124 (w48 hw)) (mvT hZ124 (w49 hw)) (notFace_of_selects (args := #[]) (mvT hZ124 (w51 hw))) (mvT hZ124 (w51 hw)) (mvT hZ124 (w50 hw)) (by decide) (backOf (W := 0) (rm_qsStr l Z a0 hw [] b101 a_105 t2_125 kb2_126 N2_127 qs2_128 cS T124.heap n0 (Nat.le_trans z110 K124.1) O136 S_cs hcS F132 F133 P124_0 P124_1 P124_2 P124_3 P124_4 P124_9 P124_11 P124_5 P124_6) hZ124 (w52 hw) (w2 hw) (by decide) (by decide)) q137a q137c (g := (mkF m 84 #[.val (.int ct), .val (.int fg), .val (.int c0), .val (.int c1), .val (.int kk), .val (.ref b101), .val (.int (1 : Int32)), .val (.int (0 : Int32)), .unset] [(.ref b101)])) rfl (by rw [hml]; rfl) (Steps.refl _) (argsL := []) (rest := []) (lenOf pd30 rfl) rfl (wq rfl) (D_ at_84) (fun _ _ => ⟨rfl, eq134, (nb rfl), (by dsimp only [Pt.slots, room_1]; omega)⟩)
      dsimp only [Pt.U, Pt.locs, Pt.cells, Pt.slots] at X137 l137 y137 z137 st137 hQ137
      subst l137 y137 z137
      obtain ⟨r_138, t2_139, kb2_140, rfl, Nq137, K137, P137_0, P137_1, P137_2⟩ := hQ137
      have N137 := Fr.app N134 Nq137
      have R141 : CHr Z EL_1 s.vm h0 T124.vm T137.heap := R129.trans (CHr.keep K137 sf0 R129.1)
      have z143 : n0 ≤ T137.heap.size := (Nat.le_trans z110 (Nat.le_trans K124.1 K137.1))
      obtain ⟨cq142, kq142, q142a, q142b, q142c⟩ := isOf hZ124 rfl P137_2.1
      obtain ⟨_, _, ⟨T142, L142, k142, n142⟩, -, X142, ⟨Lc142, hQ142, l142, y142, z142⟩, st142⟩ := X137.virtualBack hx (y := yn51) (z := yn51) hown124 (mvT hZ124 (w102 hw)) (mvT hZ124 (w103 hw)) (notFace_of_selects (args := #[]) (mvT hZ124 (w105 hw))) (mvT hZ124 (w105 hw)) (mvT hZ124 (w104 hw)) (by decide) (backOf (W := 1) (rm_sEmpty l Z a0 hw [] r_138 t2_139 kb2_140 qs2_128 T137.heap n0 z143 P137_2) hZ124 (w106 hw) (w23 hw) (by decide) (by decide)) q142a q142c (g := (mkF m 113 #[.val (.int ct), .val (.int fg), .val (.int c0), .val (.int c1), .val (.int kk), .val (.ref b101), .val (.int (1 : Int32)), .val (.int (0 : Int32)), .val (.ref r_138)] [(.ref r_138), (.int (0 : Int32))])) rfl (by rw [hml]; rfl) (Steps.refl _) (argsL := []) (rest := [(.int (0 : Int32))]) (lenOf pd8 rfl) rfl (wq rfl) (D_ at_113) (fun _ _ => ⟨rfl, rfl, (nb rfl), (nb rfl)⟩)
      dsimp only [Pt.U, Pt.locs, Pt.cells, Pt.slots] at X142 l142 y142 z142 st142 hQ142
      subst l142 y142 z142
      obtain ⟨rfl, Nq142, eq142⟩ := hQ142
      have N142 := Fr.app N137 Nq142
      have W144 : ∀ zQ, SS p e below T142 m 124 #[.val (.int ct), .val (.int fg), .val (.int c0), .val (.int c1), .val (.int kk), .val (.ref b101), .val (.int (1 : Int32)), .val (.int (0 : Int32)), .val (.ref r_138)] [(.int (1 : Int32))] zQ → Steps p.tables e below (s₁.setTop (entryFrame m #[(.int ct), (.int fg), (.int c0), (.int c1)] maxLocals)) zQ := by
        intro tt kt
        refine W130 tt ?_
        refine XS.icmpYes X124.here hx rfl (pc0 := 38) (pc' := 52) rfl (D_ at_38) rfl (tlt hc131).1 (by decide) (by decide) ?_
        refine XS.iload X124.here hx rfl (D_ at_52) rfl ?_
        refine XS.iconst X124.here hx rfl (D_ at_54) ?_
        refine XS.icmpYes X124.here hx rfl (pc0 := 55) (pc' := 75) rfl (D_ at_55) rfl (tlt (own_ltx hc131 (by decide))).1 (by decide) (by decide) ?_
        refine XS.aload X124.here hx rfl (D_ at_75) rfl rfl ?_
        refine st134.trans ?_
        show SS p e below T134 m 80 #[.val (.int ct), .val (.int fg), .val (.int c0), .val (.int c1), .val (.int kk), .val (.ref b101), .val (.int (1 : Int32)), .unset, .unset] [(.int (if (Int32.ofNat qs2_128.length) = (0 : Int32) then (1 : Int32) else (0 : Int32)))] _
        rw [show (if (Int32.ofNat qs2_128.length) = (0 : Int32) then (1 : Int32) else (0 : Int32)) = (0 : Int32) from (if_neg (own_pos P124_8 (by omega)))]
        refine XS.istore X134.here hx rfl (D_ at_80) rfl (l' := #[.val (.int ct), .val (.int fg), .val (.int c0), .val (.int c1), .val (.int kk), .val (.ref b101), .val (.int (1 : Int32)), .val (.int (0 : Int32)), .unset]) rfl ?_
        refine XS.aload X134.here hx rfl (D_ at_82) rfl rfl ?_
        refine st137.trans ?_
        refine XS.astore X137.here hx rfl (D_ at_87) rfl rfl (l' := #[.val (.int ct), .val (.int fg), .val (.int c0), .val (.int c1), .val (.int kk), .val (.ref b101), .val (.int (1 : Int32)), .val (.int (0 : Int32)), .val (.ref r_138)]) rfl ?_
        refine XS.iload X137.here hx rfl (D_ at_89) rfl ?_
        refine XS.ifNo X137.here hx rfl (D_ at_91) rfl ((if0 _ _).trans (feq (by decide)).1) ?_
        refine XS.iload X137.here hx rfl (D_ at_94) rfl ?_
        refine XS.iload X137.here hx rfl (D_ at_96) rfl ?_
        refine XS.ifYes X137.here hx rfl (pc0 := 98) (pc' := 105) rfl (D_ at_98) rfl ((if0 _ _).trans (feq (own_ne0 hc113)).2) (by decide) (by decide) ?_
        refine XS.iconst X137.here hx rfl (D_ at_105) ?_
        refine XS.icmpNo X137.here hx rfl (D_ at_106) rfl (teq (by decide)).2 ?_
        refine XS.iload X137.here hx rfl (D_ at_109) rfl ?_
        refine XS.aload X137.here hx rfl (D_ at_111) rfl rfl ?_
        refine st142.trans ?_
        show SS p e below T142 m 116 #[.val (.int ct), .val (.int fg), .val (.int c0), .val (.int c1), .val (.int kk), .val (.ref b101), .val (.int (1 : Int32)), .val (.int (0 : Int32)), .val (.ref r_138)] [(.int (if (Int32.ofNat (blen qs2_128)) = (0 : Int32) then (1 : Int32) else (0 : Int32))), (.int (0 : Int32))] _
        rw [show (if (Int32.ofNat (blen qs2_128)) = (0 : Int32) then (1 : Int32) else (0 : Int32)) = (0 : Int32) from (if_neg (by rw [(enc_lat P124_5).2.1]; exact own_pos P124_8 (by omega)))]
        refine XS.icmpNo X142.here hx rfl (D_ at_116) rfl (teq (by decide)).2 ?_
        refine XS.iconst X142.here hx rfl (D_ at_119) ?_
        refine XS.goto X142.here hx rfl (pc0 := 120) (pc' := 124) rfl (D_ at_120) (by decide) (by decide) ?_
        exact kt
      obtain ⟨fs, hr, hrun, hended, hRW⟩ := Jvm.Stand.leaveW X142 hS124 (by rw [eq142]; exact (Nat.le_trans hk124 K137.1)) (v := some (.int (nar .boolean (1 : Int32)))) (fun h => by rw [Bd.returns] at h; cases h) (BodyLoose.notSynchronized Bd)
      refine ⟨_, _, W144 _ (retN X142 hx (t := .boolean) Bd.returns (by simp) (D_ at_124) hr), hrun, hended, _, _, rfl, ?_, own_chr (T := T142) R141 (CHv.at X142 hZ124 hEL R141.1) hh.symm eq142, own_rw hRW (by decide) (by decide)⟩
      show Q_law Z ct fg c0 c1 cS u8 hd kh h0 n0 _ T142.heap _
      rw [eq142]
      exact ⟨rfl, N142, (Keep.trans (Keep.trans (Keep.trans (Keep.trans (Keep.refl h0 []) K101 all0) K104 (allS (Or.inr (Nat.le_of_eq g101.symm)) all0)) K124 (allS (Or.inr (Nat.le_trans K101.1 P104_0)) (allS (Or.inr (Nat.le_trans K101.1 P104_1)) all0))) K137 all0)⟩
    ·
      have F145 : Exa Z T124.heap b101 "com/example/patents_via_api/patentsviaapi/http/QueryString" := (F111.keep K124)
      have F146 : Fld Z T124.heap b101 "com/example/patents_via_api/patentsviaapi/http/QueryString" "query" "Ljava/lang/StringBuilder;" (.ref a_105) := (P104_2.keep K124 (ninS (Nat.ne_of_lt (Nat.lt_of_lt_of_le A101.lt P104_0)) (ninS (Nat.ne_of_lt (Nat.lt_of_lt_of_le A101.lt P104_1)) nin0)))
      have F147 : Exa Z T124.heap a_105 "java/lang/StringBuilder" := (P104_3.keep K124)
      have O148 : Old Z n0 T124.heap := (O123.keep K124 (allS (Nat.le_trans Z0 (Nat.le_trans K101.1 P104_0)) (allS (Nat.le_trans Z0 (Nat.le_trans K101.1 P104_1)) all0)))
      obtain ⟨_, _, ⟨T149, L149, k149, n149⟩, -, X149', hS149', hgr149, ⟨Lc149, hQ149, l149, y149, z149, A149⟩, st149⟩ := callSS X124 hx (y := yn55) hown124 (mvT hZ124 (w107 hw)) (mvT hZ124 (w108 hw)) (mvT hZ124 (w109 hw)) (mvT hZ124 (w110 hw)) (by decide) (backOfSH (W := 0) (rm_addOne l Z a0 hw [] b101 ((fg.toUInt32 >>> ((8 : Int32) &&& 31).toUInt32).toInt32) c1 c0 a_105 t2_125 kb2_126 N2_127 qs2_128 (0 + 14) cS u8 hd kh T124.heap n0 (Nat.le_trans z110 K124.1) O148 S_cs hcS S_ui S_u8 S_hx V_hx F145 F146 F147 P124_0 P124_1 P124_2 P124_3 P124_4 P124_5 P124_6 P124_7 (by first | decide | omega | (simp only [List.length_append, List.length_singleton, List.length_cons, List.length_nil]; omega) : (0 + 14) ≤ 28) P124_9 P124_10 P124_11 (Nat.le_trans Z0 (Nat.le_trans K101.1 P104_0)) P124_12) hZ124 (w110 hw) (w109 hw) (by decide) (by decide) hEL R129.1) (g := (mkF m 49 #[.val (.int ct), .val (.int fg), .val (.int c0), .val (.int c1), .val (.int kk), .val (.ref b101), .val (.int (1 : Int32)), .unset, .unset] [(.int c0), (.int c1), (.int ((fg.toUInt32 >>> ((8 : Int32) &&& 31).toUInt32).toInt32)), (.ref b101)])) rfl (by rw [hml]; rfl) (argsL := [(.ref b101), (.int ((fg.toUInt32 >>> ((8 : Int32) &&& 31).toUInt32).toInt32)), (.int c1), (.int c0)]) (rest := []) (lenOf pd38 rfl) rfl (wq rfl) (D_ at_49) (fun _ _ => ⟨rfl, rfl, (nb rfl), (by dsimp only [Pt.slots, room_1]; omega)⟩)
      dsimp only [Pt.U, Pt.locs, Pt.cells, Pt.slots] at X149' hS149' hgr149 l149 y149 z149 st149 hQ149 A149
      subst l149 y149 z149
      obtain ⟨X149, hS149, hZ149, hown149⟩ := rebS hS124 hk124 X149' hS149' hgr149 hZ124 hown124
      obtain ⟨t2_150, kb2_151, N2_152, qs2_153, rfl, Nq149, K149, P149_0, P149_1, P149_2, P149_3, P149_4, P149_5, P149_6, P149_7, P149_8, P149_9, P149_10, P149_11, P149_12, P149_13⟩ := hQ149
      have N149 := Fr.app N124 Nq149
      have R154 : CHr Z EL_1 s.vm h0 T149.vm T149.heap := R129.trans A149
      have hk149 : T149.heap.size ≤ T149.heap.size := Nat.le_refl _
      have W155 : ∀ zQ, SS p e below T149 m 55 #[.val (.int ct), .val (.int fg), .val (.int c0), .val (.int c1), .val (.int kk), .val (.ref b101), .val (.int (1 : Int32)), .unset, .unset] [(.int (3 : Int32)), (.int kk)] zQ → Steps p.tables e below (s₁.setTop (entryFrame m #[(.int ct), (.int fg), (.int c0), (.int c1)] maxLocals)) zQ := by
        intro tt kt
        refine W130 tt ?_
        refine XS.icmpNo X124.here hx rfl (D_ at_38) rfl (flt hc131).1 ?_
        refine XS.aload X124.here hx rfl (D_ at_41) rfl rfl ?_
        refine XS.iloadN X124.here hx rfl (D_ at_43) rfl ?_
        refine XS.bipush X124.here hx rfl (D_ at_44) ?_
        refine XS.iushr X124.here hx rfl (D_ at_46) rfl ?_
        refine XS.iloadN X124.here hx rfl (D_ at_47) rfl ?_
        refine XS.iloadN X124.here hx rfl (D_ at_48) rfl ?_
        refine st149.trans ?_
        refine XS.iload X149.here hx rfl (D_ at_52) rfl ?_
        refine XS.iconst X149.here hx rfl (D_ at_54) ?_
        exact kt
      by_cases hc156 : kk < (3 : Int32)
      ·
        have ne157 : b101 ≠ t2_125 := (own_alne P124_13 (Nat.lt_of_lt_of_le A101.lt K104.1) (Nat.ne_of_lt (Nat.lt_of_lt_of_le A101.lt P104_1)))
        have F158 : Fld Z T149.heap b101 "com/example/patents_via_api/patentsviaapi/http/QueryString" "query" "Ljava/lang/StringBuilder;" (.ref a_105) := (F146.keep K149 (ninS (Nat.ne_of_lt (Nat.lt_of_lt_of_le A101.lt P104_0)) (ninS ne157 nin0)))
        have F159 : Exa Z T149.heap a_105 "java/lang/StringBuilder" := (F147.keep K149)
        have z161 : n0 ≤ T149.heap.size := (Nat.le_trans z110 (Nat.le_trans K124.1 K149.1))
        have F162 : Exa Z T149.heap b101 "com/example/patents_via_api/patentsviaapi/http/QueryString" := (F145.keep K149)
        obtain ⟨cq160, kq160, q160a, q160b, q160c⟩ := isOf hZ149 rfl F162
        obtain ⟨_, _, ⟨T160, L160, k160, n160⟩, -, X160, ⟨Lc160, hQ160, l160, y160, z160⟩, st160⟩ := X149.virtualBack hx (y := yn49) (z := yn49) hown149 (mvT hZ149 (w31 hw)) (mvT hZ149 (w32 hw)) (notFace_of_selects (args := #[]) (mvT hZ149 (w34 hw))) (mvT hZ149 (w34 hw)) (mvT hZ149 (w33 hw)) (by decide) (backOf (W := 0) (rm_qsEmpty l Z a0 hw [] b101 a_105 (Int32.ofNat qs2_153.length) T149.heap n0 z161 F158 F159 P149_2) hZ149 (w35 hw) (w2 hw) (by decide) (by decide)) q160a q160c (g := (mkF m 77 #[.val (.int ct), .val (.int fg), .val (.int c0), .val (.int c1), .val (.int kk), .val (.ref b101), .val (.int (1 : Int32)), .unset, .unset] [(.ref b101)])) rfl (by rw [hml]; rfl) (Steps.refl _) (argsL := []) (rest := []) (lenOf pd8 rfl) rfl (wq rfl) (D_ at_77) (fun _ _ => ⟨rfl, rfl, (nb rfl), (nb rfl)⟩)
        dsimp only [Pt.U, Pt.locs, Pt.cells, Pt.slots] at X160 l160 y160 z160 st160 hQ160
        subst l160 y160 z160
        obtain ⟨rfl, Nq160, eq160⟩ := hQ160
        have N160 := Fr.app N149 Nq160
        have O163 : Old Z n0 T149.heap := (O148.keep K149 (allS (Nat.le_trans Z0 (Nat.le_trans K101.1 P104_0)) (allS P124_12 all0)))
        obtain ⟨cq164, kq164, q164a, q164b, q164c⟩ := isOf hZ149 eq160 F162
        obtain ⟨_, _, ⟨T164, L164, k164, n164⟩, -, X164, ⟨Lc164, hQ164, l164, y164, z164⟩, st164⟩ := X160.virtualBack hx (y := yn50) (z := yn50) hown149 (mvT hZ149 (w48 hw)) (mvT hZ149 (w49 hw)) (notFace_of_selects (args := #[]) (mvT hZ149 (w51 hw))) (mvT hZ149 (w51 hw)) (mvT hZ149 (w50 hw)) (by decide) (backOf (W := 0) (rm_qsStr l Z a0 hw [] b101 a_105 t2_150 kb2_151 N2_152 qs2_153 cS T149.heap n0 z161 O163 S_cs hcS F158 F159 P149_0 P149_1 P149_2 P149_3 P149_4 P149_9 P149_11 P149_5 P149_6) hZ149 (w52 hw) (w2 hw) (by decide) (by decide)) q164a q164c (g := (mkF m 84 #[.val (.int ct), .val (.int fg), .val (.int c0), .val (.int c1), .val (.int kk), .val (.ref b101), .val (.int (1 : Int32)), .val (.int (0 : Int32)), .unset] [(.ref b101)])) rfl (by rw [hml]; rfl) (Steps.refl _) (argsL := []) (rest := []) (lenOf pd30 rfl) rfl (wq rfl) (D_ at_84) (fun _ _ => ⟨rfl, eq160, (nb rfl), (by dsimp only [Pt.slots, room_1]; omega)⟩)
        dsimp only [Pt.U, Pt.locs, Pt.cells, Pt.slots] at X164 l164 y164 z164 st164 hQ164
        subst l164 y164 z164
        obtain ⟨r_165, t2_166, kb2_167, rfl, Nq164, K164, P164_0, P164_1, P164_2⟩ := hQ164
        have N164 := Fr.app N160 Nq164
        have R168 : CHr Z EL_1 s.vm h0 T149.vm T164.heap := R154.trans (CHr.keep K164 sf0 R154.1)
        obtain ⟨cq169, kq169, q169a, q169b, q169c⟩ := isOf hZ149 rfl P164_2.1
        obtain ⟨_, _, ⟨T169, L169, k169, n169⟩, -, X169, ⟨Lc169, hQ169, l169, y169, z169⟩, st169⟩ := X164.virtualBack hx (y := yn51) (z := yn51) hown149 (mvT hZ149 (w102 hw)) (mvT hZ149 (w103 hw)) (notFace_of_selects (args := #[]) (mvT hZ149 (w105 hw))) (mvT hZ149 (w105 hw)) (mvT hZ149 (w104 hw)) (by decide) (backOf (W := 1) (rm_sEmpty l Z a0 hw [] r_165 t2_166 kb2_167 qs2_153 T164.heap n0 (Nat.le_trans z161 K164.1) P164_2) hZ149 (w106 hw) (w23 hw) (by decide) (by decide)) q169a q169c (g := (mkF m 113 #[.val (.int ct), .val (.int fg), .val (.int c0), .val (.int c1), .val (.int kk), .val (.ref b101), .val (.int (1 : Int32)), .val (.int (0 : Int32)), .val (.ref r_165)] [(.ref r_165), (.int (0 : Int32))])) rfl (by rw [hml]; rfl) (Steps.refl _) (argsL := []) (rest := [(.int (0 : Int32))]) (lenOf pd8 rfl) rfl (wq rfl) (D_ at_113) (fun _ _ => ⟨rfl, rfl, (nb rfl), (nb rfl)⟩)
        dsimp only [Pt.U, Pt.locs, Pt.cells, Pt.slots] at X169 l169 y169 z169 st169 hQ169
        subst l169 y169 z169
        obtain ⟨rfl, Nq169, eq169⟩ := hQ169
        have N169 := Fr.app N164 Nq169
        have W170 : ∀ zQ, SS p e below T169 m 124 #[.val (.int ct), .val (.int fg), .val (.int c0), .val (.int c1), .val (.int kk), .val (.ref b101), .val (.int (1 : Int32)), .val (.int (0 : Int32)), .val (.ref r_165)] [(.int (1 : Int32))] zQ → Steps p.tables e below (s₁.setTop (entryFrame m #[(.int ct), (.int fg), (.int c0), (.int c1)] maxLocals)) zQ := by
          intro tt kt
          refine W155 tt ?_
          refine XS.icmpYes X149.here hx rfl (pc0 := 55) (pc' := 75) rfl (D_ at_55) rfl (tlt hc156).1 (by decide) (by decide) ?_
          refine XS.aload X149.here hx rfl (D_ at_75) rfl rfl ?_
          refine st160.trans ?_
          show SS p e below T160 m 80 #[.val (.int ct), .val (.int fg), .val (.int c0), .val (.int c1), .val (.int kk), .val (.ref b101), .val (.int (1 : Int32)), .unset, .unset] [(.int (if (Int32.ofNat qs2_153.length) = (0 : Int32) then (1 : Int32) else (0 : Int32)))] _
          rw [show (if (Int32.ofNat qs2_153.length) = (0 : Int32) then (1 : Int32) else (0 : Int32)) = (0 : Int32) from (if_neg (own_pos P149_8 (by omega)))]
          refine XS.istore X160.here hx rfl (D_ at_80) rfl (l' := #[.val (.int ct), .val (.int fg), .val (.int c0), .val (.int c1), .val (.int kk), .val (.ref b101), .val (.int (1 : Int32)), .val (.int (0 : Int32)), .unset]) rfl ?_
          refine XS.aload X160.here hx rfl (D_ at_82) rfl rfl ?_
          refine st164.trans ?_
          refine XS.astore X164.here hx rfl (D_ at_87) rfl rfl (l' := #[.val (.int ct), .val (.int fg), .val (.int c0), .val (.int c1), .val (.int kk), .val (.ref b101), .val (.int (1 : Int32)), .val (.int (0 : Int32)), .val (.ref r_165)]) rfl ?_
          refine XS.iload X164.here hx rfl (D_ at_89) rfl ?_
          refine XS.ifNo X164.here hx rfl (D_ at_91) rfl ((if0 _ _).trans (feq (by decide)).1) ?_
          refine XS.iload X164.here hx rfl (D_ at_94) rfl ?_
          refine XS.iload X164.here hx rfl (D_ at_96) rfl ?_
          refine XS.ifYes X164.here hx rfl (pc0 := 98) (pc' := 105) rfl (D_ at_98) rfl ((if0 _ _).trans (feq (own_ne0 hc113)).2) (by decide) (by decide) ?_
          refine XS.iconst X164.here hx rfl (D_ at_105) ?_
          refine XS.icmpNo X164.here hx rfl (D_ at_106) rfl (teq (by decide)).2 ?_
          refine XS.iload X164.here hx rfl (D_ at_109) rfl ?_
          refine XS.aload X164.here hx rfl (D_ at_111) rfl rfl ?_
          refine st169.trans ?_
          show SS p e below T169 m 116 #[.val (.int ct), .val (.int fg), .val (.int c0), .val (.int c1), .val (.int kk), .val (.ref b101), .val (.int (1 : Int32)), .val (.int (0 : Int32)), .val (.ref r_165)] [(.int (if (Int32.ofNat (blen qs2_153)) = (0 : Int32) then (1 : Int32) else (0 : Int32))), (.int (0 : Int32))] _
          rw [show (if (Int32.ofNat (blen qs2_153)) = (0 : Int32) then (1 : Int32) else (0 : Int32)) = (0 : Int32) from (if_neg (by rw [(enc_lat P149_5).2.1]; exact own_pos P149_8 (by omega)))]
          refine XS.icmpNo X169.here hx rfl (D_ at_116) rfl (teq (by decide)).2 ?_
          refine XS.iconst X169.here hx rfl (D_ at_119) ?_
          refine XS.goto X169.here hx rfl (pc0 := 120) (pc' := 124) rfl (D_ at_120) (by decide) (by decide) ?_
          exact kt
        obtain ⟨fs, hr, hrun, hended, hRW⟩ := Jvm.Stand.leaveW X169 hS149 (by rw [eq169]; exact (Nat.le_trans hk149 K164.1)) (v := some (.int (nar .boolean (1 : Int32)))) (fun h => by rw [Bd.returns] at h; cases h) (BodyLoose.notSynchronized Bd)
        refine ⟨_, _, W170 _ (retN X169 hx (t := .boolean) Bd.returns (by simp) (D_ at_124) hr), hrun, hended, _, _, rfl, ?_, own_chr (T := T169) R168 (CHv.at X169 hZ149 hEL R168.1) hh.symm eq169, own_rw hRW (by decide) (by decide)⟩
        show Q_law Z ct fg c0 c1 cS u8 hd kh h0 n0 _ T169.heap _
        rw [eq169]
        exact ⟨rfl, N169, (Keep.trans (Keep.trans (Keep.trans (Keep.trans (Keep.trans (Keep.refl h0 []) K101 all0) K104 (allS (Or.inr (Nat.le_of_eq g101.symm)) all0)) K124 (allS (Or.inr (Nat.le_trans K101.1 P104_0)) (allS (Or.inr (Nat.le_trans K101.1 P104_1)) all0))) K149 (allS (Or.inr (Nat.le_trans K101.1 P104_0)) (allS (Or.inr (own_alge P124_13 (Nat.le_trans K101.1 P104_1) (Nat.le_trans K101.1 K104.1))) all0))) K164 all0)⟩
      ·
        have F171 : Exa Z T149.heap b101 "com/example/patents_via_api/patentsviaapi/http/QueryString" := (F145.keep K149)
        have ne172 : b101 ≠ t2_125 := (own_alne P124_13 (Nat.lt_of_lt_of_le A101.lt K104.1) (Nat.ne_of_lt (Nat.lt_of_lt_of_le A101.lt P104_1)))
        have F173 : Fld Z T149.heap b101 "com/example/patents_via_api/patentsviaapi/http/QueryString" "query" "Ljava/lang/StringBuilder;" (.ref a_105) := (F146.keep K149 (ninS (Nat.ne_of_lt (Nat.lt_of_lt_of_le A101.lt P104_0)) (ninS ne172 nin0)))
        have F174 : Exa Z T149.heap a_105 "java/lang/StringBuilder" := (F147.keep K149)
        have O175 : Old Z n0 T149.heap := (O148.keep K149 (allS (Nat.le_trans Z0 (Nat.le_trans K101.1 P104_0)) (allS P124_12 all0)))
        have z177 : n0 ≤ T149.heap.size := (Nat.le_trans z110 (Nat.le_trans K124.1 K149.1))
        obtain ⟨_, _, ⟨T176, L176, k176, n176⟩, -, X176', hS176', hgr176, ⟨Lc176, hQ176, l176, y176, z176, A176⟩, st176⟩ := callSS X149 hx (y := yn55) hown149 (mvT hZ149 (w107 hw)) (mvT hZ149 (w108 hw)) (mvT hZ149 (w109 hw)) (mvT hZ149 (w110 hw)) (by decide) (backOfSH (W := 0) (rm_addOne l Z a0 hw [] b101 ((fg.toUInt32 >>> ((16 : Int32) &&& 31).toUInt32).toInt32) ((c0.toUInt32 >>> ((8 : Int32) &&& 31).toUInt32).toInt32) ((c1.toUInt32 >>> ((8 : Int32) &&& 31).toUInt32).toInt32) a_105 t2_150 kb2_151 N2_152 qs2_153 ((0 + 14) + 14) cS u8 hd kh T149.heap n0 z177 O175 S_cs hcS S_ui S_u8 S_hx V_hx F171 F173 F174 P149_0 P149_1 P149_2 P149_3 P149_4 P149_5 P149_6 P149_7 (by first | decide | omega | (simp only [List.length_append, List.length_singleton, List.length_cons, List.length_nil]; omega) : ((0 + 14) + 14) ≤ 28) P149_9 P149_10 P149_11 (Nat.le_trans Z0 (Nat.le_trans K101.1 P104_0)) P149_12) hZ149 (w110 hw) (w109 hw) (by decide) (by decide) hEL R154.1) (g := (mkF m 72 #[.val (.int ct), .val (.int fg), .val (.int c0), .val (.int c1), .val (.int kk), .val (.ref b101), .val (.int (1 : Int32)), .unset, .unset] [(.int ((c1.toUInt32 >>> ((8 : Int32) &&& 31).toUInt32).toInt32)), (.int ((c0.toUInt32 >>> ((8 : Int32) &&& 31).toUInt32).toInt32)), (.int ((fg.toUInt32 >>> ((16 : Int32) &&& 31).toUInt32).toInt32)), (.ref b101)])) rfl (by rw [hml]; rfl) (argsL := [(.ref b101), (.int ((fg.toUInt32 >>> ((16 : Int32) &&& 31).toUInt32).toInt32)), (.int ((c0.toUInt32 >>> ((8 : Int32) &&& 31).toUInt32).toInt32)), (.int ((c1.toUInt32 >>> ((8 : Int32) &&& 31).toUInt32).toInt32))]) (rest := []) (lenOf pd38 rfl) rfl (wq rfl) (D_ at_72) (fun _ _ => ⟨rfl, rfl, (nb rfl), (by dsimp only [Pt.slots, room_1]; omega)⟩)
        dsimp only [Pt.U, Pt.locs, Pt.cells, Pt.slots] at X176' hS176' hgr176 l176 y176 z176 st176 hQ176 A176
        subst l176 y176 z176
        obtain ⟨X176, hS176, hZ176, hown176⟩ := rebS hS149 hk149 X176' hS176' hgr176 hZ149 hown149
        obtain ⟨t2_178, kb2_179, N2_180, qs2_181, rfl, Nq176, K176, P176_0, P176_1, P176_2, P176_3, P176_4, P176_5, P176_6, P176_7, P176_8, P176_9, P176_10, P176_11, P176_12, P176_13⟩ := hQ176
        have N176 := Fr.app N149 Nq176
        have R182 : CHr Z EL_1 s.vm h0 T176.vm T176.heap := R154.trans A176
        have hk176 : T176.heap.size ≤ T176.heap.size := Nat.le_refl _
        have ne183 : b101 ≠ t2_150 := (own_alne P149_13 (Nat.lt_of_lt_of_le A101.lt (Nat.le_trans K104.1 K124.1)) ne172)
        have F184 : Fld Z T176.heap b101 "com/example/patents_via_api/patentsviaapi/http/QueryString" "query" "Ljava/lang/StringBuilder;" (.ref a_105) := (F173.keep K176 (ninS (Nat.ne_of_lt (Nat.lt_of_lt_of_le A101.lt P104_0)) (ninS ne183 nin0)))
        have F185 : Exa Z T176.heap a_105 "java/lang/StringBuilder" := (F174.keep K176)
        have F187 : Exa Z T176.heap b101 "com/example/patents_via_api/patentsviaapi/http/QueryString" := (F171.keep K176)
        obtain ⟨cq186, kq186, q186a, q186b, q186c⟩ := isOf hZ176 rfl F187
        obtain ⟨_, _, ⟨T186, L186, k186, n186⟩, -, X186, ⟨Lc186, hQ186, l186, y186, z186⟩, st186⟩ := X176.virtualBack hx (y := yn49) (z := yn49) hown176 (mvT hZ176 (w31 hw)) (mvT hZ176 (w32 hw)) (notFace_of_selects (args := #[]) (mvT hZ176 (w34 hw))) (mvT hZ176 (w34 hw)) (mvT hZ176 (w33 hw)) (by decide) (backOf (W := 0) (rm_qsEmpty l Z a0 hw [] b101 a_105 (Int32.ofNat qs2_181.length) T176.heap n0 (Nat.le_trans z177 K176.1) F184 F185 P176_2) hZ176 (w35 hw) (w2 hw) (by decide) (by decide)) q186a q186c (g := (mkF m 77 #[.val (.int ct), .val (.int fg), .val (.int c0), .val (.int c1), .val (.int kk), .val (.ref b101), .val (.int (1 : Int32)), .unset, .unset] [(.ref b101)])) rfl (by rw [hml]; rfl) (Steps.refl _) (argsL := []) (rest := []) (lenOf pd8 rfl) rfl (wq rfl) (D_ at_77) (fun _ _ => ⟨rfl, rfl, (nb rfl), (nb rfl)⟩)
        dsimp only [Pt.U, Pt.locs, Pt.cells, Pt.slots] at X186 l186 y186 z186 st186 hQ186
        subst l186 y186 z186
        obtain ⟨rfl, Nq186, eq186⟩ := hQ186
        have N186 := Fr.app N176 Nq186
        have O188 : Old Z n0 T176.heap := (O175.keep K176 (allS (Nat.le_trans Z0 (Nat.le_trans K101.1 P104_0)) (allS P149_12 all0)))
        obtain ⟨cq189, kq189, q189a, q189b, q189c⟩ := isOf hZ176 eq186 F187
        obtain ⟨_, _, ⟨T189, L189, k189, n189⟩, -, X189, ⟨Lc189, hQ189, l189, y189, z189⟩, st189⟩ := X186.virtualBack hx (y := yn50) (z := yn50) hown176 (mvT hZ176 (w48 hw)) (mvT hZ176 (w49 hw)) (notFace_of_selects (args := #[]) (mvT hZ176 (w51 hw))) (mvT hZ176 (w51 hw)) (mvT hZ176 (w50 hw)) (by decide) (backOf (W := 0) (rm_qsStr l Z a0 hw [] b101 a_105 t2_178 kb2_179 N2_180 qs2_181 cS T176.heap n0 (Nat.le_trans z177 K176.1) O188 S_cs hcS F184 F185 P176_0 P176_1 P176_2 P176_3 P176_4 P176_9 P176_11 P176_5 P176_6) hZ176 (w52 hw) (w2 hw) (by decide) (by decide)) q189a q189c (g := (mkF m 84 #[.val (.int ct), .val (.int fg), .val (.int c0), .val (.int c1), .val (.int kk), .val (.ref b101), .val (.int (1 : Int32)), .val (.int (0 : Int32)), .unset] [(.ref b101)])) rfl (by rw [hml]; rfl) (Steps.refl _) (argsL := []) (rest := []) (lenOf pd30 rfl) rfl (wq rfl) (D_ at_84) (fun _ _ => ⟨rfl, eq186, (nb rfl), (by dsimp only [Pt.slots, room_1]; omega)⟩)
        dsimp only [Pt.U, Pt.locs, Pt.cells, Pt.slots] at X189 l189 y189 z189 st189 hQ189
        subst l189 y189 z189
        obtain ⟨r_190, t2_191, kb2_192, rfl, Nq189, K189, P189_0, P189_1, P189_2⟩ := hQ189
        have N189 := Fr.app N186 Nq189
        have R193 : CHr Z EL_1 s.vm h0 T176.vm T189.heap := R182.trans (CHr.keep K189 sf0 R182.1)
        have z195 : n0 ≤ T189.heap.size := (Nat.le_trans z177 (Nat.le_trans K176.1 K189.1))
        obtain ⟨cq194, kq194, q194a, q194b, q194c⟩ := isOf hZ176 rfl P189_2.1
        obtain ⟨_, _, ⟨T194, L194, k194, n194⟩, -, X194, ⟨Lc194, hQ194, l194, y194, z194⟩, st194⟩ := X189.virtualBack hx (y := yn51) (z := yn51) hown176 (mvT hZ176 (w102 hw)) (mvT hZ176 (w103 hw)) (notFace_of_selects (args := #[]) (mvT hZ176 (w105 hw))) (mvT hZ176 (w105 hw)) (mvT hZ176 (w104 hw)) (by decide) (backOf (W := 1) (rm_sEmpty l Z a0 hw [] r_190 t2_191 kb2_192 qs2_181 T189.heap n0 z195 P189_2) hZ176 (w106 hw) (w23 hw) (by decide) (by decide)) q194a q194c (g := (mkF m 113 #[.val (.int ct), .val (.int fg), .val (.int c0), .val (.int c1), .val (.int kk), .val (.ref b101), .val (.int (1 : Int32)), .val (.int (0 : Int32)), .val (.ref r_190)] [(.ref r_190), (.int (0 : Int32))])) rfl (by rw [hml]; rfl) (Steps.refl _) (argsL := []) (rest := [(.int (0 : Int32))]) (lenOf pd8 rfl) rfl (wq rfl) (D_ at_113) (fun _ _ => ⟨rfl, rfl, (nb rfl), (nb rfl)⟩)
        dsimp only [Pt.U, Pt.locs, Pt.cells, Pt.slots] at X194 l194 y194 z194 st194 hQ194
        subst l194 y194 z194
        obtain ⟨rfl, Nq194, eq194⟩ := hQ194
        have N194 := Fr.app N189 Nq194
        have W196 : ∀ zQ, SS p e below T194 m 124 #[.val (.int ct), .val (.int fg), .val (.int c0), .val (.int c1), .val (.int kk), .val (.ref b101), .val (.int (1 : Int32)), .val (.int (0 : Int32)), .val (.ref r_190)] [(.int (1 : Int32))] zQ → Steps p.tables e below (s₁.setTop (entryFrame m #[(.int ct), (.int fg), (.int c0), (.int c1)] maxLocals)) zQ := by
          intro tt kt
          refine W155 tt ?_
          refine XS.icmpNo X149.here hx rfl (D_ at_55) rfl (flt hc156).1 ?_
          refine XS.aload X149.here hx rfl (D_ at_58) rfl rfl ?_
          refine XS.iloadN X149.here hx rfl (D_ at_60) rfl ?_
          refine XS.bipush X149.here hx rfl (D_ at_61) ?_
          refine XS.iushr X149.here hx rfl (D_ at_63) rfl ?_
          refine XS.iloadN X149.here hx rfl (D_ at_64) rfl ?_
          refine XS.bipush X149.here hx rfl (D_ at_65) ?_
          refine XS.iushr X149.here hx rfl (D_ at_67) rfl ?_
          refine XS.iloadN X149.here hx rfl (D_ at_68) rfl ?_
          refine XS.bipush X149.here hx rfl (D_ at_69) ?_
          refine XS.iushr X149.here hx rfl (D_ at_71) rfl ?_
          refine st176.trans ?_
          refine XS.aload X176.here hx rfl (D_ at_75) rfl rfl ?_
          refine st186.trans ?_
          show SS p e below T186 m 80 #[.val (.int ct), .val (.int fg), .val (.int c0), .val (.int c1), .val (.int kk), .val (.ref b101), .val (.int (1 : Int32)), .unset, .unset] [(.int (if (Int32.ofNat qs2_181.length) = (0 : Int32) then (1 : Int32) else (0 : Int32)))] _
          rw [show (if (Int32.ofNat qs2_181.length) = (0 : Int32) then (1 : Int32) else (0 : Int32)) = (0 : Int32) from (if_neg (own_pos P176_8 (by omega)))]
          refine XS.istore X186.here hx rfl (D_ at_80) rfl (l' := #[.val (.int ct), .val (.int fg), .val (.int c0), .val (.int c1), .val (.int kk), .val (.ref b101), .val (.int (1 : Int32)), .val (.int (0 : Int32)), .unset]) rfl ?_
          refine XS.aload X186.here hx rfl (D_ at_82) rfl rfl ?_
          refine st189.trans ?_
          refine XS.astore X189.here hx rfl (D_ at_87) rfl rfl (l' := #[.val (.int ct), .val (.int fg), .val (.int c0), .val (.int c1), .val (.int kk), .val (.ref b101), .val (.int (1 : Int32)), .val (.int (0 : Int32)), .val (.ref r_190)]) rfl ?_
          refine XS.iload X189.here hx rfl (D_ at_89) rfl ?_
          refine XS.ifNo X189.here hx rfl (D_ at_91) rfl ((if0 _ _).trans (feq (by decide)).1) ?_
          refine XS.iload X189.here hx rfl (D_ at_94) rfl ?_
          refine XS.iload X189.here hx rfl (D_ at_96) rfl ?_
          refine XS.ifYes X189.here hx rfl (pc0 := 98) (pc' := 105) rfl (D_ at_98) rfl ((if0 _ _).trans (feq (own_ne0 hc113)).2) (by decide) (by decide) ?_
          refine XS.iconst X189.here hx rfl (D_ at_105) ?_
          refine XS.icmpNo X189.here hx rfl (D_ at_106) rfl (teq (by decide)).2 ?_
          refine XS.iload X189.here hx rfl (D_ at_109) rfl ?_
          refine XS.aload X189.here hx rfl (D_ at_111) rfl rfl ?_
          refine st194.trans ?_
          show SS p e below T194 m 116 #[.val (.int ct), .val (.int fg), .val (.int c0), .val (.int c1), .val (.int kk), .val (.ref b101), .val (.int (1 : Int32)), .val (.int (0 : Int32)), .val (.ref r_190)] [(.int (if (Int32.ofNat (blen qs2_181)) = (0 : Int32) then (1 : Int32) else (0 : Int32))), (.int (0 : Int32))] _
          rw [show (if (Int32.ofNat (blen qs2_181)) = (0 : Int32) then (1 : Int32) else (0 : Int32)) = (0 : Int32) from (if_neg (by rw [(enc_lat P176_5).2.1]; exact own_pos P176_8 (by omega)))]
          refine XS.icmpNo X194.here hx rfl (D_ at_116) rfl (teq (by decide)).2 ?_
          refine XS.iconst X194.here hx rfl (D_ at_119) ?_
          refine XS.goto X194.here hx rfl (pc0 := 120) (pc' := 124) rfl (D_ at_120) (by decide) (by decide) ?_
          exact kt
        obtain ⟨fs, hr, hrun, hended, hRW⟩ := Jvm.Stand.leaveW X194 hS176 (by rw [eq194]; exact (Nat.le_trans hk176 K189.1)) (v := some (.int (nar .boolean (1 : Int32)))) (fun h => by rw [Bd.returns] at h; cases h) (BodyLoose.notSynchronized Bd)
        refine ⟨_, _, W196 _ (retN X194 hx (t := .boolean) Bd.returns (by simp) (D_ at_124) hr), hrun, hended, _, _, rfl, ?_, own_chr (T := T194) R193 (CHv.at X194 hZ176 hEL R193.1) hh.symm eq194, own_rw hRW (by decide) (by decide)⟩
        show Q_law Z ct fg c0 c1 cS u8 hd kh h0 n0 _ T194.heap _
        rw [eq194]
        exact ⟨rfl, N194, (Keep.trans (Keep.trans (Keep.trans (Keep.trans (Keep.trans (Keep.trans (Keep.refl h0 []) K101 all0) K104 (allS (Or.inr (Nat.le_of_eq g101.symm)) all0)) K124 (allS (Or.inr (Nat.le_trans K101.1 P104_0)) (allS (Or.inr (Nat.le_trans K101.1 P104_1)) all0))) K149 (allS (Or.inr (Nat.le_trans K101.1 P104_0)) (allS (Or.inr (own_alge P124_13 (Nat.le_trans K101.1 P104_1) (Nat.le_trans K101.1 K104.1))) all0))) K176 (allS (Or.inr (Nat.le_trans K101.1 P104_0)) (allS (Or.inr (own_alge P149_13 (own_alge P124_13 (Nat.le_trans K101.1 P104_1) (Nat.le_trans K101.1 K104.1)) (Nat.le_trans (Nat.le_trans K101.1 K104.1) K124.1))) all0))) K189 all0)⟩
theorem own_eqint {args : Array Value} {s : State} {t : Term} {n : Int32} (h : (Jvm.Cond.eq t (Jvm.Term.int n)).value args s none s [] = some true) : t.eval args s none [] s = some (.int n) := by
  simp only [Cond.value, Term.eval] at h
  cases ht : t.eval args s none [] s with
  | none => simp [ht] at h
  | some x => cases x <;> simp [ht] at h ⊢; exact h
theorem own_eqlong {args : Array Value} {s : State} {t : Term} {n : Int64} (h : (Jvm.Cond.eq t (Jvm.Term.long n)).value args s none s [] = some true) : t.eval args s none [] s = some (.long n) := by
  simp only [Cond.value, Term.eval] at h
  cases ht : t.eval args s none [] s with
  | none => simp [ht] at h
  | some x => cases x <;> simp [ht] at h ⊢; exact h
theorem own_neint {args : Array Value} {s : State} {t : Term} {n x : Int32} (h : (Jvm.Cond.not (Jvm.Cond.eq t (Jvm.Term.int n))).value args s none s [] = some true) (e : t.eval args s none [] s = some (.int x)) : ¬ (x = n) := by
  simpa [Cond.value, Term.eval, e] using h
theorem own_eqref {args : Array Value} {s : State} {t u : Term} {b : Addr} (h : (Jvm.Cond.eq t u).value args s none s [] = some true) (hu : u.eval args s none [] s = some (.ref b)) : t.eval args s none [] s = some (.ref b) := by
  simp only [Cond.value, hu] at h
  cases ht : t.eval args s none [] s with
  | none => simp [ht] at h
  | some x => cases x <;> simp [ht] at h ⊢; exact h
theorem own_arrlen {args : Array Value} {s : State} {t : Term} {a : Addr} {cl : Cell} {ty : FieldType} {z : Int32} (ev : t.eval args s none [] s = some (.ref a)) (A : Arr s s.heap a cl ty) (h : (Term.length t).eval args s none [] s = some (.int z)) : cl.slots.size < 2 ^ 31 ∧ cl.slots.size.toInt32 = z := by
  have e := Arr.fin (U := s) (Vm.Alike.refl _) A
  simp only [Term.eval, ev, Option.bind_eq_bind, Option.bind_some, e] at h
  by_cases q : cl.slots.size < 2 ^ 31
  · simp [q] at h; exact ⟨q, h⟩
  · simp [q] at h
theorem comes_1 {Post : Tables → Env → Array Value → State → Outcome → State → Prop} (hpost : ∀ tb e args s v u, (limb_1_1.after args s (.returned v) u = true ∧ limb_1_2.after args s (.returned v) u = true ∧ True) → ReturnedEndW s (.returned v) u (Jvm.fieldLocs frame_1_writes args s ++ Jvm.arrayLocs frame_1_arrays args s ++ Jvm.staticLocs frame_1_statics s) 136 3904 → Post tb e args s (.returned v) u) :
    ArmFor flags0 classFile x code maxLocals ret World_1 tables_1 room_1 Calls_1 rest_1 Pre_1 Post := by
  intro l hfl _ _ p e ha hc hk s m args below hf hA hF happ hP
  obtain ⟨hcalls, hrest, hpre⟩ := hP
  obtain ⟨-, -, -, hnamed, -, -, -, hat⟩ := (Spec.applies_iff hf).mp happ
  obtain ⟨hg, hn⟩ := and_e (Cond.before_iff.mp (show (Jvm.Cond.and given_1 narrow_1).before args s = true from hpre))
  obtain ⟨g1, g2⟩ := and_e hg
  obtain ⟨g3, g4⟩ := and_e g2
  obtain ⟨g5, g6⟩ := and_e g4
  obtain ⟨g7, g8⟩ := and_e g6
  obtain ⟨g9, g10⟩ := and_e hn
  obtain ⟨g11, g12⟩ := and_e g10
  obtain ⟨g13, g14⟩ := and_e g12
  obtain ⟨w0, w1, w2, w3, rfl⟩ : ∃ w0 w1 w2 w3 : Value, args = #[w0, w1, w2, w3] := by
    have hs : args.size = 4 := by simpa [Cond.value, given_1] using g1
    obtain ⟨L⟩ := args
    match L, hs with
    | [w0, w1, w2, w3], _ => exact ⟨w0, w1, w2, w3, rfl⟩
  have hw := fun d (hd : d ∈ tables_1) => atoms_spec (ws := Jvm.Cond.code x code maxLocals ret :: tables_1) hat d (List.mem_cons_of_mem _ hd)
  have hfit : Fit s := fun {y c} hc i hi => by
    obtain ⟨ha, rfl⟩ := Array.getElem?_eq_some_iff.mp hc
    have q := List.all_eq_true.mp ((Array.all_eq_true_iff_forall_mem.mp hF) _ (Array.getElem_mem ha)) i (List.mem_range.mpr hi)
    simpa [Array.getElem?_eq_getElem hi] using q
  obtain ⟨hsets, hown0⟩ := atoms_of _ (rest_1_c_eq ▸ (show rest_1_c.before _ s = true from hrest))
  obtain ⟨i0, ei0⟩ := is_v g3
  obtain rfl : w0 = (.int i0) := Option.some.inj ei0
  obtain ⟨i1, ei1⟩ := is_v g5
  obtain rfl : w1 = (.int i1) := Option.some.inj ei1
  obtain ⟨i2, ei2⟩ := is_v g7
  obtain rfl : w2 = (.int i2) := Option.some.inj ei2
  obtain ⟨i3, ei3⟩ := is_v g8
  obtain rfl : w3 = (.int i3) := Option.some.inj ei3
  obtain ⟨A_cS, e15⟩ := is_v (Cond.before_iff.mp (hsets _ (List.mem_of_getElem? (i := 1) rfl)))
  have B16 : Sta s s.heap "java/lang/String" "COMPACT_STRINGS" "Z" (.int A_cS) := Sta.start e15 (Or.inl (hsets _ (List.mem_of_getElem? (i := 0) rfl)))
  have B17 : ¬ (A_cS = (0 : Int32)) := own_neint (Cond.before_iff.mp (hsets _ (List.mem_of_getElem? (i := 2) rfl))) e15
  obtain ⟨A_u8, e18⟩ := exa_v (Cond.before_iff.mp (hsets _ (List.mem_of_getElem? (i := 17) rfl)))
  have B19 : Sta s s.heap "sun/nio/cs/UTF_8" "INSTANCE" "Lsun/nio/cs/UTF_8;" (.ref A_u8) := Sta.start e18 (Or.inl (hsets _ (List.mem_of_getElem? (i := 12) rfl)))
  have e20 := own_eqref (Cond.before_iff.mp (hsets _ (List.mem_of_getElem? (i := 13) rfl))) e18
  have B21 : Sta s s.heap "java/nio/charset/StandardCharsets" "UTF_8" "Ljava/nio/charset/Charset;" (.ref A_u8) := Sta.start e20 (Or.inl (hsets _ (List.mem_of_getElem? (i := 10) rfl)))
  obtain ⟨A_hd, e22⟩ := arr_v g9
  have B23 : Sta s s.heap "com/example/patents_via_api/patentsviaapi/http/PercentEncoding" "HEX_DIGITS" "[C" (.ref A_hd) := Sta.start e22 (Or.inr ⟨(w143 hw), (w235 hw)⟩)
  obtain ⟨cl_hd, Ar_hd⟩ := Arr.start e22 g9
  have ln_hd := own_arrlen e22 Ar_hd (own_eqint g11)
  have B24 : Arv s s.heap A_hd cl_hd.cls .char (16 : Int32) (hexL.map Value.int) (.int (0 : Int32)) := own_hexS hfit Ar_hd ln_hd.1 ln_hd.2 e22 g13 g14
  obtain ⟨n, o, h1, h2, h3, _, L, rfl, ⟨rfl, N, _⟩, -, hq⟩ := rm_law l s _ hw tables_1 i0 i1 i2 i3 A_cS A_u8 A_hd cl_hd.cls s.heap s.heap.size (Nat.le_refl _) (Old.start s) B16 B17 B19 B21 B23 B24 p e ha hc hk s m _ below hf ((Spec.applies_iff_loose hf).mp happ).1 ⟨rfl, State.Warmed39.refl s, rfl, own_chv hw hcalls.1 (Cond.before_iff.mpr (Cond.before_iff.mp (hsets _ (List.mem_of_getElem? (i := 2) rfl))))⟩ trivial
  refine ⟨n, _, h1, h2, h3, hpost _ _ _ _ _ _ ⟨Cond.after_iff.mpr rfl, Cond.after_iff.mpr (eq_i res_at (Term.int_eval (1)) rfl), trivial⟩ ⟨hq.1, hq.2.1, hq.2.2.1, (hq.2.2.2.sift fun y hy => Or.inr (N y hy)).mono (by decide) (by decide)⟩⟩
theorem main_1_1 : Claimed_1_1 := comes_1 fun _ _ _ _ _ _ h hF => ⟨h.1, hF⟩
theorem main_1_2 : Claimed_1_2 := comes_1 fun _ _ _ _ _ _ h hF => ⟨h.2.1, hF⟩

end Jvm.Pilot.@@N@@
namespace Jvm.Pilot.@@N@@
open Jvm Jvm.ClassFile Sem Op Lib Jvm.Free Jvm.Stand Jvm.Pilot.@@N@@.Jvm.D
/-! MADE BY PROGRAM (witnessworld.py) out of the Statement's table words and the real class files: 33 classes; the members and pool entries that the words name. The judged class is class 1, her method 1. -/
namespace start1
open Jvm.ClassFile
def u (s : String) : CpInfo := .utf8 (stringToUtf16 s)
/-- a pool by its gaps: so many unusable entries, then the entry; so many at the end -/
def gap : Nat → List CpInfo → List CpInfo
  | 0, r => r
  | n + 1, r => .unusable :: gap n r
def poolList (es : List (Nat × CpInfo)) (last : Nat) : List CpInfo := es.foldr (fun e r => gap e.1 (e.2 :: r)) (gap last [])
def pool (es : List (Nat × CpInfo)) (last : Nat) : Array CpInfo := ⟨poolList es last⟩
def fileOf (pool : Array CpInfo) (this : Nat) (attrs : Array Attribute := #[]) (ms : Array MethodInfo := #[]) (fl : Nat := 33) (sup : Nat := 0) (ifs : Array Nat := #[]) (fds : Array FieldInfo := #[]) : ClassFile where
  minorVersion := 0
  majorVersion := 65
  constantPool := pool
  accessFlags := fl
  thisClass := this
  superClass := sup
  interfaces := ifs
  fields := fds
  methods := ms
  attributes := attrs
def plain (name : String) (sup : Option ClassId) : Class where
  name := name
  kind := .ordinary
  loader := none
  accessFlags := 33
  super := sup
  interfaces := #[]
  cf := none
  fields := #[]
  methods := #[]
  instanceTypes := #[]
  staticTypes := #[]
  resolved := #[]
  callSites := []
  init := .initialized
  statics := none
  mirror := none

def pool0 : Array CpInfo := pool [(5, u "<init>"), (0, u "()V"), (1, .class_ 10), (1, u "java/lang/Object"), (85, u "clone"), (0, u "()Ljava/lang/Object;")] 26

def k0c0 : Code := { maxStack := 0, maxLocals := 1, code := object_method_1_code, exceptionTable := #[], attributes := #[] }
def k0m0 : Method := { name := "<init>", desc := "()V", sig := { parameters := [], returnType := none }, accessFlags := 1, code := some k0c0 }
def k0m1 : Method := { name := "clone", desc := "()Ljava/lang/Object;", sig := { parameters := [], returnType := some (.object "java/lang/Object") }, accessFlags := 260, code := none }
/-- java/lang/Object -/
def k0 : Class := { plain "java/lang/Object" none with
  accessFlags := 33
  interfaces := #[]
  cf := some (fileOf pool0 8 #[] #[{ accessFlags := 1, nameIndex := 5, descriptorIndex := 6, attributes := #[] }, { accessFlags := 260, nameIndex := 96, descriptorIndex := 97, attributes := #[] }] 33 0 #[] #[])
  fields := #[]
  methods := #[k0m0, k0m1]
  instanceTypes := #[]
  staticTypes := #[]
  resolved := Array.replicate 124 none
  statics := none }

def pool1 : Array CpInfo := pool [(2, .class_ 4), (0, .nameAndType 5 6), (0, u "java/lang/Object"), (0, u "<init>"), (0, u "()V"), (0, .class_ 8), (0, u "com/example/patents_via_api/patentsviaapi/http/QueryString"), (0, .methodref 7 3), (0, .methodref 7 11), (0, .nameAndType 12 13), (0, u "isEmpty"), (0, u "()Z"), (0, .methodref 15 16), (0, .class_ 17), (0, .nameAndType 18 19), (0, u "com/example/patents_via_api/patentsviaapi/http/QueryStringIsEmptyPinLaw"), (0, u "addOne"), (0, u "(Lcom/example/patents_via_api/patentsviaapi/http/QueryString;III)V"), (0, .methodref 7 21), (0, .nameAndType 22 23), (0, u "toString"), (0, u "()Ljava/lang/String;"), (0, .methodref 25 11), (0, .class_ 26), (0, u "java/lang/String"), (0, .methodref 15 28), (0, .nameAndType 29 30), (0, u "text"), (0, u "(II)Ljava/lang/String;"), (0, .methodref 7 32), (0, .nameAndType 33 34), (0, u "addAllowingReserved"), (0, u "(Ljava/lang/String;Ljava/lang/String;)Lcom/example/patents_via_api/patentsviaapi/http/QueryString;"), (0, .methodref 7 36), (0, .nameAndType 37 34), (0, u "add"), (0, .string 39), (0, u ""), (0, .methodref 25 41), (0, .nameAndType 42 43), (0, u "valueOf"), (0, u "(C)Ljava/lang/String;"), (2, u "law"), (0, u "(IIII)Z")] 3

def k1m0 : Method := { name := "<init>", desc := "()V", sig := { parameters := [], returnType := none }, accessFlags := 1, code := none }
def k1c1 : Code := { maxStack := 5, maxLocals := 9, code := code, exceptionTable := #[], attributes := #[] }
def k1m1 : Method := { name := "law", desc := "(IIII)Z", sig := { parameters := [.int, .int, .int, .int], returnType := some .boolean }, accessFlags := 9, code := some k1c1 }
def k1c2 : Code := { maxStack := 3, maxLocals := 6, code := method_3_code, exceptionTable := #[], attributes := #[] }
def k1m2 : Method := { name := "addOne", desc := "(Lcom/example/patents_via_api/patentsviaapi/http/QueryString;III)V", sig := { parameters := [(.object "com/example/patents_via_api/patentsviaapi/http/QueryString"), .int, .int, .int], returnType := none }, accessFlags := 10, code := some k1c2 }
def k1c3 : Code := { maxStack := 2, maxLocals := 2, code := method_4_code, exceptionTable := #[], attributes := #[] }
def k1m3 : Method := { name := "text", desc := "(II)Ljava/lang/String;", sig := { parameters := [.int, .int], returnType := some (.object "java/lang/String") }, accessFlags := 10, code := some k1c3 }
/-- com/example/patents_via_api/patentsviaapi/http/QueryStringIsEmptyPinLaw -/
def k1 : Class := { plain "com/example/patents_via_api/patentsviaapi/http/QueryStringIsEmptyPinLaw" (some 0) with
  accessFlags := 49
  interfaces := #[]
  cf := some (fileOf pool1 15 #[] #[{ accessFlags := 1, nameIndex := 5, descriptorIndex := 6, attributes := #[] }, { accessFlags := 9, nameIndex := 46, descriptorIndex := 47, attributes := #[] }, { accessFlags := 10, nameIndex := 18, descriptorIndex := 19, attributes := #[] }, { accessFlags := 10, nameIndex := 29, descriptorIndex := 30, attributes := #[] }] 49 2 #[] #[])
  fields := #[]
  methods := #[k1m0, k1m1, k1m2, k1m3]
  instanceTypes := #[]
  staticTypes := #[]
  resolved := Array.replicate 51 none
  statics := none }

def pool2 : Array CpInfo := pool [(1, .methodref 2 3), (0, .class_ 4), (0, .nameAndType 5 6), (0, u "java/lang/Object"), (0, u "<init>"), (0, u "()V"), (0, .class_ 8), (0, u "java/lang/StringBuilder"), (0, .methodref 7 3), (0, .fieldref 11 12), (0, .class_ 13), (0, .nameAndType 14 15), (0, u "com/example/patents_via_api/patentsviaapi/http/QueryString"), (0, u "query"), (0, u "Ljava/lang/StringBuilder;"), (0, .methodref 11 17), (0, .nameAndType 18 19), (0, u "append"), (0, u "(Ljava/lang/String;Ljava/lang/String;Z)Lcom/example/patents_via_api/patentsviaapi/http/QueryString;"), (0, .methodref 7 21), (0, .nameAndType 22 23), (0, u "length"), (0, u "()I"), (0, .methodref 7 25), (0, .nameAndType 26 27), (0, u "toString"), (0, u "()Ljava/lang/String;"), (0, .methodref 7 29), (0, .nameAndType 18 30), (0, u "(C)Ljava/lang/StringBuilder;"), (0, .string 32), (0, u ""), (0, .methodref 34 35), (0, .class_ 36), (0, .nameAndType 37 38), (0, u "com/example/patents_via_api/patentsviaapi/http/PercentEncoding"), (0, u "encode"), (0, u "(Ljava/lang/String;Ljava/lang/String;)Ljava/lang/String;"), (0, .methodref 7 40), (0, .nameAndType 18 41), (0, u "(Ljava/lang/String;)Ljava/lang/StringBuilder;"), (0, .string 43), (0, u ":@/?!$'()*,"), (0, u "RESERVED_KEPT_BARE"), (0, u "Ljava/lang/String;"), (3, u "add"), (0, u "(Ljava/lang/String;Ljava/lang/String;)Lcom/example/patents_via_api/patentsviaapi/http/QueryString;"), (0, u "addAllowingReserved"), (0, u "isEmpty"), (0, u "()Z")] 5

def k2c0 : Code := { maxStack := 3, maxLocals := 1, code := prog_16_method_1_code, exceptionTable := #[], attributes := #[] }
def k2m0 : Method := { name := "<init>", desc := "()V", sig := { parameters := [], returnType := none }, accessFlags := 1, code := some k2c0 }
def k2c1 : Code := { maxStack := 4, maxLocals := 3, code := prog_16_method_2_code, exceptionTable := #[], attributes := #[] }
def k2m1 : Method := { name := "add", desc := "(Ljava/lang/String;Ljava/lang/String;)Lcom/example/patents_via_api/patentsviaapi/http/QueryString;", sig := { parameters := [(.object "java/lang/String"), (.object "java/lang/String")], returnType := some (.object "com/example/patents_via_api/patentsviaapi/http/QueryString") }, accessFlags := 1, code := some k2c1 }
def k2c2 : Code := { maxStack := 4, maxLocals := 3, code := prog_16_method_3_code, exceptionTable := #[], attributes := #[] }
def k2m2 : Method := { name := "addAllowingReserved", desc := "(Ljava/lang/String;Ljava/lang/String;)Lcom/example/patents_via_api/patentsviaapi/http/QueryString;", sig := { parameters := [(.object "java/lang/String"), (.object "java/lang/String")], returnType := some (.object "com/example/patents_via_api/patentsviaapi/http/QueryString") }, accessFlags := 1, code := some k2c2 }
def k2c3 : Code := { maxStack := 1, maxLocals := 1, code := prog_16_method_4_code, exceptionTable := #[], attributes := #[] }
def k2m3 : Method := { name := "isEmpty", desc := "()Z", sig := { parameters := [], returnType := some .boolean }, accessFlags := 1, code := some k2c3 }
def k2c4 : Code := { maxStack := 1, maxLocals := 1, code := prog_16_method_5_code, exceptionTable := #[], attributes := #[] }
def k2m4 : Method := { name := "toString", desc := "()Ljava/lang/String;", sig := { parameters := [], returnType := some (.object "java/lang/String") }, accessFlags := 1, code := some k2c4 }
def k2c5 : Code := { maxStack := 3, maxLocals := 4, code := prog_16_method_6_code, exceptionTable := #[], attributes := #[] }
def k2m5 : Method := { name := "append", desc := "(Ljava/lang/String;Ljava/lang/String;Z)Lcom/example/patents_via_api/patentsviaapi/http/QueryString;", sig := { parameters := [(.object "java/lang/String"), (.object "java/lang/String"), .boolean], returnType := some (.object "com/example/patents_via_api/patentsviaapi/http/QueryString") }, accessFlags := 2, code := some k2c5 }
/-- com/example/patents_via_api/patentsviaapi/http/QueryString -/
def k2 : Class := { plain "com/example/patents_via_api/patentsviaapi/http/QueryString" (some 0) with
  accessFlags := 33
  interfaces := #[]
  cf := some (fileOf pool2 11 #[] #[{ accessFlags := 1, nameIndex := 5, descriptorIndex := 6, attributes := #[] }, { accessFlags := 1, nameIndex := 49, descriptorIndex := 50, attributes := #[] }, { accessFlags := 1, nameIndex := 51, descriptorIndex := 50, attributes := #[] }, { accessFlags := 1, nameIndex := 52, descriptorIndex := 53, attributes := #[] }, { accessFlags := 1, nameIndex := 26, descriptorIndex := 27, attributes := #[] }, { accessFlags := 2, nameIndex := 18, descriptorIndex := 19, attributes := #[] }] 33 2 #[] #[{ accessFlags := 26, nameIndex := 44, descriptorIndex := 45, attributes := #[] }, { accessFlags := 18, nameIndex := 14, descriptorIndex := 15, attributes := #[] }])
  fields := #[{ name := "RESERVED_KEPT_BARE", type := (.object "java/lang/String"), accessFlags := 26, slot := 0, constantValue := 0 }, { name := "query", type := (.object "java/lang/StringBuilder"), accessFlags := 18, slot := 0, constantValue := 0 }]
  methods := #[k2m0, k2m1, k2m2, k2m3, k2m4, k2m5]
  instanceTypes := #[(.object "java/lang/StringBuilder")]
  staticTypes := #[(.object "java/lang/String")]
  resolved := Array.replicate 59 none
  statics := none }

def pool3 : Array CpInfo := pool [(1, .class_ 2), (0, u "java/lang/Appendable"), (0, .class_ 4), (0, u "java/lang/Object")] 9

/-- java/lang/Appendable -/
def k3 : Class := { plain "java/lang/Appendable" (some 0) with
  accessFlags := 1537
  interfaces := #[]
  cf := some (fileOf pool3 1 #[] #[] 1537 3 #[] #[])
  fields := #[]
  methods := #[]
  instanceTypes := #[]
  staticTypes := #[]
  resolved := Array.replicate 14 none
  statics := none }

def pool4 : Array CpInfo := pool [(2, .class_ 4), (1, u "java/lang/CharSequence"), (42, .class_ 48), (0, u "java/lang/CharSequence$1CodePointIterator"), (10, .class_ 60), (0, u "java/lang/CharSequence$1CharIterator"), (5, .class_ 67), (0, u "java/lang/Object")] 63

/-- java/lang/CharSequence -/
def k4 : Class := { plain "java/lang/CharSequence" (some 0) with
  accessFlags := 1537
  interfaces := #[]
  cf := some (fileOf pool4 2 #[.nestMembers #[47, 59]] #[] 1537 66 #[] #[])
  fields := #[]
  methods := #[]
  instanceTypes := #[]
  staticTypes := #[]
  resolved := Array.replicate 131 none
  statics := none }

def pool5 : Array CpInfo := pool [(1, .class_ 2), (0, u "java/lang/String"), (0, .methodref 4 5), (0, .class_ 6), (0, .nameAndType 7 8), (0, u "java/lang/Object"), (0, u "<init>"), (0, u "()V"), (1, .class_ 12), (1, u "java/lang/AbstractStringBuilder"), (0, u "EMPTYVALUE"), (0, u "[B"), (0, .fieldref 10 16), (0, .nameAndType 17 14), (0, u "value"), (0, .fieldref 1 19), (0, .nameAndType 20 21), (0, u "COMPACT_STRINGS"), (0, u "Z"), (0, .fieldref 10 23), (0, .nameAndType 24 25), (0, u "coder"), (0, u "B"), (6, .methodref 1 33), (0, .nameAndType 34 35), (0, u "length"), (0, u "()I"), (3, .integer 2147483647), (0, .methodref 1 41), (0, .nameAndType 24 42), (0, u "()B"), (2, u "append"), (0, u "(Ljava/lang/String;)Ljava/lang/AbstractStringBuilder;"), (1, .class_ 49), (0, u "java/lang/CharSequence"), (19, u "(Ljava/lang/String;)V"), (5, u "maybeLatin1"), (3, .fieldref 10 80), (0, .nameAndType 81 82), (0, u "count"), (0, u "I"), (0, .methodref 10 84), (0, .nameAndType 85 86), (0, u "isLatin1"), (0, u "()Z"), (1, .class_ 90), (1, u "java/lang/StringLatin1"), (9, .methodref 10 101), (0, .nameAndType 102 103), (0, u "ensureCapacityInternal"), (0, u "(I)V"), (0, .methodref 10 105), (0, .nameAndType 106 107), (0, u "newCapacity"), (0, u "(I)I"), (0, .methodref 109 110), (0, .class_ 111), (0, .nameAndType 112 113), (0, u "java/util/Arrays"), (0, u "copyOf"), (0, u "([BI)[B"), (0, .methodref 115 116), (0, .class_ 117), (0, .nameAndType 118 119), (0, u "jdk/internal/util/ArraysSupport"), (0, u "newLength"), (0, u "(III)I"), (71, .methodref 88 192), (0, .nameAndType 193 194), (0, u "canEncode"), (0, u "(C)Z"), (13, .methodref 10 209), (0, .nameAndType 210 211), (0, u "putStringAt"), (0, u "(ILjava/lang/String;)V"), (5, u "inflateIfNeededFor"), (2, .nameAndType 221 222), (0, u "getBytes"), (0, u "([BIB)V"), (69, u "(C)Ljava/lang/AbstractStringBuilder;"), (104, .methodref 10 398), (0, .nameAndType 217 69), (0, .methodref 1 220), (3, u "()[B"), (40, .class_ 445), (0, u "java/lang/Appendable"), (106, u "getValue")] 56

def k5m0 : Method := { name := "<init>", desc := "()V", sig := { parameters := [], returnType := none }, accessFlags := 0, code := none }
def k5c1 : Code := { maxStack := 2, maxLocals := 2, code := jdk_68_method_2_code, exceptionTable := #[], attributes := #[] }
def k5m1 : Method := { name := "<init>", desc := "(I)V", sig := { parameters := [.int], returnType := none }, accessFlags := 0, code := some k5c1 }
def k5c2 : Code := { maxStack := 1, maxLocals := 1, code := jdk_68_method_6_code, exceptionTable := #[], attributes := #[] }
def k5m2 : Method := { name := "length", desc := "()I", sig := { parameters := [], returnType := some .int }, accessFlags := 1, code := some k5c2 }
def k5c3 : Code := { maxStack := 4, maxLocals := 3, code := jdk_68_method_9_code, exceptionTable := #[], attributes := #[] }
def k5m3 : Method := { name := "ensureCapacityInternal", desc := "(I)V", sig := { parameters := [.int], returnType := none }, accessFlags := 2, code := some k5c3 }
def k5c4 : Code := { maxStack := 5, maxLocals := 6, code := jdk_68_method_10_code, exceptionTable := #[], attributes := #[] }
def k5m4 : Method := { name := "newCapacity", desc := "(I)I", sig := { parameters := [.int], returnType := some .int }, accessFlags := 2, code := some k5c4 }
def k5c5 : Code := { maxStack := 3, maxLocals := 3, code := jdk_68_method_22_code, exceptionTable := #[], attributes := #[] }
def k5m5 : Method := { name := "append", desc := "(Ljava/lang/String;)Ljava/lang/AbstractStringBuilder;", sig := { parameters := [(.object "java/lang/String")], returnType := some (.object "java/lang/AbstractStringBuilder") }, accessFlags := 1, code := some k5c5 }
def k5c6 : Code := { maxStack := 5, maxLocals := 2, code := jdk_68_method_31_code, exceptionTable := #[], attributes := #[] }
def k5m6 : Method := { name := "append", desc := "(C)Ljava/lang/AbstractStringBuilder;", sig := { parameters := [.char], returnType := some (.object "java/lang/AbstractStringBuilder") }, accessFlags := 1, code := some k5c6 }
def k5c7 : Code := { maxStack := 1, maxLocals := 1, code := jdk_68_method_64_code, exceptionTable := #[], attributes := #[] }
def k5m7 : Method := { name := "getValue", desc := "()[B", sig := { parameters := [], returnType := some (.array .byte) }, accessFlags := 16, code := some k5c7 }
def k5c8 : Code := { maxStack := 1, maxLocals := 1, code := jdk_68_method_68_code, exceptionTable := #[], attributes := #[] }
def k5m8 : Method := { name := "isLatin1", desc := "()Z", sig := { parameters := [], returnType := some .boolean }, accessFlags := 16, code := some k5c8 }
def k5c9 : Code := { maxStack := 2, maxLocals := 2, code := jdk_68_method_71_code, exceptionTable := #[], attributes := #[] }
def k5m9 : Method := { name := "inflateIfNeededFor", desc := "(Ljava/lang/String;)V", sig := { parameters := [(.object "java/lang/String")], returnType := none }, accessFlags := 2, code := some k5c9 }
def k5c10 : Code := { maxStack := 4, maxLocals := 3, code := jdk_68_method_73_code, exceptionTable := #[], attributes := #[] }
def k5m10 : Method := { name := "putStringAt", desc := "(ILjava/lang/String;)V", sig := { parameters := [.int, (.object "java/lang/String")], returnType := none }, accessFlags := 2, code := some k5c10 }
/-- java/lang/AbstractStringBuilder -/
def k5 : Class := { plain "java/lang/AbstractStringBuilder" (some 0) with
  accessFlags := 1056
  interfaces := #[3, 4]
  cf := some (fileOf pool5 10 #[] #[{ accessFlags := 0, nameIndex := 7, descriptorIndex := 8, attributes := #[] }, { accessFlags := 0, nameIndex := 7, descriptorIndex := 103, attributes := #[] }, { accessFlags := 1, nameIndex := 34, descriptorIndex := 35, attributes := #[] }, { accessFlags := 2, nameIndex := 102, descriptorIndex := 103, attributes := #[] }, { accessFlags := 2, nameIndex := 106, descriptorIndex := 107, attributes := #[] }, { accessFlags := 1, nameIndex := 45, descriptorIndex := 46, attributes := #[] }, { accessFlags := 1, nameIndex := 45, descriptorIndex := 292, attributes := #[] }, { accessFlags := 16, nameIndex := 552, descriptorIndex := 403, attributes := #[] }, { accessFlags := 16, nameIndex := 85, descriptorIndex := 86, attributes := #[] }, { accessFlags := 2, nameIndex := 217, descriptorIndex := 69, attributes := #[] }, { accessFlags := 2, nameIndex := 210, descriptorIndex := 211, attributes := #[] }] 1056 4 #[444, 48] #[{ accessFlags := 0, nameIndex := 17, descriptorIndex := 14, attributes := #[] }, { accessFlags := 0, nameIndex := 24, descriptorIndex := 25, attributes := #[] }, { accessFlags := 0, nameIndex := 75, descriptorIndex := 21, attributes := #[] }, { accessFlags := 0, nameIndex := 81, descriptorIndex := 82, attributes := #[] }, { accessFlags := 26, nameIndex := 13, descriptorIndex := 14, attributes := #[] }])
  fields := #[{ name := "value", type := (.array .byte), accessFlags := 0, slot := 0, constantValue := 0 }, { name := "coder", type := .byte, accessFlags := 0, slot := 1, constantValue := 0 }, { name := "maybeLatin1", type := .boolean, accessFlags := 0, slot := 2, constantValue := 0 }, { name := "count", type := .int, accessFlags := 0, slot := 3, constantValue := 0 }, { name := "EMPTYVALUE", type := (.array .byte), accessFlags := 26, slot := 0, constantValue := 0 }]
  methods := #[k5m0, k5m1, k5m2, k5m3, k5m4, k5m5, k5m6, k5m7, k5m8, k5m9, k5m10]
  instanceTypes := #[(.array .byte), .byte, .boolean, .int]
  staticTypes := #[(.array .byte)]
  resolved := Array.replicate 609 none
  statics := none }

def pool6 : Array CpInfo := pool [(1, .class_ 2), (0, u "java/io/Serializable"), (0, .class_ 4), (0, u "java/lang/Object")] 2

/-- java/io/Serializable -/
def k6 : Class := { plain "java/io/Serializable" (some 0) with
  accessFlags := 1537
  interfaces := #[]
  cf := some (fileOf pool6 1 #[] #[] 1537 3 #[] #[])
  fields := #[]
  methods := #[]
  instanceTypes := #[]
  staticTypes := #[]
  resolved := Array.replicate 7 none
  statics := none }

def pool7 : Array CpInfo := pool [(1, .class_ 2), (0, u "java/lang/Comparable"), (0, .class_ 4), (0, u "java/lang/Object")] 7

/-- java/lang/Comparable -/
def k7 : Class := { plain "java/lang/Comparable" (some 0) with
  accessFlags := 1537
  interfaces := #[]
  cf := some (fileOf pool7 1 #[] #[] 1537 3 #[] #[])
  fields := #[]
  methods := #[]
  instanceTypes := #[]
  staticTypes := #[]
  resolved := Array.replicate 12 none
  statics := none }

def pool8 : Array CpInfo := pool [(1, .methodref 2 3), (0, .class_ 4), (0, .nameAndType 5 6), (0, u "java/lang/AbstractStringBuilder"), (0, u "<init>"), (0, u "(I)V"), (11, .class_ 20), (1, u "java/lang/String"), (3, .class_ 26), (1, u "java/lang/StringBuilder"), (0, u "append"), (0, u "(Ljava/lang/String;)Ljava/lang/StringBuilder;"), (0, .methodref 2 30), (0, .nameAndType 27 31), (0, u "(Ljava/lang/String;)Ljava/lang/AbstractStringBuilder;"), (18, .methodref 2 51), (0, .nameAndType 27 52), (0, u "(C)Ljava/lang/AbstractStringBuilder;"), (84, .methodref 18 138), (0, .nameAndType 5 139), (0, u "(Ljava/lang/StringBuilder;)V"), (5, u "()V"), (10, u "()I"), (129, u "(C)Ljava/lang/StringBuilder;"), (56, .methodref 2 344), (0, .nameAndType 345 156), (0, u "length"), (3, .class_ 350), (0, u "java/lang/Appendable"), (0, .class_ 352), (0, u "java/io/Serializable"), (0, .class_ 354), (0, u "java/lang/Comparable"), (0, .class_ 356), (0, u "java/lang/CharSequence"), (0, u "serialVersionUID"), (0, u "J"), (40, u "toString"), (0, u "()Ljava/lang/String;")] 21

def k8c0 : Code := { maxStack := 2, maxLocals := 1, code := jdk_67_method_1_code, exceptionTable := #[], attributes := #[] }
def k8m0 : Method := { name := "<init>", desc := "()V", sig := { parameters := [], returnType := none }, accessFlags := 1, code := some k8c0 }
def k8c1 : Code := { maxStack := 2, maxLocals := 2, code := jdk_67_method_2_code, exceptionTable := #[], attributes := #[] }
def k8m1 : Method := { name := "<init>", desc := "(I)V", sig := { parameters := [.int], returnType := none }, accessFlags := 1, code := some k8c1 }
def k8c2 : Code := { maxStack := 2, maxLocals := 2, code := jdk_67_method_7_code, exceptionTable := #[], attributes := #[] }
def k8m2 : Method := { name := "append", desc := "(Ljava/lang/String;)Ljava/lang/StringBuilder;", sig := { parameters := [(.object "java/lang/String")], returnType := some (.object "java/lang/StringBuilder") }, accessFlags := 1, code := some k8c2 }
def k8c3 : Code := { maxStack := 2, maxLocals := 2, code := jdk_67_method_14_code, exceptionTable := #[], attributes := #[] }
def k8m3 : Method := { name := "append", desc := "(C)Ljava/lang/StringBuilder;", sig := { parameters := [.char], returnType := some (.object "java/lang/StringBuilder") }, accessFlags := 1, code := some k8c3 }
def k8c4 : Code := { maxStack := 3, maxLocals := 1, code := jdk_67_method_42_code, exceptionTable := #[], attributes := #[] }
def k8m4 : Method := { name := "toString", desc := "()Ljava/lang/String;", sig := { parameters := [], returnType := some (.object "java/lang/String") }, accessFlags := 1, code := some k8c4 }
def k8c5 : Code := { maxStack := 1, maxLocals := 1, code := jdk_67_method_93_code, exceptionTable := #[], attributes := #[] }
def k8m5 : Method := { name := "length", desc := "()I", sig := { parameters := [], returnType := some .int }, accessFlags := 4161, code := some k8c5 }
/-- java/lang/StringBuilder -/
def k8 : Class := { plain "java/lang/StringBuilder" (some 5) with
  accessFlags := 49
  interfaces := #[3, 6, 7, 4]
  cf := some (fileOf pool8 24 #[] #[{ accessFlags := 1, nameIndex := 5, descriptorIndex := 145, attributes := #[] }, { accessFlags := 1, nameIndex := 5, descriptorIndex := 6, attributes := #[] }, { accessFlags := 1, nameIndex := 27, descriptorIndex := 28, attributes := #[] }, { accessFlags := 1, nameIndex := 27, descriptorIndex := 286, attributes := #[] }, { accessFlags := 1, nameIndex := 399, descriptorIndex := 400, attributes := #[] }, { accessFlags := 4161, nameIndex := 345, descriptorIndex := 156, attributes := #[] }] 49 2 #[349, 351, 353, 355] #[{ accessFlags := 24, nameIndex := 357, descriptorIndex := 358, attributes := #[] }])
  fields := #[{ name := "serialVersionUID", type := .long, accessFlags := 24, slot := 0, constantValue := 0 }]
  methods := #[k8m0, k8m1, k8m2, k8m3, k8m4, k8m5]
  instanceTypes := #[(.array .byte), .byte, .boolean, .int]
  staticTypes := #[.long]
  resolved := Array.replicate 422 none
  statics := none }

def pool9 : Array CpInfo := pool [(1, .class_ 2), (0, u "java/lang/constant/Constable"), (0, .class_ 4), (0, u "java/lang/Object")] 6

/-- java/lang/constant/Constable -/
def k9 : Class := { plain "java/lang/constant/Constable" (some 0) with
  accessFlags := 1537
  interfaces := #[]
  cf := some (fileOf pool9 1 #[] #[] 1537 3 #[] #[])
  fields := #[]
  methods := #[]
  instanceTypes := #[]
  staticTypes := #[]
  resolved := Array.replicate 11 none
  statics := none }

def pool10 : Array CpInfo := pool [(1, .class_ 2), (0, u "java/lang/constant/ConstantDesc"), (0, .class_ 4), (0, u "java/lang/Object")] 32

/-- java/lang/constant/ConstantDesc -/
def k10 : Class := { plain "java/lang/constant/ConstantDesc" (some 0) with
  accessFlags := 1537
  interfaces := #[]
  cf := some (fileOf pool10 1 #[] #[] 1537 3 #[] #[])
  fields := #[]
  methods := #[]
  instanceTypes := #[]
  staticTypes := #[]
  resolved := Array.replicate 37 none
  statics := none }

def pool11 : Array CpInfo := pool [(1, .methodref 2 3), (0, .class_ 4), (0, .nameAndType 5 6), (0, u "java/lang/Object"), (0, u "<init>"), (0, u "()V"), (2, .fieldref 10 11), (0, .class_ 12), (0, .nameAndType 13 14), (0, u "java/lang/String"), (0, u "value"), (0, u "[B"), (0, .fieldref 10 16), (0, .nameAndType 17 18), (0, u "coder"), (0, u "B"), (2, u "hash"), (0, u "I"), (2, u "hashIsZero"), (0, u "Z"), (11, .fieldref 10 39), (0, .nameAndType 40 26), (0, u "COMPACT_STRINGS"), (1, .class_ 44), (1, u "java/lang/StringUTF16"), (8, u "toBytes"), (0, .methodref 55 56), (0, .class_ 57), (0, .nameAndType 58 59), (0, u "java/util/Arrays"), (0, u "copyOfRange"), (0, u "([BII)[B"), (0, .methodref 42 61), (0, .nameAndType 62 63), (0, u "newBytesFor"), (0, u "(I)[B"), (22, .fieldref 87 88), (0, .class_ 89), (0, .nameAndType 90 91), (0, u "sun/nio/cs/UTF_8"), (0, u "INSTANCE"), (0, u "Lsun/nio/cs/UTF_8;"), (1, .class_ 95), (1, u "java/lang/StringCoding"), (11, .class_ 109), (1, u "java/lang/StringLatin1"), (18, .methodref 93 129), (0, .nameAndType 130 131), (0, u "hasNegatives"), (0, u "([BII)Z"), (10, u "()Z"), (50, .class_ 195), (1, u "java/lang/System"), (13, .methodref 10 210), (0, .nameAndType 5 211), (0, u "([BB)V"), (0, .methodref 193 213), (0, .nameAndType 214 215), (0, u "arraycopy"), (0, u "(Ljava/lang/Object;ILjava/lang/Object;II)V"), (36, .methodref 10 253), (0, .nameAndType 254 255), (0, u "encodeUTF8"), (0, u "(B[BZ)[B"), (23, .methodref 280 281), (0, .class_ 14), (0, .nameAndType 282 283), (0, u "clone"), (0, u "()Ljava/lang/Object;"), (33, u "encode"), (16, u "()I"), (0, .methodref 10 336), (0, .nameAndType 17 337), (0, u "()B"), (2, u "()[B"), (28, u "(C)Z"), (119, .methodref 10 490), (0, .nameAndType 5 491), (0, u "(Ljava/lang/AbstractStringBuilder;Ljava/lang/Void;)V"), (0, .methodref 10 493), (0, .nameAndType 494 142), (0, u "isLatin1"), (10, .methodref 10 506), (0, .nameAndType 507 334), (0, u "length"), (24, u "getBytes"), (2, .methodref 10 536), (0, .nameAndType 317 537), (0, u "(Ljava/nio/charset/Charset;B[B)[B"), (11, .methodref 550 506), (0, .class_ 551), (0, u "java/lang/AbstractStringBuilder"), (0, .methodref 550 553), (0, .nameAndType 554 340), (0, u "getValue"), (20, .class_ 576), (0, u "java/lang/CharSequence"), (22, u "CASE_INSENSITIVE_ORDER"), (0, u "Ljava/util/Comparator;"), (32, .methodref 10 634), (0, .nameAndType 635 636), (0, u "indexOf"), (0, u "(II)I"), (0, .methodref 107 638), (0, .nameAndType 635 639), (0, u "([BIII)I"), (52, u "isEmpty"), (72, u "(I)I"), (16, u "valueOf"), (0, u "(C)Ljava/lang/String;"), (37, u "([BIB)V"), (193, .methodref 107 1016), (0, .nameAndType 1017 369), (0, u "canEncode"), (0, .methodref 107 1019), (0, .nameAndType 53 1020), (0, u "(C)[B"), (26, .methodref 550 493), (53, u "serialPersistentFields"), (0, u "[Ljava/io/ObjectStreamField;"), (0, .class_ 1104), (0, u "java/lang/String$CaseInsensitiveComparator"), (1, .class_ 1107), (0, u "java/io/Serializable"), (0, .class_ 1109), (0, u "java/lang/Comparable"), (0, .class_ 1111), (0, u "java/lang/constant/Constable"), (0, .class_ 1113), (0, u "java/lang/constant/ConstantDesc"), (2, u "serialVersionUID"), (0, u "J"), (3, u "REPL"), (0, u "C"), (2, u "LATIN1"), (1, u "UTF16"), (105, u "(Ljava/lang/StringBuilder;)V"), (11, u "(Ljava/nio/charset/Charset;)[B")] 205

def k11m0 : Method := { name := "<init>", desc := "()V", sig := { parameters := [], returnType := none }, accessFlags := 1, code := none }
def k11c1 : Code := { maxStack := 4, maxLocals := 3, code := jdk_42_method_18_code, exceptionTable := #[], attributes := #[] }
def k11m1 : Method := { name := "encode", desc := "(Ljava/nio/charset/Charset;B[B)[B", sig := { parameters := [(.object "java/nio/charset/Charset"), .byte, (.array .byte)], returnType := some (.array .byte) }, accessFlags := 10, code := some k11c1 }
def k11c2 : Code := { maxStack := 5, maxLocals := 9, code := jdk_42_method_46_code, exceptionTable := #[], attributes := #[] }
def k11m2 : Method := { name := "encodeUTF8", desc := "(B[BZ)[B", sig := { parameters := [.byte, (.array .byte), .boolean], returnType := some (.array .byte) }, accessFlags := 10, code := some k11c2 }
def k11c3 : Code := { maxStack := 3, maxLocals := 2, code := jdk_42_method_53_code, exceptionTable := #[], attributes := #[] }
def k11m3 : Method := { name := "<init>", desc := "(Ljava/lang/StringBuilder;)V", sig := { parameters := [(.object "java/lang/StringBuilder")], returnType := none }, accessFlags := 1, code := some k11c3 }
def k11c4 : Code := { maxStack := 2, maxLocals := 1, code := jdk_42_method_54_code, exceptionTable := #[], attributes := #[] }
def k11m4 : Method := { name := "length", desc := "()I", sig := { parameters := [], returnType := some .int }, accessFlags := 1, code := some k11c4 }
def k11c5 : Code := { maxStack := 1, maxLocals := 1, code := jdk_42_method_55_code, exceptionTable := #[], attributes := #[] }
def k11m5 : Method := { name := "isEmpty", desc := "()Z", sig := { parameters := [], returnType := some .boolean }, accessFlags := 1, code := some k11c5 }
def k11c6 : Code := { maxStack := 3, maxLocals := 2, code := jdk_42_method_64_code, exceptionTable := #[], attributes := #[] }
def k11m6 : Method := { name := "getBytes", desc := "(Ljava/nio/charset/Charset;)[B", sig := { parameters := [(.object "java/nio/charset/Charset")], returnType := some (.array .byte) }, accessFlags := 1, code := some k11c6 }
def k11c7 : Code := { maxStack := 3, maxLocals := 2, code := jdk_42_method_79_code, exceptionTable := #[], attributes := #[] }
def k11m7 : Method := { name := "indexOf", desc := "(I)I", sig := { parameters := [.int], returnType := some .int }, accessFlags := 1, code := some k11c7 }
def k11c8 : Code := { maxStack := 4, maxLocals := 3, code := jdk_42_method_80_code, exceptionTable := #[], attributes := #[] }
def k11m8 : Method := { name := "indexOf", desc := "(II)I", sig := { parameters := [.int, .int], returnType := some .int }, accessFlags := 1, code := some k11c8 }
def k11c9 : Code := { maxStack := 4, maxLocals := 1, code := jdk_42_method_139_code, exceptionTable := #[], attributes := #[] }
def k11m9 : Method := { name := "valueOf", desc := "(C)Ljava/lang/String;", sig := { parameters := [.char], returnType := some (.object "java/lang/String") }, accessFlags := 9, code := some k11c9 }
def k11c10 : Code := { maxStack := 5, maxLocals := 4, code := jdk_42_method_147_code, exceptionTable := #[], attributes := #[] }
def k11m10 : Method := { name := "getBytes", desc := "([BIB)V", sig := { parameters := [(.array .byte), .int, .byte], returnType := none }, accessFlags := 0, code := some k11c10 }
def k11c11 : Code := { maxStack := 5, maxLocals := 5, code := jdk_42_method_150_code, exceptionTable := #[], attributes := #[] }
def k11m11 : Method := { name := "<init>", desc := "(Ljava/lang/AbstractStringBuilder;Ljava/lang/Void;)V", sig := { parameters := [(.object "java/lang/AbstractStringBuilder"), (.object "java/lang/Void")], returnType := none }, accessFlags := 0, code := some k11c11 }
def k11c12 : Code := { maxStack := 2, maxLocals := 3, code := jdk_42_method_151_code, exceptionTable := #[], attributes := #[] }
def k11m12 : Method := { name := "<init>", desc := "([BB)V", sig := { parameters := [(.array .byte), .byte], returnType := none }, accessFlags := 0, code := some k11c12 }
def k11c13 : Code := { maxStack := 1, maxLocals := 1, code := jdk_42_method_152_code, exceptionTable := #[], attributes := #[] }
def k11m13 : Method := { name := "coder", desc := "()B", sig := { parameters := [], returnType := some .byte }, accessFlags := 0, code := some k11c13 }
def k11c14 : Code := { maxStack := 1, maxLocals := 1, code := jdk_42_method_154_code, exceptionTable := #[], attributes := #[] }
def k11m14 : Method := { name := "isLatin1", desc := "()Z", sig := { parameters := [], returnType := some .boolean }, accessFlags := 0, code := some k11c14 }
/-- java/lang/String -/
def k11 : Class := { plain "java/lang/String" (some 0) with
  accessFlags := 49
  interfaces := #[6, 7, 4, 9, 10]
  cf := some (fileOf pool11 10 #[.nestMembers #[1103]] #[{ accessFlags := 1, nameIndex := 5, descriptorIndex := 6, attributes := #[] }, { accessFlags := 10, nameIndex := 317, descriptorIndex := 537, attributes := #[] }, { accessFlags := 10, nameIndex := 254, descriptorIndex := 255, attributes := #[] }, { accessFlags := 1, nameIndex := 5, descriptorIndex := 1233, attributes := #[] }, { accessFlags := 1, nameIndex := 507, descriptorIndex := 334, attributes := #[] }, { accessFlags := 1, nameIndex := 692, descriptorIndex := 142, attributes := #[] }, { accessFlags := 1, nameIndex := 532, descriptorIndex := 1245, attributes := #[] }, { accessFlags := 1, nameIndex := 635, descriptorIndex := 765, attributes := #[] }, { accessFlags := 1, nameIndex := 635, descriptorIndex := 636, attributes := #[] }, { accessFlags := 9, nameIndex := 782, descriptorIndex := 783, attributes := #[] }, { accessFlags := 0, nameIndex := 532, descriptorIndex := 821, attributes := #[] }, { accessFlags := 0, nameIndex := 5, descriptorIndex := 491, attributes := #[] }, { accessFlags := 0, nameIndex := 5, descriptorIndex := 211, attributes := #[] }, { accessFlags := 0, nameIndex := 17, descriptorIndex := 337, attributes := #[] }, { accessFlags := 0, nameIndex := 494, descriptorIndex := 142, attributes := #[] }] 49 2 #[1106, 1108, 575, 1110, 1112] #[{ accessFlags := 18, nameIndex := 13, descriptorIndex := 14, attributes := #[] }, { accessFlags := 18, nameIndex := 17, descriptorIndex := 18, attributes := #[] }, { accessFlags := 2, nameIndex := 21, descriptorIndex := 22, attributes := #[] }, { accessFlags := 2, nameIndex := 25, descriptorIndex := 26, attributes := #[] }, { accessFlags := 26, nameIndex := 1116, descriptorIndex := 1117, attributes := #[] }, { accessFlags := 24, nameIndex := 40, descriptorIndex := 26, attributes := #[] }, { accessFlags := 26, nameIndex := 1101, descriptorIndex := 1102, attributes := #[] }, { accessFlags := 26, nameIndex := 1121, descriptorIndex := 1122, attributes := #[] }, { accessFlags := 25, nameIndex := 599, descriptorIndex := 600, attributes := #[] }, { accessFlags := 24, nameIndex := 1125, descriptorIndex := 18, attributes := #[] }, { accessFlags := 24, nameIndex := 1127, descriptorIndex := 18, attributes := #[] }])
  fields := #[{ name := "value", type := (.array .byte), accessFlags := 18, slot := 0, constantValue := 0 }, { name := "coder", type := .byte, accessFlags := 18, slot := 1, constantValue := 0 }, { name := "hash", type := .int, accessFlags := 2, slot := 2, constantValue := 0 }, { name := "hashIsZero", type := .boolean, accessFlags := 2, slot := 3, constantValue := 0 }, { name := "serialVersionUID", type := .long, accessFlags := 26, slot := 0, constantValue := 0 }, { name := "COMPACT_STRINGS", type := .boolean, accessFlags := 24, slot := 1, constantValue := 0 }, { name := "serialPersistentFields", type := (.array (.object "java/io/ObjectStreamField")), accessFlags := 26, slot := 2, constantValue := 0 }, { name := "REPL", type := .char, accessFlags := 26, slot := 3, constantValue := 0 }, { name := "CASE_INSENSITIVE_ORDER", type := (.object "java/util/Comparator"), accessFlags := 25, slot := 4, constantValue := 0 }, { name := "LATIN1", type := .byte, accessFlags := 24, slot := 5, constantValue := 0 }, { name := "UTF16", type := .byte, accessFlags := 24, slot := 6, constantValue := 0 }]
  methods := #[k11m0, k11m1, k11m2, k11m3, k11m4, k11m5, k11m6, k11m7, k11m8, k11m9, k11m10, k11m11, k11m12, k11m13, k11m14]
  instanceTypes := #[(.array .byte), .byte, .int, .boolean]
  staticTypes := #[.long, .boolean, (.array (.object "java/io/ObjectStreamField")), .char, (.object "java/util/Comparator"), .byte, .byte]
  resolved := Array.replicate 1451 none
  statics := some 0 }

def pool12 : Array CpInfo := pool [(2, .class_ 4), (1, u "java/lang/Object"), (0, u "<init>"), (0, u "()V"), (7, .class_ 16), (1, u "java/util/Arrays"), (57, .class_ 76), (1, u "java/util/Arrays$NaturalOrder"), (32, u "()Ljava/lang/Object;"), (3, .class_ 115), (1, u "java/util/Arrays$LegacyMergeSort"), (1, u "Z"), (10, .nameAndType 129 109), (0, u "clone"), (9, u "copyOfRange"), (10, .methodref 151 152), (0, .class_ 153), (0, .nameAndType 154 155), (0, u "java/lang/System"), (0, u "arraycopy"), (0, u "(Ljava/lang/Object;ILjava/lang/Object;II)V"), (146, u "copyOf"), (1, .methodref 305 306), (0, .class_ 307), (0, .nameAndType 308 309), (0, u "java/lang/Math"), (0, u "min"), (0, u "(II)I"), (0, .methodref 311 128), (0, .class_ 312), (0, u "[B"), (26, .methodref 14 340), (0, .nameAndType 341 342), (0, u "copyOfRangeByte"), (0, u "([BII)[B"), (0, .methodref 14 344), (0, .nameAndType 345 346), (0, u "checkLength"), (0, u "(II)V"), (28, .class_ 376), (0, u "java/util/Arrays$ArrayList"), (68, u "$assertionsDisabled"), (269, u "MIN_ARRAY_SORT_GRAN"), (0, u "I"), (2, u "INSERTIONSORT_THRESHOLD"), (149, u "([BI)[B"), (105, .class_ 976), (0, u "java/util/Arrays$ArrayItr")] 52

def k12m0 : Method := { name := "<init>", desc := "()V", sig := { parameters := [], returnType := none }, accessFlags := 2, code := none }
def k12c1 : Code := { maxStack := 6, maxLocals := 3, code := jdk_65_method_121_code, exceptionTable := #[], attributes := #[] }
def k12m1 : Method := { name := "copyOf", desc := "([BI)[B", sig := { parameters := [(.array .byte), .int], returnType := some (.array .byte) }, accessFlags := 9, code := some k12c1 }
def k12c2 : Code := { maxStack := 4, maxLocals := 2, code := jdk_65_method_131_code, exceptionTable := #[], attributes := #[] }
def k12m2 : Method := { name := "checkLength", desc := "(II)V", sig := { parameters := [.int, .int], returnType := none }, accessFlags := 10, code := some k12c2 }
def k12c3 : Code := { maxStack := 3, maxLocals := 3, code := jdk_65_method_132_code, exceptionTable := #[], attributes := #[] }
def k12m3 : Method := { name := "copyOfRange", desc := "([BII)[B", sig := { parameters := [(.array .byte), .int, .int], returnType := some (.array .byte) }, accessFlags := 9, code := some k12c3 }
def k12c4 : Code := { maxStack := 6, maxLocals := 5, code := jdk_65_method_133_code, exceptionTable := #[], attributes := #[] }
def k12m4 : Method := { name := "copyOfRangeByte", desc := "([BII)[B", sig := { parameters := [(.array .byte), .int, .int], returnType := some (.array .byte) }, accessFlags := 10, code := some k12c4 }
/-- java/util/Arrays -/
def k12 : Class := { plain "java/util/Arrays" (some 0) with
  accessFlags := 49
  interfaces := #[]
  cf := some (fileOf pool12 14 #[.nestMembers #[975, 375, 113, 74]] #[{ accessFlags := 2, nameIndex := 5, descriptorIndex := 6, attributes := #[] }, { accessFlags := 9, nameIndex := 302, descriptorIndex := 869, attributes := #[] }, { accessFlags := 10, nameIndex := 345, descriptorIndex := 346, attributes := #[] }, { accessFlags := 9, nameIndex := 139, descriptorIndex := 342, attributes := #[] }, { accessFlags := 10, nameIndex := 341, descriptorIndex := 342, attributes := #[] }] 49 2 #[] #[{ accessFlags := 26, nameIndex := 715, descriptorIndex := 716, attributes := #[] }, { accessFlags := 26, nameIndex := 719, descriptorIndex := 716, attributes := #[] }, { accessFlags := 4120, nameIndex := 445, descriptorIndex := 117, attributes := #[] }])
  fields := #[{ name := "MIN_ARRAY_SORT_GRAN", type := .int, accessFlags := 26, slot := 0, constantValue := 0 }, { name := "INSERTIONSORT_THRESHOLD", type := .int, accessFlags := 26, slot := 1, constantValue := 0 }, { name := "$assertionsDisabled", type := .boolean, accessFlags := 4120, slot := 2, constantValue := 0 }]
  methods := #[k12m0, k12m1, k12m2, k12m3, k12m4]
  instanceTypes := #[]
  staticTypes := #[.int, .int, .boolean]
  resolved := Array.replicate 1029 none
  statics := none }

def pool13 : Array CpInfo := pool [(1, .class_ 2), (0, u "java/lang/Math"), (1, .class_ 6), (1, u "java/lang/Object"), (0, u "<init>"), (0, u "()V"), (89, .class_ 100), (1, u "java/lang/Math$RandomNumberGeneratorHolder"), (71, u "negativeZeroFloatBits"), (0, u "J"), (2, u "negativeZeroDoubleBits"), (21, u "max"), (2, u "min"), (43, u "$assertionsDisabled"), (0, u "Z"), (88, u "(II)I"), (2, u "twoToTheDoubleScaleDown"), (0, u "D"), (4, u "twoToTheDoubleScaleUp"), (9, u "E"), (3, u "PI"), (2, u "TAU"), (2, u "DEGREES_TO_RADIANS"), (0, u "RADIANS_TO_DEGREES")] 94

def k13m0 : Method := { name := "<init>", desc := "()V", sig := { parameters := [], returnType := none }, accessFlags := 2, code := none }
def k13c1 : Code := { maxStack := 2, maxLocals := 2, code := jdk_29_method_65_code, exceptionTable := #[], attributes := #[] }
def k13m1 : Method := { name := "max", desc := "(II)I", sig := { parameters := [.int, .int], returnType := some .int }, accessFlags := 9, code := some k13c1 }
def k13c2 : Code := { maxStack := 2, maxLocals := 2, code := jdk_29_method_69_code, exceptionTable := #[], attributes := #[] }
def k13m2 : Method := { name := "min", desc := "(II)I", sig := { parameters := [.int, .int], returnType := some .int }, accessFlags := 9, code := some k13c2 }
/-- java/lang/Math -/
def k13 : Class := { plain "java/lang/Math" (some 0) with
  accessFlags := 49
  interfaces := #[]
  cf := some (fileOf pool13 1 #[.nestMembers #[98]] #[{ accessFlags := 2, nameIndex := 7, descriptorIndex := 8, attributes := #[] }, { accessFlags := 9, nameIndex := 198, descriptorIndex := 335, attributes := #[] }, { accessFlags := 9, nameIndex := 201, descriptorIndex := 335, attributes := #[] }] 49 4 #[] #[{ accessFlags := 25, nameIndex := 354, descriptorIndex := 339, attributes := #[] }, { accessFlags := 25, nameIndex := 358, descriptorIndex := 339, attributes := #[] }, { accessFlags := 25, nameIndex := 361, descriptorIndex := 339, attributes := #[] }, { accessFlags := 26, nameIndex := 364, descriptorIndex := 339, attributes := #[] }, { accessFlags := 26, nameIndex := 365, descriptorIndex := 339, attributes := #[] }, { accessFlags := 26, nameIndex := 172, descriptorIndex := 173, attributes := #[] }, { accessFlags := 26, nameIndex := 176, descriptorIndex := 173, attributes := #[] }, { accessFlags := 8, nameIndex := 344, descriptorIndex := 339, attributes := #[] }, { accessFlags := 8, nameIndex := 338, descriptorIndex := 339, attributes := #[] }, { accessFlags := 4120, nameIndex := 245, descriptorIndex := 246, attributes := #[] }])
  fields := #[{ name := "E", type := .double, accessFlags := 25, slot := 0, constantValue := 0 }, { name := "PI", type := .double, accessFlags := 25, slot := 1, constantValue := 0 }, { name := "TAU", type := .double, accessFlags := 25, slot := 2, constantValue := 0 }, { name := "DEGREES_TO_RADIANS", type := .double, accessFlags := 26, slot := 3, constantValue := 0 }, { name := "RADIANS_TO_DEGREES", type := .double, accessFlags := 26, slot := 4, constantValue := 0 }, { name := "negativeZeroFloatBits", type := .long, accessFlags := 26, slot := 5, constantValue := 0 }, { name := "negativeZeroDoubleBits", type := .long, accessFlags := 26, slot := 6, constantValue := 0 }, { name := "twoToTheDoubleScaleUp", type := .double, accessFlags := 8, slot := 7, constantValue := 0 }, { name := "twoToTheDoubleScaleDown", type := .double, accessFlags := 8, slot := 8, constantValue := 0 }, { name := "$assertionsDisabled", type := .boolean, accessFlags := 4120, slot := 9, constantValue := 0 }]
  methods := #[k13m0, k13m1, k13m2]
  instanceTypes := #[]
  staticTypes := #[.double, .double, .double, .double, .double, .long, .long, .double, .double, .boolean]
  resolved := Array.replicate 460 none
  statics := none }

def pool14 : Array CpInfo := pool [(2, .class_ 4), (1, u "java/lang/Object"), (0, u "<init>"), (0, u "()V"), (1, .class_ 10), (1, u "java/lang/System"), (0, u "allowSecurityManager"), (0, u "I"), (16, u "cons"), (0, u "Ljava/io/Console;"), (77, .class_ 110), (1, u "java/lang/System$CallersHolder"), (43, u "initialErrStream"), (0, u "Ljava/io/PrintStream;"), (19, u "security"), (0, u "Ljava/lang/SecurityManager;"), (31, .class_ 209), (0, u "java/lang/System$1"), (7, u "props"), (0, u "Ljava/util/Properties;"), (2, u "lineSeparator"), (0, u "Ljava/lang/String;"), (96, .class_ 321), (1, u "java/lang/System$LoggerFinder"), (5, .class_ 328), (0, u "java/lang/System$Logger"), (67, u "err"), (2, u "out"), (91, u "notSupportedJnuEncoding"), (15, u "in"), (17, u "initialIn"), (0, u "Ljava/io/InputStream;"), (35, u "bootLayer"), (0, u "Ljava/lang/ModuleLayer;"), (99, .class_ 664), (0, u "java/lang/System$2"), (9, u "NEVER"), (2, u "MAYBE"), (49, u "arraycopy"), (0, u "(Ljava/lang/Object;ILjava/lang/Object;II)V"), (72, .class_ 802), (0, u "java/lang/System$Logger$Level")] 31

def k14m0 : Method := { name := "<init>", desc := "()V", sig := { parameters := [], returnType := none }, accessFlags := 2, code := none }
def k14m1 : Method := { name := "arraycopy", desc := "(Ljava/lang/Object;ILjava/lang/Object;II)V", sig := { parameters := [(.object "java/lang/Object"), .int, (.object "java/lang/Object"), .int, .int], returnType := none }, accessFlags := 265, code := none }
/-- java/lang/System -/
def k14 : Class := { plain "java/lang/System" (some 0) with
  accessFlags := 49
  interfaces := #[]
  cf := some (fileOf pool14 8 #[.nestMembers #[319, 327, 801, 108, 663, 208]] #[{ accessFlags := 2, nameIndex := 5, descriptorIndex := 6, attributes := #[] }, { accessFlags := 265, nameIndex := 727, descriptorIndex := 728, attributes := #[] }] 49 2 #[] #[{ accessFlags := 25, nameIndex := 507, descriptorIndex := 526, attributes := #[] }, { accessFlags := 25, nameIndex := 399, descriptorIndex := 155, attributes := #[] }, { accessFlags := 25, nameIndex := 396, descriptorIndex := 155, attributes := #[] }, { accessFlags := 10, nameIndex := 525, descriptorIndex := 526, attributes := #[] }, { accessFlags := 26, nameIndex := 674, descriptorIndex := 12, attributes := #[] }, { accessFlags := 26, nameIndex := 677, descriptorIndex := 12, attributes := #[] }, { accessFlags := 10, nameIndex := 11, descriptorIndex := 12, attributes := #[] }, { accessFlags := 74, nameIndex := 175, descriptorIndex := 176, attributes := #[] }, { accessFlags := 10, nameIndex := 491, descriptorIndex := 222, attributes := #[] }, { accessFlags := 74, nameIndex := 29, descriptorIndex := 30, attributes := #[] }, { accessFlags := 74, nameIndex := 154, descriptorIndex := 155, attributes := #[] }, { accessFlags := 10, nameIndex := 217, descriptorIndex := 218, attributes := #[] }, { accessFlags := 10, nameIndex := 221, descriptorIndex := 222, attributes := #[] }, { accessFlags := 8, nameIndex := 562, descriptorIndex := 563, attributes := #[] }])
  fields := #[{ name := "in", type := (.object "java/io/InputStream"), accessFlags := 25, slot := 0, constantValue := 0 }, { name := "out", type := (.object "java/io/PrintStream"), accessFlags := 25, slot := 1, constantValue := 0 }, { name := "err", type := (.object "java/io/PrintStream"), accessFlags := 25, slot := 2, constantValue := 0 }, { name := "initialIn", type := (.object "java/io/InputStream"), accessFlags := 10, slot := 3, constantValue := 0 }, { name := "NEVER", type := .int, accessFlags := 26, slot := 4, constantValue := 0 }, { name := "MAYBE", type := .int, accessFlags := 26, slot := 5, constantValue := 0 }, { name := "allowSecurityManager", type := .int, accessFlags := 10, slot := 6, constantValue := 0 }, { name := "security", type := (.object "java/lang/SecurityManager"), accessFlags := 74, slot := 7, constantValue := 0 }, { name := "notSupportedJnuEncoding", type := (.object "java/lang/String"), accessFlags := 10, slot := 8, constantValue := 0 }, { name := "cons", type := (.object "java/io/Console"), accessFlags := 74, slot := 9, constantValue := 0 }, { name := "initialErrStream", type := (.object "java/io/PrintStream"), accessFlags := 74, slot := 10, constantValue := 0 }, { name := "props", type := (.object "java/util/Properties"), accessFlags := 10, slot := 11, constantValue := 0 }, { name := "lineSeparator", type := (.object "java/lang/String"), accessFlags := 10, slot := 12, constantValue := 0 }, { name := "bootLayer", type := (.object "java/lang/ModuleLayer"), accessFlags := 8, slot := 13, constantValue := 0 }]
  methods := #[k14m0, k14m1]
  instanceTypes := #[]
  staticTypes := #[(.object "java/io/InputStream"), (.object "java/io/PrintStream"), (.object "java/io/PrintStream"), (.object "java/io/InputStream"), .int, .int, .int, (.object "java/lang/SecurityManager"), (.object "java/lang/String"), (.object "java/io/Console"), (.object "java/io/PrintStream"), (.object "java/util/Properties"), (.object "java/lang/String"), (.object "java/lang/ModuleLayer")]
  resolved := Array.replicate 834 none
  statics := none }

def pool15 : Array CpInfo := pool [(4, .class_ 6), (1, u "java/lang/Object"), (0, u "<init>"), (0, u "()V"), (5, .class_ 16), (1, u "java/lang/StringLatin1"), (21, .methodref 39 40), (0, .class_ 41), (0, .nameAndType 42 43), (0, u "java/lang/Math"), (0, u "min"), (0, u "(II)I"), (44, .methodref 14 89), (0, .nameAndType 90 91), (0, u "canEncode"), (0, u "(I)Z"), (0, .methodref 39 93), (0, .nameAndType 94 43), (0, u "max"), (0, .methodref 14 96), (0, .nameAndType 97 98), (0, u "indexOfChar"), (0, u "([BIII)I"), (2, u "indexOf"), (3, u "(C)Z"), (15, u "$assertionsDisabled"), (0, u "Z"), (98, .class_ 223), (1, u "java/lang/StringLatin1$LinesSpliterator"), (156, u "toBytes"), (1, u "(C)[B"), (7, .class_ 391), (0, u "java/lang/StringLatin1$CharsSpliterator")] 3

def k15m0 : Method := { name := "<init>", desc := "()V", sig := { parameters := [], returnType := none }, accessFlags := 0, code := none }
def k15c1 : Code := { maxStack := 2, maxLocals := 1, code := jdk_43_method_3_code, exceptionTable := #[], attributes := #[] }
def k15m1 : Method := { name := "canEncode", desc := "(C)Z", sig := { parameters := [.char], returnType := some .boolean }, accessFlags := 9, code := some k15c1 }
def k15c2 : Code := { maxStack := 2, maxLocals := 1, code := jdk_43_method_4_code, exceptionTable := #[], attributes := #[] }
def k15m2 : Method := { name := "canEncode", desc := "(I)Z", sig := { parameters := [.int], returnType := some .boolean }, accessFlags := 9, code := some k15c2 }
def k15c3 : Code := { maxStack := 4, maxLocals := 4, code := jdk_43_method_22_code, exceptionTable := #[], attributes := #[] }
def k15m3 : Method := { name := "indexOf", desc := "([BIII)I", sig := { parameters := [(.array .byte), .int, .int, .int], returnType := some .int }, accessFlags := 9, code := some k15c3 }
def k15c4 : Code := { maxStack := 2, maxLocals := 6, code := jdk_43_method_23_code, exceptionTable := #[], attributes := #[] }
def k15m4 : Method := { name := "indexOfChar", desc := "([BIII)I", sig := { parameters := [(.array .byte), .int, .int, .int], returnType := some .int }, accessFlags := 10, code := some k15c4 }
def k15c5 : Code := { maxStack := 4, maxLocals := 1, code := jdk_43_method_46_code, exceptionTable := #[], attributes := #[] }
def k15m5 : Method := { name := "toBytes", desc := "(C)[B", sig := { parameters := [.char], returnType := some (.array .byte) }, accessFlags := 9, code := some k15c5 }
/-- java/lang/StringLatin1 -/
def k15 : Class := { plain "java/lang/StringLatin1" (some 0) with
  accessFlags := 48
  interfaces := #[]
  cf := some (fileOf pool15 14 #[.nestMembers #[390, 221]] #[{ accessFlags := 0, nameIndex := 7, descriptorIndex := 8, attributes := #[] }, { accessFlags := 9, nameIndex := 90, descriptorIndex := 105, attributes := #[] }, { accessFlags := 9, nameIndex := 90, descriptorIndex := 91, attributes := #[] }, { accessFlags := 9, nameIndex := 101, descriptorIndex := 98, attributes := #[] }, { accessFlags := 10, nameIndex := 97, descriptorIndex := 98, attributes := #[] }, { accessFlags := 9, nameIndex := 380, descriptorIndex := 382, attributes := #[] }] 48 4 #[] #[{ accessFlags := 4120, nameIndex := 121, descriptorIndex := 122, attributes := #[] }])
  fields := #[{ name := "$assertionsDisabled", type := .boolean, accessFlags := 4120, slot := 0, constantValue := 0 }]
  methods := #[k15m0, k15m1, k15m2, k15m3, k15m4, k15m5]
  instanceTypes := #[]
  staticTypes := #[.boolean]
  resolved := Array.replicate 395 none
  statics := none }

def pool16 : Array CpInfo := pool [(2, .class_ 4), (1, u "java/lang/Object"), (0, u "<init>"), (0, u "()V"), (0, .class_ 8), (0, u "java/lang/StringBuilder"), (0, .methodref 10 11), (0, .class_ 12), (0, .nameAndType 13 14), (0, u "java/lang/String"), (0, u "length"), (0, u "()I"), (0, .methodref 7 16), (0, .nameAndType 5 17), (0, u "(I)V"), (0, .fieldref 19 20), (0, .class_ 21), (0, .nameAndType 22 23), (0, u "java/nio/charset/StandardCharsets"), (0, u "UTF_8"), (0, u "Ljava/nio/charset/Charset;"), (0, .methodref 10 25), (0, .nameAndType 26 27), (0, u "getBytes"), (0, u "(Ljava/nio/charset/Charset;)[B"), (0, .methodref 29 30), (0, .class_ 31), (0, .nameAndType 32 33), (0, u "com/example/patents_via_api/patentsviaapi/http/PercentEncoding"), (0, u "isUnreserved"), (0, u "(C)Z"), (0, .methodref 10 35), (0, .nameAndType 36 37), (0, u "indexOf"), (0, u "(I)I"), (0, .methodref 7 39), (0, .nameAndType 40 41), (0, u "append"), (0, u "(C)Ljava/lang/StringBuilder;"), (0, .fieldref 29 43), (0, .nameAndType 44 45), (0, u "HEX_DIGITS"), (0, u "[C"), (0, .methodref 7 47), (0, .nameAndType 48 49), (0, u "toString"), (0, u "()Ljava/lang/String;"), (8, u "encode"), (0, u "(Ljava/lang/String;Ljava/lang/String;)Ljava/lang/String;")] 6

def k16m0 : Method := { name := "<init>", desc := "()V", sig := { parameters := [], returnType := none }, accessFlags := 2, code := none }
def k16c1 : Code := { maxStack := 4, maxLocals := 8, code := prog_15_method_2_code, exceptionTable := #[], attributes := #[] }
def k16m1 : Method := { name := "encode", desc := "(Ljava/lang/String;Ljava/lang/String;)Ljava/lang/String;", sig := { parameters := [(.object "java/lang/String"), (.object "java/lang/String")], returnType := some (.object "java/lang/String") }, accessFlags := 9, code := some k16c1 }
def k16c2 : Code := { maxStack := 2, maxLocals := 1, code := prog_15_method_3_code, exceptionTable := #[], attributes := #[] }
def k16m2 : Method := { name := "isUnreserved", desc := "(C)Z", sig := { parameters := [.char], returnType := some .boolean }, accessFlags := 10, code := some k16c2 }
/-- com/example/patents_via_api/patentsviaapi/http/PercentEncoding -/
def k16 : Class := { plain "com/example/patents_via_api/patentsviaapi/http/PercentEncoding" (some 0) with
  accessFlags := 33
  interfaces := #[]
  cf := some (fileOf pool16 29 #[] #[{ accessFlags := 2, nameIndex := 5, descriptorIndex := 6, attributes := #[] }, { accessFlags := 9, nameIndex := 58, descriptorIndex := 59, attributes := #[] }, { accessFlags := 10, nameIndex := 32, descriptorIndex := 33, attributes := #[] }] 33 2 #[] #[{ accessFlags := 26, nameIndex := 44, descriptorIndex := 45, attributes := #[] }])
  fields := #[{ name := "HEX_DIGITS", type := (.array .char), accessFlags := 26, slot := 0, constantValue := 0 }]
  methods := #[k16m0, k16m1, k16m2]
  instanceTypes := #[]
  staticTypes := #[(.array .char)]
  resolved := Array.replicate 66 none
  statics := some 1 }

def pool17 : Array CpInfo := pool [(2, .class_ 4), (1, u "java/lang/Object"), (0, u "<init>"), (0, u "()V"), (14, .class_ 23), (1, u "java/nio/charset/StandardCharsets"), (0, u "US_ASCII"), (0, u "Ljava/nio/charset/Charset;"), (7, u "ISO_8859_1"), (7, u "UTF_8"), (5, u "UTF_16BE"), (5, u "UTF_16LE"), (5, u "UTF_16")] 8

def k17m0 : Method := { name := "<init>", desc := "()V", sig := { parameters := [], returnType := none }, accessFlags := 2, code := none }
/-- java/nio/charset/StandardCharsets -/
def k17 : Class := { plain "java/nio/charset/StandardCharsets" (some 0) with
  accessFlags := 49
  interfaces := #[]
  cf := some (fileOf pool17 21 #[] #[{ accessFlags := 2, nameIndex := 5, descriptorIndex := 6, attributes := #[] }] 49 2 #[] #[{ accessFlags := 25, nameIndex := 24, descriptorIndex := 25, attributes := #[] }, { accessFlags := 25, nameIndex := 33, descriptorIndex := 25, attributes := #[] }, { accessFlags := 25, nameIndex := 41, descriptorIndex := 25, attributes := #[] }, { accessFlags := 25, nameIndex := 47, descriptorIndex := 25, attributes := #[] }, { accessFlags := 25, nameIndex := 53, descriptorIndex := 25, attributes := #[] }, { accessFlags := 25, nameIndex := 59, descriptorIndex := 25, attributes := #[] }])
  fields := #[{ name := "US_ASCII", type := (.object "java/nio/charset/Charset"), accessFlags := 25, slot := 0, constantValue := 0 }, { name := "ISO_8859_1", type := (.object "java/nio/charset/Charset"), accessFlags := 25, slot := 1, constantValue := 0 }, { name := "UTF_8", type := (.object "java/nio/charset/Charset"), accessFlags := 25, slot := 2, constantValue := 0 }, { name := "UTF_16BE", type := (.object "java/nio/charset/Charset"), accessFlags := 25, slot := 3, constantValue := 0 }, { name := "UTF_16LE", type := (.object "java/nio/charset/Charset"), accessFlags := 25, slot := 4, constantValue := 0 }, { name := "UTF_16", type := (.object "java/nio/charset/Charset"), accessFlags := 25, slot := 5, constantValue := 0 }]
  methods := #[k17m0]
  instanceTypes := #[]
  staticTypes := #[(.object "java/nio/charset/Charset"), (.object "java/nio/charset/Charset"), (.object "java/nio/charset/Charset"), (.object "java/nio/charset/Charset"), (.object "java/nio/charset/Charset"), (.object "java/nio/charset/Charset")]
  resolved := Array.replicate 68 none
  statics := some 2 }

def pool18 : Array CpInfo := pool [(18, .class_ 20), (1, u "java/nio/charset/Charset"), (0, u "cache1"), (0, u "[Ljava/lang/Object;"), (2, u "cache2"), (0, .class_ 27), (0, u "java/lang/Object"), (0, .class_ 29), (0, u "java/nio/charset/Charset$1"), (4, .class_ 36), (1, u "java/nio/charset/Charset$ThreadTrackHolder"), (21, .class_ 59), (0, u "java/nio/charset/Charset$2"), (11, .class_ 73), (1, u "java/nio/charset/Charset$ExtendedProviderHolder"), (22, u "standardProvider"), (0, u "Ljava/nio/charset/spi/CharsetProvider;"), (29, u "name"), (7, .class_ 136), (0, u "java/nio/charset/Charset$3"), (5, u "defaultCharset"), (0, u "Ljava/nio/charset/Charset;"), (14, u "zeroAliases"), (0, u "[Ljava/lang/String;"), (29, u "Ljava/lang/String;"), (2, u "aliases"), (2, u "aliasSet"), (0, u "Ljava/util/Set;"), (82, .class_ 280), (0, u "java/lang/Comparable"), (84, .class_ 366), (0, u "java/nio/charset/Charset$ExtendedProviderHolder$1")] 3

/-- java/nio/charset/Charset -/
def k18 : Class := { plain "java/nio/charset/Charset" (some 0) with
  accessFlags := 1057
  interfaces := #[7]
  cf := some (fileOf pool18 18 #[.nestMembers #[71, 365, 34, 135, 58, 28]] #[] 1057 26 #[279] #[{ accessFlags := 26, nameIndex := 96, descriptorIndex := 97, attributes := #[] }, { accessFlags := 26, nameIndex := 158, descriptorIndex := 159, attributes := #[] }, { accessFlags := 74, nameIndex := 21, descriptorIndex := 22, attributes := #[] }, { accessFlags := 74, nameIndex := 25, descriptorIndex := 22, attributes := #[] }, { accessFlags := 10, nameIndex := 142, descriptorIndex := 143, attributes := #[] }, { accessFlags := 18, nameIndex := 127, descriptorIndex := 189, attributes := #[] }, { accessFlags := 18, nameIndex := 192, descriptorIndex := 159, attributes := #[] }, { accessFlags := 2, nameIndex := 195, descriptorIndex := 196, attributes := #[] }])
  fields := #[{ name := "standardProvider", type := (.object "java/nio/charset/spi/CharsetProvider"), accessFlags := 26, slot := 0, constantValue := 0 }, { name := "zeroAliases", type := (.array (.object "java/lang/String")), accessFlags := 26, slot := 1, constantValue := 0 }, { name := "cache1", type := (.array (.object "java/lang/Object")), accessFlags := 74, slot := 2, constantValue := 0 }, { name := "cache2", type := (.array (.object "java/lang/Object")), accessFlags := 74, slot := 3, constantValue := 0 }, { name := "defaultCharset", type := (.object "java/nio/charset/Charset"), accessFlags := 10, slot := 4, constantValue := 0 }, { name := "name", type := (.object "java/lang/String"), accessFlags := 18, slot := 0, constantValue := 0 }, { name := "aliases", type := (.array (.object "java/lang/String")), accessFlags := 18, slot := 1, constantValue := 0 }, { name := "aliasSet", type := (.object "java/util/Set"), accessFlags := 2, slot := 2, constantValue := 0 }]
  methods := #[]
  instanceTypes := #[(.object "java/lang/String"), (.array (.object "java/lang/String")), (.object "java/util/Set")]
  staticTypes := #[(.object "java/nio/charset/spi/CharsetProvider"), (.array (.object "java/lang/String")), (.array (.object "java/lang/Object")), (.array (.object "java/lang/Object")), (.object "java/nio/charset/Charset")]
  resolved := Array.replicate 370 none
  statics := none }

def pool19 : Array CpInfo := pool [(1, .class_ 2), (0, u "sun/nio/cs/HistoricallyNamedCharset"), (0, .class_ 4), (0, u "java/lang/Object")] 4

/-- sun/nio/cs/HistoricallyNamedCharset -/
def k19 : Class := { plain "sun/nio/cs/HistoricallyNamedCharset" (some 0) with
  accessFlags := 1537
  interfaces := #[]
  cf := some (fileOf pool19 1 #[] #[] 1537 3 #[] #[])
  fields := #[]
  methods := #[]
  instanceTypes := #[]
  staticTypes := #[]
  resolved := Array.replicate 9 none
  statics := none }

def pool20 : Array CpInfo := pool [(2, .class_ 4), (1, u "java/nio/charset/Charset"), (130, .class_ 136), (0, u "sun/nio/cs/Unicode"), (0, .class_ 138), (0, u "sun/nio/cs/HistoricallyNamedCharset")] 15

/-- sun/nio/cs/Unicode -/
def k20 : Class := { plain "sun/nio/cs/Unicode" (some 18) with
  accessFlags := 1056
  interfaces := #[19]
  cf := some (fileOf pool20 135 #[] #[] 1056 2 #[137] #[])
  fields := #[]
  methods := #[]
  instanceTypes := #[(.object "java/lang/String"), (.array (.object "java/lang/String")), (.object "java/util/Set")]
  staticTypes := #[]
  resolved := Array.replicate 154 none
  statics := none }

def pool21 : Array CpInfo := pool [(10, .class_ 12), (1, u "sun/nio/cs/Unicode"), (0, u "<init>"), (3, .class_ 18), (0, u "sun/nio/cs/UTF_8$Decoder"), (3, .class_ 23), (0, u "sun/nio/cs/UTF_8$Encoder"), (15, .class_ 40), (0, u "sun/nio/cs/UTF_8"), (2, u "()V"), (2, u "INSTANCE"), (0, u "Lsun/nio/cs/UTF_8;"), (8, u "JLA"), (0, u "Ljdk/internal/access/JavaLangAccess;")] 26

def k21m0 : Method := { name := "<init>", desc := "()V", sig := { parameters := [], returnType := none }, accessFlags := 1, code := none }
/-- sun/nio/cs/UTF_8 -/
def k21 : Class := { plain "sun/nio/cs/UTF_8" (some 20) with
  accessFlags := 49
  interfaces := #[]
  cf := some (fileOf pool21 39 #[.nestMembers #[22, 17]] #[{ accessFlags := 1, nameIndex := 13, descriptorIndex := 43, attributes := #[] }] 49 10 #[] #[{ accessFlags := 25, nameIndex := 46, descriptorIndex := 47, attributes := #[] }, { accessFlags := 26, nameIndex := 56, descriptorIndex := 57, attributes := #[] }])
  fields := #[{ name := "INSTANCE", type := (.object "sun/nio/cs/UTF_8"), accessFlags := 25, slot := 0, constantValue := 0 }, { name := "JLA", type := (.object "jdk/internal/access/JavaLangAccess"), accessFlags := 26, slot := 1, constantValue := 0 }]
  methods := #[k21m0]
  instanceTypes := #[(.object "java/lang/String"), (.array (.object "java/lang/String")), (.object "java/util/Set")]
  staticTypes := #[(.object "sun/nio/cs/UTF_8"), (.object "jdk/internal/access/JavaLangAccess")]
  resolved := Array.replicate 84 none
  statics := some 3 }

def pool22 : Array CpInfo := pool [(2, .class_ 4), (1, u "java/lang/Object"), (0, u "<init>"), (0, u "()V"), (0, .methodref 8 9), (0, .class_ 10), (0, .nameAndType 11 12), (0, u "java/lang/StringCoding"), (0, u "countPositives"), (0, u "([BII)I"), (11, u "hasNegatives"), (0, u "([BII)Z")] 23

def k22m0 : Method := { name := "<init>", desc := "()V", sig := { parameters := [], returnType := none }, accessFlags := 2, code := none }
def k22c1 : Code := { maxStack := 3, maxLocals := 3, code := jdk_123_method_2_code, exceptionTable := #[], attributes := #[] }
def k22m1 : Method := { name := "hasNegatives", desc := "([BII)Z", sig := { parameters := [(.array .byte), .int, .int], returnType := some .boolean }, accessFlags := 9, code := some k22c1 }
def k22c2 : Code := { maxStack := 2, maxLocals := 5, code := jdk_123_method_3_code, exceptionTable := #[], attributes := #[] }
def k22m2 : Method := { name := "countPositives", desc := "([BII)I", sig := { parameters := [(.array .byte), .int, .int], returnType := some .int }, accessFlags := 9, code := some k22c2 }
/-- java/lang/StringCoding -/
def k22 : Class := { plain "java/lang/StringCoding" (some 0) with
  accessFlags := 32
  interfaces := #[]
  cf := some (fileOf pool22 8 #[] #[{ accessFlags := 2, nameIndex := 5, descriptorIndex := 6, attributes := #[] }, { accessFlags := 9, nameIndex := 24, descriptorIndex := 25, attributes := #[] }, { accessFlags := 9, nameIndex := 11, descriptorIndex := 12, attributes := #[] }] 32 2 #[] #[])
  fields := #[]
  methods := #[k22m0, k22m1, k22m2]
  instanceTypes := #[]
  staticTypes := #[]
  resolved := Array.replicate 49 none
  statics := none }

def pool23 : Array CpInfo := pool [(6, .class_ 8), (1, u "java/lang/Object"), (0, u "<init>"), (0, u "()V"), (0, .methodref 12 13), (0, .class_ 14), (0, .nameAndType 15 16), (0, u "java/lang/StringUTF16"), (0, u "newBytesLength"), (0, u "(I)I"), (3, .integer 1073741823), (25, u "$assertionsDisabled"), (0, u "Z"), (13, u "HI_BYTE_SHIFT"), (0, u "I"), (2, u "LO_BYTE_SHIFT"), (43, u "newBytesFor"), (0, u "(I)[B"), (258, .class_ 371), (1, u "java/lang/StringUTF16$LinesSpliterator"), (58, u "MAX_LENGTH"), (196, .class_ 628), (0, u "java/lang/StringUTF16$CodePointsSpliterator"), (0, .class_ 630), (0, u "java/lang/StringUTF16$CharsSpliterator")] 4

def k23m0 : Method := { name := "<init>", desc := "()V", sig := { parameters := [], returnType := none }, accessFlags := 0, code := none }
def k23c1 : Code := { maxStack := 1, maxLocals := 1, code := jdk_52_method_2_code, exceptionTable := #[], attributes := #[] }
def k23m1 : Method := { name := "newBytesFor", desc := "(I)[B", sig := { parameters := [.int], returnType := some (.array .byte) }, accessFlags := 9, code := some k23c1 }
def k23c2 : Code := { maxStack := 4, maxLocals := 1, code := jdk_52_method_3_code, exceptionTable := #[], attributes := #[] }
def k23m2 : Method := { name := "newBytesLength", desc := "(I)I", sig := { parameters := [.int], returnType := some .int }, accessFlags := 9, code := some k23c2 }
/-- java/lang/StringUTF16 -/
def k23 : Class := { plain "java/lang/StringUTF16" (some 0) with
  accessFlags := 48
  interfaces := #[]
  cf := some (fileOf pool23 12 #[.nestMembers #[627, 629, 369]] #[{ accessFlags := 0, nameIndex := 9, descriptorIndex := 10, attributes := #[] }, { accessFlags := 9, nameIndex := 109, descriptorIndex := 110, attributes := #[] }, { accessFlags := 9, nameIndex := 15, descriptorIndex := 16, attributes := #[] }] 48 6 #[] #[{ accessFlags := 26, nameIndex := 61, descriptorIndex := 62, attributes := #[] }, { accessFlags := 26, nameIndex := 65, descriptorIndex := 62, attributes := #[] }, { accessFlags := 24, nameIndex := 430, descriptorIndex := 62, attributes := #[] }, { accessFlags := 4120, nameIndex := 46, descriptorIndex := 47, attributes := #[] }])
  fields := #[{ name := "HI_BYTE_SHIFT", type := .int, accessFlags := 26, slot := 0, constantValue := 0 }, { name := "LO_BYTE_SHIFT", type := .int, accessFlags := 26, slot := 1, constantValue := 0 }, { name := "MAX_LENGTH", type := .int, accessFlags := 24, slot := 2, constantValue := 0 }, { name := "$assertionsDisabled", type := .boolean, accessFlags := 4120, slot := 3, constantValue := 0 }]
  methods := #[k23m0, k23m1, k23m2]
  instanceTypes := #[]
  staticTypes := #[.int, .int, .int, .boolean]
  resolved := Array.replicate 635 none
  statics := none }

def pool24 : Array CpInfo := pool [(9, u "<init>"), (6, .class_ 18), (1, u "java/lang/Object"), (0, u "()V"), (1, .class_ 23), (1, u "jdk/internal/util/ArraysSupport"), (0, u "LOG2_ARRAY_LONG_INDEX_SCALE"), (0, u "I"), (2, u "U"), (0, u "Ljdk/internal/misc/Unsafe;"), (8, u "BIG_ENDIAN"), (0, u "Z"), (8, u "LOG2_BYTE_BIT_SIZE"), (4, u "LOG2_ARRAY_INT_INDEX_SCALE"), (54, u "JLA"), (0, u "Ljdk/internal/access/JavaLangAccess;"), (11, u "LOG2_ARRAY_BOOLEAN_INDEX_SCALE"), (9, u "LOG2_ARRAY_BYTE_INDEX_SCALE"), (5, u "LOG2_ARRAY_CHAR_INDEX_SCALE"), (5, u "LOG2_ARRAY_SHORT_INDEX_SCALE"), (18, u "LOG2_ARRAY_FLOAT_INDEX_SCALE"), (24, u "LOG2_ARRAY_DOUBLE_INDEX_SCALE"), (6, .methodref 195 196), (0, .class_ 197), (0, .nameAndType 198 199), (0, u "java/lang/Math"), (0, u "max"), (0, u "(II)I"), (0, .integer 2147483639), (76, u "T_BOOLEAN"), (2, u "T_CHAR"), (1, u "T_FLOAT"), (1, u "T_DOUBLE"), (1, u "T_BYTE"), (1, u "T_SHORT"), (1, u "T_INT"), (1, u "T_LONG"), (1, u "SOFT_MAX_ARRAY_LENGTH"), (56, u "newLength"), (0, u "(III)I")] 25

def k24m0 : Method := { name := "<init>", desc := "()V", sig := { parameters := [], returnType := none }, accessFlags := 2, code := none }
def k24c1 : Code := { maxStack := 3, maxLocals := 4, code := jdk_48_method_27_code, exceptionTable := #[], attributes := #[] }
def k24m1 : Method := { name := "newLength", desc := "(III)I", sig := { parameters := [.int, .int, .int], returnType := some .int }, accessFlags := 9, code := some k24c1 }
/-- jdk/internal/util/ArraysSupport -/
def k24 : Class := { plain "jdk/internal/util/ArraysSupport" (some 0) with
  accessFlags := 33
  interfaces := #[]
  cf := some (fileOf pool24 21 #[] #[{ accessFlags := 2, nameIndex := 9, descriptorIndex := 19, attributes := #[] }, { accessFlags := 9, nameIndex := 351, descriptorIndex := 352, attributes := #[] }] 33 16 #[] #[{ accessFlags := 24, nameIndex := 28, descriptorIndex := 29, attributes := #[] }, { accessFlags := 26, nameIndex := 38, descriptorIndex := 39, attributes := #[] }, { accessFlags := 25, nameIndex := 121, descriptorIndex := 25, attributes := #[] }, { accessFlags := 25, nameIndex := 131, descriptorIndex := 25, attributes := #[] }, { accessFlags := 25, nameIndex := 137, descriptorIndex := 25, attributes := #[] }, { accessFlags := 25, nameIndex := 143, descriptorIndex := 25, attributes := #[] }, { accessFlags := 25, nameIndex := 53, descriptorIndex := 25, attributes := #[] }, { accessFlags := 25, nameIndex := 24, descriptorIndex := 25, attributes := #[] }, { accessFlags := 25, nameIndex := 162, descriptorIndex := 25, attributes := #[] }, { accessFlags := 25, nameIndex := 187, descriptorIndex := 25, attributes := #[] }, { accessFlags := 26, nameIndex := 48, descriptorIndex := 25, attributes := #[] }, { accessFlags := 25, nameIndex := 277, descriptorIndex := 25, attributes := #[] }, { accessFlags := 25, nameIndex := 280, descriptorIndex := 25, attributes := #[] }, { accessFlags := 25, nameIndex := 282, descriptorIndex := 25, attributes := #[] }, { accessFlags := 25, nameIndex := 284, descriptorIndex := 25, attributes := #[] }, { accessFlags := 25, nameIndex := 286, descriptorIndex := 25, attributes := #[] }, { accessFlags := 25, nameIndex := 288, descriptorIndex := 25, attributes := #[] }, { accessFlags := 25, nameIndex := 290, descriptorIndex := 25, attributes := #[] }, { accessFlags := 25, nameIndex := 292, descriptorIndex := 25, attributes := #[] }, { accessFlags := 26, nameIndex := 108, descriptorIndex := 109, attributes := #[] }, { accessFlags := 25, nameIndex := 294, descriptorIndex := 25, attributes := #[] }])
  fields := #[{ name := "U", type := (.object "jdk/internal/misc/Unsafe"), accessFlags := 24, slot := 0, constantValue := 0 }, { name := "BIG_ENDIAN", type := .boolean, accessFlags := 26, slot := 1, constantValue := 0 }, { name := "LOG2_ARRAY_BOOLEAN_INDEX_SCALE", type := .int, accessFlags := 25, slot := 2, constantValue := 0 }, { name := "LOG2_ARRAY_BYTE_INDEX_SCALE", type := .int, accessFlags := 25, slot := 3, constantValue := 0 }, { name := "LOG2_ARRAY_CHAR_INDEX_SCALE", type := .int, accessFlags := 25, slot := 4, constantValue := 0 }, { name := "LOG2_ARRAY_SHORT_INDEX_SCALE", type := .int, accessFlags := 25, slot := 5, constantValue := 0 }, { name := "LOG2_ARRAY_INT_INDEX_SCALE", type := .int, accessFlags := 25, slot := 6, constantValue := 0 }, { name := "LOG2_ARRAY_LONG_INDEX_SCALE", type := .int, accessFlags := 25, slot := 7, constantValue := 0 }, { name := "LOG2_ARRAY_FLOAT_INDEX_SCALE", type := .int, accessFlags := 25, slot := 8, constantValue := 0 }, { name := "LOG2_ARRAY_DOUBLE_INDEX_SCALE", type := .int, accessFlags := 25, slot := 9, constantValue := 0 }, { name := "LOG2_BYTE_BIT_SIZE", type := .int, accessFlags := 26, slot := 10, constantValue := 0 }, { name := "T_BOOLEAN", type := .int, accessFlags := 25, slot := 11, constantValue := 0 }, { name := "T_CHAR", type := .int, accessFlags := 25, slot := 12, constantValue := 0 }, { name := "T_FLOAT", type := .int, accessFlags := 25, slot := 13, constantValue := 0 }, { name := "T_DOUBLE", type := .int, accessFlags := 25, slot := 14, constantValue := 0 }, { name := "T_BYTE", type := .int, accessFlags := 25, slot := 15, constantValue := 0 }, { name := "T_SHORT", type := .int, accessFlags := 25, slot := 16, constantValue := 0 }, { name := "T_INT", type := .int, accessFlags := 25, slot := 17, constantValue := 0 }, { name := "T_LONG", type := .int, accessFlags := 25, slot := 18, constantValue := 0 }, { name := "JLA", type := (.object "jdk/internal/access/JavaLangAccess"), accessFlags := 26, slot := 19, constantValue := 0 }, { name := "SOFT_MAX_ARRAY_LENGTH", type := .int, accessFlags := 25, slot := 20, constantValue := 0 }]
  methods := #[k24m0, k24m1]
  instanceTypes := #[]
  staticTypes := #[(.object "jdk/internal/misc/Unsafe"), .boolean, .int, .int, .int, .int, .int, .int, .int, .int, .int, .int, .int, .int, .int, .int, .int, .int, .int, (.object "jdk/internal/access/JavaLangAccess"), .int]
  resolved := Array.replicate 378 none
  statics := none }

def pool25 : Array CpInfo := pool [(1, .class_ 2), (0, u "java/lang/Cloneable"), (0, .class_ 4), (0, u "java/lang/Object")] 2

/-- java/lang/Cloneable -/
def k25 : Class := { plain "java/lang/Cloneable" (some 0) with
  accessFlags := 1537
  interfaces := #[]
  cf := some (fileOf pool25 1 #[] #[] 1537 3 #[] #[])
  fields := #[]
  methods := #[]
  instanceTypes := #[]
  staticTypes := #[]
  resolved := Array.replicate 7 none
  statics := none }

def pool26 : Array CpInfo := pool [(2, .class_ 4), (1, u "java/lang/Object"), (0, u "<init>"), (0, u "()V"), (17, .class_ 26), (1, u "jdk/internal/util/Preconditions"), (28, .class_ 56), (0, u "jdk/internal/util/Preconditions$4"), (57, .class_ 115), (0, u "jdk/internal/util/Preconditions$1"), (7, u "SIOOBE_FORMATTER"), (0, u "Ljava/util/function/BiFunction;"), (0, .class_ 126), (0, u "jdk/internal/util/Preconditions$2"), (3, u "AIOOBE_FORMATTER"), (0, .class_ 132), (0, u "jdk/internal/util/Preconditions$3"), (3, u "IOOBE_FORMATTER")] 57

def k26m0 : Method := { name := "<init>", desc := "()V", sig := { parameters := [], returnType := none }, accessFlags := 1, code := none }
/-- jdk/internal/util/Preconditions -/
def k26 : Class := { plain "jdk/internal/util/Preconditions" (some 0) with
  accessFlags := 33
  interfaces := #[]
  cf := some (fileOf pool26 24 #[.nestMembers #[55, 131, 125, 114]] #[{ accessFlags := 1, nameIndex := 5, descriptorIndex := 6, attributes := #[] }] 33 2 #[] #[{ accessFlags := 25, nameIndex := 123, descriptorIndex := 124, attributes := #[] }, { accessFlags := 25, nameIndex := 130, descriptorIndex := 124, attributes := #[] }, { accessFlags := 25, nameIndex := 136, descriptorIndex := 124, attributes := #[] }])
  fields := #[{ name := "SIOOBE_FORMATTER", type := (.object "java/util/function/BiFunction"), accessFlags := 25, slot := 0, constantValue := 0 }, { name := "AIOOBE_FORMATTER", type := (.object "java/util/function/BiFunction"), accessFlags := 25, slot := 1, constantValue := 0 }, { name := "IOOBE_FORMATTER", type := (.object "java/util/function/BiFunction"), accessFlags := 25, slot := 2, constantValue := 0 }]
  methods := #[k26m0]
  instanceTypes := #[]
  staticTypes := #[(.object "java/util/function/BiFunction"), (.object "java/util/function/BiFunction"), (.object "java/util/function/BiFunction")]
  resolved := Array.replicate 194 none
  statics := some 4 }

/-- the primitive byte -/
def k27 : Class := { plain "byte" none with kind := .primitive 'B', accessFlags := 0x411 }
/-- [B -/
def k28 : Class := { plain "[B" (some 0) with kind := .array 27 .byte, interfaces := #[25, 6], accessFlags := 1041 }

/-- the primitive char -/
def k29 : Class := { plain "char" none with kind := .primitive 'C', accessFlags := 0x411 }
/-- [C -/
def k30 : Class := { plain "[C" (some 0) with kind := .array 29 .char, interfaces := #[25, 6], accessFlags := 1041 }

/-- the primitive int -/
def k31 : Class := { plain "int" none with kind := .primitive 'I', accessFlags := 0x411 }
/-- [I -/
def k32 : Class := { plain "[I" (some 0) with kind := .array 31 .int, interfaces := #[25, 6], accessFlags := 1041 }

def heap : Heap := #[{ cls := 11, slots := #[.long 0, .int 1, .null, .int 0, .null, .int 0, .int 0], vm := .statics 11 },
  { cls := 16, slots := #[.ref 5], vm := .statics 16 },
  { cls := 17, slots := #[.null, .null, .ref 6, .null, .null, .null], vm := .statics 17 },
  { cls := 21, slots := #[.ref 6, .null], vm := .statics 21 },
  { cls := 26, slots := #[.null, .null, .null], vm := .statics 26 },
  { cls := 30, slots := #[.int 48, .int 49, .int 50, .int 51, .int 52, .int 53, .int 54, .int 55, .int 56, .int 57, .int 65, .int 66, .int 67, .int 68, .int 69, .int 70], vm := .none },
  { cls := 21, slots := #[.null, .null, .null], vm := .none }]
def classes : Array Class := #[k0, k1, k2, k3, k4, k5, k6, k7, k8, k9, k10, k11, k12, k13, k14, k15, k16, k17, k18, k19, k20, k21, k22, k23, k24, k25, k26, k27, k28, k29, k30, k31, k32]
def interned : List (Array UInt16 × Addr) := []
def slotsUsed : Nat := 38
def theMethod : MethodId := ⟨1, 1⟩
def args0 : Array Value := #[.int 5, .int 5, .int 5, .int 5]
def aboutOver (below : List Frame) : State where
  vm := { classes := classes, interned := interned.toArray }
  heap := heap
  slotsUsed := slotsUsed
  threads := #[{ frames := .invoking theMethod args0 :: below }]
def below0 : List Frame := [.native { method := ⟨0, 0⟩, args := #[] }]
def about1 : State := aboutOver below0
def p0 : Program := .bare "" "" ""
def e0 : Env := launch0.env 0 0 0
theorem w_frames : about1.frames = Frame.invoking theMethod args0 :: below0 := rfl
set_option maxRecDepth 65536 in
theorem w_args : argsFit about1.vm theMethod args0 = true := by decide +kernel
set_option maxRecDepth 65536 in
theorem w_heap : heapFits about1 = true := by decide +kernel
set_option maxRecDepth 65536 in
theorem w_runnable : about1.curStatus? = some .runnable := by decide +kernel
set_option maxRecDepth 65536 in
theorem w_alone : about1.alone = true := by decide +kernel
set_option maxRecDepth 65536 in
theorem w_named : about1.methodNamed? x = some theMethod := by decide +kernel
set_option maxRecDepth 65536 in
theorem w_hears : about1.hears theMethod below0 = true := by decide +kernel
set_option maxRecDepth 65536 in
theorem w_ripe : about1.ripe theMethod args0 below0 = true := by decide +kernel
theorem w_running : about1.status = .running := rfl
set_option maxRecDepth 65536 in
theorem w_room : about1.hasRoom e0.platform room_1 = true :=
  launch0.hasRoom_least _ room_1 (by decide +kernel) (by decide +kernel) (by decide +kernel) (by decide +kernel) (by decide +kernel) (by decide +kernel)
theorem allAtoms_all (ts : List Jvm.Cond) (a : Array Jvm.Value) (st : Jvm.State) : (allAtoms ts).before a st = ts.all (fun c => c.before a st) := by
  induction ts with
  | nil => rfl
  | cons c t ih =>
    show (Jvm.Cond.and c (allAtoms t)).before a st = _
    rw [Jvm.Cond.before_and, ih, List.all_cons]
def words1 : List Jvm.Cond := Jvm.Cond.code x code maxLocals ret :: tables_1
/-- a 'code' word, met by the world's own term for the bytes: nothing is compared byte by byte -/
theorem code_word {y : MethodName} {bytes : ByteArray} {mx : Nat} {rt : Option FieldType} {a : Array Value} {s : State} {m : MethodId} {meth : Method} {c : Code} (h1 : s.methodNamed? y = some m) (h2 : s.vm.method? m = some meth) (h3 : meth.code = some c) (h4 : c.code = bytes)
    (h5 : (c.maxLocals == mx && c.exceptionTable.isEmpty && decide (c.maxStack ≤ mostOperands) && decide (meth.sig.returnType = rt) && !meth.locks && decide (parseMethodDescriptor y.desc = some meth.sig)) = true) : (Jvm.Cond.code y bytes mx rt).before a s = true := by
  simp only [Bool.and_eq_true, beq_iff_eq, Bool.not_eq_true', decide_eq_true_eq] at h5
  obtain ⟨⟨⟨⟨⟨g1, g2⟩, g3⟩, g4⟩, g5⟩, g6⟩ := h5
  simp [Cond.before, Cond.holds, Cond.value, h1, h2, h3, h4, g1, g2, g3, g4, g5, g6]
def isCode : Jvm.Cond → Bool
  | .code _ _ _ _ => true
  | _ => false
theorem all_split {L : List Jvm.Cond} {P : Jvm.Cond → Bool} (h1 : L.all (fun c => isCode c || P c) = true) (h2 : ∀ c ∈ L.filter isCode, P c = true) : L.all P = true := by
  refine List.all_eq_true.mpr fun c hc => ?_
  have h := List.all_eq_true.mp h1 c hc
  rcases Bool.eq_false_or_eq_true (isCode c) with hi | hi
  · exact h2 c (List.mem_filter.mpr ⟨hc, hi⟩)
  · simpa [hi] using h
set_option maxRecDepth 65536 in
theorem w_c0 : (Jvm.Cond.code x code maxLocals ret).before args0 about1 = true := code_word (m := ⟨1, 1⟩) (meth := k1m1) (c := k1c1) (by decide +kernel) rfl rfl rfl (by decide +kernel)
set_option maxRecDepth 65536 in
theorem w_c1 : (Jvm.Cond.code ({ cls := "com/example/patents_via_api/patentsviaapi/http/QueryString", name := "<init>", desc := "()V" } : Jvm.MethodName) prog_16_method_1_code (1 : Nat) (Option.none : Option Jvm.ClassFile.FieldType)).before args0 about1 = true := code_word (m := ⟨2, 0⟩) (meth := k2m0) (c := k2c0) (by decide +kernel) rfl rfl rfl (by decide +kernel)
set_option maxRecDepth 65536 in
theorem w_c2 : (Jvm.Cond.code ({ cls := "java/lang/Object", name := "<init>", desc := "()V" } : Jvm.MethodName) object_method_1_code (1 : Nat) (Option.none : Option Jvm.ClassFile.FieldType)).before args0 about1 = true := code_word (m := ⟨0, 0⟩) (meth := k0m0) (c := k0c0) (by decide +kernel) rfl rfl rfl (by decide +kernel)
set_option maxRecDepth 65536 in
theorem w_c3 : (Jvm.Cond.code ({ cls := "java/lang/StringBuilder", name := "<init>", desc := "()V" } : Jvm.MethodName) jdk_67_method_1_code (1 : Nat) (Option.none : Option Jvm.ClassFile.FieldType)).before args0 about1 = true := code_word (m := ⟨8, 0⟩) (meth := k8m0) (c := k8c0) (by decide +kernel) rfl rfl rfl (by decide +kernel)
set_option maxRecDepth 65536 in
theorem w_c4 : (Jvm.Cond.code ({ cls := "java/lang/AbstractStringBuilder", name := "<init>", desc := "(I)V" } : Jvm.MethodName) jdk_68_method_2_code (2 : Nat) (Option.none : Option Jvm.ClassFile.FieldType)).before args0 about1 = true := code_word (m := ⟨5, 1⟩) (meth := k5m1) (c := k5c1) (by decide +kernel) rfl rfl rfl (by decide +kernel)
set_option maxRecDepth 65536 in
theorem w_c5 : (Jvm.Cond.code ({ cls := "com/example/patents_via_api/patentsviaapi/http/QueryString", name := "isEmpty", desc := "()Z" } : Jvm.MethodName) prog_16_method_4_code (1 : Nat) (Option.some Jvm.ClassFile.FieldType.boolean)).before args0 about1 = true := code_word (m := ⟨2, 3⟩) (meth := k2m3) (c := k2c3) (by decide +kernel) rfl rfl rfl (by decide +kernel)
set_option maxRecDepth 65536 in
theorem w_c6 : (Jvm.Cond.code ({ cls := "java/lang/StringBuilder", name := "length", desc := "()I" } : Jvm.MethodName) jdk_67_method_93_code (1 : Nat) (Option.some Jvm.ClassFile.FieldType.int)).before args0 about1 = true := code_word (m := ⟨8, 5⟩) (meth := k8m5) (c := k8c5) (by decide +kernel) rfl rfl rfl (by decide +kernel)
set_option maxRecDepth 65536 in
theorem w_c7 : (Jvm.Cond.code ({ cls := "java/lang/AbstractStringBuilder", name := "length", desc := "()I" } : Jvm.MethodName) jdk_68_method_6_code (1 : Nat) (Option.some Jvm.ClassFile.FieldType.int)).before args0 about1 = true := code_word (m := ⟨5, 2⟩) (meth := k5m2) (c := k5c2) (by decide +kernel) rfl rfl rfl (by decide +kernel)
set_option maxRecDepth 65536 in
theorem w_c8 : (Jvm.Cond.code ({ cls := "com/example/patents_via_api/patentsviaapi/http/QueryString", name := "toString", desc := "()Ljava/lang/String;" } : Jvm.MethodName) prog_16_method_5_code (1 : Nat) (Option.some (Jvm.ClassFile.FieldType.object "java/lang/String"))).before args0 about1 = true := code_word (m := ⟨2, 4⟩) (meth := k2m4) (c := k2c4) (by decide +kernel) rfl rfl rfl (by decide +kernel)
set_option maxRecDepth 65536 in
theorem w_c9 : (Jvm.Cond.code ({ cls := "java/lang/StringBuilder", name := "toString", desc := "()Ljava/lang/String;" } : Jvm.MethodName) jdk_67_method_42_code (1 : Nat) (Option.some (Jvm.ClassFile.FieldType.object "java/lang/String"))).before args0 about1 = true := code_word (m := ⟨8, 4⟩) (meth := k8m4) (c := k8c4) (by decide +kernel) rfl rfl rfl (by decide +kernel)
set_option maxRecDepth 65536 in
theorem w_c10 : (Jvm.Cond.code ({ cls := "java/lang/String", name := "<init>", desc := "(Ljava/lang/StringBuilder;)V" } : Jvm.MethodName) jdk_42_method_53_code (2 : Nat) (Option.none : Option Jvm.ClassFile.FieldType)).before args0 about1 = true := code_word (m := ⟨11, 3⟩) (meth := k11m3) (c := k11c3) (by decide +kernel) rfl rfl rfl (by decide +kernel)
set_option maxRecDepth 65536 in
theorem w_c11 : (Jvm.Cond.code ({ cls := "java/lang/String", name := "<init>", desc := "(Ljava/lang/AbstractStringBuilder;Ljava/lang/Void;)V" } : Jvm.MethodName) jdk_42_method_150_code (5 : Nat) (Option.none : Option Jvm.ClassFile.FieldType)).before args0 about1 = true := code_word (m := ⟨11, 11⟩) (meth := k11m11) (c := k11c11) (by decide +kernel) rfl rfl rfl (by decide +kernel)
set_option maxRecDepth 65536 in
theorem w_c12 : (Jvm.Cond.code ({ cls := "java/lang/AbstractStringBuilder", name := "getValue", desc := "()[B" } : Jvm.MethodName) jdk_68_method_64_code (1 : Nat) (Option.some (Jvm.ClassFile.FieldType.array Jvm.ClassFile.FieldType.byte))).before args0 about1 = true := code_word (m := ⟨5, 7⟩) (meth := k5m7) (c := k5c7) (by decide +kernel) rfl rfl rfl (by decide +kernel)
set_option maxRecDepth 65536 in
theorem w_c13 : (Jvm.Cond.code ({ cls := "java/lang/AbstractStringBuilder", name := "isLatin1", desc := "()Z" } : Jvm.MethodName) jdk_68_method_68_code (1 : Nat) (Option.some Jvm.ClassFile.FieldType.boolean)).before args0 about1 = true := code_word (m := ⟨5, 8⟩) (meth := k5m8) (c := k5c8) (by decide +kernel) rfl rfl rfl (by decide +kernel)
set_option maxRecDepth 65536 in
theorem w_c14 : (Jvm.Cond.code ({ cls := "java/util/Arrays", name := "copyOfRange", desc := "([BII)[B" } : Jvm.MethodName) jdk_65_method_132_code (3 : Nat) (Option.some (Jvm.ClassFile.FieldType.array Jvm.ClassFile.FieldType.byte))).before args0 about1 = true := code_word (m := ⟨12, 3⟩) (meth := k12m3) (c := k12c3) (by decide +kernel) rfl rfl rfl (by decide +kernel)
set_option maxRecDepth 65536 in
theorem w_c15 : (Jvm.Cond.code ({ cls := "java/util/Arrays", name := "copyOfRangeByte", desc := "([BII)[B" } : Jvm.MethodName) jdk_65_method_133_code (5 : Nat) (Option.some (Jvm.ClassFile.FieldType.array Jvm.ClassFile.FieldType.byte))).before args0 about1 = true := code_word (m := ⟨12, 4⟩) (meth := k12m4) (c := k12c4) (by decide +kernel) rfl rfl rfl (by decide +kernel)
set_option maxRecDepth 65536 in
theorem w_c16 : (Jvm.Cond.code ({ cls := "java/util/Arrays", name := "checkLength", desc := "(II)V" } : Jvm.MethodName) jdk_65_method_131_code (2 : Nat) (Option.none : Option Jvm.ClassFile.FieldType)).before args0 about1 = true := code_word (m := ⟨12, 2⟩) (meth := k12m2) (c := k12c2) (by decide +kernel) rfl rfl rfl (by decide +kernel)
set_option maxRecDepth 65536 in
theorem w_c17 : (Jvm.Cond.code ({ cls := "java/lang/Math", name := "min", desc := "(II)I" } : Jvm.MethodName) jdk_29_method_69_code (2 : Nat) (Option.some Jvm.ClassFile.FieldType.int)).before args0 about1 = true := code_word (m := ⟨13, 2⟩) (meth := k13m2) (c := k13c2) (by decide +kernel) rfl rfl rfl (by decide +kernel)
set_option maxRecDepth 65536 in
theorem w_c18 : (Jvm.Cond.code ({ cls := "java/lang/String", name := "isEmpty", desc := "()Z" } : Jvm.MethodName) jdk_42_method_55_code (1 : Nat) (Option.some Jvm.ClassFile.FieldType.boolean)).before args0 about1 = true := code_word (m := ⟨11, 5⟩) (meth := k11m5) (c := k11c5) (by decide +kernel) rfl rfl rfl (by decide +kernel)
set_option maxRecDepth 65536 in
theorem w_c19 : (Jvm.Cond.code ({ cls := "com/example/patents_via_api/patentsviaapi/http/QueryStringIsEmptyPinLaw", name := "addOne", desc := "(Lcom/example/patents_via_api/patentsviaapi/http/QueryString;III)V" } : Jvm.MethodName) method_3_code (6 : Nat) (Option.none : Option Jvm.ClassFile.FieldType)).before args0 about1 = true := code_word (m := ⟨1, 2⟩) (meth := k1m2) (c := k1c2) (by decide +kernel) rfl rfl rfl (by decide +kernel)
set_option maxRecDepth 65536 in
theorem w_c20 : (Jvm.Cond.code ({ cls := "com/example/patents_via_api/patentsviaapi/http/QueryStringIsEmptyPinLaw", name := "text", desc := "(II)Ljava/lang/String;" } : Jvm.MethodName) method_4_code (2 : Nat) (Option.some (Jvm.ClassFile.FieldType.object "java/lang/String"))).before args0 about1 = true := code_word (m := ⟨1, 3⟩) (meth := k1m3) (c := k1c3) (by decide +kernel) rfl rfl rfl (by decide +kernel)
set_option maxRecDepth 65536 in
theorem w_c21 : (Jvm.Cond.code ({ cls := "java/lang/String", name := "valueOf", desc := "(C)Ljava/lang/String;" } : Jvm.MethodName) jdk_42_method_139_code (1 : Nat) (Option.some (Jvm.ClassFile.FieldType.object "java/lang/String"))).before args0 about1 = true := code_word (m := ⟨11, 9⟩) (meth := k11m9) (c := k11c9) (by decide +kernel) rfl rfl rfl (by decide +kernel)
set_option maxRecDepth 65536 in
theorem w_c22 : (Jvm.Cond.code ({ cls := "java/lang/StringLatin1", name := "canEncode", desc := "(C)Z" } : Jvm.MethodName) jdk_43_method_3_code (1 : Nat) (Option.some Jvm.ClassFile.FieldType.boolean)).before args0 about1 = true := code_word (m := ⟨15, 1⟩) (meth := k15m1) (c := k15c1) (by decide +kernel) rfl rfl rfl (by decide +kernel)
set_option maxRecDepth 65536 in
theorem w_c23 : (Jvm.Cond.code ({ cls := "java/lang/StringLatin1", name := "toBytes", desc := "(C)[B" } : Jvm.MethodName) jdk_43_method_46_code (1 : Nat) (Option.some (Jvm.ClassFile.FieldType.array Jvm.ClassFile.FieldType.byte))).before args0 about1 = true := code_word (m := ⟨15, 5⟩) (meth := k15m5) (c := k15c5) (by decide +kernel) rfl rfl rfl (by decide +kernel)
set_option maxRecDepth 65536 in
theorem w_c24 : (Jvm.Cond.code ({ cls := "java/lang/String", name := "<init>", desc := "([BB)V" } : Jvm.MethodName) jdk_42_method_151_code (3 : Nat) (Option.none : Option Jvm.ClassFile.FieldType)).before args0 about1 = true := code_word (m := ⟨11, 12⟩) (meth := k11m12) (c := k11c12) (by decide +kernel) rfl rfl rfl (by decide +kernel)
set_option maxRecDepth 65536 in
theorem w_c25 : (Jvm.Cond.code ({ cls := "com/example/patents_via_api/patentsviaapi/http/QueryString", name := "addAllowingReserved", desc := "(Ljava/lang/String;Ljava/lang/String;)Lcom/example/patents_via_api/patentsviaapi/http/QueryString;" } : Jvm.MethodName) prog_16_method_3_code (3 : Nat) (Option.some (Jvm.ClassFile.FieldType.object "com/example/patents_via_api/patentsviaapi/http/QueryString"))).before args0 about1 = true := code_word (m := ⟨2, 2⟩) (meth := k2m2) (c := k2c2) (by decide +kernel) rfl rfl rfl (by decide +kernel)
set_option maxRecDepth 65536 in
theorem w_c26 : (Jvm.Cond.code ({ cls := "com/example/patents_via_api/patentsviaapi/http/QueryString", name := "append", desc := "(Ljava/lang/String;Ljava/lang/String;Z)Lcom/example/patents_via_api/patentsviaapi/http/QueryString;" } : Jvm.MethodName) prog_16_method_6_code (4 : Nat) (Option.some (Jvm.ClassFile.FieldType.object "com/example/patents_via_api/patentsviaapi/http/QueryString"))).before args0 about1 = true := code_word (m := ⟨2, 5⟩) (meth := k2m5) (c := k2c5) (by decide +kernel) rfl rfl rfl (by decide +kernel)
set_option maxRecDepth 65536 in
theorem w_c27 : (Jvm.Cond.code ({ cls := "com/example/patents_via_api/patentsviaapi/http/PercentEncoding", name := "encode", desc := "(Ljava/lang/String;Ljava/lang/String;)Ljava/lang/String;" } : Jvm.MethodName) prog_15_method_2_code (8 : Nat) (Option.some (Jvm.ClassFile.FieldType.object "java/lang/String"))).before args0 about1 = true := code_word (m := ⟨16, 1⟩) (meth := k16m1) (c := k16c1) (by decide +kernel) rfl rfl rfl (by decide +kernel)
set_option maxRecDepth 65536 in
theorem w_c28 : (Jvm.Cond.code ({ cls := "java/lang/String", name := "length", desc := "()I" } : Jvm.MethodName) jdk_42_method_54_code (1 : Nat) (Option.some Jvm.ClassFile.FieldType.int)).before args0 about1 = true := code_word (m := ⟨11, 4⟩) (meth := k11m4) (c := k11c4) (by decide +kernel) rfl rfl rfl (by decide +kernel)
set_option maxRecDepth 65536 in
theorem w_c29 : (Jvm.Cond.code ({ cls := "java/lang/String", name := "coder", desc := "()B" } : Jvm.MethodName) jdk_42_method_152_code (1 : Nat) (Option.some Jvm.ClassFile.FieldType.byte)).before args0 about1 = true := code_word (m := ⟨11, 13⟩) (meth := k11m13) (c := k11c13) (by decide +kernel) rfl rfl rfl (by decide +kernel)
set_option maxRecDepth 65536 in
theorem w_c30 : (Jvm.Cond.code ({ cls := "java/lang/StringBuilder", name := "<init>", desc := "(I)V" } : Jvm.MethodName) jdk_67_method_2_code (2 : Nat) (Option.none : Option Jvm.ClassFile.FieldType)).before args0 about1 = true := code_word (m := ⟨8, 1⟩) (meth := k8m1) (c := k8c1) (by decide +kernel) rfl rfl rfl (by decide +kernel)
set_option maxRecDepth 65536 in
theorem w_c31 : (Jvm.Cond.code ({ cls := "java/lang/String", name := "getBytes", desc := "(Ljava/nio/charset/Charset;)[B" } : Jvm.MethodName) jdk_42_method_64_code (2 : Nat) (Option.some (Jvm.ClassFile.FieldType.array Jvm.ClassFile.FieldType.byte))).before args0 about1 = true := code_word (m := ⟨11, 6⟩) (meth := k11m6) (c := k11c6) (by decide +kernel) rfl rfl rfl (by decide +kernel)
set_option maxRecDepth 65536 in
theorem w_c32 : (Jvm.Cond.code ({ cls := "java/lang/String", name := "encode", desc := "(Ljava/nio/charset/Charset;B[B)[B" } : Jvm.MethodName) jdk_42_method_18_code (3 : Nat) (Option.some (Jvm.ClassFile.FieldType.array Jvm.ClassFile.FieldType.byte))).before args0 about1 = true := code_word (m := ⟨11, 1⟩) (meth := k11m1) (c := k11c1) (by decide +kernel) rfl rfl rfl (by decide +kernel)
set_option maxRecDepth 65536 in
theorem w_c33 : (Jvm.Cond.code ({ cls := "java/lang/String", name := "encodeUTF8", desc := "(B[BZ)[B" } : Jvm.MethodName) jdk_42_method_46_code (9 : Nat) (Option.some (Jvm.ClassFile.FieldType.array Jvm.ClassFile.FieldType.byte))).before args0 about1 = true := code_word (m := ⟨11, 2⟩) (meth := k11m2) (c := k11c2) (by decide +kernel) rfl rfl rfl (by decide +kernel)
set_option maxRecDepth 65536 in
theorem w_c34 : (Jvm.Cond.code ({ cls := "java/lang/StringCoding", name := "hasNegatives", desc := "([BII)Z" } : Jvm.MethodName) jdk_123_method_2_code (3 : Nat) (Option.some Jvm.ClassFile.FieldType.boolean)).before args0 about1 = true := code_word (m := ⟨22, 1⟩) (meth := k22m1) (c := k22c1) (by decide +kernel) rfl rfl rfl (by decide +kernel)
set_option maxRecDepth 65536 in
theorem w_c35 : (Jvm.Cond.code ({ cls := "java/lang/StringCoding", name := "countPositives", desc := "([BII)I" } : Jvm.MethodName) jdk_123_method_3_code (5 : Nat) (Option.some Jvm.ClassFile.FieldType.int)).before args0 about1 = true := code_word (m := ⟨22, 2⟩) (meth := k22m2) (c := k22c2) (by decide +kernel) rfl rfl rfl (by decide +kernel)
set_option maxRecDepth 65536 in
theorem w_c36 : (Jvm.Cond.code ({ cls := "java/lang/StringUTF16", name := "newBytesFor", desc := "(I)[B" } : Jvm.MethodName) jdk_52_method_2_code (1 : Nat) (Option.some (Jvm.ClassFile.FieldType.array Jvm.ClassFile.FieldType.byte))).before args0 about1 = true := code_word (m := ⟨23, 1⟩) (meth := k23m1) (c := k23c1) (by decide +kernel) rfl rfl rfl (by decide +kernel)
set_option maxRecDepth 65536 in
theorem w_c37 : (Jvm.Cond.code ({ cls := "java/lang/StringUTF16", name := "newBytesLength", desc := "(I)I" } : Jvm.MethodName) jdk_52_method_3_code (1 : Nat) (Option.some Jvm.ClassFile.FieldType.int)).before args0 about1 = true := code_word (m := ⟨23, 2⟩) (meth := k23m2) (c := k23c2) (by decide +kernel) rfl rfl rfl (by decide +kernel)
set_option maxRecDepth 65536 in
theorem w_c38 : (Jvm.Cond.code ({ cls := "com/example/patents_via_api/patentsviaapi/http/PercentEncoding", name := "isUnreserved", desc := "(C)Z" } : Jvm.MethodName) prog_15_method_3_code (1 : Nat) (Option.some Jvm.ClassFile.FieldType.boolean)).before args0 about1 = true := code_word (m := ⟨16, 2⟩) (meth := k16m2) (c := k16c2) (by decide +kernel) rfl rfl rfl (by decide +kernel)
set_option maxRecDepth 65536 in
theorem w_c39 : (Jvm.Cond.code ({ cls := "java/lang/String", name := "indexOf", desc := "(I)I" } : Jvm.MethodName) jdk_42_method_79_code (2 : Nat) (Option.some Jvm.ClassFile.FieldType.int)).before args0 about1 = true := code_word (m := ⟨11, 7⟩) (meth := k11m7) (c := k11c7) (by decide +kernel) rfl rfl rfl (by decide +kernel)
set_option maxRecDepth 65536 in
theorem w_c40 : (Jvm.Cond.code ({ cls := "java/lang/String", name := "indexOf", desc := "(II)I" } : Jvm.MethodName) jdk_42_method_80_code (3 : Nat) (Option.some Jvm.ClassFile.FieldType.int)).before args0 about1 = true := code_word (m := ⟨11, 8⟩) (meth := k11m8) (c := k11c8) (by decide +kernel) rfl rfl rfl (by decide +kernel)
set_option maxRecDepth 65536 in
theorem w_c41 : (Jvm.Cond.code ({ cls := "java/lang/String", name := "isLatin1", desc := "()Z" } : Jvm.MethodName) jdk_42_method_154_code (1 : Nat) (Option.some Jvm.ClassFile.FieldType.boolean)).before args0 about1 = true := code_word (m := ⟨11, 14⟩) (meth := k11m14) (c := k11c14) (by decide +kernel) rfl rfl rfl (by decide +kernel)
set_option maxRecDepth 65536 in
theorem w_c42 : (Jvm.Cond.code ({ cls := "java/lang/StringLatin1", name := "indexOf", desc := "([BIII)I" } : Jvm.MethodName) jdk_43_method_22_code (4 : Nat) (Option.some Jvm.ClassFile.FieldType.int)).before args0 about1 = true := code_word (m := ⟨15, 3⟩) (meth := k15m3) (c := k15c3) (by decide +kernel) rfl rfl rfl (by decide +kernel)
set_option maxRecDepth 65536 in
theorem w_c43 : (Jvm.Cond.code ({ cls := "java/lang/StringLatin1", name := "canEncode", desc := "(I)Z" } : Jvm.MethodName) jdk_43_method_4_code (1 : Nat) (Option.some Jvm.ClassFile.FieldType.boolean)).before args0 about1 = true := code_word (m := ⟨15, 2⟩) (meth := k15m2) (c := k15c2) (by decide +kernel) rfl rfl rfl (by decide +kernel)
set_option maxRecDepth 65536 in
theorem w_c44 : (Jvm.Cond.code ({ cls := "java/lang/Math", name := "max", desc := "(II)I" } : Jvm.MethodName) jdk_29_method_65_code (2 : Nat) (Option.some Jvm.ClassFile.FieldType.int)).before args0 about1 = true := code_word (m := ⟨13, 1⟩) (meth := k13m1) (c := k13c1) (by decide +kernel) rfl rfl rfl (by decide +kernel)
set_option maxRecDepth 65536 in
theorem w_c45 : (Jvm.Cond.code ({ cls := "java/lang/StringBuilder", name := "append", desc := "(C)Ljava/lang/StringBuilder;" } : Jvm.MethodName) jdk_67_method_14_code (2 : Nat) (Option.some (Jvm.ClassFile.FieldType.object "java/lang/StringBuilder"))).before args0 about1 = true := code_word (m := ⟨8, 3⟩) (meth := k8m3) (c := k8c3) (by decide +kernel) rfl rfl rfl (by decide +kernel)
set_option maxRecDepth 65536 in
theorem w_c46 : (Jvm.Cond.code ({ cls := "java/lang/AbstractStringBuilder", name := "append", desc := "(C)Ljava/lang/AbstractStringBuilder;" } : Jvm.MethodName) jdk_68_method_31_code (2 : Nat) (Option.some (Jvm.ClassFile.FieldType.object "java/lang/AbstractStringBuilder"))).before args0 about1 = true := code_word (m := ⟨5, 6⟩) (meth := k5m6) (c := k5c6) (by decide +kernel) rfl rfl rfl (by decide +kernel)
set_option maxRecDepth 65536 in
theorem w_c47 : (Jvm.Cond.code ({ cls := "java/lang/AbstractStringBuilder", name := "ensureCapacityInternal", desc := "(I)V" } : Jvm.MethodName) jdk_68_method_9_code (3 : Nat) (Option.none : Option Jvm.ClassFile.FieldType)).before args0 about1 = true := code_word (m := ⟨5, 3⟩) (meth := k5m3) (c := k5c3) (by decide +kernel) rfl rfl rfl (by decide +kernel)
set_option maxRecDepth 65536 in
theorem w_c48 : (Jvm.Cond.code ({ cls := "java/lang/AbstractStringBuilder", name := "newCapacity", desc := "(I)I" } : Jvm.MethodName) jdk_68_method_10_code (6 : Nat) (Option.some Jvm.ClassFile.FieldType.int)).before args0 about1 = true := code_word (m := ⟨5, 4⟩) (meth := k5m4) (c := k5c4) (by decide +kernel) rfl rfl rfl (by decide +kernel)
set_option maxRecDepth 65536 in
theorem w_c49 : (Jvm.Cond.code ({ cls := "jdk/internal/util/ArraysSupport", name := "newLength", desc := "(III)I" } : Jvm.MethodName) jdk_48_method_27_code (4 : Nat) (Option.some Jvm.ClassFile.FieldType.int)).before args0 about1 = true := code_word (m := ⟨24, 1⟩) (meth := k24m1) (c := k24c1) (by decide +kernel) rfl rfl rfl (by decide +kernel)
set_option maxRecDepth 65536 in
theorem w_c50 : (Jvm.Cond.code ({ cls := "java/util/Arrays", name := "copyOf", desc := "([BI)[B" } : Jvm.MethodName) jdk_65_method_121_code (3 : Nat) (Option.some (Jvm.ClassFile.FieldType.array Jvm.ClassFile.FieldType.byte))).before args0 about1 = true := code_word (m := ⟨12, 1⟩) (meth := k12m1) (c := k12c1) (by decide +kernel) rfl rfl rfl (by decide +kernel)
set_option maxRecDepth 65536 in
theorem w_c51 : (Jvm.Cond.code ({ cls := "java/lang/StringBuilder", name := "append", desc := "(Ljava/lang/String;)Ljava/lang/StringBuilder;" } : Jvm.MethodName) jdk_67_method_7_code (2 : Nat) (Option.some (Jvm.ClassFile.FieldType.object "java/lang/StringBuilder"))).before args0 about1 = true := code_word (m := ⟨8, 2⟩) (meth := k8m2) (c := k8c2) (by decide +kernel) rfl rfl rfl (by decide +kernel)
set_option maxRecDepth 65536 in
theorem w_c52 : (Jvm.Cond.code ({ cls := "java/lang/AbstractStringBuilder", name := "append", desc := "(Ljava/lang/String;)Ljava/lang/AbstractStringBuilder;" } : Jvm.MethodName) jdk_68_method_22_code (3 : Nat) (Option.some (Jvm.ClassFile.FieldType.object "java/lang/AbstractStringBuilder"))).before args0 about1 = true := code_word (m := ⟨5, 5⟩) (meth := k5m5) (c := k5c5) (by decide +kernel) rfl rfl rfl (by decide +kernel)
set_option maxRecDepth 65536 in
theorem w_c53 : (Jvm.Cond.code ({ cls := "java/lang/AbstractStringBuilder", name := "putStringAt", desc := "(ILjava/lang/String;)V" } : Jvm.MethodName) jdk_68_method_73_code (3 : Nat) (Option.none : Option Jvm.ClassFile.FieldType)).before args0 about1 = true := code_word (m := ⟨5, 10⟩) (meth := k5m10) (c := k5c10) (by decide +kernel) rfl rfl rfl (by decide +kernel)
set_option maxRecDepth 65536 in
theorem w_c54 : (Jvm.Cond.code ({ cls := "java/lang/AbstractStringBuilder", name := "inflateIfNeededFor", desc := "(Ljava/lang/String;)V" } : Jvm.MethodName) jdk_68_method_71_code (2 : Nat) (Option.none : Option Jvm.ClassFile.FieldType)).before args0 about1 = true := code_word (m := ⟨5, 9⟩) (meth := k5m9) (c := k5c9) (by decide +kernel) rfl rfl rfl (by decide +kernel)
set_option maxRecDepth 65536 in
theorem w_c55 : (Jvm.Cond.code ({ cls := "java/lang/String", name := "getBytes", desc := "([BIB)V" } : Jvm.MethodName) jdk_42_method_147_code (4 : Nat) (Option.none : Option Jvm.ClassFile.FieldType)).before args0 about1 = true := code_word (m := ⟨11, 10⟩) (meth := k11m10) (c := k11c10) (by decide +kernel) rfl rfl rfl (by decide +kernel)
set_option maxRecDepth 65536 in
theorem w_c56 : (Jvm.Cond.code ({ cls := "java/lang/StringLatin1", name := "indexOfChar", desc := "([BIII)I" } : Jvm.MethodName) jdk_43_method_23_code (6 : Nat) (Option.some Jvm.ClassFile.FieldType.int)).before args0 about1 = true := code_word (m := ⟨15, 4⟩) (meth := k15m4) (c := k15c4) (by decide +kernel) rfl rfl rfl (by decide +kernel)
set_option maxRecDepth 65536 in
theorem w_c57 : (Jvm.Cond.code ({ cls := "com/example/patents_via_api/patentsviaapi/http/QueryString", name := "add", desc := "(Ljava/lang/String;Ljava/lang/String;)Lcom/example/patents_via_api/patentsviaapi/http/QueryString;" } : Jvm.MethodName) prog_16_method_2_code (3 : Nat) (Option.some (Jvm.ClassFile.FieldType.object "com/example/patents_via_api/patentsviaapi/http/QueryString"))).before args0 about1 = true := code_word (m := ⟨2, 1⟩) (meth := k2m1) (c := k2c1) (by decide +kernel) rfl rfl rfl (by decide +kernel)
def codes1 : List Jvm.Cond := [Jvm.Cond.code x code maxLocals ret, Jvm.Cond.code ({ cls := "com/example/patents_via_api/patentsviaapi/http/QueryString", name := "<init>", desc := "()V" } : Jvm.MethodName) prog_16_method_1_code (1 : Nat) (Option.none : Option Jvm.ClassFile.FieldType), Jvm.Cond.code ({ cls := "java/lang/Object", name := "<init>", desc := "()V" } : Jvm.MethodName) object_method_1_code (1 : Nat) (Option.none : Option Jvm.ClassFile.FieldType), Jvm.Cond.code ({ cls := "java/lang/StringBuilder", name := "<init>", desc := "()V" } : Jvm.MethodName) jdk_67_method_1_code (1 : Nat) (Option.none : Option Jvm.ClassFile.FieldType), Jvm.Cond.code ({ cls := "java/lang/AbstractStringBuilder", name := "<init>", desc := "(I)V" } : Jvm.MethodName) jdk_68_method_2_code (2 : Nat) (Option.none : Option Jvm.ClassFile.FieldType), Jvm.Cond.code ({ cls := "com/example/patents_via_api/patentsviaapi/http/QueryString", name := "isEmpty", desc := "()Z" } : Jvm.MethodName) prog_16_method_4_code (1 : Nat) (Option.some Jvm.ClassFile.FieldType.boolean), Jvm.Cond.code ({ cls := "java/lang/StringBuilder", name := "length", desc := "()I" } : Jvm.MethodName) jdk_67_method_93_code (1 : Nat) (Option.some Jvm.ClassFile.FieldType.int), Jvm.Cond.code ({ cls := "java/lang/AbstractStringBuilder", name := "length", desc := "()I" } : Jvm.MethodName) jdk_68_method_6_code (1 : Nat) (Option.some Jvm.ClassFile.FieldType.int), Jvm.Cond.code ({ cls := "com/example/patents_via_api/patentsviaapi/http/QueryString", name := "toString", desc := "()Ljava/lang/String;" } : Jvm.MethodName) prog_16_method_5_code (1 : Nat) (Option.some (Jvm.ClassFile.FieldType.object "java/lang/String")), Jvm.Cond.code ({ cls := "java/lang/StringBuilder", name := "toString", desc := "()Ljava/lang/String;" } : Jvm.MethodName) jdk_67_method_42_code (1 : Nat) (Option.some (Jvm.ClassFile.FieldType.object "java/lang/String")), Jvm.Cond.code ({ cls := "java/lang/String", name := "<init>", desc := "(Ljava/lang/StringBuilder;)V" } : Jvm.MethodName) jdk_42_method_53_code (2 : Nat) (Option.none : Option Jvm.ClassFile.FieldType), Jvm.Cond.code ({ cls := "java/lang/String", name := "<init>", desc := "(Ljava/lang/AbstractStringBuilder;Ljava/lang/Void;)V" } : Jvm.MethodName) jdk_42_method_150_code (5 : Nat) (Option.none : Option Jvm.ClassFile.FieldType), Jvm.Cond.code ({ cls := "java/lang/AbstractStringBuilder", name := "getValue", desc := "()[B" } : Jvm.MethodName) jdk_68_method_64_code (1 : Nat) (Option.some (Jvm.ClassFile.FieldType.array Jvm.ClassFile.FieldType.byte)), Jvm.Cond.code ({ cls := "java/lang/AbstractStringBuilder", name := "isLatin1", desc := "()Z" } : Jvm.MethodName) jdk_68_method_68_code (1 : Nat) (Option.some Jvm.ClassFile.FieldType.boolean), Jvm.Cond.code ({ cls := "java/util/Arrays", name := "copyOfRange", desc := "([BII)[B" } : Jvm.MethodName) jdk_65_method_132_code (3 : Nat) (Option.some (Jvm.ClassFile.FieldType.array Jvm.ClassFile.FieldType.byte)), Jvm.Cond.code ({ cls := "java/util/Arrays", name := "copyOfRangeByte", desc := "([BII)[B" } : Jvm.MethodName) jdk_65_method_133_code (5 : Nat) (Option.some (Jvm.ClassFile.FieldType.array Jvm.ClassFile.FieldType.byte)), Jvm.Cond.code ({ cls := "java/util/Arrays", name := "checkLength", desc := "(II)V" } : Jvm.MethodName) jdk_65_method_131_code (2 : Nat) (Option.none : Option Jvm.ClassFile.FieldType), Jvm.Cond.code ({ cls := "java/lang/Math", name := "min", desc := "(II)I" } : Jvm.MethodName) jdk_29_method_69_code (2 : Nat) (Option.some Jvm.ClassFile.FieldType.int), Jvm.Cond.code ({ cls := "java/lang/String", name := "isEmpty", desc := "()Z" } : Jvm.MethodName) jdk_42_method_55_code (1 : Nat) (Option.some Jvm.ClassFile.FieldType.boolean), Jvm.Cond.code ({ cls := "com/example/patents_via_api/patentsviaapi/http/QueryStringIsEmptyPinLaw", name := "addOne", desc := "(Lcom/example/patents_via_api/patentsviaapi/http/QueryString;III)V" } : Jvm.MethodName) method_3_code (6 : Nat) (Option.none : Option Jvm.ClassFile.FieldType), Jvm.Cond.code ({ cls := "com/example/patents_via_api/patentsviaapi/http/QueryStringIsEmptyPinLaw", name := "text", desc := "(II)Ljava/lang/String;" } : Jvm.MethodName) method_4_code (2 : Nat) (Option.some (Jvm.ClassFile.FieldType.object "java/lang/String")), Jvm.Cond.code ({ cls := "java/lang/String", name := "valueOf", desc := "(C)Ljava/lang/String;" } : Jvm.MethodName) jdk_42_method_139_code (1 : Nat) (Option.some (Jvm.ClassFile.FieldType.object "java/lang/String")), Jvm.Cond.code ({ cls := "java/lang/StringLatin1", name := "canEncode", desc := "(C)Z" } : Jvm.MethodName) jdk_43_method_3_code (1 : Nat) (Option.some Jvm.ClassFile.FieldType.boolean), Jvm.Cond.code ({ cls := "java/lang/StringLatin1", name := "toBytes", desc := "(C)[B" } : Jvm.MethodName) jdk_43_method_46_code (1 : Nat) (Option.some (Jvm.ClassFile.FieldType.array Jvm.ClassFile.FieldType.byte)), Jvm.Cond.code ({ cls := "java/lang/String", name := "<init>", desc := "([BB)V" } : Jvm.MethodName) jdk_42_method_151_code (3 : Nat) (Option.none : Option Jvm.ClassFile.FieldType), Jvm.Cond.code ({ cls := "com/example/patents_via_api/patentsviaapi/http/QueryString", name := "addAllowingReserved", desc := "(Ljava/lang/String;Ljava/lang/String;)Lcom/example/patents_via_api/patentsviaapi/http/QueryString;" } : Jvm.MethodName) prog_16_method_3_code (3 : Nat) (Option.some (Jvm.ClassFile.FieldType.object "com/example/patents_via_api/patentsviaapi/http/QueryString")), Jvm.Cond.code ({ cls := "com/example/patents_via_api/patentsviaapi/http/QueryString", name := "append", desc := "(Ljava/lang/String;Ljava/lang/String;Z)Lcom/example/patents_via_api/patentsviaapi/http/QueryString;" } : Jvm.MethodName) prog_16_method_6_code (4 : Nat) (Option.some (Jvm.ClassFile.FieldType.object "com/example/patents_via_api/patentsviaapi/http/QueryString")), Jvm.Cond.code ({ cls := "com/example/patents_via_api/patentsviaapi/http/PercentEncoding", name := "encode", desc := "(Ljava/lang/String;Ljava/lang/String;)Ljava/lang/String;" } : Jvm.MethodName) prog_15_method_2_code (8 : Nat) (Option.some (Jvm.ClassFile.FieldType.object "java/lang/String")), Jvm.Cond.code ({ cls := "java/lang/String", name := "length", desc := "()I" } : Jvm.MethodName) jdk_42_method_54_code (1 : Nat) (Option.some Jvm.ClassFile.FieldType.int), Jvm.Cond.code ({ cls := "java/lang/String", name := "coder", desc := "()B" } : Jvm.MethodName) jdk_42_method_152_code (1 : Nat) (Option.some Jvm.ClassFile.FieldType.byte), Jvm.Cond.code ({ cls := "java/lang/StringBuilder", name := "<init>", desc := "(I)V" } : Jvm.MethodName) jdk_67_method_2_code (2 : Nat) (Option.none : Option Jvm.ClassFile.FieldType), Jvm.Cond.code ({ cls := "java/lang/String", name := "getBytes", desc := "(Ljava/nio/charset/Charset;)[B" } : Jvm.MethodName) jdk_42_method_64_code (2 : Nat) (Option.some (Jvm.ClassFile.FieldType.array Jvm.ClassFile.FieldType.byte)), Jvm.Cond.code ({ cls := "java/lang/String", name := "encode", desc := "(Ljava/nio/charset/Charset;B[B)[B" } : Jvm.MethodName) jdk_42_method_18_code (3 : Nat) (Option.some (Jvm.ClassFile.FieldType.array Jvm.ClassFile.FieldType.byte)), Jvm.Cond.code ({ cls := "java/lang/String", name := "encodeUTF8", desc := "(B[BZ)[B" } : Jvm.MethodName) jdk_42_method_46_code (9 : Nat) (Option.some (Jvm.ClassFile.FieldType.array Jvm.ClassFile.FieldType.byte)), Jvm.Cond.code ({ cls := "java/lang/StringCoding", name := "hasNegatives", desc := "([BII)Z" } : Jvm.MethodName) jdk_123_method_2_code (3 : Nat) (Option.some Jvm.ClassFile.FieldType.boolean), Jvm.Cond.code ({ cls := "java/lang/StringCoding", name := "countPositives", desc := "([BII)I" } : Jvm.MethodName) jdk_123_method_3_code (5 : Nat) (Option.some Jvm.ClassFile.FieldType.int), Jvm.Cond.code ({ cls := "java/lang/StringUTF16", name := "newBytesFor", desc := "(I)[B" } : Jvm.MethodName) jdk_52_method_2_code (1 : Nat) (Option.some (Jvm.ClassFile.FieldType.array Jvm.ClassFile.FieldType.byte)), Jvm.Cond.code ({ cls := "java/lang/StringUTF16", name := "newBytesLength", desc := "(I)I" } : Jvm.MethodName) jdk_52_method_3_code (1 : Nat) (Option.some Jvm.ClassFile.FieldType.int), Jvm.Cond.code ({ cls := "com/example/patents_via_api/patentsviaapi/http/PercentEncoding", name := "isUnreserved", desc := "(C)Z" } : Jvm.MethodName) prog_15_method_3_code (1 : Nat) (Option.some Jvm.ClassFile.FieldType.boolean), Jvm.Cond.code ({ cls := "java/lang/String", name := "indexOf", desc := "(I)I" } : Jvm.MethodName) jdk_42_method_79_code (2 : Nat) (Option.some Jvm.ClassFile.FieldType.int), Jvm.Cond.code ({ cls := "java/lang/String", name := "indexOf", desc := "(II)I" } : Jvm.MethodName) jdk_42_method_80_code (3 : Nat) (Option.some Jvm.ClassFile.FieldType.int), Jvm.Cond.code ({ cls := "java/lang/String", name := "isLatin1", desc := "()Z" } : Jvm.MethodName) jdk_42_method_154_code (1 : Nat) (Option.some Jvm.ClassFile.FieldType.boolean), Jvm.Cond.code ({ cls := "java/lang/StringLatin1", name := "indexOf", desc := "([BIII)I" } : Jvm.MethodName) jdk_43_method_22_code (4 : Nat) (Option.some Jvm.ClassFile.FieldType.int), Jvm.Cond.code ({ cls := "java/lang/StringLatin1", name := "canEncode", desc := "(I)Z" } : Jvm.MethodName) jdk_43_method_4_code (1 : Nat) (Option.some Jvm.ClassFile.FieldType.boolean), Jvm.Cond.code ({ cls := "java/lang/Math", name := "max", desc := "(II)I" } : Jvm.MethodName) jdk_29_method_65_code (2 : Nat) (Option.some Jvm.ClassFile.FieldType.int), Jvm.Cond.code ({ cls := "java/lang/StringBuilder", name := "append", desc := "(C)Ljava/lang/StringBuilder;" } : Jvm.MethodName) jdk_67_method_14_code (2 : Nat) (Option.some (Jvm.ClassFile.FieldType.object "java/lang/StringBuilder")), Jvm.Cond.code ({ cls := "java/lang/AbstractStringBuilder", name := "append", desc := "(C)Ljava/lang/AbstractStringBuilder;" } : Jvm.MethodName) jdk_68_method_31_code (2 : Nat) (Option.some (Jvm.ClassFile.FieldType.object "java/lang/AbstractStringBuilder")), Jvm.Cond.code ({ cls := "java/lang/AbstractStringBuilder", name := "ensureCapacityInternal", desc := "(I)V" } : Jvm.MethodName) jdk_68_method_9_code (3 : Nat) (Option.none : Option Jvm.ClassFile.FieldType), Jvm.Cond.code ({ cls := "java/lang/AbstractStringBuilder", name := "newCapacity", desc := "(I)I" } : Jvm.MethodName) jdk_68_method_10_code (6 : Nat) (Option.some Jvm.ClassFile.FieldType.int), Jvm.Cond.code ({ cls := "jdk/internal/util/ArraysSupport", name := "newLength", desc := "(III)I" } : Jvm.MethodName) jdk_48_method_27_code (4 : Nat) (Option.some Jvm.ClassFile.FieldType.int), Jvm.Cond.code ({ cls := "java/util/Arrays", name := "copyOf", desc := "([BI)[B" } : Jvm.MethodName) jdk_65_method_121_code (3 : Nat) (Option.some (Jvm.ClassFile.FieldType.array Jvm.ClassFile.FieldType.byte)), Jvm.Cond.code ({ cls := "java/lang/StringBuilder", name := "append", desc := "(Ljava/lang/String;)Ljava/lang/StringBuilder;" } : Jvm.MethodName) jdk_67_method_7_code (2 : Nat) (Option.some (Jvm.ClassFile.FieldType.object "java/lang/StringBuilder")), Jvm.Cond.code ({ cls := "java/lang/AbstractStringBuilder", name := "append", desc := "(Ljava/lang/String;)Ljava/lang/AbstractStringBuilder;" } : Jvm.MethodName) jdk_68_method_22_code (3 : Nat) (Option.some (Jvm.ClassFile.FieldType.object "java/lang/AbstractStringBuilder")), Jvm.Cond.code ({ cls := "java/lang/AbstractStringBuilder", name := "putStringAt", desc := "(ILjava/lang/String;)V" } : Jvm.MethodName) jdk_68_method_73_code (3 : Nat) (Option.none : Option Jvm.ClassFile.FieldType), Jvm.Cond.code ({ cls := "java/lang/AbstractStringBuilder", name := "inflateIfNeededFor", desc := "(Ljava/lang/String;)V" } : Jvm.MethodName) jdk_68_method_71_code (2 : Nat) (Option.none : Option Jvm.ClassFile.FieldType), Jvm.Cond.code ({ cls := "java/lang/String", name := "getBytes", desc := "([BIB)V" } : Jvm.MethodName) jdk_42_method_147_code (4 : Nat) (Option.none : Option Jvm.ClassFile.FieldType), Jvm.Cond.code ({ cls := "java/lang/StringLatin1", name := "indexOfChar", desc := "([BIII)I" } : Jvm.MethodName) jdk_43_method_23_code (6 : Nat) (Option.some Jvm.ClassFile.FieldType.int), Jvm.Cond.code ({ cls := "com/example/patents_via_api/patentsviaapi/http/QueryString", name := "add", desc := "(Ljava/lang/String;Ljava/lang/String;)Lcom/example/patents_via_api/patentsviaapi/http/QueryString;" } : Jvm.MethodName) prog_16_method_2_code (3 : Nat) (Option.some (Jvm.ClassFile.FieldType.object "com/example/patents_via_api/patentsviaapi/http/QueryString"))]
set_option maxRecDepth 65536 in
theorem codes_eq : words1.filter isCode = codes1 := rfl
theorem w_codes : ∀ c ∈ words1.filter isCode, c.before args0 about1 = true := by
  rw [codes_eq]
  intro c hc
  simp only [codes1, List.mem_cons, List.not_mem_nil, or_false] at hc
  rcases hc with rfl | rfl | rfl | rfl | rfl | rfl | rfl | rfl | rfl | rfl | rfl | rfl | rfl | rfl | rfl | rfl | rfl | rfl | rfl | rfl | rfl | rfl | rfl | rfl | rfl | rfl | rfl | rfl | rfl | rfl | rfl | rfl | rfl | rfl | rfl | rfl | rfl | rfl | rfl | rfl | rfl | rfl | rfl | rfl | rfl | rfl | rfl | rfl | rfl | rfl | rfl | rfl | rfl | rfl | rfl | rfl | rfl | rfl
  · exact w_c0
  · exact w_c1
  · exact w_c2
  · exact w_c3
  · exact w_c4
  · exact w_c5
  · exact w_c6
  · exact w_c7
  · exact w_c8
  · exact w_c9
  · exact w_c10
  · exact w_c11
  · exact w_c12
  · exact w_c13
  · exact w_c14
  · exact w_c15
  · exact w_c16
  · exact w_c17
  · exact w_c18
  · exact w_c19
  · exact w_c20
  · exact w_c21
  · exact w_c22
  · exact w_c23
  · exact w_c24
  · exact w_c25
  · exact w_c26
  · exact w_c27
  · exact w_c28
  · exact w_c29
  · exact w_c30
  · exact w_c31
  · exact w_c32
  · exact w_c33
  · exact w_c34
  · exact w_c35
  · exact w_c36
  · exact w_c37
  · exact w_c38
  · exact w_c39
  · exact w_c40
  · exact w_c41
  · exact w_c42
  · exact w_c43
  · exact w_c44
  · exact w_c45
  · exact w_c46
  · exact w_c47
  · exact w_c48
  · exact w_c49
  · exact w_c50
  · exact w_c51
  · exact w_c52
  · exact w_c53
  · exact w_c54
  · exact w_c55
  · exact w_c56
  · exact w_c57
set_option maxRecDepth 65536 in
theorem w_t1 : (words1.take 24).all (fun c => isCode c || c.before args0 about1) = true := by decide +kernel
set_option maxRecDepth 65536 in
theorem w_t2 : ((words1.drop 24).take 24).all (fun c => isCode c || c.before args0 about1) = true := by decide +kernel
set_option maxRecDepth 65536 in
theorem w_t3 : (((words1.drop 24).drop 24).take 24).all (fun c => isCode c || c.before args0 about1) = true := by decide +kernel
set_option maxRecDepth 65536 in
theorem w_t4 : ((((words1.drop 24).drop 24).drop 24).take 24).all (fun c => isCode c || c.before args0 about1) = true := by decide +kernel
set_option maxRecDepth 65536 in
theorem w_t5 : (((((words1.drop 24).drop 24).drop 24).drop 24).take 24).all (fun c => isCode c || c.before args0 about1) = true := by decide +kernel
set_option maxRecDepth 65536 in
theorem w_t6 : ((((((words1.drop 24).drop 24).drop 24).drop 24).drop 24).take 24).all (fun c => isCode c || c.before args0 about1) = true := by decide +kernel
set_option maxRecDepth 65536 in
theorem w_t7 : (((((((words1.drop 24).drop 24).drop 24).drop 24).drop 24).drop 24).take 24).all (fun c => isCode c || c.before args0 about1) = true := by decide +kernel
set_option maxRecDepth 65536 in
theorem w_t8 : ((((((((words1.drop 24).drop 24).drop 24).drop 24).drop 24).drop 24).drop 24).take 24).all (fun c => isCode c || c.before args0 about1) = true := by decide +kernel
set_option maxRecDepth 65536 in
theorem w_t9 : (((((((((words1.drop 24).drop 24).drop 24).drop 24).drop 24).drop 24).drop 24).drop 24).take 24).all (fun c => isCode c || c.before args0 about1) = true := by decide +kernel
set_option maxRecDepth 65536 in
theorem w_t10 : ((((((((((words1.drop 24).drop 24).drop 24).drop 24).drop 24).drop 24).drop 24).drop 24).drop 24).take 24).all (fun c => isCode c || c.before args0 about1) = true := by decide +kernel
set_option maxRecDepth 65536 in
theorem w_t11 : (((((((((((words1.drop 24).drop 24).drop 24).drop 24).drop 24).drop 24).drop 24).drop 24).drop 24).drop 24).take 24).all (fun c => isCode c || c.before args0 about1) = true := by decide +kernel
set_option maxRecDepth 65536 in
theorem w_t12 : ((((((((((((words1.drop 24).drop 24).drop 24).drop 24).drop 24).drop 24).drop 24).drop 24).drop 24).drop 24).drop 24).take 24).all (fun c => isCode c || c.before args0 about1) = true := by decide +kernel
set_option maxRecDepth 65536 in
theorem w_t13 : ((((((((((((words1.drop 24).drop 24).drop 24).drop 24).drop 24).drop 24).drop 24).drop 24).drop 24).drop 24).drop 24).drop 24).all (fun c => isCode c || c.before args0 about1) = true := by decide +kernel
theorem w_tables : (allAtoms (Jvm.Cond.code x code maxLocals ret :: tables_1)).before args0 about1 = true := by
  rw [allAtoms_all]
  show words1.all (fun c => c.before args0 about1) = true
  refine all_split ?_ w_codes
  rw [← List.take_append_drop 24 words1, List.all_append, w_t1, ← List.take_append_drop 24 (words1.drop 24), List.all_append, w_t2, ← List.take_append_drop 24 ((words1.drop 24).drop 24), List.all_append, w_t3, ← List.take_append_drop 24 (((words1.drop 24).drop 24).drop 24), List.all_append, w_t4, ← List.take_append_drop 24 ((((words1.drop 24).drop 24).drop 24).drop 24), List.all_append, w_t5, ← List.take_append_drop 24 (((((words1.drop 24).drop 24).drop 24).drop 24).drop 24), List.all_append, w_t6, ← List.take_append_drop 24 ((((((words1.drop 24).drop 24).drop 24).drop 24).drop 24).drop 24), List.all_append, w_t7, ← List.take_append_drop 24 (((((((words1.drop 24).drop 24).drop 24).drop 24).drop 24).drop 24).drop 24), List.all_append, w_t8, ← List.take_append_drop 24 ((((((((words1.drop 24).drop 24).drop 24).drop 24).drop 24).drop 24).drop 24).drop 24), List.all_append, w_t9, ← List.take_append_drop 24 (((((((((words1.drop 24).drop 24).drop 24).drop 24).drop 24).drop 24).drop 24).drop 24).drop 24), List.all_append, w_t10, ← List.take_append_drop 24 ((((((((((words1.drop 24).drop 24).drop 24).drop 24).drop 24).drop 24).drop 24).drop 24).drop 24).drop 24), List.all_append, w_t11, ← List.take_append_drop 24 (((((((((((words1.drop 24).drop 24).drop 24).drop 24).drop 24).drop 24).drop 24).drop 24).drop 24).drop 24).drop 24), List.all_append, w_t12, w_t13]
  rfl
set_option maxRecDepth 65536 in
theorem w_rest : rest_1_c.before args0 about1 = true := by decide +kernel
set_option maxRecDepth 65536 in
theorem w_case : (Jvm.Cond.and given_1 narrow_1).before args0 about1 = true := by decide +kernel
set_option maxRecDepth 65536 in
theorem w_consts : constsHeld consts_1 about1 := Jvm.Lit.constsHeldB_iff.mp (by decide +kernel)
theorem w_applies : (headSpec (Jvm.Cond.code x code maxLocals ret :: tables_1) room_1).applies x e0.platform about1 = true :=
  (Spec.applies_iff w_frames).mpr ⟨w_running, w_runnable, w_alone, w_named, w_hears, w_ripe, w_room, w_tables⟩
theorem atStart : AtStart classFile x code maxLocals ret World_1 tables_1 room_1 Calls_1 rest_1 Pre_1 launch0 p0 e0 about1 theMethod args0 below0 :=
  ⟨lists_1, trivial, launch0.admits_env _ _ _, launch0.least_env, fairChoices_fair.cas, fairChoices_fair.clock, w_frames, w_args, w_heap, w_applies, ⟨w_consts, trivial⟩, w_rest, w_case⟩
end start1
theorem witness_1 : WitnessClaimed_1 := ⟨start1.p0, start1.e0, start1.about1, start1.theMethod, start1.args0, start1.below0, start1.atStart⟩
end Jvm.Pilot.@@N@@
