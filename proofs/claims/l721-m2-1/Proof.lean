import JvmDerived
import JvmDerived.Pilot.@@N@@Statement
import JvmDerived.Pilot.@@N@@Code
set_option linter.unusedVariables false
set_option linter.unusedSimpArgs false
namespace Jvm.RoadKit
open Sem ClassFile Op Lib Jvm.Stand Jvm.Free Jvm.LawKit
section New
variable {p : Program} {l : Launch} {e : Env} {R : Room} {s : State} {m : MethodId} {args : Array Value} {below : List Frame} {meth : Method} {c : Code} {T : State} {locs : List Loc} {cells slots : Nat}
theorem retI (X : Stand p l e R s m args below meth c T locs cells slots) (hx : p.tables.exec = Jvm.exec) {pc : Nat} {Ls : Array Slot} {z : Int32} {rest : List Value} (hret : meth.sig.returnType = some .int) (hd : decode c.code pc = .ok (.ireturn, 1)) {fs : List Frame}
    (hl : ∀ (f : JFrame) (acts : List Action), f.method = m → f.locked = none → f.entered = [] → (doReturn e (T.setTop f) acts (some (.int z))).1 = T.setFrames fs) : Steps p.tables e below (T.setTop (mkF m pc Ls (.int z :: rest))) (T.setFrames fs) := by
  have hm' : T.vm.method? m = some meth := X.method'
  have hn : narrow .int (.int z) = .int z := rfl
  show Steps p.tables e below (T.setTop { method := m, pc := pc, locals := Ls, stack := _ :: rest, locked := none }) _
  jvm_step X.here [X.here.top, hx, hd, hm', hret, hn]
  first | (intro acts; rw [hl _ acts rfl rfl rfl]) | rw [hl _ _ rfl rfl rfl]
  exact Steps.refl _
theorem own_retJ (X : Stand p l e R s m args below meth c T locs cells slots) (hx : p.tables.exec = Jvm.exec) {pc : Nat} {Ls : Array Slot} {z : Int64} {rest : List Value} (hret : meth.sig.returnType = some .long) (hd : decode c.code pc = .ok (.lreturn, 1)) {fs : List Frame}
    (hl : ∀ (f : JFrame) (acts : List Action), f.method = m → f.locked = none → f.entered = [] → (doReturn e (T.setTop f) acts (some (.long z))).1 = T.setFrames fs) : Steps p.tables e below (T.setTop (mkF m pc Ls (.long z :: rest))) (T.setFrames fs) := by
  have hm' : T.vm.method? m = some meth := X.method'
  have hn : narrow .long (.long z) = .long z := rfl
  show Steps p.tables e below (T.setTop { method := m, pc := pc, locals := Ls, stack := _ :: rest, locked := none }) _
  jvm_step X.here [X.here.top, hx, hd, hm', hret, hn]
  first | (intro acts; rw [hl _ acts rfl rfl rfl]) | rw [hl _ _ rfl rfl rfl]
  exact Steps.refl _
theorem own_retD (X : Stand p l e R s m args below meth c T locs cells slots) (hx : p.tables.exec = Jvm.exec) {pc : Nat} {Ls : Array Slot} {z : UInt64} {rest : List Value} (hret : meth.sig.returnType = some .double) (hd : decode c.code pc = .ok (.dreturn, 1)) {fs : List Frame}
    (hl : ∀ (f : JFrame) (acts : List Action), f.method = m → f.locked = none → f.entered = [] → (doReturn e (T.setTop f) acts (some (.double z))).1 = T.setFrames fs) : Steps p.tables e below (T.setTop (mkF m pc Ls (.double z :: rest))) (T.setFrames fs) := by
  have hm' : T.vm.method? m = some meth := X.method'
  have hn : narrow .double (.double z) = .double z := rfl
  show Steps p.tables e below (T.setTop { method := m, pc := pc, locals := Ls, stack := _ :: rest, locked := none }) _
  jvm_step X.here [X.here.top, hx, hd, hm', hret, hn]
  first | (intro acts; rw [hl _ acts rfl rfl rfl]) | rw [hl _ _ rfl rfl rfl]
  exact Steps.refl _
theorem own_retR (X : Stand p l e R s m args below meth c T locs cells slots) (hx : p.tables.exec = Jvm.exec) {pc : Nat} {Ls : Array Slot} {w : Value} {t : FieldType} {rest : List Value} (hret : meth.sig.returnType = some t) (ht : t.isReference = true) (hw : w.isRef = true) (hd : decode c.code pc = .ok (.areturn, 1)) {fs : List Frame}
    (hl : ∀ (f : JFrame) (acts : List Action), f.method = m → f.locked = none → f.entered = [] → (doReturn e (T.setTop f) acts (some w)).1 = T.setFrames fs) : Steps p.tables e below (T.setTop (mkF m pc Ls (w :: rest))) (T.setFrames fs) := by
  have hm' : T.vm.method? m = some meth := X.method'
  rcases ref_cases hw with rfl | ⟨a, rfl⟩
  all_goals
    show Steps p.tables e below (T.setTop { method := m, pc := pc, locals := Ls, stack := _ :: rest, locked := none }) _
    jvm_step X.here [X.here.top, hx, hd, hm', hret, ht, Value.isRef]
    first | (intro acts; rw [hl _ acts rfl rfl rfl]) | rw [hl _ _ rfl rfl rfl]
    exact Steps.refl _
end New
end Jvm.RoadKit
namespace Jvm.Pilot.@@N@@
open Jvm Jvm.ClassFile Sem Op Lib Jvm.Free Jvm.Stand Jvm.LawKit Jvm.RoadKit Bundle Jvm.Pilot.@@N@@.Jvm.D
abbrev SS (p : Program) (e : Env) (below : List Frame) (T : State) (m : MethodId) (pc : Nat) (ls : Array Slot) (st : List Value) (t : State) : Prop := Steps p.tables e below (T.setTop (mkF m pc ls st)) t
theorem own_bool {P : Prop} [Decidable P] : nar .boolean (if P then (1 : Int32) else (0 : Int32)) = if P then (1 : Int32) else (0 : Int32) := by split <;> decide
abbrev HW (a0 : Array Value) (Z : State) : Prop := ∀ d ∈ tables_1, d.before a0 Z = true
section
variable {a0 : Array Value} {Z : State}
theorem mw (hw : HW a0 Z) {d : Jvm.Cond} (i : Nat) (h : tables_1[i]? = some d) : d.before a0 Z = true := hw d (List.mem_of_getElem? h)
theorem w0 (hw : HW a0 Z) : (Jvm.Cond.fieldLink "axiomend/ontology/OntologyReadExceptionExitStatusPinLaw" (7 : Nat) "axiomend/ontology/OntologyReadException$Problem" "NO_FILE" "Laxiomend/ontology/OntologyReadException$Problem;").before a0 Z = true := mw hw 0 rfl
theorem w1 (hw : HW a0 Z) : (Jvm.Cond.initialized "axiomend/ontology/OntologyReadException$Problem").before a0 Z = true := mw hw 1 rfl
theorem w2 (hw : HW a0 Z) : (Jvm.Cond.laysStatic "axiomend/ontology/OntologyReadException$Problem" "NO_FILE" "Laxiomend/ontology/OntologyReadException$Problem;").before a0 Z = true := mw hw 2 rfl
theorem w3 (hw : HW a0 Z) : (Jvm.Cond.arrayClass Jvm.ClassFile.FieldType.char).before a0 Z = true := mw hw 3 rfl
theorem w4 (hw : HW a0 Z) : (Jvm.Cond.classLink "axiomend/ontology/OntologyReadExceptionExitStatusPinLaw" (22 : Nat) "java/lang/String").before a0 Z = true := mw hw 4 rfl
theorem w5 (hw : HW a0 Z) : (Jvm.Cond.instantiable "java/lang/String" (4 : Nat)).before a0 Z = true := mw hw 5 rfl
theorem w6 (hw : HW a0 Z) : (Jvm.Cond.initialized "java/lang/String").before a0 Z = true := mw hw 6 rfl
theorem w7 (hw : HW a0 Z) : (Jvm.Cond.methodLink "axiomend/ontology/OntologyReadExceptionExitStatusPinLaw" (24 : Nat) ({ cls := "java/lang/String", name := "<init>", desc := "([C)V" } : Jvm.MethodName)).before a0 Z = true := mw hw 7 rfl
theorem w8 (hw : HW a0 Z) : (Jvm.Cond.instanceMethod ({ cls := "java/lang/String", name := "<init>", desc := "([C)V" } : Jvm.MethodName)).before a0 Z = true := mw hw 8 rfl
theorem w9 (hw : HW a0 Z) : (Jvm.Cond.code ({ cls := "java/lang/String", name := "<init>", desc := "([C)V" } : Jvm.MethodName) jdk_42_method_3_code (2 : Nat) (Option.none : Option Jvm.ClassFile.FieldType)).before a0 Z = true := mw hw 9 rfl
theorem w10 (hw : HW a0 Z) : (Jvm.Cond.methodLink "java/lang/String" (27 : Nat) ({ cls := "java/lang/String", name := "<init>", desc := "([CIILjava/lang/Void;)V" } : Jvm.MethodName)).before a0 Z = true := mw hw 10 rfl
theorem w11 (hw : HW a0 Z) : (Jvm.Cond.instanceMethod ({ cls := "java/lang/String", name := "<init>", desc := "([CIILjava/lang/Void;)V" } : Jvm.MethodName)).before a0 Z = true := mw hw 11 rfl
theorem w13 (hw : HW a0 Z) : (Jvm.Cond.code ({ cls := "java/lang/String", name := "<init>", desc := "([CIILjava/lang/Void;)V" } : Jvm.MethodName) jdk_42_method_149_code (6 : Nat) (Option.none : Option Jvm.ClassFile.FieldType)).before a0 Z = true := mw hw 13 rfl
theorem w14 (hw : HW a0 Z) : (Jvm.Cond.methodLink "java/lang/String" (1 : Nat) ({ cls := "java/lang/Object", name := "<init>", desc := "()V" } : Jvm.MethodName)).before a0 Z = true := mw hw 14 rfl
theorem w15 (hw : HW a0 Z) : (Jvm.Cond.instanceMethod ({ cls := "java/lang/Object", name := "<init>", desc := "()V" } : Jvm.MethodName)).before a0 Z = true := mw hw 15 rfl
theorem w16 (hw : HW a0 Z) : (Jvm.Cond.code ({ cls := "java/lang/Object", name := "<init>", desc := "()V" } : Jvm.MethodName) object_method_1_code (1 : Nat) (Option.none : Option Jvm.ClassFile.FieldType)).before a0 Z = true := mw hw 16 rfl
theorem w17 (hw : HW a0 Z) : (Jvm.Cond.fieldLink "java/lang/String" (38 : Nat) "java/lang/String" "COMPACT_STRINGS" "Z").before a0 Z = true := mw hw 17 rfl
theorem w18 (hw : HW a0 Z) : (Jvm.Cond.methodLink "java/lang/String" (177 : Nat) ({ cls := "java/lang/StringUTF16", name := "compress", desc := "([CII)[B" } : Jvm.MethodName)).before a0 Z = true := mw hw 18 rfl
theorem w19 (hw : HW a0 Z) : (Jvm.Cond.static ({ cls := "java/lang/StringUTF16", name := "compress", desc := "([CII)[B" } : Jvm.MethodName)).before a0 Z = true := mw hw 19 rfl
theorem w20 (hw : HW a0 Z) : (Jvm.Cond.initialized "java/lang/StringUTF16").before a0 Z = true := mw hw 20 rfl
theorem w21 (hw : HW a0 Z) : (Jvm.Cond.code ({ cls := "java/lang/StringUTF16", name := "compress", desc := "([CII)[B" } : Jvm.MethodName) jdk_52_method_16_code (6 : Nat) (Option.some (Jvm.ClassFile.FieldType.array Jvm.ClassFile.FieldType.byte))).before a0 Z = true := mw hw 21 rfl
theorem w22 (hw : HW a0 Z) : (Jvm.Cond.arrayClass Jvm.ClassFile.FieldType.byte).before a0 Z = true := mw hw 22 rfl
theorem w23 (hw : HW a0 Z) : (Jvm.Cond.methodLink "java/lang/StringUTF16" (115 : Nat) ({ cls := "java/lang/StringUTF16", name := "compress", desc := "([CI[BII)I" } : Jvm.MethodName)).before a0 Z = true := mw hw 23 rfl
theorem w24 (hw : HW a0 Z) : (Jvm.Cond.static ({ cls := "java/lang/StringUTF16", name := "compress", desc := "([CI[BII)I" } : Jvm.MethodName)).before a0 Z = true := mw hw 24 rfl
theorem w25 (hw : HW a0 Z) : (Jvm.Cond.code ({ cls := "java/lang/StringUTF16", name := "compress", desc := "([CI[BII)I" } : Jvm.MethodName) jdk_52_method_21_code (7 : Nat) (Option.some Jvm.ClassFile.FieldType.int)).before a0 Z = true := mw hw 25 rfl
theorem w26 (hw : HW a0 Z) : (Jvm.Cond.methodLink "java/lang/String" (47 : Nat) ({ cls := "java/lang/StringUTF16", name := "coderFromArrayLen", desc := "([BI)B" } : Jvm.MethodName)).before a0 Z = true := mw hw 26 rfl
theorem w27 (hw : HW a0 Z) : (Jvm.Cond.static ({ cls := "java/lang/StringUTF16", name := "coderFromArrayLen", desc := "([BI)B" } : Jvm.MethodName)).before a0 Z = true := mw hw 27 rfl
theorem w28 (hw : HW a0 Z) : (Jvm.Cond.code ({ cls := "java/lang/StringUTF16", name := "coderFromArrayLen", desc := "([BI)B" } : Jvm.MethodName) jdk_52_method_15_code (2 : Nat) (Option.some Jvm.ClassFile.FieldType.byte)).before a0 Z = true := mw hw 28 rfl
theorem w29 (hw : HW a0 Z) : (Jvm.Cond.fieldLink "java/lang/String" (15 : Nat) "java/lang/String" "coder" "B").before a0 Z = true := mw hw 29 rfl
theorem w30 (hw : HW a0 Z) : (Jvm.Cond.laysFinal "java/lang/String" "java/lang/String" "coder" "B").before a0 Z = true := mw hw 30 rfl
theorem w31 (hw : HW a0 Z) : (Jvm.Cond.fieldLink "java/lang/String" (9 : Nat) "java/lang/String" "value" "[B").before a0 Z = true := mw hw 31 rfl
theorem w32 (hw : HW a0 Z) : (Jvm.Cond.laysFinal "java/lang/String" "java/lang/String" "value" "[B").before a0 Z = true := mw hw 32 rfl
theorem w33 (hw : HW a0 Z) : (Jvm.Cond.classLink "axiomend/ontology/OntologyReadExceptionExitStatusPinLaw" (27 : Nat) "axiomend/ontology/OntologyReadException").before a0 Z = true := mw hw 33 rfl
theorem w34 (hw : HW a0 Z) : (Jvm.Cond.instantiable "axiomend/ontology/OntologyReadException" (8 : Nat)).before a0 Z = true := mw hw 34 rfl
theorem w35 (hw : HW a0 Z) : (Jvm.Cond.initialized "axiomend/ontology/OntologyReadException").before a0 Z = true := mw hw 35 rfl
theorem w36 (hw : HW a0 Z) : (Jvm.Cond.methodLink "axiomend/ontology/OntologyReadExceptionExitStatusPinLaw" (29 : Nat) ({ cls := "axiomend/ontology/OntologyReadException", name := "<init>", desc := "(Ljava/lang/String;Laxiomend/ontology/OntologyReadException$Problem;Ljava/lang/String;)V" } : Jvm.MethodName)).before a0 Z = true := mw hw 36 rfl
theorem w37 (hw : HW a0 Z) : (Jvm.Cond.instanceMethod ({ cls := "axiomend/ontology/OntologyReadException", name := "<init>", desc := "(Ljava/lang/String;Laxiomend/ontology/OntologyReadException$Problem;Ljava/lang/String;)V" } : Jvm.MethodName)).before a0 Z = true := mw hw 37 rfl
theorem w38 (hw : HW a0 Z) : (Jvm.Cond.code ({ cls := "axiomend/ontology/OntologyReadException", name := "<init>", desc := "(Ljava/lang/String;Laxiomend/ontology/OntologyReadException$Problem;Ljava/lang/String;)V" } : Jvm.MethodName) prog_67_method_1_code (4 : Nat) (Option.none : Option Jvm.ClassFile.FieldType)).before a0 Z = true := mw hw 38 rfl
theorem w39 (hw : HW a0 Z) : (Jvm.Cond.methodLink "axiomend/ontology/OntologyReadException" (1 : Nat) ({ cls := "java/lang/Exception", name := "<init>", desc := "(Ljava/lang/String;)V" } : Jvm.MethodName)).before a0 Z = true := mw hw 39 rfl
theorem w40 (hw : HW a0 Z) : (Jvm.Cond.instanceMethod ({ cls := "java/lang/Exception", name := "<init>", desc := "(Ljava/lang/String;)V" } : Jvm.MethodName)).before a0 Z = true := mw hw 40 rfl
theorem w42 (hw : HW a0 Z) : (Jvm.Cond.initialized "java/lang/Exception").before a0 Z = true := mw hw 42 rfl
theorem w43 (hw : HW a0 Z) : (Jvm.Cond.code ({ cls := "java/lang/Exception", name := "<init>", desc := "(Ljava/lang/String;)V" } : Jvm.MethodName) jdk_59_method_2_code (2 : Nat) (Option.none : Option Jvm.ClassFile.FieldType)).before a0 Z = true := mw hw 43 rfl
theorem w44 (hw : HW a0 Z) : (Jvm.Cond.methodLink "java/lang/Exception" (7 : Nat) ({ cls := "java/lang/Throwable", name := "<init>", desc := "(Ljava/lang/String;)V" } : Jvm.MethodName)).before a0 Z = true := mw hw 44 rfl
theorem w45 (hw : HW a0 Z) : (Jvm.Cond.instanceMethod ({ cls := "java/lang/Throwable", name := "<init>", desc := "(Ljava/lang/String;)V" } : Jvm.MethodName)).before a0 Z = true := mw hw 45 rfl
theorem w48 (hw : HW a0 Z) : (Jvm.Cond.initialized "java/lang/Throwable").before a0 Z = true := mw hw 48 rfl
theorem w49 (hw : HW a0 Z) : (Jvm.Cond.code ({ cls := "java/lang/Throwable", name := "<init>", desc := "(Ljava/lang/String;)V" } : Jvm.MethodName) jdk_78_method_2_code (2 : Nat) (Option.none : Option Jvm.ClassFile.FieldType)).before a0 Z = true := mw hw 49 rfl
theorem w50 (hw : HW a0 Z) : (Jvm.Cond.methodLink "java/lang/Throwable" (1 : Nat) ({ cls := "java/lang/Object", name := "<init>", desc := "()V" } : Jvm.MethodName)).before a0 Z = true := mw hw 50 rfl
theorem w51 (hw : HW a0 Z) : (Jvm.Cond.fieldLink "java/lang/Throwable" (7 : Nat) "java/lang/Throwable" "cause" "Ljava/lang/Throwable;").before a0 Z = true := mw hw 51 rfl
theorem w52 (hw : HW a0 Z) : (Jvm.Cond.lays "axiomend/ontology/OntologyReadException" "java/lang/Throwable" "cause" "Ljava/lang/Throwable;").before a0 Z = true := mw hw 52 rfl
theorem w53 (hw : HW a0 Z) : (Jvm.Cond.fieldLink "java/lang/Throwable" (13 : Nat) "java/lang/Throwable" "UNASSIGNED_STACK" "[Ljava/lang/StackTraceElement;").before a0 Z = true := mw hw 53 rfl
theorem w54 (hw : HW a0 Z) : (Jvm.Cond.fieldLink "java/lang/Throwable" (17 : Nat) "java/lang/Throwable" "stackTrace" "[Ljava/lang/StackTraceElement;").before a0 Z = true := mw hw 54 rfl
theorem w55 (hw : HW a0 Z) : (Jvm.Cond.lays "axiomend/ontology/OntologyReadException" "java/lang/Throwable" "stackTrace" "[Ljava/lang/StackTraceElement;").before a0 Z = true := mw hw 55 rfl
theorem w56 (hw : HW a0 Z) : (Jvm.Cond.fieldLink "java/lang/Throwable" (20 : Nat) "java/lang/Throwable" "SUPPRESSED_SENTINEL" "Ljava/util/List;").before a0 Z = true := mw hw 56 rfl
theorem w57 (hw : HW a0 Z) : (Jvm.Cond.fieldLink "java/lang/Throwable" (24 : Nat) "java/lang/Throwable" "suppressedExceptions" "Ljava/util/List;").before a0 Z = true := mw hw 57 rfl
theorem w58 (hw : HW a0 Z) : (Jvm.Cond.lays "axiomend/ontology/OntologyReadException" "java/lang/Throwable" "suppressedExceptions" "Ljava/util/List;").before a0 Z = true := mw hw 58 rfl
theorem w59 (hw : HW a0 Z) : (Jvm.Cond.methodLink "java/lang/Throwable" (27 : Nat) ({ cls := "java/lang/Throwable", name := "fillInStackTrace", desc := "()Ljava/lang/Throwable;" } : Jvm.MethodName)).before a0 Z = true := mw hw 59 rfl
theorem w60 (hw : HW a0 Z) : (Jvm.Cond.declares ({ cls := "java/lang/Throwable", name := "fillInStackTrace", desc := "()Ljava/lang/Throwable;" } : Jvm.MethodName)).before a0 Z = true := mw hw 60 rfl
theorem w61 (hw : HW a0 Z) : (Jvm.Cond.instanceMethod ({ cls := "java/lang/Throwable", name := "fillInStackTrace", desc := "()Ljava/lang/Throwable;" } : Jvm.MethodName)).before a0 Z = true := mw hw 61 rfl
theorem w62 (hw : HW a0 Z) : (Jvm.Cond.selects "axiomend/ontology/OntologyReadException" ({ cls := "java/lang/Throwable", name := "fillInStackTrace", desc := "()Ljava/lang/Throwable;" } : Jvm.MethodName) ({ cls := "java/lang/Throwable", name := "fillInStackTrace", desc := "()Ljava/lang/Throwable;" } : Jvm.MethodName)).before a0 Z = true := mw hw 62 rfl
theorem w63 (hw : HW a0 Z) : (Jvm.Cond.arrayOver (Jvm.ClassFile.FieldType.object "java/lang/Object")).before a0 Z = true := mw hw 63 rfl
theorem w64 (hw : HW a0 Z) : (Jvm.Cond.soleField "java/lang/Throwable" "backtrace").before a0 Z = true := mw hw 64 rfl
theorem w65 (hw : HW a0 Z) : (Jvm.Cond.soleField "java/lang/Throwable" "depth").before a0 Z = true := mw hw 65 rfl
theorem w66 (hw : HW a0 Z) : (Jvm.Cond.superclass "java/lang/Throwable" "java/lang/Object").before a0 Z = true := mw hw 66 rfl
theorem w67 (hw : HW a0 Z) : (Jvm.Cond.codeSync ({ cls := "java/lang/Throwable", name := "fillInStackTrace", desc := "()Ljava/lang/Throwable;" } : Jvm.MethodName) jdk_78_method_18_code (1 : Nat) (Option.some (Jvm.ClassFile.FieldType.object "java/lang/Throwable"))).before a0 Z = true := mw hw 67 rfl
theorem w68 (hw : HW a0 Z) : (Jvm.Cond.instanceMethod ({ cls := "java/lang/Throwable", name := "fillInStackTrace", desc := "(I)Ljava/lang/Throwable;" } : Jvm.MethodName)).before a0 Z = true := mw hw 68 rfl
theorem w69 (hw : HW a0 Z) : (Jvm.Cond.native ({ cls := "java/lang/Throwable", name := "fillInStackTrace", desc := "(I)Ljava/lang/Throwable;" } : Jvm.MethodName)).before a0 Z = true := mw hw 69 rfl
theorem w72 (hw : HW a0 Z) : (Jvm.Cond.methodLink "java/lang/Throwable" (202 : Nat) ({ cls := "java/lang/Throwable", name := "fillInStackTrace", desc := "(I)Ljava/lang/Throwable;" } : Jvm.MethodName)).before a0 Z = true := mw hw 72 rfl
theorem w77 (hw : HW a0 Z) : (Jvm.Cond.fieldLink "java/lang/Throwable" (198 : Nat) "java/lang/Throwable" "backtrace" "Ljava/lang/Object;").before a0 Z = true := mw hw 77 rfl
theorem w79 (hw : HW a0 Z) : (Jvm.Cond.laysStatic "java/lang/Throwable" "UNASSIGNED_STACK" "[Ljava/lang/StackTraceElement;").before a0 Z = true := mw hw 79 rfl
theorem w80 (hw : HW a0 Z) : (Jvm.Cond.laysStatic "java/lang/Throwable" "SUPPRESSED_SENTINEL" "Ljava/util/List;").before a0 Z = true := mw hw 80 rfl
theorem w81 (hw : HW a0 Z) : (Jvm.Cond.selects "axiomend/ontology/OntologyReadException" ({ cls := "java/lang/Throwable", name := "fillInStackTrace", desc := "(I)Ljava/lang/Throwable;" } : Jvm.MethodName) ({ cls := "java/lang/Throwable", name := "fillInStackTrace", desc := "(I)Ljava/lang/Throwable;" } : Jvm.MethodName)).before a0 Z = true := mw hw 81 rfl
theorem w82 (hw : HW a0 Z) : (Jvm.Cond.lays "axiomend/ontology/OntologyReadException" "java/lang/Throwable" "detailMessage" "Ljava/lang/String;").before a0 Z = true := mw hw 82 rfl
theorem w83 (hw : HW a0 Z) : (Jvm.Cond.lays "axiomend/ontology/OntologyReadException" "java/lang/Throwable" "backtrace" "Ljava/lang/Object;").before a0 Z = true := mw hw 83 rfl
theorem w84 (hw : HW a0 Z) : (Jvm.Cond.lays "axiomend/ontology/OntologyReadException" "java/lang/Throwable" "depth" "I").before a0 Z = true := mw hw 84 rfl
theorem w86 (hw : HW a0 Z) : (Jvm.Cond.fieldLink "java/lang/Throwable" (31 : Nat) "java/lang/Throwable" "detailMessage" "Ljava/lang/String;").before a0 Z = true := mw hw 86 rfl
theorem w87 (hw : HW a0 Z) : (Jvm.Cond.fieldLink "axiomend/ontology/OntologyReadException" (7 : Nat) "axiomend/ontology/OntologyReadException" "file" "Ljava/lang/String;").before a0 Z = true := mw hw 87 rfl
theorem w88 (hw : HW a0 Z) : (Jvm.Cond.laysFinal "axiomend/ontology/OntologyReadException" "axiomend/ontology/OntologyReadException" "file" "Ljava/lang/String;").before a0 Z = true := mw hw 88 rfl
theorem w89 (hw : HW a0 Z) : (Jvm.Cond.fieldLink "axiomend/ontology/OntologyReadException" (13 : Nat) "axiomend/ontology/OntologyReadException" "problem" "Laxiomend/ontology/OntologyReadException$Problem;").before a0 Z = true := mw hw 89 rfl
theorem w90 (hw : HW a0 Z) : (Jvm.Cond.laysFinal "axiomend/ontology/OntologyReadException" "axiomend/ontology/OntologyReadException" "problem" "Laxiomend/ontology/OntologyReadException$Problem;").before a0 Z = true := mw hw 90 rfl
theorem w91 (hw : HW a0 Z) : (Jvm.Cond.methodLink "axiomend/ontology/OntologyReadExceptionExitStatusPinLaw" (32 : Nat) ({ cls := "axiomend/ontology/OntologyReadException", name := "exitStatus", desc := "()I" } : Jvm.MethodName)).before a0 Z = true := mw hw 91 rfl
theorem w92 (hw : HW a0 Z) : (Jvm.Cond.declares ({ cls := "axiomend/ontology/OntologyReadException", name := "exitStatus", desc := "()I" } : Jvm.MethodName)).before a0 Z = true := mw hw 92 rfl
theorem w93 (hw : HW a0 Z) : (Jvm.Cond.instanceMethod ({ cls := "axiomend/ontology/OntologyReadException", name := "exitStatus", desc := "()I" } : Jvm.MethodName)).before a0 Z = true := mw hw 93 rfl
theorem w94 (hw : HW a0 Z) : (Jvm.Cond.selects "axiomend/ontology/OntologyReadException" ({ cls := "axiomend/ontology/OntologyReadException", name := "exitStatus", desc := "()I" } : Jvm.MethodName) ({ cls := "axiomend/ontology/OntologyReadException", name := "exitStatus", desc := "()I" } : Jvm.MethodName)).before a0 Z = true := mw hw 94 rfl
theorem w95 (hw : HW a0 Z) : (Jvm.Cond.code ({ cls := "axiomend/ontology/OntologyReadException", name := "exitStatus", desc := "()I" } : Jvm.MethodName) prog_67_method_4_code (1 : Nat) (Option.some Jvm.ClassFile.FieldType.int)).before a0 Z = true := mw hw 95 rfl
theorem w96 (hw : HW a0 Z) : (Jvm.Cond.fieldLink "axiomend/ontology/OntologyReadException" (17 : Nat) "axiomend/ontology/OntologyReadException$Problem" "NO_FILE" "Laxiomend/ontology/OntologyReadException$Problem;").before a0 Z = true := mw hw 96 rfl
theorem w97 (hw : HW a0 Z) : (Jvm.Cond.fieldLink "axiomend/ontology/OntologyReadExceptionExitStatusPinLaw" (13 : Nat) "axiomend/ontology/OntologyReadException$Problem" "NOT_AN_ONTOLOGY" "Laxiomend/ontology/OntologyReadException$Problem;").before a0 Z = true := mw hw 97 rfl
theorem w98 (hw : HW a0 Z) : (Jvm.Cond.laysStatic "axiomend/ontology/OntologyReadException$Problem" "NOT_AN_ONTOLOGY" "Laxiomend/ontology/OntologyReadException$Problem;").before a0 Z = true := mw hw 98 rfl
theorem w99 (hw : HW a0 Z) : (Jvm.Cond.fieldLink "axiomend/ontology/OntologyReadExceptionExitStatusPinLaw" (19 : Nat) "axiomend/ontology/OntologyReadException$Problem" "NOT_A_CATALOG" "Laxiomend/ontology/OntologyReadException$Problem;").before a0 Z = true := mw hw 99 rfl
theorem w100 (hw : HW a0 Z) : (Jvm.Cond.laysStatic "axiomend/ontology/OntologyReadException$Problem" "NOT_A_CATALOG" "Laxiomend/ontology/OntologyReadException$Problem;").before a0 Z = true := mw hw 100 rfl
theorem w101 (hw : HW a0 Z) : (Jvm.Cond.fieldLink "axiomend/ontology/OntologyReadExceptionExitStatusPinLaw" (16 : Nat) "axiomend/ontology/OntologyReadException$Problem" "MISSING_IMPORT" "Laxiomend/ontology/OntologyReadException$Problem;").before a0 Z = true := mw hw 101 rfl
theorem w102 (hw : HW a0 Z) : (Jvm.Cond.laysStatic "axiomend/ontology/OntologyReadException$Problem" "MISSING_IMPORT" "Laxiomend/ontology/OntologyReadException$Problem;").before a0 Z = true := mw hw 102 rfl
end
theorem d_jdk_52_method_21_3 : decode jdk_52_method_21_code 3 = .ok (.iload 5, 2) := by decide +kernel
theorem d_jdk_52_method_21_5 : decode jdk_52_method_21_code 5 = .ok (.iload 4, 2) := by decide +kernel
theorem d_jdk_52_method_21_7 : decode jdk_52_method_21_code 7 = .ok (.if_icmp .ge 37, 3) := by decide +kernel
theorem d_jdk_52_method_21_44 : decode jdk_52_method_21_code 44 = .ok (.iload 4, 2) := by decide +kernel
theorem d_jdk_52_method_21_46 : decode jdk_52_method_21_code 46 = .ok (.ireturn, 1) := by decide +kernel
theorem d_jdk_52_method_21_10 : decode jdk_52_method_21_code 10 = .ok (.aload_n 0, 1) := by decide +kernel
theorem d_jdk_52_method_21_11 : decode jdk_52_method_21_code 11 = .ok (.iload_n 1, 1) := by decide +kernel
theorem d_jdk_52_method_21_12 : decode jdk_52_method_21_code 12 = .ok (.caload, 1) := by decide +kernel
theorem d_jdk_52_method_21_13 : decode jdk_52_method_21_code 13 = .ok (.istore 6, 2) := by decide +kernel
theorem d_jdk_52_method_21_15 : decode jdk_52_method_21_code 15 = .ok (.iload 6, 2) := by decide +kernel
theorem d_jdk_52_method_21_17 : decode jdk_52_method_21_code 17 = .ok (.sipush 255, 3) := by decide +kernel
theorem d_jdk_52_method_21_20 : decode jdk_52_method_21_code 20 = .ok (.if_icmp .le 6, 3) := by decide +kernel
theorem d_jdk_52_method_21_23 : decode jdk_52_method_21_code 23 = .ok (.iload 5, 2) := by decide +kernel
theorem d_jdk_52_method_21_25 : decode jdk_52_method_21_code 25 = .ok (.ireturn, 1) := by decide +kernel
theorem d_jdk_52_method_21_26 : decode jdk_52_method_21_code 26 = .ok (.aload_n 2, 1) := by decide +kernel
theorem d_jdk_52_method_21_27 : decode jdk_52_method_21_code 27 = .ok (.iload_n 3, 1) := by decide +kernel
theorem d_jdk_52_method_21_28 : decode jdk_52_method_21_code 28 = .ok (.iload 6, 2) := by decide +kernel
theorem d_jdk_52_method_21_30 : decode jdk_52_method_21_code 30 = .ok (.i2b, 1) := by decide +kernel
theorem d_jdk_52_method_21_31 : decode jdk_52_method_21_code 31 = .ok (.bastore, 1) := by decide +kernel
theorem d_jdk_52_method_21_32 : decode jdk_52_method_21_code 32 = .ok (.iinc 1 1, 3) := by decide +kernel
theorem d_jdk_52_method_21_35 : decode jdk_52_method_21_code 35 = .ok (.iinc 3 1, 3) := by decide +kernel
theorem d_jdk_52_method_21_38 : decode jdk_52_method_21_code 38 = .ok (.iinc 5 1, 3) := by decide +kernel
theorem d_jdk_52_method_21_41 : decode jdk_52_method_21_code 41 = .ok (.goto (-38), 3) := by decide +kernel
theorem ef_compress21 (m : MethodId) (x0 : Addr) (x1 : Int32) (x2 : Addr) (x3 : Int32) (x4 : Int32) : entryFrame m #[(.ref x0), (.int x3), (.ref x2), (.int x3), (.int x4)] 7 = mkF m 0 #[.val (.ref x0), .val (.int x3), .val (.ref x2), .val (.int x3), .val (.int x4), .unset, .unset] [] := by first | (simp [entryFrame, mkF, argsToLocals, Value.category]; done) | rfl
theorem pn_java_lang_StringUTF16 : plainName "java/lang/StringUTF16" = true := by first | (simp [plainName, overriddenIn]; done) | decide +kernel
theorem d_jdk_52_method_21_0 : decode jdk_52_method_21_code 0 = .ok (.iconst 0, 1) := by decide +kernel
theorem d_jdk_52_method_21_1 : decode jdk_52_method_21_code 1 = .ok (.istore 5, 2) := by decide +kernel
theorem ef_coderOf (m : MethodId) (x0 : Addr) (x1 : Int32) : entryFrame m #[(.ref x0), (.int x1)] 2 = mkF m 0 #[.val (.ref x0), .val (.int x1)] [] := by first | (simp [entryFrame, mkF, argsToLocals, Value.category]; done) | rfl
theorem d_jdk_52_method_15_0 : decode jdk_52_method_15_code 0 = .ok (.iload_n 1, 1) := by decide +kernel
theorem d_jdk_52_method_15_1 : decode jdk_52_method_15_code 1 = .ok (.aload_n 0, 1) := by decide +kernel
theorem d_jdk_52_method_15_2 : decode jdk_52_method_15_code 2 = .ok (.arraylength, 1) := by decide +kernel
theorem d_jdk_52_method_15_3 : decode jdk_52_method_15_code 3 = .ok (.isub, 1) := by decide +kernel
theorem d_jdk_52_method_15_4 : decode jdk_52_method_15_code 4 = .ok (.bipush 31, 2) := by decide +kernel
theorem d_jdk_52_method_15_6 : decode jdk_52_method_15_code 6 = .ok (.iushr, 1) := by decide +kernel
theorem d_jdk_52_method_15_7 : decode jdk_52_method_15_code 7 = .ok (.i2b, 1) := by decide +kernel
theorem d_jdk_52_method_15_8 : decode jdk_52_method_15_code 8 = .ok (.ireturn, 1) := by decide +kernel
theorem ef_compress16 (m : MethodId) (x0 : Addr) (x1 : Int32) (x2 : Int32) : entryFrame m #[(.ref x0), (.int x1), (.int x2)] 6 = mkF m 0 #[.val (.ref x0), .val (.int x1), .val (.int x2), .unset, .unset, .unset] [] := by first | (simp [entryFrame, mkF, argsToLocals, Value.category]; done) | rfl
theorem d_jdk_52_method_16_0 : decode jdk_52_method_16_code 0 = .ok (.iload_n 2, 1) := by decide +kernel
theorem d_jdk_52_method_16_1 : decode jdk_52_method_16_code 1 = .ok (.newarray .byte, 2) := by decide +kernel
theorem d_jdk_52_method_16_3 : decode jdk_52_method_16_code 3 = .ok (.astore_n 3, 1) := by decide +kernel
theorem d_jdk_52_method_16_4 : decode jdk_52_method_16_code 4 = .ok (.aload_n 0, 1) := by decide +kernel
theorem d_jdk_52_method_16_5 : decode jdk_52_method_16_code 5 = .ok (.iload_n 1, 1) := by decide +kernel
theorem d_jdk_52_method_16_6 : decode jdk_52_method_16_code 6 = .ok (.aload_n 3, 1) := by decide +kernel
theorem d_jdk_52_method_16_7 : decode jdk_52_method_16_code 7 = .ok (.iconst 0, 1) := by decide +kernel
theorem d_jdk_52_method_16_8 : decode jdk_52_method_16_code 8 = .ok (.iload_n 2, 1) := by decide +kernel
theorem d_jdk_52_method_16_9 : decode jdk_52_method_16_code 9 = .ok (.invokestatic 115, 3) := by decide +kernel
theorem pd__28__5b_CI_5b_BII_29_I : parseMethodDescriptor "([CI[BII)I" = some ⟨[(.array .char), .int, (.array .byte), .int, .int], some .int⟩ := by decide +kernel
theorem d_jdk_52_method_16_12 : decode jdk_52_method_16_code 12 = .ok (.istore 4, 2) := by decide +kernel
theorem d_jdk_52_method_16_14 : decode jdk_52_method_16_code 14 = .ok (.iload 4, 2) := by decide +kernel
theorem d_jdk_52_method_16_16 : decode jdk_52_method_16_code 16 = .ok (.iload_n 2, 1) := by decide +kernel
theorem d_jdk_52_method_16_17 : decode jdk_52_method_16_code 17 = .ok (.if_icmp .eq 40, 3) := by decide +kernel
theorem d_jdk_52_method_16_57 : decode jdk_52_method_16_code 57 = .ok (.aload_n 3, 1) := by decide +kernel
theorem d_jdk_52_method_16_58 : decode jdk_52_method_16_code 58 = .ok (.areturn, 1) := by decide +kernel
theorem ef_sinitV (m : MethodId) (x0 : Addr) (x1 : Addr) (x2 : Int32) (x3 : Int32) : entryFrame m #[(.ref x0), (.ref x1), (.int x2), (.int x3), .null] 6 = mkF m 0 #[.val (.ref x0), .val (.ref x1), .val (.int x2), .val (.int x3), .val .null, .unset] [] := by first | (simp [entryFrame, mkF, argsToLocals, Value.category]; done) | rfl
theorem pn_java_lang_String : plainName "java/lang/String" = true := by first | (simp [plainName, overriddenIn]; done) | decide +kernel
theorem d_jdk_42_method_149_0 : decode jdk_42_method_149_code 0 = .ok (.aload_n 0, 1) := by decide +kernel
theorem d_jdk_42_method_149_1 : decode jdk_42_method_149_code 1 = .ok (.invokespecial 1, 3) := by decide +kernel
theorem d_jdk_42_method_149_4 : decode jdk_42_method_149_code 4 = .ok (.iload_n 3, 1) := by decide +kernel
theorem d_jdk_42_method_149_5 : decode jdk_42_method_149_code 5 = .ok (.ifCond .ne 22, 3) := by decide +kernel
theorem d_jdk_42_method_149_27 : decode jdk_42_method_149_code 27 = .ok (.getstatic 38, 3) := by decide +kernel
theorem d_jdk_42_method_149_30 : decode jdk_42_method_149_code 30 = .ok (.ifCond .eq 28, 3) := by decide +kernel
theorem d_jdk_42_method_149_33 : decode jdk_42_method_149_code 33 = .ok (.aload_n 1, 1) := by decide +kernel
theorem d_jdk_42_method_149_34 : decode jdk_42_method_149_code 34 = .ok (.iload_n 2, 1) := by decide +kernel
theorem d_jdk_42_method_149_35 : decode jdk_42_method_149_code 35 = .ok (.iload_n 3, 1) := by decide +kernel
theorem d_jdk_42_method_149_36 : decode jdk_42_method_149_code 36 = .ok (.invokestatic 177, 3) := by decide +kernel
theorem pd__28__5b_CII_29__5b_B : parseMethodDescriptor "([CII)[B" = some ⟨[(.array .char), .int, .int], some (.array .byte)⟩ := by decide +kernel
theorem d_jdk_42_method_149_39 : decode jdk_42_method_149_code 39 = .ok (.astore 5, 2) := by decide +kernel
theorem d_jdk_42_method_149_41 : decode jdk_42_method_149_code 41 = .ok (.aload_n 0, 1) := by decide +kernel
theorem d_jdk_42_method_149_42 : decode jdk_42_method_149_code 42 = .ok (.aload 5, 2) := by decide +kernel
theorem d_jdk_42_method_149_44 : decode jdk_42_method_149_code 44 = .ok (.iload_n 3, 1) := by decide +kernel
theorem d_jdk_42_method_149_45 : decode jdk_42_method_149_code 45 = .ok (.invokestatic 47, 3) := by decide +kernel
theorem pd__28__5b_BI_29_B : parseMethodDescriptor "([BI)B" = some ⟨[(.array .byte), .int], some .byte⟩ := by decide +kernel
theorem d_jdk_42_method_149_48 : decode jdk_42_method_149_code 48 = .ok (.putfield 15, 3) := by decide +kernel
theorem d_jdk_42_method_149_51 : decode jdk_42_method_149_code 51 = .ok (.aload_n 0, 1) := by decide +kernel
theorem d_jdk_42_method_149_52 : decode jdk_42_method_149_code 52 = .ok (.aload 5, 2) := by decide +kernel
theorem d_jdk_42_method_149_54 : decode jdk_42_method_149_code 54 = .ok (.putfield 9, 3) := by decide +kernel
theorem d_jdk_42_method_149_57 : decode jdk_42_method_149_code 57 = .ok (.return_, 1) := by decide +kernel
theorem ef_sinit (m : MethodId) (x0 : Addr) (x1 : Addr) : entryFrame m #[(.ref x0), (.ref x1)] 2 = mkF m 0 #[.val (.ref x0), .val (.ref x1)] [] := by first | (simp [entryFrame, mkF, argsToLocals, Value.category]; done) | rfl
theorem d_jdk_42_method_3_0 : decode jdk_42_method_3_code 0 = .ok (.aload_n 0, 1) := by decide +kernel
theorem d_jdk_42_method_3_1 : decode jdk_42_method_3_code 1 = .ok (.aload_n 1, 1) := by decide +kernel
theorem d_jdk_42_method_3_2 : decode jdk_42_method_3_code 2 = .ok (.iconst 0, 1) := by decide +kernel
theorem d_jdk_42_method_3_3 : decode jdk_42_method_3_code 3 = .ok (.aload_n 1, 1) := by decide +kernel
theorem d_jdk_42_method_3_4 : decode jdk_42_method_3_code 4 = .ok (.arraylength, 1) := by decide +kernel
theorem d_jdk_42_method_3_5 : decode jdk_42_method_3_code 5 = .ok (.aconst_null, 1) := by decide +kernel
theorem d_jdk_42_method_3_6 : decode jdk_42_method_3_code 6 = .ok (.invokespecial 27, 3) := by decide +kernel
theorem pd__28__5b_CIILjava_2f_lang_2f_Void_3b__29_V : parseMethodDescriptor "([CIILjava/lang/Void;)V" = some ⟨[(.array .char), .int, .int, (.object "java/lang/Void")], none⟩ := by decide +kernel
theorem d_jdk_42_method_3_9 : decode jdk_42_method_3_code 9 = .ok (.return_, 1) := by decide +kernel
theorem ef_tinit (m : MethodId) (x0 : Addr) (x1 : Addr) : entryFrame m #[(.ref x0), (.ref x1)] 2 = mkF m 0 #[.val (.ref x0), .val (.ref x1)] [] := by first | (simp [entryFrame, mkF, argsToLocals, Value.category]; done) | rfl
theorem pn_java_lang_Throwable : plainName "java/lang/Throwable" = true := by first | (simp [plainName, overriddenIn]; done) | decide +kernel
theorem d_jdk_78_method_2_0 : decode jdk_78_method_2_code 0 = .ok (.aload_n 0, 1) := by decide +kernel
theorem d_jdk_78_method_2_1 : decode jdk_78_method_2_code 1 = .ok (.invokespecial 1, 3) := by decide +kernel
theorem d_jdk_78_method_2_4 : decode jdk_78_method_2_code 4 = .ok (.aload_n 0, 1) := by decide +kernel
theorem d_jdk_78_method_2_5 : decode jdk_78_method_2_code 5 = .ok (.aload_n 0, 1) := by decide +kernel
theorem d_jdk_78_method_2_6 : decode jdk_78_method_2_code 6 = .ok (.putfield 7, 3) := by decide +kernel
theorem d_jdk_78_method_2_9 : decode jdk_78_method_2_code 9 = .ok (.aload_n 0, 1) := by decide +kernel
theorem d_jdk_78_method_2_10 : decode jdk_78_method_2_code 10 = .ok (.getstatic 13, 3) := by decide +kernel
theorem d_jdk_78_method_2_13 : decode jdk_78_method_2_code 13 = .ok (.putfield 17, 3) := by decide +kernel
theorem d_jdk_78_method_2_16 : decode jdk_78_method_2_code 16 = .ok (.aload_n 0, 1) := by decide +kernel
theorem d_jdk_78_method_2_17 : decode jdk_78_method_2_code 17 = .ok (.getstatic 20, 3) := by decide +kernel
theorem d_jdk_78_method_2_20 : decode jdk_78_method_2_code 20 = .ok (.putfield 24, 3) := by decide +kernel
theorem d_jdk_78_method_2_23 : decode jdk_78_method_2_code 23 = .ok (.aload_n 0, 1) := by decide +kernel
theorem d_jdk_78_method_2_24 : decode jdk_78_method_2_code 24 = .ok (.invokevirtual 27, 3) := by decide +kernel
theorem d_jdk_78_method_2_27 : decode jdk_78_method_2_code 27 = .ok (.pop, 1) := by decide +kernel
theorem d_jdk_78_method_2_28 : decode jdk_78_method_2_code 28 = .ok (.aload_n 0, 1) := by decide +kernel
theorem d_jdk_78_method_2_29 : decode jdk_78_method_2_code 29 = .ok (.aload_n 1, 1) := by decide +kernel
theorem d_jdk_78_method_2_30 : decode jdk_78_method_2_code 30 = .ok (.putfield 31, 3) := by decide +kernel
theorem d_jdk_78_method_2_33 : decode jdk_78_method_2_code 33 = .ok (.return_, 1) := by decide +kernel
theorem ef_einit (m : MethodId) (x0 : Addr) (x1 : Addr) : entryFrame m #[(.ref x0), (.ref x1)] 2 = mkF m 0 #[.val (.ref x0), .val (.ref x1)] [] := by first | (simp [entryFrame, mkF, argsToLocals, Value.category]; done) | rfl
theorem pn_java_lang_Exception : plainName "java/lang/Exception" = true := by first | (simp [plainName, overriddenIn]; done) | decide +kernel
theorem d_jdk_59_method_2_0 : decode jdk_59_method_2_code 0 = .ok (.aload_n 0, 1) := by decide +kernel
theorem d_jdk_59_method_2_1 : decode jdk_59_method_2_code 1 = .ok (.aload_n 1, 1) := by decide +kernel
theorem d_jdk_59_method_2_2 : decode jdk_59_method_2_code 2 = .ok (.invokespecial 7, 3) := by decide +kernel
theorem pd__28_Ljava_2f_lang_2f_String_3b__29_V : parseMethodDescriptor "(Ljava/lang/String;)V" = some ⟨[(.object "java/lang/String")], none⟩ := by decide +kernel
theorem d_jdk_59_method_2_5 : decode jdk_59_method_2_code 5 = .ok (.return_, 1) := by decide +kernel
theorem ef_xinit (m : MethodId) (x0 : Addr) (x1 : Addr) (x2 : Addr) (x3 : Addr) : entryFrame m #[(.ref x0), (.ref x1), (.ref x2), (.ref x3)] 4 = mkF m 0 #[.val (.ref x0), .val (.ref x1), .val (.ref x2), .val (.ref x3)] [] := by first | (simp [entryFrame, mkF, argsToLocals, Value.category]; done) | rfl
theorem pn_axiomend_ontology_OntologyReadException : plainName "axiomend/ontology/OntologyReadException" = true := by first | (simp [plainName, overriddenIn]; done) | decide +kernel
theorem d_prog_67_method_1_0 : decode prog_67_method_1_code 0 = .ok (.aload_n 0, 1) := by decide +kernel
theorem d_prog_67_method_1_1 : decode prog_67_method_1_code 1 = .ok (.aload_n 3, 1) := by decide +kernel
theorem d_prog_67_method_1_2 : decode prog_67_method_1_code 2 = .ok (.invokespecial 1, 3) := by decide +kernel
theorem d_prog_67_method_1_5 : decode prog_67_method_1_code 5 = .ok (.aload_n 0, 1) := by decide +kernel
theorem d_prog_67_method_1_6 : decode prog_67_method_1_code 6 = .ok (.aload_n 1, 1) := by decide +kernel
theorem d_prog_67_method_1_7 : decode prog_67_method_1_code 7 = .ok (.putfield 7, 3) := by decide +kernel
theorem d_prog_67_method_1_10 : decode prog_67_method_1_code 10 = .ok (.aload_n 0, 1) := by decide +kernel
theorem d_prog_67_method_1_11 : decode prog_67_method_1_code 11 = .ok (.aload_n 2, 1) := by decide +kernel
theorem d_prog_67_method_1_12 : decode prog_67_method_1_code 12 = .ok (.putfield 13, 3) := by decide +kernel
theorem d_prog_67_method_1_15 : decode prog_67_method_1_code 15 = .ok (.return_, 1) := by decide +kernel
theorem ef_exitStatus (m : MethodId) (x0 : Addr) : entryFrame m #[(.ref x0)] 1 = mkF m 0 #[.val (.ref x0)] [] := by first | (simp [entryFrame, mkF, argsToLocals, Value.category]; done) | rfl
theorem d_prog_67_method_4_0 : decode prog_67_method_4_code 0 = .ok (.aload_n 0, 1) := by decide +kernel
theorem d_prog_67_method_4_1 : decode prog_67_method_4_code 1 = .ok (.getfield 13, 3) := by decide +kernel
theorem d_prog_67_method_4_4 : decode prog_67_method_4_code 4 = .ok (.getstatic 17, 3) := by decide +kernel
theorem d_prog_67_method_4_7 : decode prog_67_method_4_code 7 = .ok (.if_acmp .ne 8, 3) := by decide +kernel
theorem d_prog_67_method_4_10 : decode prog_67_method_4_code 10 = .ok (.bipush 66, 2) := by decide +kernel
theorem d_prog_67_method_4_12 : decode prog_67_method_4_code 12 = .ok (.goto 5, 3) := by decide +kernel
theorem d_prog_67_method_4_15 : decode prog_67_method_4_code 15 = .ok (.bipush 65, 2) := by decide +kernel
theorem d_prog_67_method_4_17 : decode prog_67_method_4_code 17 = .ok (.ireturn, 1) := by decide +kernel
theorem ef_law (m : MethodId) (x0 : Int32) (x1 : Int32) (x2 : Int32) : entryFrame m #[(.int x0), (.int x1), (.int x2)] maxLocals = mkF m 0 #[.val (.int x0), .val (.int x1), .val (.int x2), .unset, .unset, .unset, .unset, .unset, .unset, .unset, .unset, .unset] [] := by first | (simp [entryFrame, mkF, argsToLocals, Value.category, maxLocals]; done) | rfl
theorem pn_axiomend_ontology_OntologyReadExceptionExitStatusPinLaw : plainName "axiomend/ontology/OntologyReadExceptionExitStatusPinLaw" = true := by first | (simp [plainName, overriddenIn]; done) | decide +kernel
theorem pd__28__5b_C_29_V : parseMethodDescriptor "([C)V" = some ⟨[(.array .char)], none⟩ := by decide +kernel
theorem pd__28_Ljava_2f_lang_2f_String_3b_Laxiomend_2f_ontology_2f_OntologyReadException_24_Problem_3b_Ljava_2f_lang_2f_String_3b__29_V : parseMethodDescriptor "(Ljava/lang/String;Laxiomend/ontology/OntologyReadException$Problem;Ljava/lang/String;)V" = some ⟨[(.object "java/lang/String"), (.object "axiomend/ontology/OntologyReadException$Problem"), (.object "java/lang/String")], none⟩ := by decide +kernel
theorem pd__28__29_I : parseMethodDescriptor "()I" = some ⟨[], some .int⟩ := by decide +kernel
/- numbers -/
theorem own_i {n : Nat} (h : n < 2147483648) : (Int32.ofNat n).toInt = n := len_toInt h
theorem own_lt {i n : Nat} (h : i < n) (hn : n < 2147483648) : Int32.ofNat i < Int32.ofNat n := by
  rw [Int32.lt_iff_toInt_lt, own_i (Nat.lt_trans h hn), own_i hn]; omega
theorem own_nlt {i n : Nat} (h : n ≤ i) (hi : i < 2147483648) : ¬ (Int32.ofNat i < Int32.ofNat n) := by
  rw [Int32.lt_iff_toInt_lt, own_i hi, own_i (Nat.lt_of_le_of_lt h hi)]; omega
theorem own_nneg {i : Nat} (hi : i < 2147483648) : ¬ (Int32.ofNat i < (0 : Int32)) := by
  rw [Int32.lt_iff_toInt_lt, own_i hi]; have : (0 : Int32).toInt = 0 := rfl; omega
theorem own_cl {i : Nat} (hi : i < 2147483648) : (Int32.ofNat i).toNatClampNeg = i := by
  have h := own_i hi; simp only [Int32.toNatClampNeg, h]; omega
theorem own_succ (i : Nat) : Int32.ofNat i + (1 : Int32) = Int32.ofNat (i + 1) := (Int32.ofNat_add i 1).symm
theorem own_shl1 {i : Nat} (hi : 2 * i < 2147483648) : (Int32.ofNat i <<< ((1 : Int32) &&& 31)) = Int32.ofNat (2 * i) := by
  apply Int32.toInt_inj.mp
  have h := c_ishl (Int32.ofNat i) 1 1 rfl
  have r := rng32 (Int32.ofNat i <<< ((1 : Int32) &&& 31))
  rw [own_i (by omega)] at h; rw [own_i hi]; omega
theorem own_shr1 {i : Nat} (hi : 2 * i < 2147483648) : (Int32.ofNat (2 * i) >>> ((1 : Int32) &&& 31)) = Int32.ofNat i := by
  apply Int32.toInt_inj.mp
  have h := c_ishr (Int32.ofNat (2 * i)) 1 1 rfl
  rw [own_i hi] at h; rw [own_i (by omega)]; omega
theorem own_narb (x : Int32) : nar .byte (x.toInt8.toInt32) = x.toInt8.toInt32 := by simp [nar]
/- strings -/
def lat (cs : List Int32) : Bool := cs.all fun c => decide (¬ (255 : Int32) < c)
def fl : List Int32 → Nat
  | [] => 0
  | c :: r => if (255 : Int32) < c then 0 else fl r + 1
def l1 (cs : List Int32) : List Value := cs.map fun c => .int (c.toInt8.toInt32)
def u16 : List Int32 → List Value
  | [] => []
  | c :: r => .int ((c >>> ((0 : Int32) &&& 31)).toInt8.toInt32) :: .int ((c >>> ((8 : Int32) &&& 31)).toInt8.toInt32) :: u16 r
def cdr (cs : List Int32) : Int32 := if lat cs = true then 0 else 1
def blen (cs : List Int32) : Nat := if lat cs = true then cs.length else 2 * cs.length
def enc (cs : List Int32) : List Value := if lat cs = true then l1 cs else u16 cs
def OkS (cs : List Int32) : Prop := (∀ c ∈ cs, ¬ (c < (0 : Int32)) ∧ ¬ ((65535 : Int32) < c)) ∧ cs.length < 1048576
theorem lat_cons (c : Int32) (r : List Int32) : lat (c :: r) = true ↔ ¬ (255 : Int32) < c ∧ lat r = true := by simp [lat]
theorem fl_le : ∀ cs : List Int32, fl cs ≤ cs.length
  | [] => Nat.le_refl _
  | c :: r => by
    show (if (255 : Int32) < c then 0 else fl r + 1) ≤ r.length + 1
    have := fl_le r; split <;> omega
theorem fl_lat : ∀ {cs : List Int32}, lat cs = true → fl cs = cs.length
  | [], _ => rfl
  | c :: r, h => by
    obtain ⟨h1, h2⟩ := (lat_cons c r).mp h
    show (if (255 : Int32) < c then 0 else fl r + 1) = r.length + 1
    rw [if_neg h1, fl_lat h2]
theorem fl_nlat : ∀ {cs : List Int32}, ¬ lat cs = true → fl cs < cs.length ∧ (255 : Int32) < cs.getD (fl cs) 0
  | [], h => absurd rfl h
  | c :: r, h => by
    by_cases q : (255 : Int32) < c
    · have e : fl (c :: r) = 0 := if_pos q
      rw [e]; exact ⟨Nat.succ_pos _, q⟩
    · have e : fl (c :: r) = fl r + 1 := if_neg q
      have := fl_nlat (cs := r) fun z => h ((lat_cons c r).mpr ⟨q, z⟩)
      rw [e]; exact ⟨Nat.succ_lt_succ this.1, by simpa using this.2⟩
theorem fl_ne {cs : List Int32} (h : fl cs = cs.length) : lat cs = true := by
  by_cases q : lat cs = true
  · exact q
  · exact absurd h (Nat.ne_of_lt (fl_nlat q).1)
theorem fl_app : ∀ {pre : List Int32} (suf : List Int32), lat pre = true → fl (pre ++ suf) = pre.length + fl suf
  | [], suf, _ => by simp
  | c :: r, suf, h => by
    obtain ⟨h1, h2⟩ := (lat_cons c r).mp h
    show (if (255 : Int32) < c then 0 else fl (r ++ suf) + 1) = r.length + 1 + fl suf
    rw [if_neg h1, fl_app suf h2]; omega
theorem lat_snoc {pre : List Int32} {c : Int32} (h : lat pre = true) (hc : ¬ (255 : Int32) < c) : lat (pre ++ [c]) = true := by
  simp only [lat, List.all_append, Bool.and_eq_true]; exact ⟨h, by simpa using hc⟩
theorem l1_snoc (pre : List Int32) (c : Int32) : l1 pre ++ [.int (c.toInt8.toInt32)] = l1 (pre ++ [c]) := by simp [l1]
theorem u16_app : ∀ (pre suf : List Int32), u16 (pre ++ suf) = u16 pre ++ u16 suf
  | [], _ => rfl
  | c :: r, suf => by show _ :: _ :: u16 (r ++ suf) = _ :: _ :: (u16 r ++ u16 suf); rw [u16_app r suf]
theorem u16_len : ∀ cs : List Int32, (u16 cs).length = 2 * cs.length
  | [] => rfl
  | c :: r => by show (u16 r).length + 1 + 1 = 2 * (r.length + 1); rw [u16_len r]; omega
theorem l1_len (cs : List Int32) : (l1 cs).length = cs.length := by simp [l1]
theorem u16_at : ∀ (cs : List Int32) (i : Nat) (d : Value), i < cs.length → (u16 cs).getD (2 * i) d = .int ((cs.getD i 0 >>> ((0 : Int32) &&& 31)).toInt8.toInt32) ∧ (u16 cs).getD (2 * i + 1) d = .int ((cs.getD i 0 >>> ((8 : Int32) &&& 31)).toInt8.toInt32)
  | [], i, _, h => absurd h (Nat.not_lt_zero _)
  | c :: r, 0, d, _ => ⟨rfl, rfl⟩
  | c :: r, i + 1, d, h => by
    have := u16_at r i d (Nat.lt_of_succ_lt_succ h)
    exact this
theorem l1_at (cs : List Int32) (i : Nat) (d : Value) (h : i < cs.length) : (l1 cs).getD i d = .int ((cs.getD i 0).toInt8.toInt32) := by
  simp [l1, List.getD, h]
theorem ch_at (cs : List Int32) (i : Nat) (d : Value) (h : i < cs.length) : (cs.map Value.int).getD i d = .int (cs.getD i 0) := by
  simp [List.getD, h]
theorem app_at (pre r : List Int32) (c d : Int32) : (pre ++ c :: r).getD pre.length d = c := by simp [List.getD]
theorem getD_mem {cs : List Int32} {i : Nat} (h : i < cs.length) : cs.getD i 0 ∈ cs := by simp [List.getD, h]
theorem OkS.at {cs : List Int32} (h : OkS cs) {i : Nat} (hi : i < cs.length) : ¬ (cs.getD i 0 < (0 : Int32)) ∧ ¬ ((65535 : Int32) < cs.getD i 0) := h.1 _ (getD_mem hi)
theorem own_rng {c : Int32} (h1 : ¬ (c < (0 : Int32))) (h2 : ¬ ((65535 : Int32) < c)) : 0 ≤ c.toInt ∧ c.toInt ≤ 65535 := by
  rw [Int32.lt_iff_toInt_lt] at h1 h2; have a : (0 : Int32).toInt = 0 := rfl; have b : (65535 : Int32).toInt = 65535 := rfl; omega
theorem own_narc {c : Int32} (h1 : ¬ (c < (0 : Int32))) (h2 : ¬ ((65535 : Int32) < c)) : nar .char c = c := by
  apply Int32.toInt_inj.mp
  have := own_rng h1 h2; have := c_i2c c; show (c.toUInt32.toUInt16.toUInt32.toInt32).toInt = _; omega
theorem own_l1c {c : Int32} (h1 : ¬ (c < (0 : Int32))) (h2 : ¬ ((255 : Int32) < c)) : nar .char ((c.toInt8.toInt32 &&& (255 : Int32)).toUInt32.toUInt16.toUInt32.toInt32) = c := by
  apply Int32.toInt_inj.mp
  rw [Int32.lt_iff_toInt_lt] at h1 h2; have a : (0 : Int32).toInt = 0 := rfl; have b : (255 : Int32).toInt = 255 := rfl
  have q1 := c_i2b c; have q2 := c_mask c.toInt8.toInt32 255 8 (by decide) rfl
  have q3 := c_i2c (c.toInt8.toInt32 &&& 255); have q4 := c_i2c ((c.toInt8.toInt32 &&& (255 : Int32)).toUInt32.toUInt16.toUInt32.toInt32)
  show (((c.toInt8.toInt32 &&& (255 : Int32)).toUInt32.toUInt16.toUInt32.toInt32).toUInt32.toUInt16.toUInt32.toInt32).toInt = _
  omega
theorem own_u16c {c : Int32} (h1 : ¬ (c < (0 : Int32))) (h2 : ¬ ((65535 : Int32) < c)) :
    nar .char ((((((c >>> ((0 : Int32) &&& 31)).toInt8.toInt32) &&& (255 : Int32)) <<< ((0 : Int32) &&& 31)) ||| ((((c >>> ((8 : Int32) &&& 31)).toInt8.toInt32) &&& (255 : Int32)) <<< ((8 : Int32) &&& 31))).toUInt32.toUInt16.toUInt32.toInt32) = c := by
  apply Int32.toInt_inj.mp
  have r := own_rng h1 h2
  have s0 := c_ishr c 0 0 rfl; have s8 := c_ishr c 8 8 rfl
  have b0 := c_i2b (c >>> ((0 : Int32) &&& 31)); have b8 := c_i2b (c >>> ((8 : Int32) &&& 31))
  have m0 := c_mask ((c >>> ((0 : Int32) &&& 31)).toInt8.toInt32) 255 8 (by decide) rfl; have m8 := c_mask ((c >>> ((8 : Int32) &&& 31)).toInt8.toInt32) 255 8 (by decide) rfl
  generalize (c >>> ((0 : Int32) &&& 31)).toInt8.toInt32 = x at *
  generalize (c >>> ((8 : Int32) &&& 31)).toInt8.toInt32 = y at *
  have l0 := c_ishl (x &&& 255) 0 0 rfl; have l8 := c_ishl (y &&& 255) 8 8 rfl
  generalize (x &&& (255 : Int32)) = x' at *
  generalize (y &&& (255 : Int32)) = y' at *
  have r0 := rng32 (x' <<< ((0 : Int32) &&& 31)); have r8 := rng32 (y' <<< ((8 : Int32) &&& 31))
  have o := c_or' (x' <<< ((0 : Int32) &&& 31)) (y' <<< ((8 : Int32) &&& 31)) 8 (by decide) 256 rfl
  have ro := rng32 ((x' <<< ((0 : Int32) &&& 31)) ||| (y' <<< ((8 : Int32) &&& 31)))
  generalize ((x' <<< ((0 : Int32) &&& 31)) ||| (y' <<< ((8 : Int32) &&& 31))) = w at *
  have q3 := c_i2c w; have q4 := c_i2c (w.toUInt32.toUInt16.toUInt32.toInt32)
  show ((w.toUInt32.toUInt16.toUInt32.toInt32).toUInt32.toUInt16.toUInt32.toInt32).toInt = _
  have o' := o (by omega) (by omega) (by omega)
  omega
theorem own_len {cs : List Int32} (h : cs.length < 1048576) : (Int32.ofNat (blen cs) >>> (cdr cs &&& 31)) = Int32.ofNat cs.length := by
  apply Int32.toInt_inj.mp
  by_cases q : lat cs = true
  · have := c_ishr (Int32.ofNat cs.length) 0 0 rfl
    simp only [blen, cdr, if_pos q]; rw [own_i (by omega)] at *; omega
  · have := c_ishr (Int32.ofNat (2 * cs.length)) 1 1 rfl
    simp only [blen, cdr, if_neg q]; rw [own_i (by omega)] at *; rw [this]; omega
theorem own_narcdr (cs : List Int32) : nar .byte (cdr cs) = cdr cs := by by_cases q : lat cs = true <;> simp only [cdr, q] <;> decide
theorem own_cdr {cs : List Int32} (h : cs.length < 1048576) : nar .byte ((((Int32.ofNat cs.length - Int32.ofNat (blen cs)).toUInt32 >>> ((31 : Int32) &&& 31).toUInt32).toInt32).toInt8.toInt32) = cdr cs := by
  by_cases q : lat cs = true
  · simp only [blen, cdr, if_pos q, Int32.sub_self]; decide
  · have n0 := (fl_nlat q).1
    simp only [blen, cdr, if_neg q]
    have e : ((Int32.ofNat cs.length - Int32.ofNat (2 * cs.length)).toUInt32 >>> ((31 : Int32) &&& 31).toUInt32).toInt32 = 1 := by
      apply Int32.toInt_inj.mp
      have s := c_isub (Int32.ofNat cs.length) (Int32.ofNat (2 * cs.length)); have r := rng32 (Int32.ofNat cs.length - Int32.ofNat (2 * cs.length))
      rw [own_i (by omega), own_i (by omega)] at s
      rw [c_iushr _ 31 31 rfl (by decide)]; have : (1 : Int32).toInt = 1 := rfl; omega
    rw [e]; decide
theorem cdr_lat {cs : List Int32} (h : cdr cs = (0 : Int32)) : lat cs = true := by
  by_cases q : lat cs = true
  · exact q
  · simp only [cdr, if_neg q] at h; exact absurd h (by decide)
theorem cdr_nlat {cs : List Int32} (h : ¬ cdr cs = (0 : Int32)) : ¬ lat cs = true := fun q => h (by simp only [cdr, if_pos q])
theorem Arv.push {Z : State} {h h' : Heap} {a : Addr} {c : Cell} {k : ClassId} {ty : FieldType} {z j : Int32} {vs : List Value} {dv v : Value} (A : Arr Z h a c ty) (q1 : c.cls = k) (S : c.slots.size = z.toNatClampNeg) (q3 : ¬ z < 0) (H : Has c vs dv) (G : ∀ i, i < c.slots.size → fits ty (vs.getD i dv) = true) (hv : fits ty v = true) (W : Wr h h' a j.toNatClampNeg v) (hj : j.toNatClampNeg = vs.length) : Arv Z h' a k ty z (vs ++ [v]) dv := by
  have F : Arv Z h a k ty z (vs ++ List.replicate 1 dv) dv := Arv.pad ⟨c, A, q1, S, q3, H, G⟩ (pad_rep vs dv 1)
  obtain ⟨c', A', r1, r2, r3, H', G'⟩ := F
  have R := Arv.set A' r1 r2 r3 H' G' hv W vs.length hj (by simp)
  have e : (vs ++ List.replicate 1 dv).set vs.length v = vs ++ [v] := by simp
  rw [e] at R; exact R
def Str (Z : State) (h : Heap) (a t : Addr) (kb : ClassId) (cs : List Int32) : Prop := Exa Z h a "java/lang/String" ∧ Fld Z h a "java/lang/String" "value" "[B" (.ref t) ∧ Fld Z h a "java/lang/String" "coder" "B" (.int (cdr cs)) ∧ Arv Z h t kb .byte (Int32.ofNat (blen cs)) (enc cs) (.int (0 : Int32)) ∧ OkS cs
theorem Str.keep {Z : State} {h h' : Heap} {a t : Addr} {kb : ClassId} {cs : List Int32} {ws : List Addr} (S : Str Z h a t kb cs) (K : Keep h h' ws) (q1 : a ∉ ws) (q2 : t ∉ ws) : Str Z h' a t kb cs := ⟨S.1.keep K, S.2.1.keep K q1, S.2.2.1.keep K q1, S.2.2.2.1.keep K q2, S.2.2.2.2⟩
theorem Str.ext {Z : State} {h h' : Heap} {a t : Addr} {kb : ClassId} {cs : List Int32} (S : Str Z h a t kb cs) (E : Ext h h') : Str Z h' a t kb cs := ⟨S.1.ext E, S.2.1.ext E, S.2.2.1.ext E, S.2.2.2.1.ext E, S.2.2.2.2⟩
theorem Str.lt {Z : State} {h : Heap} {a t : Addr} {kb : ClassId} {cs : List Int32} (S : Str Z h a t kb cs) : a < h.size := S.1.lt
theorem Str.lt2 {Z : State} {h : Heap} {a t : Addr} {kb : ClassId} {cs : List Int32} (S : Str Z h a t kb cs) : t < h.size := S.2.2.2.1.lt
theorem enc_lat {cs : List Int32} (h : lat cs = true) : enc cs = l1 cs ∧ blen cs = cs.length ∧ cdr cs = (0 : Int32) := ⟨if_pos h, if_pos h, if_pos h⟩
theorem enc_nlat {cs : List Int32} (h : ¬ lat cs = true) : enc cs = u16 cs ∧ blen cs = 2 * cs.length ∧ cdr cs = (1 : Int32) := ⟨if_neg h, if_neg h, if_neg h⟩
theorem lat_at {cs : List Int32} (h : lat cs = true) {i : Nat} (hi : i < cs.length) : ¬ ((255 : Int32) < cs.getD i 0) := by
  have := List.all_eq_true.mp h _ (getD_mem hi); simpa using this
theorem own_fitcdr (cs : List Int32) : fits .byte (.int (cdr cs)) = true := by by_cases q : lat cs = true <;> simp only [cdr, q] <;> decide
theorem own_zero {i : Nat} (hi : i < 2147483648) (h : Int32.ofNat i = (0 : Int32)) : i = 0 := by
  have q := congrArg Int32.toInt h; rw [own_i hi] at q; have z : (0 : Int32).toInt = 0 := rfl; omega
theorem own_neq {i n : Nat} (h : i ≠ n) (hi : i < 2147483648) (hn : n < 2147483648) : ¬ (Int32.ofNat i = Int32.ofNat n) := fun q => by
  have q := congrArg Int32.toInt q; rw [own_i hi, own_i hn] at q; omega
theorem own_sub {i n : Nat} (h : i ≤ n) (hn : n < 2147483648) : Int32.ofNat n - Int32.ofNat i = Int32.ofNat (n - i) := by
  apply Int32.toInt_inj.mp
  have s := c_isub (Int32.ofNat n) (Int32.ofNat i); have r := rng32 (Int32.ofNat n - Int32.ofNat i)
  rw [own_i hn, own_i (by omega)] at s; rw [own_i (by omega)]; omega
theorem own_min {i n : Nat} (h : i ≤ n) (hn : n < 2147483648) : (if Int32.ofNat i < Int32.ofNat n then Int32.ofNat i else Int32.ofNat n) = Int32.ofNat i := by
  by_cases q : i < n
  · rw [if_pos (own_lt q hn)]
  · rw [if_neg (own_nlt (by omega) (by omega))]; congr 1; omega
theorem own_or3 {i n N : Nat} (hi : i < 2147483648) (hn : n < 2147483648) (hN : N < 2147483648) : ¬ ((Int32.ofNat N ||| Int32.ofNat i) ||| Int32.ofNat n < (0 : Int32)) := by
  rw [Int32.lt_iff_toInt_lt]
  have a := (c_orS (Int32.ofNat N) (Int32.ofNat i)).1 (by rw [own_i hN]; omega) (by rw [own_i hi]; omega)
  have b := (c_orS (Int32.ofNat N ||| Int32.ofNat i) (Int32.ofNat n)).1 a (by rw [own_i hn]; omega)
  have z : (0 : Int32).toInt = 0 := rfl; omega
theorem own_slice (vs : List Value) (f n : Nat) (d : Value) (h : f + n ≤ vs.length) : (vs.drop f).take n = (List.range n).map fun i => vs.getD (f + i) d := by
  apply List.ext_getElem
  · simp; omega
  · intro i h1 h2
    simp at h1
    simp [List.getD, List.getElem?_eq_getElem (show f + i < vs.length by omega)]
theorem own_fill (us : List Value) (n : Nat) (h : us.length = n) : (List.replicate n (.int (0 : Int32)) : List Value).take 0 ++ us ++ (List.replicate n (.int (0 : Int32))).drop (0 + n) = us := by simp
theorem own_okdt {cs : List Int32} {bg n : Nat} (h : OkS cs) : OkS ((cs.drop bg).take n) := ⟨fun c hc => h.1 c (List.mem_of_mem_drop (List.mem_of_mem_take hc)), by have := h.2; simp; omega⟩
theorem own_dt {cs : List Int32} {bg n i : Nat} (h : bg + n ≤ cs.length) (hd : ((cs.drop bg).take n).length = n) (hi : i < ((cs.drop bg).take n).length) : ((cs.drop bg).take n).getD i 0 = cs.getD (bg + i) 0 := by
  rw [hd] at hi; simp [List.getD, List.getElem?_take, List.getElem?_drop, hi]
theorem l1_dt (cs : List Int32) (bg n : Nat) : ((l1 cs).drop bg).take n = l1 ((cs.drop bg).take n) := by simp [l1, List.map_take, List.map_drop]
theorem own_u16s (cs : List Int32) (bg n : Nat) : ((u16 cs).drop (2 * bg)).take (2 * n) = u16 ((cs.drop bg).take n) := by
  induction bg generalizing cs with
  | zero =>
    simp only [Nat.mul_zero, List.drop_zero]
    induction n generalizing cs with
    | zero => simp [u16]
    | succ n ih => cases cs with
      | nil => simp [u16]
      | cons c r => rw [show 2 * (n + 1) = 2 * n + 1 + 1 from by omega]; simp only [u16, List.take_succ_cons]; rw [ih]
  | succ b ih => cases cs with
    | nil => simp [u16]
    | cons c r => rw [show 2 * (b + 1) = 2 * b + 1 + 1 from by omega]; simp only [u16, List.drop_succ_cons]; exact ih r
theorem lat_dt {cs : List Int32} {bg n : Nat} (h : lat cs = true) : lat ((cs.drop bg).take n) = true := List.all_eq_true.mpr fun c hc => List.all_eq_true.mp h c (List.mem_of_mem_drop (List.mem_of_mem_take hc))
theorem own_mkL {Z : State} {h : Heap} {a t : Addr} {kb : ClassId} {cs : List Int32} {bg n : Nat} (hl : lat cs = true) (ok : OkS cs) (hn : bg + n ≤ cs.length) (E : Exa Z h a "java/lang/String") (V : Fld Z h a "java/lang/String" "value" "[B" (.ref t)) (C : Fld Z h a "java/lang/String" "coder" "B" (.int (0 : Int32))) (A : Arv Z h t kb .byte (Int32.ofNat (bg + n - bg)) (((l1 cs).drop bg).take (bg + n - bg)) (.int (0 : Int32))) : Str Z h a t kb ((cs.drop bg).take n) := by
  obtain ⟨e1, e2, e3⟩ := enc_lat (lat_dt (bg := bg) (n := n) hl)
  rw [show bg + n - bg = n from by omega, l1_dt] at A
  refine ⟨E, V, by rw [e3]; exact C, ?_, own_okdt ok⟩
  rw [e1, e2, show ((cs.drop bg).take n).length = n from by simp; omega]; exact A
theorem own_c8 (x : Int32) : ¬ ((nar .char ((x &&& (255 : Int32)).toUInt32.toUInt16.toUInt32.toInt32)) < (0 : Int32)) ∧ ¬ ((255 : Int32) < (nar .char ((x &&& (255 : Int32)).toUInt32.toUInt16.toUInt32.toInt32))) := by
  have h := c_and x 255 (by decide); have k := c_i2c (x &&& 255)
  have a : (0 : Int32).toInt = 0 := rfl; have b : (255 : Int32).toInt = 255 := rfl; have c : (65535 : Int32).toInt = 65535 := rfl
  rw [own_narc (by rw [Int32.lt_iff_toInt_lt]; omega) (by rw [Int32.lt_iff_toInt_lt]; omega)]
  rw [Int32.lt_iff_toInt_lt, Int32.lt_iff_toInt_lt]; omega
theorem own_ok2 {a b : Int32} (ha : ¬ (a < (0 : Int32)) ∧ ¬ ((255 : Int32) < a)) (hb : ¬ (b < (0 : Int32)) ∧ ¬ ((255 : Int32) < b)) : OkS [a, b] ∧ lat [a, b] = true := by
  have z : (0 : Int32).toInt = 0 := rfl; have y : (255 : Int32).toInt = 255 := rfl; have x : (65535 : Int32).toInt = 65535 := rfl
  have q : ∀ c ∈ [a, b], ¬ (c < (0 : Int32)) ∧ ¬ ((255 : Int32) < c) := fun c hc => by
    simp only [List.mem_cons, List.not_mem_nil, or_false] at hc
    rcases hc with rfl | rfl <;> assumption
  refine ⟨⟨fun c hc => ⟨(q c hc).1, ?_⟩, by simp⟩, List.all_eq_true.mpr fun c hc => by simpa using (q c hc).2⟩
  have := (q c hc).2; rw [Int32.lt_iff_toInt_lt] at *; omega
theorem own_kpk {Z : State} {h h' : Heap} {a : Addr} (K : Kp Z h h' a) : Keep h h' [a] :=
  ⟨K.1, fun x c q r => by obtain ⟨c', q1, -, -, q4, -⟩ := K.2 x c q; rw [q4 (by simpa using r)] at q1; exact q1, fun x c q => by obtain ⟨c', q1, q2, q3, -⟩ := K.2 x c q; exact ⟨c', q1, by rw [q2], by rw [q2], q3⟩⟩

section
open Jvm.Free.Exc
/- Throwable's fillInStackTrace, reached from a subclass whose own `lays` words are at hand -/
def own_fx (rc : String) : List Cond := [.initialized tN, .superclass tN "java/lang/Object", .instanceMethod tFill, .codeSync tFill LibCode.Throwable.Fill.code 1 (some (.object tN)), .instanceMethod tFill0, .native tFill0,
  .instanceMethod oInit, .code oInit ⟨#[0xb1]⟩ 1 none, .methodLink tN 1 oInit, .methodLink tN 27 tFill, .methodLink tN 202 tFill0,
  .fieldLink tN 7 tN "cause" thD, .fieldLink tN 17 tN "stackTrace" steD, .fieldLink tN 24 tN "suppressedExceptions" listD, .fieldLink tN 198 tN "backtrace" obD,
  .fieldLink tN 13 tN "UNASSIGNED_STACK" steD, .laysStatic tN "UNASSIGNED_STACK" steD, .fieldLink tN 20 tN "SUPPRESSED_SENTINEL" listD, .laysStatic tN "SUPPRESSED_SENTINEL" listD,
  .lays rc tN "cause" thD, .lays rc tN "stackTrace" steD, .lays rc tN "suppressedExceptions" listD, .lays rc tN "detailMessage" msgD, .lays rc tN "backtrace" obD, .lays rc tN "depth" "I",
  .declares tFill, .selects rc tFill0 tFill0, .selects rc tFill tFill, .arrayOver (.object "java/lang/Object"), .soleField tN "backtrace", .soleField tN "depth"]
theorem own_fxok {rc : String} : (own_fx rc).all xOk = true := rfl
theorem own_narR {v : Value} {t : FieldType} (h : v.isRef = true) : narrow t v = v := narrow_refV t ⟨v, h⟩
theorem own_fitR {v : Value} {t : FieldType} (h : v.isRef = true) (ht : t.isReference = true := by rfl) : fits t v = true := by
  rcases ref_cases h with rfl | ⟨a, rfl⟩ <;> cases t <;> first | rfl | cases ht
theorem own_known {s : State} {fs : List Frame} {m : MethodId} {args : Array Value} (hF : s.frames = .invoking m args :: fs) (ht : tablesKnown s = true) (hf : framesKnown s = true) : s.vm.MethodsKnown ∧ s.vm.FramesKnown fs := by
  have kn : ∀ m', methodKnown s.vm m' = true → s.vm.knowsMethod m' := fun m' q => by
    unfold methodKnown at q
    cases hk : s.vm.classes[m'.cls]? with
    | none => rw [hk] at q; cases q
    | some k =>
      rw [hk] at q; refine ⟨k, hk, fun cf hcf => ?_⟩
      simp only [hcf] at q; exact q
  refine ⟨fun m' x hm => ?_, fun y hy m' hm => ?_⟩
  · unfold Vm.method? at hm
    cases hk : s.vm.classes[m'.cls]? with
    | none => simp [hk] at hm
    | some k =>
      refine ⟨k, hk, fun cf hcf => ?_⟩
      simp [hk] at hm
      have q : k.methods.size = cf.methods.size := by
        have := Array.all_eq_true.mp ht
        obtain ⟨hi, e⟩ := Array.getElem?_eq_some_iff.mp hk
        have q := this m'.cls hi
        rw [e, hcf] at q; simpa using q
      have hi := (Array.getElem?_eq_some_iff.mp hm).1
      simp; omega
  · have q := List.all_eq_true.mp hf y (by rw [hF]; exact List.mem_cons_of_mem _ hy)
    cases y <;> simp [frameMethod?] at hm
    all_goals (subst hm; exact kn _ q)
set_option maxHeartbeats 4000000 in
theorem own_tc {args : Array Value} {s : State} {pl : Platform} {rc : String} (howns : pl.frameOwnsMonitors = true) (hfin : pl.finalization = false) (hpl : pl.magicAccessors = ({} : Platform).magicAccessors) (h : ∀ x ∈ own_fx rc, x.before args s = true) :
    ∃ T : ThrowableC, T.Links pl s ∧ s.vm.findClass tN = some T.cT ∧ s.methodNamed? tFill = some T.fill ∧ s.methodNamed? tFill0 = some T.fill0 ∧ s.fieldFound? tN "stackTrace" steD = some (T.cT, T.kT, T.i17, T.fStack) ∧ T.fStack.type = .array (.object "java/lang/StackTraceElement") ∧ s.fieldFound? tN "UNASSIGNED_STACK" steD = some (T.cT, T.kT, T.i13, T.fUnassigned) ∧ ∃ cell, s.heap[T.aS]? = some cell ∧ cell.vm.isStatics = true := by
  have w : ∀ {i : Nat} {x : Cond}, (own_fx rc)[i]? = some x → x.holds args s none s [] = true := fun q => h _ (List.mem_of_getElem? q)
  -- the class
  obtain ⟨⟨cl, j0⟩, mN, fN, gN, nN, kN, lN, sN⟩ := Cond.native_spec (w (i := 5) rfl)
  have hc : s.vm.findClass tN = some cl := findClass_of_methodNamed fN
  obtain ⟨k, hk, hname⟩ := Vm.findClass_spec hc
  obtain ⟨_, k', _, _, hk', _, _, -, _, hni⟩ := Cond.superclass_spec hc (w (i := 1) rfl)
  obtain rfl : k' = k := Option.some.inj (hk'.symm.trans hk)
  -- its two methods
  obtain ⟨jF, mF, fF, gF, aF, iF, bF, -, -⟩ := Cond.ownMethod (x := tFill) hc hk (w (i := 2) rfl)
  obtain ⟨mF', cF, gF', kF, yF, zF, rF, lF, -, sF⟩ := Cond.codeSync_spec fF (w (i := 3) rfl)
  obtain rfl : mF' = mF := Option.some.inj (gF'.symm.trans gF)
  obtain ⟨jN, mN', fN', gN', aN, iN, bN, eN, dN⟩ := Cond.ownMethod (x := tFill0) hc hk (w (i := 4) rfl)
  obtain rfl : jN = j0 := by have := Option.some.inj (fN'.symm.trans fN); simpa using this
  obtain rfl : mN' = mN := Option.some.inj (gN'.symm.trans gN)
  -- Object.<init>
  obtain ⟨iO, mO, fO, gO, tO, bO⟩ := Cond.instanceMethod_spec (w (i := 6) rfl)
  obtain ⟨mO', cO, gO', kO, yO, zO, -, lO, -, sO⟩ := Cond.code_spec fO (w (i := 7) rfl)
  obtain rfl : mO' = mO := Option.some.inj (gO'.symm.trans gO)
  obtain ⟨kObj, hkO, nmO⟩ := Vm.findClass_spec (findClass_of_methodNamed fO)
  obtain ⟨eO, dO⟩ := name_of_methodNamed fO gO
  -- the pool
  obtain ⟨u1, v1, cf, L1, r1, hcf, P1⟩ := Cond.linkedMethod hc hk fO (w (i := 8) rfl) pl hpl
  obtain ⟨u2, v2, cf2, L2, r2, hcf2, P2⟩ := Cond.linkedMethod hc hk fF (w (i := 9) rfl) pl hpl
  obtain ⟨u3, v3, cf3, L3, r3, hcf3, P3⟩ := Cond.linkedMethod hc hk fN (w (i := 10) rfl) pl hpl
  obtain rfl : cf2 = cf := Option.some.inj (hcf2.symm.trans hcf)
  obtain rfl : cf3 = cf2 := Option.some.inj (hcf3.symm.trans hcf2)
  obtain ⟨p7, q7, f7, A7, B7, C7, D7, E7, -, -, -⟩ := Cond.ownField (t := .object tN) hc hk (by decide +kernel) (w (i := 11) rfl) (w (i := 19) rfl) pl hpl
  obtain ⟨p17, q17, f17, A17, B17, C17, D17, E17, F17, G17, H17⟩ := Cond.ownField (t := .array (.object "java/lang/StackTraceElement")) hc hk (by decide +kernel) (w (i := 12) rfl) (w (i := 20) rfl) pl hpl
  obtain ⟨p24, q24, f24, A24, B24, C24, D24, E24, F24, -, H24⟩ := Cond.ownField (t := .object "java/util/List") hc hk (by decide +kernel) (w (i := 13) rfl) (w (i := 21) rfl) pl hpl
  obtain ⟨p13, q13, f13, aS, cS, A13, B13, C13, D13, -, -, hst, hcS, hiS, -, -, H13⟩ := Cond.ownStatic (t := .array (.object "java/lang/StackTraceElement")) hc hk (by decide +kernel) (w (i := 15) rfl) (w (i := 16) rfl) pl hpl
  obtain ⟨p20, q20, f20, _, _, A20, B20, C20, D20, -⟩ := Cond.ownStatic (t := .object "java/util/List") hc hk (by decide +kernel) (w (i := 17) rfl) (w (i := 18) rfl) pl hpl
  obtain ⟨cR, kR, _, _, _, fM, hR, hkR, _, sM, eM, _⟩ := Cond.lays_spec (w (i := 22) rfl)
  obtain ⟨-, d17, x17, y17⟩ := Cond.laysAt hR hkR H17 (w (i := 20) rfl)
  obtain ⟨-, d24, x24, y24⟩ := Cond.laysAt hR hkR H24 (w (i := 21) rfl)
  have ap : f17.slot ≠ f24.slot := Cond.laysApart x17 x24 y17 y24 (by rw [F17, F24]; decide)
  have par : ∀ {y : MethodName} {ps : List FieldType} {sg : MethodDescriptor}, (parseMethodDescriptor y.desc).map (·.parameters) = some ps → parseMethodDescriptor y.desc = some sg → sg.parameters = ps := fun {y ps sg} q1 q2 => by rw [q2] at q1; simpa using q1
  refine ⟨{ cT := cl, kT := k', cO := cl, aS := aS, fillIdx := jF, fill0Idx := jN, initSIdx := jF, obj := iO, kObj := kObj, methFill := mF', methFill0 := mN', methInitS := mF', methObj := mO', codeFill := cF, codeInitS := cF, codeObj := cO, fBack := f7, fDepth := f7, fStack := f17, fCause := f7, fSupp := f24, fMsg := fM, fUnassigned := f13, fSentinel := f20, cfT := cf3, ci1 := u1, n1 := v1, ci27 := u2, n27 := v2, ci202 := u3, n202 := v3, ci7 := p7, i7 := q7, ci13 := p13, i13 := q13, ci17 := p17, i17 := q17, ci20 := p20, i20 := q20, ci24 := p24, i24 := q24 }, ?_, hc, fF, fN, H17, G17, H13, cS, hcS, hiS⟩
  constructor
  case owns => exact howns
  case noFinalization => exact hfin
  case cls => exact hk
  case name => exact hname
  case boot => exact Vm.findClass_boot hc hk
  case initialized => exact Cond.initialized_spec hc hk (w (i := 0) rfl)
  case fillParams => exact par (y := tFill) (by decide +kernel) sF
  case fill0Params => exact par (y := tFill0) (by decide +kernel) sN
  case objParams => rw [show mO'.sig.parameters = [] from par (y := oInit) (by decide +kernel) sO]; rfl
  case objFound => rw [show mO'.desc = _ from dO]; exact lookupSpecial_of_named fO gO tO
  all_goals assumption
set_option maxHeartbeats 4000000 in
theorem own_fillT {p : Program} {l : Launch} {e : Env} {R : Room} {s : State} {m : MethodId} {args : Array Value} {below : List Frame} {meth : Method} {c : Code} {T : State} {locs : List Loc} {slots : Nat} {Z : State} {a0 : Array Value} {h : Heap} {rc : String} {nn : Nat} {a : Addr} {u : Value}
    (X : Stand p l e R s m args below meth c T locs 0 slots) (hx : p.tables.exec = Jvm.exec) (hl : l.stackTraces = true) (hZ : Z.Warmed39 s.vm) (hown : s.vm.findClass tN = some m.cls) (hw : ∀ d ∈ own_fx rc, d.before a0 Z = true) (wi : (Cond.instantiable rc nn).before a0 Z = true) (hT0 : ThS Z s.heap) (hTK : s.vm.MethodsKnown) (hBelow : s.vm.FramesKnown below) (eT : T.heap = h) (hLo : ∀ x ∈ locs, x.base = a)
    (hu : u.isRef = true) (E : Exa Z h a rc) (N : Unt h a) (B : Fld Z h a tN "backtrace" obD .null) (F : Fld Z h a tN "stackTrace" steD u) (S : Sta Z h tN "UNASSIGNED_STACK" steD u)
    {g : JFrame} (hg : g.method = m) (hsize : g.locals.size = c.maxLocals) {rest : List Value} (hs : g.stack = .ref a :: rest) (hd : decode c.code g.pc = .ok (.invokevirtual 27, 3)) (hf : 3 ≤ R.frames) {W : Nat} (hW : 2 * g.monitorRoom + (rest.map fun v => v.category).sum ≤ W) (hlo : W + 42 ≤ R.locals) (hc : 1 ≤ R.cells) (hsl : slots + 2752 ≤ R.slots) :
    ∃ (T' : State) (h' : Heap) (L : List Loc), Stand p l e R s m args below meth c T' (locs ++ L) 1 (slots + 2752) ∧ T'.heap = h' ∧ (∀ x ∈ L, x.base = a) ∧ Kp Z h h' a ∧
      ∀ t, Steps p.tables e below (T'.setTop { g with pc := g.pc + 3, stack := .ref a :: rest }) t → Steps p.tables e below (T.setTop g) t := by
  have W1 : ∀ {i : Nat} {x : Cond}, (own_fx rc)[i]? = some x → x.before args s = true := fun {i x} q => mvX hT0 hZ (List.all_eq_true.mp own_fxok _ (List.mem_of_getElem? q)) (hw _ (List.mem_of_getElem? q))
  have htr : e.platform.stackTraces = true := by rw [X.admits.platform]; exact hl
  have hpl : e.platform.magicAccessors = ({} : Platform).magicAccessors := by rw [X.admits.platform]
  obtain ⟨Y, L, y1, y2, y3, y4, y5, y6, cS0, y7, y8⟩ := own_tc (args := args) (rc := rc) (by rw [X.admits.platform]) (by rw [X.admits.platform]) hpl (fun d hd => by obtain ⟨i, q⟩ := List.getElem?_of_mem hd; exact W1 q)
  -- the receiver
  obtain ⟨C, nC, vC, mC⟩ := N
  obtain ⟨C', kZ, E1, E2, E3, -, E5⟩ := E
  obtain rfl : C' = C := Option.some.inj (E1.symm.trans nC)
  obtain ⟨c9, k9, I1, I2, I3, -⟩ := Cond.instantiable_spec wi
  obtain rfl : c9 = C'.cls := Option.some.inj (I1.symm.trans E2)
  obtain rfl : k9 = kZ := Option.some.inj (I2.symm.trans E3)
  obtain ⟨kX, hkX, ekX⟩ := hZ.alike.2.2 _ _ E3
  have hfX : s.vm.findClass rc = some C'.cls := by rw [hZ.alike.findClass]; exact E2
  have hord : kX.kind = .ordinary := by rw [ekX]; exact I3
  have hsz : C'.slots.size = kX.instanceTypes.size := by rw [ekX]; exact E5 I3
  have tk : ∀ {f : Field} {v : Value}, kX.instanceTypes[f.slot]? = some f.type → fits f.type v = true → Jvm.Takes s C' f v := fun {f v} q1 q2 => by
    obtain ⟨r1, r2⟩ := Takes.of_laid (v := v) hkX hord q1 q2
    exact ⟨by rw [hsz]; simpa using r1, by rw [vC]; exact r2⟩
  -- the fields
  obtain ⟨ci, i198, fB, b1, b2, b3, b4, -, b6, b7, b8⟩ := Cond.ownField (t := .object "java/lang/Object") y1 L.cls (by decide +kernel) (W1 (i := 14) rfl) (W1 (i := 23) rfl) e.platform hpl
  obtain ⟨_, _, cD, kD, iD, fD, -, -, d1, d2, -⟩ := Cond.lays_spec (W1 (i := 24) rfl)
  obtain rfl : cD = Y.cT := Option.some.inj ((Cond.lays_declared (W1 (i := 24) rfl) d1).symm.trans y1)
  obtain ⟨d3, d4⟩ := State.fieldFound?_spec d1
  obtain rfl : kD = Y.kT := Option.some.inj (d3.symm.trans L.cls)
  obtain ⟨d5, d6⟩ := State.fieldFound?_type d1 (t := .int) (by decide +kernel)
  have tyB := (Cond.laysAt hfX hkX b8 (W1 (i := 23) rfl)).1
  have tyD := (Cond.laysAt hfX hkX d1 (W1 (i := 24) rfl)).1
  have tyS := (Cond.laysAt hfX hkX y4 (W1 (i := 20) rfl)).1
  have sl : ∀ {n d : String} {c' i' : Nat} {k' : Class} {f : Field}, s.fieldFound? tN n d = some (c', k', i', f) → Jvm.RoadKit.slotOf Z tN n d = f.slot := fun {n d c' i' k' f} q => by
    obtain ⟨c2, k2, i2, r⟩ := Jvm.Free.BdW.found_ride (U := s) (U' := Z) hZ.alike.symm ⟨c', k', i', q⟩
    simp [Jvm.RoadKit.slotOf, r]
  have fl : ∀ {n d : String} {v : Value} {c' i' : Nat} {k' : Class} {f : Field}, Fld Z h a tN n d v → s.fieldFound? tN n d = some (c', k', i', f) → C'.slots[f.slot]? = some v := fun {n d v c' i' k' f} q1 q2 => by
    obtain ⟨x, xf, xk, xi, xg, r1, r2, -, -, -, -, r7⟩ := q1
    obtain rfl : x = C' := Option.some.inj (r1.symm.trans nC)
    have r := sl q2; simp [Jvm.RoadKit.slotOf, r2] at r; rw [← r]; exact r7
  -- the static field
  obtain ⟨xf, xi, xk, xg, st, cS, S1, -, -, S4, S5, S6, S7⟩ := S
  have hst : st = Y.aS ∧ xg.slot = Y.fUnassigned.slot := by
    obtain ⟨k2, r, ek⟩ := State.fieldFound?_setVm (s := Z) hZ.alike S1
    have r' := (show s.fieldFound? tN "UNASSIGNED_STACK" steD = _ from r).symm.trans y6
    simp only [Option.some.injEq, Prod.mk.injEq] at r'
    obtain ⟨-, r1, -, r4⟩ := r'
    refine ⟨?_, by rw [r4]⟩
    have q : Y.kT.statics = some st := by rw [← r1, ek]; exact S4
    exact Option.some.inj (q.symm.trans L.statics)
  obtain ⟨rfl, hxg⟩ := hst
  have hne : Y.aS ≠ a := fun q => by rw [q, nC] at S5; rw [← Option.some.inj S5, vC] at S6; cases S6
  have hsel : selectMethod e.platform s.vm C'.cls Y.fill0 = .method Y.fill0 := by
    obtain ⟨c2, r2, m2, q1, q2, q3, q4, -⟩ := Cond.selects_spec (W1 (i := 26) rfl)
    cases Option.some.inj (q1.symm.trans hfX)
    cases Option.some.inj (q2.symm.trans (State.methodFound?_of_named y3 (by decide)))
    cases Option.some.inj (q3.symm.trans y3)
    rw [Launch.admits_selectMethod X.admits]; exact q4
  obtain ⟨co, cO, kO, -, -, o1, o2, o3⟩ := Cond.arrayOver_spec (W1 (i := 28) rfl)
  have hTa : T.heap[a]? = some C' := by rw [eT]; exact nC
  have hTs : T.heap[Y.aS]? = some cS := by rw [eT]; exact S5
  have hsel2 := W1 (i := 27) rfl
  obtain ⟨v6, vm6, ⟨T6, L6, c6, n6⟩, -, X6, ⟨z1, C6, n, z2, z3, z4, z5, z6, z7, z8, z9, z10⟩, z11⟩ := X.virtualBack hx (own := tN) (C := rc) (index := 27) (y := tFill) (z := tFill) hown (W1 (i := 9) rfl) (W1 (i := 25) rfl) (notFace_of_selects hsel2) hsel2 (W1 (i := 2) rfl) (by decide)
    (fillPaysAny (l := l) (W := W) hx htr Y L y2 (u0 := ⟨u, hu⟩) (self := a) (cell := C') (cellS := cS) (fun _ => by rw [vC]; simp) (by rw [vC]; simp) (by rw [mC]) (by rw [mC]) (fl F y4) hsel hne (fun q => by rw [q] at S6; cases S6) (by rw [← hxg]; exact S7) (tk tyS (by rw [y5]; exact fits_refV_array _ ⟨u, hu⟩))
      ⟨{ ci198 := ci, i198 := i198, fBack := fB }, ⟨b1, b2, b3, b4⟩, fl B b8⟩ hTK hBelow y1 o3 o1 o2 (Cond.soleField_find y1 L.cls (W1 (i := 29) rfl) b3 b6 b4) (Cond.soleField_find y1 L.cls (W1 (i := 30) rfl) d4 d5 d2)
      (fun x => tk tyB (by rw [b7]; rfl)) (fun x => tk tyD (by rw [d6]; rfl)) (by omega) (by omega))
    (b := a) (cB := C'.cls) hfX ⟨C', hTa, rfl, by rw [vC]; rfl⟩ (g := g) hg hsize (Steps.refl _) (argsL := []) (rest := rest)
    (fun sig q => by rw [show parseMethodDescriptor tFill.desc = some ⟨[], some (.object tN)⟩ from by decide +kernel] at q; rw [← Option.some.inj q]; rfl) hs hW hd
    (fun vmx _ => ⟨rfl, by show 0 + 1 ≤ R.cells; omega, hsl, hTa, hTs⟩)
  dsimp only [Pt.U, Pt.locs, Pt.cells, Pt.slots] at X6 z3 z8 z9 z10 z11
  subst z1 z8 z9 z10
  have hb : ∀ x ∈ [(⟨a, fB.slot⟩ : Loc), ⟨a, fD.slot⟩, ⟨a, Y.fStack.slot⟩], x.base = a := fun x q => by
    simp only [List.mem_cons, List.not_mem_nil, or_false] at q; rcases q with rfl | rfl | rfl <;> rfl
  refine ⟨T6, _, _, X6.more (by omega) (by omega), rfl, hb, ⟨?_, fun y cy hy => ?_⟩, fun t q => z11.trans q⟩
  · have q1 := X.heapSize; have q2 : s.heap.size ≤ T6.heap.size := X6.same.2.1; rw [← eT]; omega
  have hlt : y < s.heap.size := by have q1 := X.heapSize; have q2 := (Array.getElem?_eq_some_iff.mp hy).1; rw [← eT] at q2; exact Nat.lt_of_lt_of_le q2 q1
  obtain ⟨w1, e1, e2, e3, e4⟩ := X.same.2.2.2.2.2 y _ (Array.getElem?_eq_getElem hlt)
  obtain ⟨w2, f1, f2, f3, f4⟩ := X6.same.2.2.2.2.2 y _ (Array.getElem?_eq_getElem hlt)
  have e1 : T.heap[y]? = some w1 := e1
  have f1 : T6.heap[y]? = some w2 := f1
  obtain rfl : cy = w1 := by rw [eT, hy] at e1; exact Option.some.inj e1
  have ew : w2 = { cy with slots := w2.slots } := by rw [f2, e2]
  refine ⟨w2, f1, ew, by rw [f3, e3], fun ne => ?_, fun i hi => ?_⟩
  · have es : w2.slots = cy.slots := by
      apply Array.ext_getElem?; intro i
      rw [f4 i fun q => by
        rcases List.mem_append.mp q with q | q
        · exact ne (hLo _ q)
        · exact ne (hb _ q), e4 i fun q => ne (hLo _ q)]
    rw [ew, es]
  · by_cases ne : y = a
    · subst ne
      obtain rfl : w2 = C6 := Option.some.inj (f1.symm.trans z3)
      obtain rfl : cy = C' := Option.some.inj (hy.symm.trans nC)
      refine z7 i (fun q => hi ("backtrace", obD) (by simp [sixNames]) ?_) (fun q => hi ("depth", "I") (by simp [sixNames]) ?_) (fun q => hi ("stackTrace", steD) (by simp [sixNames]) ?_)
      · rw [sl b8, q]
      · rw [sl d1, q]
      · rw [sl y4, q]
    · rw [f4 i fun q => by
        rcases List.mem_append.mp q with q | q
        · exact ne (hLo _ q)
        · exact ne (hb _ q), e4 i fun q => ne (hLo _ q)]
end
theorem own_fxw {a0 : Array Value} {Z : State} (hw : HW a0 Z) : ∀ d ∈ own_fx "axiomend/ontology/OntologyReadException", d.before a0 Z = true := by
  intro d hd
  simp only [own_fx, List.mem_cons, List.not_mem_nil, or_false] at hd
  rcases hd with rfl | rfl | rfl | rfl | rfl | rfl | rfl | rfl | rfl | rfl | rfl | rfl | rfl | rfl | rfl | rfl | rfl | rfl | rfl | rfl | rfl | rfl | rfl | rfl | rfl | rfl | rfl | rfl | rfl | rfl | rfl
  · exact (w48 hw)
  · exact (w66 hw)
  · exact (w61 hw)
  · exact (w67 hw)
  · exact (w68 hw)
  · exact (w69 hw)
  · exact (w15 hw)
  · exact (w16 hw)
  · exact (w50 hw)
  · exact (w59 hw)
  · exact (w72 hw)
  · exact (w51 hw)
  · exact (w54 hw)
  · exact (w57 hw)
  · exact (w77 hw)
  · exact (w53 hw)
  · exact (w79 hw)
  · exact (w56 hw)
  · exact (w80 hw)
  · exact (w52 hw)
  · exact (w55 hw)
  · exact (w58 hw)
  · exact (w82 hw)
  · exact (w83 hw)
  · exact (w84 hw)
  · exact (w60 hw)
  · exact (w81 hw)
  · exact (w62 hw)
  · exact (w63 hw)
  · exact (w64 hw)
  · exact (w65 hw)
set_option maxRecDepth 65536 in
set_option maxHeartbeats 40000000 in
theorem lp_compr {p : Program} {l : Launch} {e : Env} {R : Room} {s : State} {m : MethodId} {args : Array Value} {below : List Frame} {meth : Method} {cO : Code} {cells slots : Nat} {Z : State} {a0 : Array Value} (hx : p.tables.exec = Jvm.exec) (hZ : Z.Warmed39 s.vm) (hw : HW a0 Z) (hby : cO.code = jdk_52_method_21_code) (hml : cO.maxLocals = 7) (hown : s.vm.findClass "java/lang/StringUTF16" = some m.cls) (hRf : 0 ≤ R.frames) (hRl : 0 ≤ R.locals) (hRc : cells ≤ R.cells) (hRs : slots ≤ R.slots) (hret : meth.sig.returnType = some .int) (src : Addr) (dst : Addr) (kc : ClassId) (kb : ClassId) (cs : List Int32) (n0 : Nat) (hne : src ≠ dst) (hg : n0 ≤ dst) (ok : OkS cs) :
    ∀ suf : List Int32, ∀ (pre : List Int32) (s6 : Slot) (T0 : State) (L0 : List Loc) (h0 : Heap) (X0 : Stand p l e R s m args below meth cO T0 L0 cells slots) (e0 : T0.heap = h0) (N0 : Fr n0 L0) (Z0 : n0 ≤ h0.size) (Vs : Arv Z h0 src kc .char (Int32.ofNat cs.length) (cs.map Value.int) (.int (0 : Int32))) (Vd : Arv Z h0 dst kb .byte (Int32.ofNat cs.length) (l1 pre) (.int (0 : Int32))) (hl : lat pre = true) (h6 : One s6) (hk : cs = pre ++ suf), ∃ (T' : State) (L' : List Loc) (h' : Heap), Stand p l e R s m args below meth cO T' L' cells slots ∧ T'.heap = h' ∧ Fr n0 L' ∧ Keep h0 h' [dst] ∧ Arv Z h' dst kb .byte (Int32.ofNat cs.length) (l1 (cs.take (fl cs))) (.int (0 : Int32)) ∧ ∀ fs, (∀ (f : JFrame) (acts : List Action), f.method = m → f.locked = none → f.entered = [] → (doReturn e (T'.setTop f) acts (some (.int (Int32.ofNat (fl cs))))).1 = T'.setFrames fs) → SS p e below T0 m 3 #[.val (.ref src), .val (.int (Int32.ofNat pre.length)), .val (.ref dst), .val (.int (Int32.ofNat pre.length)), .val (.int (Int32.ofNat cs.length)), .val (.int (Int32.ofNat pre.length)), s6] [] (T'.setFrames fs) := by
  intro suf
  induction suf with
  | nil =>
    intro pre s6 T0 L0 h0 X0 e0 N0 Z0 Vs Vd hl h6 hk
    have W0 : ∀ zQ, SS p e below T0 m 3 #[.val (.ref src), .val (.int (Int32.ofNat pre.length)), .val (.ref dst), .val (.int (Int32.ofNat pre.length)), .val (.int (Int32.ofNat cs.length)), .val (.int (Int32.ofNat pre.length)), s6] [] zQ → Steps p.tables e below (T0.setTop (mkF m 3 #[.val (.ref src), .val (.int (Int32.ofNat pre.length)), .val (.ref dst), .val (.int (Int32.ofNat pre.length)), .val (.int (Int32.ofNat cs.length)), .val (.int (Int32.ofNat pre.length)), s6] [])) zQ := fun tt kt => kt
    have hn : cs.length < 1048576 := ok.2
    have hfl : fl cs = pre.length := by rw [hk, fl_app _ hl]; rfl
    have hlen : cs.length = pre.length := by rw [hk]; simp
    have W101 : ∀ zQ, SS p e below T0 m 46 #[.val (.ref src), .val (.int (Int32.ofNat pre.length)), .val (.ref dst), .val (.int (Int32.ofNat pre.length)), .val (.int (Int32.ofNat cs.length)), .val (.int (Int32.ofNat pre.length)), s6] [(.int (Int32.ofNat cs.length))] zQ → Steps p.tables e below (T0.setTop (mkF m 3 #[.val (.ref src), .val (.int (Int32.ofNat pre.length)), .val (.ref dst), .val (.int (Int32.ofNat pre.length)), .val (.int (Int32.ofNat cs.length)), .val (.int (Int32.ofNat pre.length)), s6] [])) zQ := by
      intro tt kt
      refine W0 tt ?_
      refine XS.iload X0.here hx rfl (hb hby d_jdk_52_method_21_3) rfl ?_
      show SS p e below T0 m 5 #[.val (.ref src), .val (.int (Int32.ofNat pre.length)), .val (.ref dst), .val (.int (Int32.ofNat pre.length)), .val (.int (Int32.ofNat cs.length)), .val (.int (Int32.ofNat pre.length)), s6] [(.int (Int32.ofNat pre.length))] _
      refine XS.iload X0.here hx rfl (hb hby d_jdk_52_method_21_5) rfl ?_
      show SS p e below T0 m 7 #[.val (.ref src), .val (.int (Int32.ofNat pre.length)), .val (.ref dst), .val (.int (Int32.ofNat pre.length)), .val (.int (Int32.ofNat cs.length)), .val (.int (Int32.ofNat pre.length)), s6] [(.int (Int32.ofNat cs.length)), (.int (Int32.ofNat pre.length))] _
      refine XS.icmpYes X0.here hx rfl (pc0 := 7) (pc' := 44) rfl (hb hby d_jdk_52_method_21_7) rfl (flt (own_nlt (by omega) (by omega))).2.1 (by decide) (by decide) ?_
      show SS p e below T0 m 44 #[.val (.ref src), .val (.int (Int32.ofNat pre.length)), .val (.ref dst), .val (.int (Int32.ofNat pre.length)), .val (.int (Int32.ofNat cs.length)), .val (.int (Int32.ofNat pre.length)), s6] [] _
      refine XS.iload X0.here hx rfl (hb hby d_jdk_52_method_21_44) rfl ?_
      show SS p e below T0 m 46 #[.val (.ref src), .val (.int (Int32.ofNat pre.length)), .val (.ref dst), .val (.int (Int32.ofNat pre.length)), .val (.int (Int32.ofNat cs.length)), .val (.int (Int32.ofNat pre.length)), s6] [(.int (Int32.ofNat cs.length))] _
      exact kt
    have hR102 : Arv Z h0 dst kb .byte (Int32.ofNat cs.length) (l1 (cs.take (fl cs))) (.int (0 : Int32)) := by rw [show cs.take (fl cs) = pre from by rw [hfl, hk]; exact List.take_left]; exact Vd
    exact ⟨T0, _, h0, X0, e0, N0, (Keep.refl h0 [dst]), hR102, fun fs hr => W101 _ (retI X0 hx hret (hb hby d_jdk_52_method_21_46) (by rw [show (Value.int (Int32.ofNat cs.length)) = (Value.int (Int32.ofNat (fl cs))) from (by rw [hfl, hlen])]; exact hr))⟩
  | cons cc r ih =>
    intro pre s6 T0 L0 h0 X0 e0 N0 Z0 Vs Vd hl h6 hk
    have W0 : ∀ zQ, SS p e below T0 m 3 #[.val (.ref src), .val (.int (Int32.ofNat pre.length)), .val (.ref dst), .val (.int (Int32.ofNat pre.length)), .val (.int (Int32.ofNat cs.length)), .val (.int (Int32.ofNat pre.length)), s6] [] zQ → Steps p.tables e below (T0.setTop (mkF m 3 #[.val (.ref src), .val (.int (Int32.ofNat pre.length)), .val (.ref dst), .val (.int (Int32.ofNat pre.length)), .val (.int (Int32.ofNat cs.length)), .val (.int (Int32.ofNat pre.length)), s6] [])) zQ := fun tt kt => kt
    have hn : cs.length < 1048576 := ok.2
    have hlt : pre.length < cs.length := by rw [hk]; simp
    have hcc : cs.getD pre.length 0 = cc := by rw [hk]; exact app_at pre r cc 0
    obtain ⟨cl103, Ar103, q103, S103, M103, H103, F103g⟩ := id Vs
    have hin103 : ¬ ((Int32.ofNat pre.length) < 0 ∨ cl103.slots.size ≤ ((Int32.ofNat pre.length)).toNatClampNeg) := inb_of S103 ⟨own_nneg (by omega), own_lt hlt (by omega)⟩
    have hat103 : cl103.slots[((Int32.ofNat pre.length)).toNatClampNeg]? = some (.int cc) := Has.at H103 hin103 (by rw [own_cl (by omega), ch_at _ _ _ hlt, hcc])
    have W104 : ∀ zQ, SS p e below T0 m 20 #[.val (.ref src), .val (.int (Int32.ofNat pre.length)), .val (.ref dst), .val (.int (Int32.ofNat pre.length)), .val (.int (Int32.ofNat cs.length)), .val (.int (Int32.ofNat pre.length)), .val (.int cc)] [(.int (255 : Int32)), (.int cc)] zQ → Steps p.tables e below (T0.setTop (mkF m 3 #[.val (.ref src), .val (.int (Int32.ofNat pre.length)), .val (.ref dst), .val (.int (Int32.ofNat pre.length)), .val (.int (Int32.ofNat cs.length)), .val (.int (Int32.ofNat pre.length)), s6] [])) zQ := by
      intro tt kt
      refine W0 tt ?_
      refine XS.iload X0.here hx rfl (hb hby d_jdk_52_method_21_3) rfl ?_
      show SS p e below T0 m 5 #[.val (.ref src), .val (.int (Int32.ofNat pre.length)), .val (.ref dst), .val (.int (Int32.ofNat pre.length)), .val (.int (Int32.ofNat cs.length)), .val (.int (Int32.ofNat pre.length)), s6] [(.int (Int32.ofNat pre.length))] _
      refine XS.iload X0.here hx rfl (hb hby d_jdk_52_method_21_5) rfl ?_
      show SS p e below T0 m 7 #[.val (.ref src), .val (.int (Int32.ofNat pre.length)), .val (.ref dst), .val (.int (Int32.ofNat pre.length)), .val (.int (Int32.ofNat cs.length)), .val (.int (Int32.ofNat pre.length)), s6] [(.int (Int32.ofNat cs.length)), (.int (Int32.ofNat pre.length))] _
      refine XS.icmpNo X0.here hx rfl (hb hby d_jdk_52_method_21_7) rfl (tlt (own_lt hlt (by omega))).2.1 ?_
      show SS p e below T0 m 10 #[.val (.ref src), .val (.int (Int32.ofNat pre.length)), .val (.ref dst), .val (.int (Int32.ofNat pre.length)), .val (.int (Int32.ofNat cs.length)), .val (.int (Int32.ofNat pre.length)), s6] [] _
      refine XS.aloadN X0.here hx rfl (hb hby d_jdk_52_method_21_10) rfl rfl ?_
      show SS p e below T0 m 11 #[.val (.ref src), .val (.int (Int32.ofNat pre.length)), .val (.ref dst), .val (.int (Int32.ofNat pre.length)), .val (.int (Int32.ofNat cs.length)), .val (.int (Int32.ofNat pre.length)), s6] [(.ref src)] _
      refine XS.iloadN X0.here hx rfl (hb hby d_jdk_52_method_21_11) rfl ?_
      show SS p e below T0 m 12 #[.val (.ref src), .val (.int (Int32.ofNat pre.length)), .val (.ref dst), .val (.int (Int32.ofNat pre.length)), .val (.int (Int32.ofNat cs.length)), .val (.int (Int32.ofNat pre.length)), s6] [(.int (Int32.ofNat pre.length)), (.ref src)] _
      refine X0.caload hx (j := (Int32.ofNat pre.length)) (v := (.int cc)) (by first | exact Ar103.1 | (rw [e0]; exact Ar103.1)) (State.isArrayOf_alike hZ.alike Ar103.2.1) Ar103.2.2 hin103 hat103 (g := (mkF m 12 #[.val (.ref src), .val (.int (Int32.ofNat pre.length)), .val (.ref dst), .val (.int (Int32.ofNat pre.length)), .val (.int (Int32.ofNat cs.length)), .val (.int (Int32.ofNat pre.length)), s6] [(.int (Int32.ofNat pre.length)), (.ref src)])) rfl rfl (hb hby d_jdk_52_method_21_12) _ ?_
      show SS p e below T0 m 13 #[.val (.ref src), .val (.int (Int32.ofNat pre.length)), .val (.ref dst), .val (.int (Int32.ofNat pre.length)), .val (.int (Int32.ofNat cs.length)), .val (.int (Int32.ofNat pre.length)), s6] [(.int cc)] _
      refine XS.istore X0.here hx rfl (hb hby d_jdk_52_method_21_13) rfl (l' := #[.val (.ref src), .val (.int (Int32.ofNat pre.length)), .val (.ref dst), .val (.int (Int32.ofNat pre.length)), .val (.int (Int32.ofNat cs.length)), .val (.int (Int32.ofNat pre.length)), .val (.int cc)]) (XS.store1 (o := s6) rfl h6 rfl) ?_
      show SS p e below T0 m 15 #[.val (.ref src), .val (.int (Int32.ofNat pre.length)), .val (.ref dst), .val (.int (Int32.ofNat pre.length)), .val (.int (Int32.ofNat cs.length)), .val (.int (Int32.ofNat pre.length)), .val (.int cc)] [] _
      refine XS.iload X0.here hx rfl (hb hby d_jdk_52_method_21_15) rfl ?_
      show SS p e below T0 m 17 #[.val (.ref src), .val (.int (Int32.ofNat pre.length)), .val (.ref dst), .val (.int (Int32.ofNat pre.length)), .val (.int (Int32.ofNat cs.length)), .val (.int (Int32.ofNat pre.length)), .val (.int cc)] [(.int cc)] _
      refine XS.sipush X0.here hx rfl (hb hby d_jdk_52_method_21_17) ?_
      show SS p e below T0 m 20 #[.val (.ref src), .val (.int (Int32.ofNat pre.length)), .val (.ref dst), .val (.int (Int32.ofNat pre.length)), .val (.int (Int32.ofNat cs.length)), .val (.int (Int32.ofNat pre.length)), .val (.int cc)] [(.int (255 : Int32)), (.int cc)] _
      exact kt
    by_cases hc105 : (255 : Int32) < cc
    ·
      have hfl : fl cs = pre.length := by rw [hk, fl_app _ hl]; show _ + (if (255 : Int32) < cc then 0 else fl r + 1) = _; rw [if_pos hc105]; rfl
      have W106 : ∀ zQ, SS p e below T0 m 25 #[.val (.ref src), .val (.int (Int32.ofNat pre.length)), .val (.ref dst), .val (.int (Int32.ofNat pre.length)), .val (.int (Int32.ofNat cs.length)), .val (.int (Int32.ofNat pre.length)), .val (.int cc)] [(.int (Int32.ofNat pre.length))] zQ → Steps p.tables e below (T0.setTop (mkF m 3 #[.val (.ref src), .val (.int (Int32.ofNat pre.length)), .val (.ref dst), .val (.int (Int32.ofNat pre.length)), .val (.int (Int32.ofNat cs.length)), .val (.int (Int32.ofNat pre.length)), s6] [])) zQ := by
        intro tt kt
        refine W104 tt ?_
        refine XS.icmpNo X0.here hx rfl (hb hby d_jdk_52_method_21_20) rfl (tlt hc105).2.2.2 ?_
        show SS p e below T0 m 23 #[.val (.ref src), .val (.int (Int32.ofNat pre.length)), .val (.ref dst), .val (.int (Int32.ofNat pre.length)), .val (.int (Int32.ofNat cs.length)), .val (.int (Int32.ofNat pre.length)), .val (.int cc)] [] _
        refine XS.iload X0.here hx rfl (hb hby d_jdk_52_method_21_23) rfl ?_
        show SS p e below T0 m 25 #[.val (.ref src), .val (.int (Int32.ofNat pre.length)), .val (.ref dst), .val (.int (Int32.ofNat pre.length)), .val (.int (Int32.ofNat cs.length)), .val (.int (Int32.ofNat pre.length)), .val (.int cc)] [(.int (Int32.ofNat pre.length))] _
        exact kt
      have hR107 : Arv Z h0 dst kb .byte (Int32.ofNat cs.length) (l1 (cs.take (fl cs))) (.int (0 : Int32)) := by rw [show cs.take (fl cs) = pre from by rw [hfl, hk]; exact List.take_left]; exact Vd
      exact ⟨T0, _, h0, X0, e0, N0, (Keep.refl h0 [dst]), hR107, fun fs hr => W106 _ (retI X0 hx hret (hb hby d_jdk_52_method_21_25) (by rw [show (Value.int (Int32.ofNat pre.length)) = (Value.int (Int32.ofNat (fl cs))) from (by rw [hfl])]; exact hr))⟩
    ·
      obtain ⟨cl108, Ar108, q108, S108, M108, H108, F108g⟩ := id Vd
      have hin108 : ¬ ((Int32.ofNat pre.length) < 0 ∨ cl108.slots.size ≤ ((Int32.ofNat pre.length)).toNatClampNeg) := inb_of S108 ⟨own_nneg (by omega), own_lt hlt (by omega)⟩
      obtain ⟨T108, h108, X108, e108, Wr108, st108⟩ := stB X0 hx hZ e0 Ar108 (j := (Int32.ofNat pre.length)) hin108 (g := (mkF m 31 #[.val (.ref src), .val (.int (Int32.ofNat pre.length)), .val (.ref dst), .val (.int (Int32.ofNat pre.length)), .val (.int (Int32.ofNat cs.length)), .val (.int (Int32.ofNat pre.length)), .val (.int cc)] [(.int (cc.toInt8.toInt32)), (.int (Int32.ofNat pre.length)), (.ref dst)])) rfl rfl (hb hby d_jdk_52_method_21_31)
      have G108 : Arv Z h108 dst kb .byte (Int32.ofNat cs.length) ((l1 pre) ++ [(.int (nar .byte (cc.toInt8.toInt32)))]) (.int (0 : Int32)) := Arv.push Ar108 q108 S108 M108 H108 F108g (fits_nar_byte _) Wr108 (by rw [own_cl (by omega), l1_len])
      have K108 := Keep.of_wr Wr108
      have N108 := Fr.snoc X108 N0 hg
      have J108 : Arv Z h108 dst kb .byte (Int32.ofNat cs.length) (l1 (pre ++ [cc])) (.int (0 : Int32)) := by rw [← l1_snoc, ← own_narb]; exact G108
      have W109 : ∀ zQ, SS p e below T108 m 3 #[.val (.ref src), .val (.int (Int32.ofNat (pre ++ [cc]).length)), .val (.ref dst), .val (.int (Int32.ofNat (pre ++ [cc]).length)), .val (.int (Int32.ofNat cs.length)), .val (.int (Int32.ofNat (pre ++ [cc]).length)), .val (.int cc)] [] zQ → Steps p.tables e below (T0.setTop (mkF m 3 #[.val (.ref src), .val (.int (Int32.ofNat pre.length)), .val (.ref dst), .val (.int (Int32.ofNat pre.length)), .val (.int (Int32.ofNat cs.length)), .val (.int (Int32.ofNat pre.length)), s6] [])) zQ := by
        intro tt kt
        refine W104 tt ?_
        refine XS.icmpYes X0.here hx rfl (pc0 := 20) (pc' := 26) rfl (hb hby d_jdk_52_method_21_20) rfl (flt hc105).2.2.2 (by decide) (by decide) ?_
        show SS p e below T0 m 26 #[.val (.ref src), .val (.int (Int32.ofNat pre.length)), .val (.ref dst), .val (.int (Int32.ofNat pre.length)), .val (.int (Int32.ofNat cs.length)), .val (.int (Int32.ofNat pre.length)), .val (.int cc)] [] _
        refine XS.aloadN X0.here hx rfl (hb hby d_jdk_52_method_21_26) rfl rfl ?_
        show SS p e below T0 m 27 #[.val (.ref src), .val (.int (Int32.ofNat pre.length)), .val (.ref dst), .val (.int (Int32.ofNat pre.length)), .val (.int (Int32.ofNat cs.length)), .val (.int (Int32.ofNat pre.length)), .val (.int cc)] [(.ref dst)] _
        refine XS.iloadN X0.here hx rfl (hb hby d_jdk_52_method_21_27) rfl ?_
        show SS p e below T0 m 28 #[.val (.ref src), .val (.int (Int32.ofNat pre.length)), .val (.ref dst), .val (.int (Int32.ofNat pre.length)), .val (.int (Int32.ofNat cs.length)), .val (.int (Int32.ofNat pre.length)), .val (.int cc)] [(.int (Int32.ofNat pre.length)), (.ref dst)] _
        refine XS.iload X0.here hx rfl (hb hby d_jdk_52_method_21_28) rfl ?_
        show SS p e below T0 m 30 #[.val (.ref src), .val (.int (Int32.ofNat pre.length)), .val (.ref dst), .val (.int (Int32.ofNat pre.length)), .val (.int (Int32.ofNat cs.length)), .val (.int (Int32.ofNat pre.length)), .val (.int cc)] [(.int cc), (.int (Int32.ofNat pre.length)), (.ref dst)] _
        refine XS.i2b X0.here hx rfl (hb hby d_jdk_52_method_21_30) rfl ?_
        show SS p e below T0 m 31 #[.val (.ref src), .val (.int (Int32.ofNat pre.length)), .val (.ref dst), .val (.int (Int32.ofNat pre.length)), .val (.int (Int32.ofNat cs.length)), .val (.int (Int32.ofNat pre.length)), .val (.int cc)] [(.int (cc.toInt8.toInt32)), (.int (Int32.ofNat pre.length)), (.ref dst)] _
        refine st108 _ ?_
        show SS p e below T108 m 32 #[.val (.ref src), .val (.int (Int32.ofNat pre.length)), .val (.ref dst), .val (.int (Int32.ofNat pre.length)), .val (.int (Int32.ofNat cs.length)), .val (.int (Int32.ofNat pre.length)), .val (.int cc)] [] _
        refine XS.iinc X108.here hx rfl (hb hby d_jdk_52_method_21_32) rfl (l' := #[.val (.ref src), .val (.int ((Int32.ofNat pre.length) + (1 : Int32))), .val (.ref dst), .val (.int (Int32.ofNat pre.length)), .val (.int (Int32.ofNat cs.length)), .val (.int (Int32.ofNat pre.length)), .val (.int cc)]) rfl ?_
        show SS p e below T108 m 35 #[.val (.ref src), .val (.int ((Int32.ofNat pre.length) + (1 : Int32))), .val (.ref dst), .val (.int (Int32.ofNat pre.length)), .val (.int (Int32.ofNat cs.length)), .val (.int (Int32.ofNat pre.length)), .val (.int cc)] [] _
        refine XS.iinc X108.here hx rfl (hb hby d_jdk_52_method_21_35) rfl (l' := #[.val (.ref src), .val (.int ((Int32.ofNat pre.length) + (1 : Int32))), .val (.ref dst), .val (.int ((Int32.ofNat pre.length) + (1 : Int32))), .val (.int (Int32.ofNat cs.length)), .val (.int (Int32.ofNat pre.length)), .val (.int cc)]) rfl ?_
        show SS p e below T108 m 38 #[.val (.ref src), .val (.int ((Int32.ofNat pre.length) + (1 : Int32))), .val (.ref dst), .val (.int ((Int32.ofNat pre.length) + (1 : Int32))), .val (.int (Int32.ofNat cs.length)), .val (.int (Int32.ofNat pre.length)), .val (.int cc)] [] _
        refine XS.iinc X108.here hx rfl (hb hby d_jdk_52_method_21_38) rfl (l' := #[.val (.ref src), .val (.int ((Int32.ofNat pre.length) + (1 : Int32))), .val (.ref dst), .val (.int ((Int32.ofNat pre.length) + (1 : Int32))), .val (.int (Int32.ofNat cs.length)), .val (.int ((Int32.ofNat pre.length) + (1 : Int32))), .val (.int cc)]) rfl ?_
        show SS p e below T108 m 41 #[.val (.ref src), .val (.int ((Int32.ofNat pre.length) + (1 : Int32))), .val (.ref dst), .val (.int ((Int32.ofNat pre.length) + (1 : Int32))), .val (.int (Int32.ofNat cs.length)), .val (.int ((Int32.ofNat pre.length) + (1 : Int32))), .val (.int cc)] [] _
        rw [show ((Int32.ofNat pre.length) + (1 : Int32)) = (Int32.ofNat (pre ++ [cc]).length) from (by rw [own_succ]; simp)]
        show SS p e below T108 m 41 #[.val (.ref src), .val (.int (Int32.ofNat (pre ++ [cc]).length)), .val (.ref dst), .val (.int (Int32.ofNat (pre ++ [cc]).length)), .val (.int (Int32.ofNat cs.length)), .val (.int (Int32.ofNat (pre ++ [cc]).length)), .val (.int cc)] [] _
        refine XS.goto X108.here hx rfl (pc0 := 41) (pc' := 3) rfl (hb hby d_jdk_52_method_21_41) (by decide) (by decide) ?_
        show SS p e below T108 m 3 #[.val (.ref src), .val (.int (Int32.ofNat (pre ++ [cc]).length)), .val (.ref dst), .val (.int (Int32.ofNat (pre ++ [cc]).length)), .val (.int (Int32.ofNat cs.length)), .val (.int (Int32.ofNat (pre ++ [cc]).length)), .val (.int cc)] [] _
        exact kt
      have F111 : Arv Z h108 src kc .char (Int32.ofNat cs.length) (cs.map Value.int) (.int (0 : Int32)) := (Vs.keep K108 (ninS hne nin0))
      obtain ⟨T110, L110, h110, X110, e110, N110, K110, P110_0, st110⟩ := ih (pre ++ [cc]) (.val (.int cc)) T108 _ h108 X108 e108 N108 (Nat.le_trans Z0 K108.1) F111 J108 (lat_snoc hl hc105) (One.val rfl) (by rw [hk]; simp)
      exact ⟨T110, L110, h110, X110, e110, N110, (Keep.trans (Keep.trans (Keep.refl h0 [dst]) K108 (allS (Or.inl (List.mem_of_getElem? (i := 0) rfl)) all0)) K110 (allS (Or.inl (List.mem_of_getElem? (i := 0) rfl)) all0)), P110_0, fun tt kt => W109 _ (st110 _ kt)⟩
def Q_compress21 (Z : State) (src : Addr) (dst : Addr) (kc : ClassId) (kb : ClassId) (cs : List Int32) (h0 : Heap) (n0 : Nat) (vQ_ : Option Value) (hQ_ : Heap) (LQ_ : List Loc) : Prop := vQ_ = some (.int (Int32.ofNat (fl cs))) ∧ Fr n0 LQ_ ∧ Keep h0 hQ_ [dst] ∧ Arv Z hQ_ dst kb .byte (Int32.ofNat cs.length) (l1 (cs.take (fl cs))) (.int (0 : Int32))
set_option maxRecDepth 65536 in
set_option maxHeartbeats 40000000 in
theorem rm_compress21 (l : Launch) (Z : State) (a0 : Array Value) (hw : HW a0 Z) (ws : List Jvm.Cond) (src : Addr) (dst : Addr) (kc : ClassId) (kb : ClassId) (cs : List Int32) (h0 : Heap) (n0 : Nat) (Z0 : n0 ≤ h0.size) (Vs : Arv Z h0 src kc .char (Int32.ofNat cs.length) (cs.map Value.int) (.int (0 : Int32))) (Vd : Arv Z h0 dst kb .byte (Int32.ofNat cs.length) [] (.int (0 : Int32))) (hne : src ≠ dst) (hg : n0 ≤ dst) (ok : OkS cs) :
    MetFree l (⟨"java/lang/StringUTF16", "compress", "([CI[BII)I"⟩ : MethodName) (head1 (Jvm.Cond.code (⟨"java/lang/StringUTF16", "compress", "([CI[BII)I"⟩ : MethodName) jdk_52_method_21_code 7 (some .int) :: ws) ({ frames := 0, cells := 0, slots := 0, locals := 0 } : Room)) (fun aQ_ UQ => aQ_ = #[(.ref src), (.int (0 : Int32)), (.ref dst), (.int (0 : Int32)), (.int (Int32.ofNat cs.length))] ∧ Z.Warmed39 UQ.vm ∧ UQ.heap = h0) (fun _ _ _ _ _ => True) (fun _ UQ oQ UQ' => ∃ vQ_ LQ_, oQ = .returned vQ_ ∧ Q_compress21 Z src dst kc kb cs h0 n0 vQ_ UQ'.heap LQ_ ∧ FrameEnd UQ oQ UQ' LQ_ ({ frames := 0, cells := 0, slots := 0, locals := 0 } : Room).cells ({ frames := 0, cells := 0, slots := 0, locals := 0 } : Room).slots) := by
  refine MetFree.of_bodySF (plainFor_of_name pn_java_lang_StringUTF16) hisR ?_
  intro p e s m args below meth cO s₁ Bd hml0 hP hK
  obtain ⟨rfl, hZ, hh⟩ := hP
  have hx := Bd.exec
  have hby := Bd.bytes
  have hml : cO.maxLocals = 7 := hml0
  have hown : s.vm.findClass "java/lang/StringUTF16" = some m.cls := findClass_of_methodNamed Bd.named
  have hnm := (name_of_methodNamed Bd.named Bd.method).1
  have X0 : Stand p l e ({ frames := 0, cells := 0, slots := 0, locals := 0 } : Room) s m #[(.ref src), (.int (0 : Int32)), (.ref dst), (.int (0 : Int32)), (.int (Int32.ofNat cs.length))] below meth cO s₁ [] 0 0 := Stand.of_body Bd
  have e0 : s₁.heap = h0 := by rw [← hh, Bd.state]; rfl
  have N0 := Fr.nil n0
  have W0 : ∀ zQ, SS p e below s₁ m 0 #[.val (.ref src), .val (.int (0 : Int32)), .val (.ref dst), .val (.int (0 : Int32)), .val (.int (Int32.ofNat cs.length)), .unset, .unset] [] zQ → Steps p.tables e below (s₁.setTop (entryFrame m #[(.ref src), (.int (0 : Int32)), (.ref dst), (.int (0 : Int32)), (.int (Int32.ofNat cs.length))] 7)) zQ := fun tt kt => castTop (ef_compress21 m src (0 : Int32) dst (0 : Int32) (Int32.ofNat cs.length)) kt
  have W101 : ∀ zQ, SS p e below s₁ m 3 #[.val (.ref src), .val (.int (0 : Int32)), .val (.ref dst), .val (.int (0 : Int32)), .val (.int (Int32.ofNat cs.length)), .val (.int (0 : Int32)), .unset] [] zQ → Steps p.tables e below (s₁.setTop (entryFrame m #[(.ref src), (.int (0 : Int32)), (.ref dst), (.int (0 : Int32)), (.int (Int32.ofNat cs.length))] 7)) zQ := by
    intro tt kt
    refine W0 tt ?_
    refine XS.iconst X0.here hx rfl (hb hby d_jdk_52_method_21_0) ?_
    show SS p e below s₁ m 1 #[.val (.ref src), .val (.int (0 : Int32)), .val (.ref dst), .val (.int (0 : Int32)), .val (.int (Int32.ofNat cs.length)), .unset, .unset] [(.int (0 : Int32))] _
    refine XS.istore X0.here hx rfl (hb hby d_jdk_52_method_21_1) rfl (l' := #[.val (.ref src), .val (.int (0 : Int32)), .val (.ref dst), .val (.int (0 : Int32)), .val (.int (Int32.ofNat cs.length)), .val (.int (0 : Int32)), .unset]) rfl ?_
    show SS p e below s₁ m 3 #[.val (.ref src), .val (.int (0 : Int32)), .val (.ref dst), .val (.int (0 : Int32)), .val (.int (Int32.ofNat cs.length)), .val (.int (0 : Int32)), .unset] [] _
    exact kt
  obtain ⟨T102, L102, h102, X102, e102, Nl102, K102, P102_0, st102⟩ := lp_compr hx hZ hw hby hml hown (by decide) (by decide) (by decide) (by decide) Bd.returns src dst kc kb cs n0 hne hg ok cs [] .unset s₁ _ h0 X0 e0 N0 Z0 Vs Vd rfl One.u rfl
  obtain ⟨fs, hr, hrun, hended, hW, hsame⟩ := X102.leave (v := some (.int (Int32.ofNat (fl cs)))) (fun h => by rw [Bd.returns] at h; cases h)
  refine ⟨_, _, W101 _ (st102 _ hr), hrun, hended, _, _, rfl, ?_, ⟨_, rfl⟩, hW, hsame.mono (by decide) (by decide)⟩
  show Q_compress21 Z src dst kc kb cs h0 n0 _ T102.heap _
  rw [e102]
  exact ⟨rfl, Nl102, (Keep.trans (Keep.refl h0 [dst]) K102 (allS (Or.inl (List.mem_of_getElem? (i := 0) rfl)) all0)), P102_0⟩
def Q_coderOf (Z : State) (t : Addr) (kb : ClassId) (vs : List Value) (cs : List Int32) (h0 : Heap) (n0 : Nat) (vQ_ : Option Value) (hQ_ : Heap) (LQ_ : List Loc) : Prop := vQ_ = some (.int (cdr cs)) ∧ Fr n0 LQ_ ∧ hQ_ = h0
set_option maxRecDepth 65536 in
set_option maxHeartbeats 40000000 in
theorem rm_coderOf (l : Launch) (Z : State) (a0 : Array Value) (hw : HW a0 Z) (ws : List Jvm.Cond) (t : Addr) (kb : ClassId) (vs : List Value) (cs : List Int32) (h0 : Heap) (n0 : Nat) (Z0 : n0 ≤ h0.size) (A1 : Arv Z h0 t kb .byte (Int32.ofNat (blen cs)) vs (.int (0 : Int32))) (ok : OkS cs) :
    MetFree l (⟨"java/lang/StringUTF16", "coderFromArrayLen", "([BI)B"⟩ : MethodName) (head1 (Jvm.Cond.code (⟨"java/lang/StringUTF16", "coderFromArrayLen", "([BI)B"⟩ : MethodName) jdk_52_method_15_code 2 (some .byte) :: ws) ({ frames := 0, cells := 0, slots := 0, locals := 0 } : Room)) (fun aQ_ UQ => aQ_ = #[(.ref t), (.int (Int32.ofNat cs.length))] ∧ Z.Warmed39 UQ.vm ∧ UQ.heap = h0) (fun _ _ _ _ _ => True) (fun _ UQ oQ UQ' => ∃ vQ_ LQ_, oQ = .returned vQ_ ∧ Q_coderOf Z t kb vs cs h0 n0 vQ_ UQ'.heap LQ_ ∧ FrameEnd UQ oQ UQ' LQ_ ({ frames := 0, cells := 0, slots := 0, locals := 0 } : Room).cells ({ frames := 0, cells := 0, slots := 0, locals := 0 } : Room).slots) := by
  refine MetFree.of_bodySF (plainFor_of_name pn_java_lang_StringUTF16) hisR ?_
  intro p e s m args below meth cO s₁ Bd hml0 hP hK
  obtain ⟨rfl, hZ, hh⟩ := hP
  have hx := Bd.exec
  have hby := Bd.bytes
  have hml : cO.maxLocals = 2 := hml0
  have hown : s.vm.findClass "java/lang/StringUTF16" = some m.cls := findClass_of_methodNamed Bd.named
  have hnm := (name_of_methodNamed Bd.named Bd.method).1
  have X0 : Stand p l e ({ frames := 0, cells := 0, slots := 0, locals := 0 } : Room) s m #[(.ref t), (.int (Int32.ofNat cs.length))] below meth cO s₁ [] 0 0 := Stand.of_body Bd
  have e0 : s₁.heap = h0 := by rw [← hh, Bd.state]; rfl
  have N0 := Fr.nil n0
  have W0 : ∀ zQ, SS p e below s₁ m 0 #[.val (.ref t), .val (.int (Int32.ofNat cs.length))] [] zQ → Steps p.tables e below (s₁.setTop (entryFrame m #[(.ref t), (.int (Int32.ofNat cs.length))] 2)) zQ := fun tt kt => castTop (ef_coderOf m t (Int32.ofNat cs.length)) kt
  obtain ⟨cl101, Ar101, -, S101, M101, -, -⟩ := id A1
  have W102 : ∀ zQ, SS p e below s₁ m 8 #[.val (.ref t), .val (.int (Int32.ofNat cs.length))] [(.int (((((Int32.ofNat cs.length) - (Int32.ofNat (blen cs))).toUInt32 >>> ((31 : Int32) &&& 31).toUInt32).toInt32).toInt8.toInt32))] zQ → Steps p.tables e below (s₁.setTop (entryFrame m #[(.ref t), (.int (Int32.ofNat cs.length))] 2)) zQ := by
    intro tt kt
    refine W0 tt ?_
    refine XS.iloadN X0.here hx rfl (hb hby d_jdk_52_method_15_0) rfl ?_
    show SS p e below s₁ m 1 #[.val (.ref t), .val (.int (Int32.ofNat cs.length))] [(.int (Int32.ofNat cs.length))] _
    refine XS.aloadN X0.here hx rfl (hb hby d_jdk_52_method_15_1) rfl rfl ?_
    show SS p e below s₁ m 2 #[.val (.ref t), .val (.int (Int32.ofNat cs.length))] [(.ref t), (.int (Int32.ofNat cs.length))] _
    refine X0.arraylength hx (by first | exact Ar101.1 | (rw [e0]; exact Ar101.1)) (State.isArrayOf_alike hZ.alike Ar101.2.1) (g := (mkF m 2 #[.val (.ref t), .val (.int (Int32.ofNat cs.length))] [(.ref t), (.int (Int32.ofNat cs.length))])) rfl rfl (hb hby d_jdk_52_method_15_2) _ ?_
    rw [len_of S101 M101]
    show SS p e below s₁ m 3 #[.val (.ref t), .val (.int (Int32.ofNat cs.length))] [(.int (Int32.ofNat (blen cs))), (.int (Int32.ofNat cs.length))] _
    refine XS.isub X0.here hx rfl (hb hby d_jdk_52_method_15_3) rfl ?_
    show SS p e below s₁ m 4 #[.val (.ref t), .val (.int (Int32.ofNat cs.length))] [(.int ((Int32.ofNat cs.length) - (Int32.ofNat (blen cs))))] _
    refine XS.bipush X0.here hx rfl (hb hby d_jdk_52_method_15_4) ?_
    show SS p e below s₁ m 6 #[.val (.ref t), .val (.int (Int32.ofNat cs.length))] [(.int (31 : Int32)), (.int ((Int32.ofNat cs.length) - (Int32.ofNat (blen cs))))] _
    refine XS.iushr X0.here hx rfl (hb hby d_jdk_52_method_15_6) rfl ?_
    show SS p e below s₁ m 7 #[.val (.ref t), .val (.int (Int32.ofNat cs.length))] [(.int ((((Int32.ofNat cs.length) - (Int32.ofNat (blen cs))).toUInt32 >>> ((31 : Int32) &&& 31).toUInt32).toInt32))] _
    refine XS.i2b X0.here hx rfl (hb hby d_jdk_52_method_15_7) rfl ?_
    show SS p e below s₁ m 8 #[.val (.ref t), .val (.int (Int32.ofNat cs.length))] [(.int (((((Int32.ofNat cs.length) - (Int32.ofNat (blen cs))).toUInt32 >>> ((31 : Int32) &&& 31).toUInt32).toInt32).toInt8.toInt32))] _
    exact kt
  obtain ⟨fs, hr, hrun, hended, hW, hsame⟩ := X0.leave (v := some (.int (nar .byte (((((Int32.ofNat cs.length) - (Int32.ofNat (blen cs))).toUInt32 >>> ((31 : Int32) &&& 31).toUInt32).toInt32).toInt8.toInt32)))) (fun h => by rw [Bd.returns] at h; cases h)
  refine ⟨_, _, W102 _ (retN X0 hx (t := .byte) Bd.returns (by simp) (hb hby d_jdk_52_method_15_8) hr), hrun, hended, _, _, rfl, ?_, ⟨_, rfl⟩, hW, hsame.mono (by decide) (by decide)⟩
  show Q_coderOf Z t kb vs cs h0 n0 _ s₁.heap _
  rw [e0]
  exact ⟨(congrArg (fun q => some (Value.int q)) (own_cdr ok.2)), N0, rfl⟩
def Q_compress16 (Z : State) (src : Addr) (kc : ClassId) (cs : List Int32) (h0 : Heap) (n0 : Nat) (vQ_ : Option Value) (hQ_ : Heap) (LQ_ : List Loc) : Prop := ∃ t : Addr, ∃ kb : ClassId, vQ_ = some (.ref t) ∧ Fr n0 LQ_ ∧ Keep h0 hQ_ [] ∧ h0.size ≤ t ∧ Arv Z hQ_ t kb .byte (Int32.ofNat (blen cs)) (enc cs) (.int (0 : Int32))
set_option maxRecDepth 65536 in
set_option maxHeartbeats 40000000 in
theorem rm_compress16 (l : Launch) (Z : State) (a0 : Array Value) (hw : HW a0 Z) (ws : List Jvm.Cond) (src : Addr) (kc : ClassId) (cs : List Int32) (h0 : Heap) (n0 : Nat) (Z0 : n0 ≤ h0.size) (Vs : Arv Z h0 src kc .char (Int32.ofNat cs.length) (cs.map Value.int) (.int (0 : Int32))) (ok : OkS cs) (hcap : cs.length ≤ 4) (hl : lat cs = true) :
    MetFree l (⟨"java/lang/StringUTF16", "compress", "([CII)[B"⟩ : MethodName) (head1 (Jvm.Cond.code (⟨"java/lang/StringUTF16", "compress", "([CII)[B"⟩ : MethodName) jdk_52_method_16_code 6 (some (.array .byte)) :: ws) ({ frames := 1, cells := 1, slots := 4, locals := 18 } : Room)) (fun aQ_ UQ => aQ_ = #[(.ref src), (.int (0 : Int32)), (.int (Int32.ofNat cs.length))] ∧ Z.Warmed39 UQ.vm ∧ UQ.heap = h0) (fun _ _ _ _ _ => True) (fun _ UQ oQ UQ' => ∃ vQ_ LQ_, oQ = .returned vQ_ ∧ Q_compress16 Z src kc cs h0 n0 vQ_ UQ'.heap LQ_ ∧ FrameEnd UQ oQ UQ' LQ_ ({ frames := 1, cells := 1, slots := 4, locals := 18 } : Room).cells ({ frames := 1, cells := 1, slots := 4, locals := 18 } : Room).slots) := by
  refine MetFree.of_bodySF (plainFor_of_name pn_java_lang_StringUTF16) hisR ?_
  intro p e s m args below meth cO s₁ Bd hml0 hP hK
  obtain ⟨rfl, hZ, hh⟩ := hP
  have hx := Bd.exec
  have hby := Bd.bytes
  have hml : cO.maxLocals = 6 := hml0
  have hown : s.vm.findClass "java/lang/StringUTF16" = some m.cls := findClass_of_methodNamed Bd.named
  have hnm := (name_of_methodNamed Bd.named Bd.method).1
  have X0 : Stand p l e ({ frames := 1, cells := 1, slots := 4, locals := 18 } : Room) s m #[(.ref src), (.int (0 : Int32)), (.int (Int32.ofNat cs.length))] below meth cO s₁ [] 0 0 := Stand.of_body Bd
  have e0 : s₁.heap = h0 := by rw [← hh, Bd.state]; rfl
  have N0 := Fr.nil n0
  have W0 : ∀ zQ, SS p e below s₁ m 0 #[.val (.ref src), .val (.int (0 : Int32)), .val (.int (Int32.ofNat cs.length)), .unset, .unset, .unset] [] zQ → Steps p.tables e below (s₁.setTop (entryFrame m #[(.ref src), (.int (0 : Int32)), (.int (Int32.ofNat cs.length))] 6)) zQ := fun tt kt => castTop (ef_compress16 m src (0 : Int32) (Int32.ofNat cs.length)) kt
  have hn : cs.length < 1048576 := ok.2
  obtain ⟨T101, h101, k101, X101, e101, E101, A101, st101⟩ := newP X0 hx hZ (aty := .byte) (w22 hw) e0 (g := (mkF m 1 #[.val (.ref src), .val (.int (0 : Int32)), .val (.int (Int32.ofNat cs.length)), .unset, .unset, .unset] [(.int (Int32.ofNat cs.length))])) rfl (hb hby d_jdk_52_method_16_1) (n := (Int32.ofNat cs.length)) rfl (own_nneg (by omega)) (cap := 4) (by rw [own_cl (by omega)]; exact hcap) (by decide) (by decide) (by decide)
  obtain ⟨b101, g101⟩ : ∃ z, z = h0.size := ⟨_, rfl⟩
  rw [← g101] at A101 st101
  have K101 := (Keep.refl h0 []).ext E101
  have G101 : Arv Z h101 b101 k101 .byte (Int32.ofNat cs.length) [] (.int (0 : Int32)) := Arv.new A101 (own_nneg (by omega))
  have F102 : Arv Z h101 src kc .char (Int32.ofNat cs.length) (cs.map Value.int) (.int (0 : Int32)) := (Vs.keep K101 nin0)
  obtain ⟨_, _, ⟨T103, L103, k103, n103⟩, -, X103, ⟨Lc103, hQ103, l103, y103, z103⟩, st103⟩ := Jvm.LawKit.callS X101 hx (y := (⟨"java/lang/StringUTF16", "compress", "([CI[BII)I"⟩ : MethodName)) hown (mvT hZ (w23 hw)) (mvT hZ (w24 hw)) (mvT hZ (w20 hw)) (mvT hZ (w25 hw)) (by decide) (backOf (W := 0) (rm_compress21 l Z a0 hw [] src b101 kc k101 cs h101 n0 (Nat.le_trans Z0 K101.1) F102 G101 (Nat.ne_of_lt (Nat.lt_of_lt_of_le Vs.lt (Nat.le_of_eq g101.symm))) (Nat.le_trans Z0 (Nat.le_of_eq g101.symm)) ok) hZ (w25 hw) (w20 hw) (by decide) (by decide)) (g := (mkF m 9 #[.val (.ref src), .val (.int (0 : Int32)), .val (.int (Int32.ofNat cs.length)), .val (.ref b101), .unset, .unset] [(.int (Int32.ofNat cs.length)), (.int (0 : Int32)), (.ref b101), (.int (0 : Int32)), (.ref src)])) rfl (by rw [hml]; rfl) (argsL := [(.ref src), (.int (0 : Int32)), (.ref b101), (.int (0 : Int32)), (.int (Int32.ofNat cs.length))]) (rest := []) (lenOf pd__28__5b_CI_5b_BII_29_I rfl) rfl (by show 2 * 0 + _ ≤ _; exact Nat.le_of_eq rfl) (hb hby d_jdk_52_method_16_9) (fun _ _ => ⟨rfl, e101, (Nat.le_of_ble_eq_true rfl), (Nat.le_of_ble_eq_true rfl)⟩)
  dsimp only [Pt.U, Pt.locs, Pt.cells, Pt.slots] at X103 l103 y103 z103 st103 hQ103
  subst l103 y103 z103
  obtain ⟨rfl, Nq103, K103, P103_0⟩ := hQ103
  have N103 := Fr.app N0 Nq103
  have W104 : ∀ zQ, SS p e below T103 m 58 #[.val (.ref src), .val (.int (0 : Int32)), .val (.int (Int32.ofNat cs.length)), .val (.ref b101), .val (.int (Int32.ofNat (fl cs))), .unset] [(.ref b101)] zQ → Steps p.tables e below (s₁.setTop (entryFrame m #[(.ref src), (.int (0 : Int32)), (.int (Int32.ofNat cs.length))] 6)) zQ := by
    intro tt kt
    refine W0 tt ?_
    refine XS.iloadN X0.here hx rfl (hb hby d_jdk_52_method_16_0) rfl ?_
    show SS p e below s₁ m 1 #[.val (.ref src), .val (.int (0 : Int32)), .val (.int (Int32.ofNat cs.length)), .unset, .unset, .unset] [(.int (Int32.ofNat cs.length))] _
    refine st101 _ ?_
    show SS p e below T101 m 3 #[.val (.ref src), .val (.int (0 : Int32)), .val (.int (Int32.ofNat cs.length)), .unset, .unset, .unset] [(.ref b101)] _
    refine XS.astoreN X101.here hx rfl (hb hby d_jdk_52_method_16_3) rfl rfl (l' := #[.val (.ref src), .val (.int (0 : Int32)), .val (.int (Int32.ofNat cs.length)), .val (.ref b101), .unset, .unset]) rfl ?_
    show SS p e below T101 m 4 #[.val (.ref src), .val (.int (0 : Int32)), .val (.int (Int32.ofNat cs.length)), .val (.ref b101), .unset, .unset] [] _
    refine XS.aloadN X101.here hx rfl (hb hby d_jdk_52_method_16_4) rfl rfl ?_
    show SS p e below T101 m 5 #[.val (.ref src), .val (.int (0 : Int32)), .val (.int (Int32.ofNat cs.length)), .val (.ref b101), .unset, .unset] [(.ref src)] _
    refine XS.iloadN X101.here hx rfl (hb hby d_jdk_52_method_16_5) rfl ?_
    show SS p e below T101 m 6 #[.val (.ref src), .val (.int (0 : Int32)), .val (.int (Int32.ofNat cs.length)), .val (.ref b101), .unset, .unset] [(.int (0 : Int32)), (.ref src)] _
    refine XS.aloadN X101.here hx rfl (hb hby d_jdk_52_method_16_6) rfl rfl ?_
    show SS p e below T101 m 7 #[.val (.ref src), .val (.int (0 : Int32)), .val (.int (Int32.ofNat cs.length)), .val (.ref b101), .unset, .unset] [(.ref b101), (.int (0 : Int32)), (.ref src)] _
    refine XS.iconst X101.here hx rfl (hb hby d_jdk_52_method_16_7) ?_
    show SS p e below T101 m 8 #[.val (.ref src), .val (.int (0 : Int32)), .val (.int (Int32.ofNat cs.length)), .val (.ref b101), .unset, .unset] [(.int (0 : Int32)), (.ref b101), (.int (0 : Int32)), (.ref src)] _
    refine XS.iloadN X101.here hx rfl (hb hby d_jdk_52_method_16_8) rfl ?_
    show SS p e below T101 m 9 #[.val (.ref src), .val (.int (0 : Int32)), .val (.int (Int32.ofNat cs.length)), .val (.ref b101), .unset, .unset] [(.int (Int32.ofNat cs.length)), (.int (0 : Int32)), (.ref b101), (.int (0 : Int32)), (.ref src)] _
    refine st103 _ ?_
    show SS p e below T103 m 12 #[.val (.ref src), .val (.int (0 : Int32)), .val (.int (Int32.ofNat cs.length)), .val (.ref b101), .unset, .unset] [(.int (Int32.ofNat (fl cs)))] _
    refine XS.istore X103.here hx rfl (hb hby d_jdk_52_method_16_12) rfl (l' := #[.val (.ref src), .val (.int (0 : Int32)), .val (.int (Int32.ofNat cs.length)), .val (.ref b101), .val (.int (Int32.ofNat (fl cs))), .unset]) rfl ?_
    show SS p e below T103 m 14 #[.val (.ref src), .val (.int (0 : Int32)), .val (.int (Int32.ofNat cs.length)), .val (.ref b101), .val (.int (Int32.ofNat (fl cs))), .unset] [] _
    refine XS.iload X103.here hx rfl (hb hby d_jdk_52_method_16_14) rfl ?_
    show SS p e below T103 m 16 #[.val (.ref src), .val (.int (0 : Int32)), .val (.int (Int32.ofNat cs.length)), .val (.ref b101), .val (.int (Int32.ofNat (fl cs))), .unset] [(.int (Int32.ofNat (fl cs)))] _
    refine XS.iloadN X103.here hx rfl (hb hby d_jdk_52_method_16_16) rfl ?_
    show SS p e below T103 m 17 #[.val (.ref src), .val (.int (0 : Int32)), .val (.int (Int32.ofNat cs.length)), .val (.ref b101), .val (.int (Int32.ofNat (fl cs))), .unset] [(.int (Int32.ofNat cs.length)), (.int (Int32.ofNat (fl cs)))] _
    refine XS.icmpYes X103.here hx rfl (pc0 := 17) (pc' := 57) rfl (hb hby d_jdk_52_method_16_17) rfl (teq (by rw [fl_lat hl])).1 (by decide) (by decide) ?_
    show SS p e below T103 m 57 #[.val (.ref src), .val (.int (0 : Int32)), .val (.int (Int32.ofNat cs.length)), .val (.ref b101), .val (.int (Int32.ofNat (fl cs))), .unset] [] _
    refine XS.aloadN X103.here hx rfl (hb hby d_jdk_52_method_16_57) rfl rfl ?_
    show SS p e below T103 m 58 #[.val (.ref src), .val (.int (0 : Int32)), .val (.int (Int32.ofNat cs.length)), .val (.ref b101), .val (.int (Int32.ofNat (fl cs))), .unset] [(.ref b101)] _
    exact kt
  have hR105 : Arv Z T103.heap b101 k101 .byte (Int32.ofNat (blen cs)) (enc cs) (.int (0 : Int32)) := by have q := enc_lat hl; rw [q.1, q.2.1]; rw [show cs.take (fl cs) = cs from by rw [fl_lat hl]; simp] at P103_0; exact P103_0
  obtain ⟨fs, hr, hrun, hended, hW, hsame⟩ := X103.leave (v := some (.ref b101)) (fun h => by rw [Bd.returns] at h; cases h)
  refine ⟨_, _, W104 _ (own_retR X103 hx Bd.returns rfl rfl (hb hby d_jdk_52_method_16_58) hr), hrun, hended, _, _, rfl, ?_, ⟨_, rfl⟩, hW, hsame.mono (by decide) (by decide)⟩
  show Q_compress16 Z src kc cs h0 n0 _ T103.heap _
  exact ⟨b101, k101, rfl, N103, (Keep.trans (Keep.trans (Keep.refl h0 []) K101 all0) K103 (allS (Or.inr (Nat.le_of_eq g101.symm)) all0)), (Nat.le_of_eq g101.symm), hR105⟩
def Q_sinitV (Z : State) (a : Addr) (src : Addr) (kc : ClassId) (cs : List Int32) (cS : Int32) (h0 : Heap) (n0 : Nat) (vQ_ : Option Value) (hQ_ : Heap) (LQ_ : List Loc) : Prop := ∃ t : Addr, ∃ kb : ClassId, vQ_ = none ∧ Fr n0 LQ_ ∧ Keep h0 hQ_ [a] ∧ h0.size ≤ t ∧ Str Z hQ_ a t kb cs
set_option maxRecDepth 65536 in
set_option maxHeartbeats 40000000 in
theorem rm_sinitV (l : Launch) (Z : State) (a0 : Array Value) (hw : HW a0 Z) (ws : List Jvm.Cond) (a : Addr) (src : Addr) (kc : ClassId) (cs : List Int32) (cS : Int32) (h0 : Heap) (n0 : Nat) (Z0 : n0 ≤ h0.size) (O0 : Old Z n0 h0) (S_cs : Sta Z Z.heap "java/lang/String" "COMPACT_STRINGS" "Z" (.int cS)) (hcS : ¬ (cS = (0 : Int32))) (E1 : Exa Z h0 a "java/lang/String") (F1 : Fld Z h0 a "java/lang/String" "value" "[B" .null) (F2 : Fld Z h0 a "java/lang/String" "coder" "B" (.int (0 : Int32))) (hg : n0 ≤ a) (Vs : Arv Z h0 src kc .char (Int32.ofNat cs.length) (cs.map Value.int) (.int (0 : Int32))) (ok : OkS cs) (hcap : cs.length ≤ 4) (hpos : 0 < cs.length) (hne : a ≠ src) (hl : lat cs = true) :
    MetFree l (⟨"java/lang/String", "<init>", "([CIILjava/lang/Void;)V"⟩ : MethodName) (head1 (Jvm.Cond.code (⟨"java/lang/String", "<init>", "([CIILjava/lang/Void;)V"⟩ : MethodName) jdk_42_method_149_code 6 none :: ws) ({ frames := 2, cells := 1, slots := 4, locals := 35 } : Room)) (fun aQ_ UQ => aQ_ = #[(.ref a), (.ref src), (.int (0 : Int32)), (.int (Int32.ofNat cs.length)), .null] ∧ Z.Warmed39 UQ.vm ∧ UQ.heap = h0) (fun _ _ _ _ _ => True) (fun _ UQ oQ UQ' => ∃ vQ_ LQ_, oQ = .returned vQ_ ∧ Q_sinitV Z a src kc cs cS h0 n0 vQ_ UQ'.heap LQ_ ∧ FrameEnd UQ oQ UQ' LQ_ ({ frames := 2, cells := 1, slots := 4, locals := 35 } : Room).cells ({ frames := 2, cells := 1, slots := 4, locals := 35 } : Room).slots) := by
  refine MetFree.of_bodySF (plainFor_of_name pn_java_lang_String) hisR ?_
  intro p e s m args below meth cO s₁ Bd hml0 hP hK
  obtain ⟨rfl, hZ, hh⟩ := hP
  have hx := Bd.exec
  have hby := Bd.bytes
  have hml : cO.maxLocals = 6 := hml0
  have hown : s.vm.findClass "java/lang/String" = some m.cls := findClass_of_methodNamed Bd.named
  have hnm := (name_of_methodNamed Bd.named Bd.method).1
  have X0 : Stand p l e ({ frames := 2, cells := 1, slots := 4, locals := 35 } : Room) s m #[(.ref a), (.ref src), (.int (0 : Int32)), (.int (Int32.ofNat cs.length)), .null] below meth cO s₁ [] 0 0 := Stand.of_body Bd
  have e0 : s₁.heap = h0 := by rw [← hh, Bd.state]; rfl
  have N0 := Fr.nil n0
  have W0 : ∀ zQ, SS p e below s₁ m 0 #[.val (.ref a), .val (.ref src), .val (.int (0 : Int32)), .val (.int (Int32.ofNat cs.length)), .val .null, .unset] [] zQ → Steps p.tables e below (s₁.setTop (entryFrame m #[(.ref a), (.ref src), (.int (0 : Int32)), (.int (Int32.ofNat cs.length)), .null] 6)) zQ := fun tt kt => castTop (ef_sinitV m a src (0 : Int32) (Int32.ofNat cs.length)) kt
  have hn : cs.length < 1048576 := ok.2
  obtain ⟨T101, X101, e101, st101⟩ := initO X0 hx hZ hown (w14 hw) (w15 hw) (w16 hw) e0 (g := (mkF m 1 #[.val (.ref a), .val (.ref src), .val (.int (0 : Int32)), .val (.int (Int32.ofNat cs.length)), .val .null, .unset] [(.ref a)])) rfl (by rw [hml]; rfl) rfl (hb hby d_jdk_42_method_149_1) (by decide) (W := 0) (by show 2 * 0 + _ ≤ _; exact Nat.le_of_eq rfl) (by decide)
  have F103 : Sta Z h0 "java/lang/String" "COMPACT_STRINGS" "Z" (.int cS) := S_cs.ext O0.2
  obtain ⟨T102, X102, e102, st102⟩ := getS2 X101 hx hZ hown (host := "") (Or.inl (w17 hw)) Via.refl e101 F103 (g := (mkF m 27 #[.val (.ref a), .val (.ref src), .val (.int (0 : Int32)), .val (.int (Int32.ofNat cs.length)), .val .null, .unset] [])) rfl (hb hby d_jdk_42_method_149_27)
  obtain ⟨_, _, ⟨T104, L104, k104, n104⟩, -, X104, ⟨Lc104, hQ104, l104, y104, z104⟩, st104⟩ := Jvm.LawKit.callS X102 hx (y := (⟨"java/lang/StringUTF16", "compress", "([CII)[B"⟩ : MethodName)) hown (mvT hZ (w18 hw)) (mvT hZ (w19 hw)) (mvT hZ (w20 hw)) (mvT hZ (w21 hw)) (by decide) (backOf (W := 0) (rm_compress16 l Z a0 hw [] src kc cs h0 n0 Z0 Vs ok hcap hl) hZ (w21 hw) (w20 hw) (by decide) (by decide)) (g := (mkF m 36 #[.val (.ref a), .val (.ref src), .val (.int (0 : Int32)), .val (.int (Int32.ofNat cs.length)), .val .null, .unset] [(.int (Int32.ofNat cs.length)), (.int (0 : Int32)), (.ref src)])) rfl (by rw [hml]; rfl) (argsL := [(.ref src), (.int (0 : Int32)), (.int (Int32.ofNat cs.length))]) (rest := []) (lenOf pd__28__5b_CII_29__5b_B rfl) rfl (by show 2 * 0 + _ ≤ _; exact Nat.le_of_eq rfl) (hb hby d_jdk_42_method_149_36) (fun _ _ => ⟨rfl, e102, (Nat.le_of_ble_eq_true rfl), (Nat.le_of_ble_eq_true rfl)⟩)
  dsimp only [Pt.U, Pt.locs, Pt.cells, Pt.slots] at X104 l104 y104 z104 st104 hQ104
  subst l104 y104 z104
  obtain ⟨t_105, kb_106, rfl, Nq104, K104, P104_0, P104_1⟩ := hQ104
  have N104 := Fr.app N0 Nq104
  obtain ⟨_, _, ⟨T107, L107, k107, n107⟩, -, X107, ⟨Lc107, hQ107, l107, y107, z107⟩, st107⟩ := Jvm.LawKit.callS X104 hx (y := (⟨"java/lang/StringUTF16", "coderFromArrayLen", "([BI)B"⟩ : MethodName)) hown (mvT hZ (w26 hw)) (mvT hZ (w27 hw)) (mvT hZ (w20 hw)) (mvT hZ (w28 hw)) (by decide) (backOf (W := 1) (rm_coderOf l Z a0 hw [] t_105 kb_106 (enc cs) cs T104.heap n0 (Nat.le_trans Z0 K104.1) P104_1 ok) hZ (w28 hw) (w20 hw) (by decide) (by decide)) (g := (mkF m 45 #[.val (.ref a), .val (.ref src), .val (.int (0 : Int32)), .val (.int (Int32.ofNat cs.length)), .val .null, .val (.ref t_105)] [(.int (Int32.ofNat cs.length)), (.ref t_105), (.ref a)])) rfl (by rw [hml]; rfl) (argsL := [(.ref t_105), (.int (Int32.ofNat cs.length))]) (rest := [(.ref a)]) (lenOf pd__28__5b_BI_29_B rfl) rfl (by show 2 * 0 + _ ≤ _; exact Nat.le_of_eq rfl) (hb hby d_jdk_42_method_149_45) (fun _ _ => ⟨rfl, rfl, (Nat.le_of_ble_eq_true rfl), (Nat.le_of_ble_eq_true rfl)⟩)
  dsimp only [Pt.U, Pt.locs, Pt.cells, Pt.slots] at X107 l107 y107 z107 st107 hQ107
  subst l107 y107 z107
  obtain ⟨rfl, Nq107, eq107⟩ := hQ107
  have N107 := Fr.app N104 Nq107
  have F108 : Exa Z T104.heap a "java/lang/String" := (E1.keep K104)
  have F109 : Fld Z T104.heap a "java/lang/String" "coder" "B" (.int (0 : Int32)) := (F2.keep K104 nin0)
  obtain ⟨T110, h110, X110, e110, Wr110, st110⟩ := putFN X107 hx hZ hown (w29 hw) Via.refl eq107 F109 F108 (Or.inr ⟨(w30 hw), rfl, hnm⟩) (w5 hw) (ty := .byte) (v' := (.int (cdr cs))) (by decide) (show narrow .byte (.int (cdr cs)) = .int (cdr cs) from congrArg Value.int (own_narcdr cs)) (own_fitcdr cs) (g := (mkF m 48 #[.val (.ref a), .val (.ref src), .val (.int (0 : Int32)), .val (.int (Int32.ofNat cs.length)), .val .null, .val (.ref t_105)] [(.int (cdr cs)), (.ref a)])) rfl rfl (hb hby d_jdk_42_method_149_48)
  have K110 := Keep.of_wr Wr110
  have G110 := F109.same Wr110
  have N110 := Fr.snoc X110 N107 hg
  have F111 : Exa Z h110 a "java/lang/String" := (F108.keep K110)
  have F112 : Fld Z h110 a "java/lang/String" "value" "[B" .null := (Fld.other Wr110 (F1.keep K104 nin0) (Or.inr (slot_ne (Or.inr (w32 hw)) (Or.inr (w30 hw)) (by decide) (t := (.array .byte)) (t' := .byte) (by decide) (by decide))))
  obtain ⟨T113, h113, X113, e113, Wr113, st113⟩ := putF X110 hx hZ hown (host := "") (Or.inl (w31 hw)) Via.refl e110 F112 F111 (Or.inr ⟨(w32 hw), rfl, hnm⟩) (w5 hw) (ty := (.array .byte)) (by decide) rfl rfl (g := (mkF m 54 #[.val (.ref a), .val (.ref src), .val (.int (0 : Int32)), .val (.int (Int32.ofNat cs.length)), .val .null, .val (.ref t_105)] [(.ref t_105), (.ref a)])) rfl rfl (hb hby d_jdk_42_method_149_54)
  have K113 := Keep.of_wr Wr113
  have G113 := F112.same Wr113
  have N113 := Fr.snoc X113 N110 hg
  have W114 : ∀ zQ, SS p e below T113 m 57 #[.val (.ref a), .val (.ref src), .val (.int (0 : Int32)), .val (.int (Int32.ofNat cs.length)), .val .null, .val (.ref t_105)] [] zQ → Steps p.tables e below (s₁.setTop (entryFrame m #[(.ref a), (.ref src), (.int (0 : Int32)), (.int (Int32.ofNat cs.length)), .null] 6)) zQ := by
    intro tt kt
    refine W0 tt ?_
    refine XS.aloadN X0.here hx rfl (hb hby d_jdk_42_method_149_0) rfl rfl ?_
    show SS p e below s₁ m 1 #[.val (.ref a), .val (.ref src), .val (.int (0 : Int32)), .val (.int (Int32.ofNat cs.length)), .val .null, .unset] [(.ref a)] _
    refine st101 _ ?_
    show SS p e below T101 m 4 #[.val (.ref a), .val (.ref src), .val (.int (0 : Int32)), .val (.int (Int32.ofNat cs.length)), .val .null, .unset] [] _
    refine XS.iloadN X101.here hx rfl (hb hby d_jdk_42_method_149_4) rfl ?_
    show SS p e below T101 m 5 #[.val (.ref a), .val (.ref src), .val (.int (0 : Int32)), .val (.int (Int32.ofNat cs.length)), .val .null, .unset] [(.int (Int32.ofNat cs.length))] _
    refine XS.ifYes X101.here hx rfl (pc0 := 5) (pc' := 27) rfl (hb hby d_jdk_42_method_149_5) rfl ((if0 _ _).trans (feq (fun q => by have := congrArg Int32.toInt q; rw [own_i (by omega)] at this; have z : (0 : Int32).toInt = 0 := rfl; omega)).2) (by decide) (by decide) ?_
    show SS p e below T101 m 27 #[.val (.ref a), .val (.ref src), .val (.int (0 : Int32)), .val (.int (Int32.ofNat cs.length)), .val .null, .unset] [] _
    refine st102 _ ?_
    show SS p e below T102 m 30 #[.val (.ref a), .val (.ref src), .val (.int (0 : Int32)), .val (.int (Int32.ofNat cs.length)), .val .null, .unset] [(.int cS)] _
    refine XS.ifNo X102.here hx rfl (hb hby d_jdk_42_method_149_30) rfl ((if0 _ _).trans (feq hcS).1) ?_
    show SS p e below T102 m 33 #[.val (.ref a), .val (.ref src), .val (.int (0 : Int32)), .val (.int (Int32.ofNat cs.length)), .val .null, .unset] [] _
    refine XS.aloadN X102.here hx rfl (hb hby d_jdk_42_method_149_33) rfl rfl ?_
    show SS p e below T102 m 34 #[.val (.ref a), .val (.ref src), .val (.int (0 : Int32)), .val (.int (Int32.ofNat cs.length)), .val .null, .unset] [(.ref src)] _
    refine XS.iloadN X102.here hx rfl (hb hby d_jdk_42_method_149_34) rfl ?_
    show SS p e below T102 m 35 #[.val (.ref a), .val (.ref src), .val (.int (0 : Int32)), .val (.int (Int32.ofNat cs.length)), .val .null, .unset] [(.int (0 : Int32)), (.ref src)] _
    refine XS.iloadN X102.here hx rfl (hb hby d_jdk_42_method_149_35) rfl ?_
    show SS p e below T102 m 36 #[.val (.ref a), .val (.ref src), .val (.int (0 : Int32)), .val (.int (Int32.ofNat cs.length)), .val .null, .unset] [(.int (Int32.ofNat cs.length)), (.int (0 : Int32)), (.ref src)] _
    refine st104 _ ?_
    show SS p e below T104 m 39 #[.val (.ref a), .val (.ref src), .val (.int (0 : Int32)), .val (.int (Int32.ofNat cs.length)), .val .null, .unset] [(.ref t_105)] _
    refine XS.astore X104.here hx rfl (hb hby d_jdk_42_method_149_39) rfl rfl (l' := #[.val (.ref a), .val (.ref src), .val (.int (0 : Int32)), .val (.int (Int32.ofNat cs.length)), .val .null, .val (.ref t_105)]) rfl ?_
    show SS p e below T104 m 41 #[.val (.ref a), .val (.ref src), .val (.int (0 : Int32)), .val (.int (Int32.ofNat cs.length)), .val .null, .val (.ref t_105)] [] _
    refine XS.aloadN X104.here hx rfl (hb hby d_jdk_42_method_149_41) rfl rfl ?_
    show SS p e below T104 m 42 #[.val (.ref a), .val (.ref src), .val (.int (0 : Int32)), .val (.int (Int32.ofNat cs.length)), .val .null, .val (.ref t_105)] [(.ref a)] _
    refine XS.aload X104.here hx rfl (hb hby d_jdk_42_method_149_42) rfl rfl ?_
    show SS p e below T104 m 44 #[.val (.ref a), .val (.ref src), .val (.int (0 : Int32)), .val (.int (Int32.ofNat cs.length)), .val .null, .val (.ref t_105)] [(.ref t_105), (.ref a)] _
    refine XS.iloadN X104.here hx rfl (hb hby d_jdk_42_method_149_44) rfl ?_
    show SS p e below T104 m 45 #[.val (.ref a), .val (.ref src), .val (.int (0 : Int32)), .val (.int (Int32.ofNat cs.length)), .val .null, .val (.ref t_105)] [(.int (Int32.ofNat cs.length)), (.ref t_105), (.ref a)] _
    refine st107 _ ?_
    show SS p e below T107 m 48 #[.val (.ref a), .val (.ref src), .val (.int (0 : Int32)), .val (.int (Int32.ofNat cs.length)), .val .null, .val (.ref t_105)] [(.int (cdr cs)), (.ref a)] _
    refine st110 _ ?_
    show SS p e below T110 m 51 #[.val (.ref a), .val (.ref src), .val (.int (0 : Int32)), .val (.int (Int32.ofNat cs.length)), .val .null, .val (.ref t_105)] [] _
    refine XS.aloadN X110.here hx rfl (hb hby d_jdk_42_method_149_51) rfl rfl ?_
    show SS p e below T110 m 52 #[.val (.ref a), .val (.ref src), .val (.int (0 : Int32)), .val (.int (Int32.ofNat cs.length)), .val .null, .val (.ref t_105)] [(.ref a)] _
    refine XS.aload X110.here hx rfl (hb hby d_jdk_42_method_149_52) rfl rfl ?_
    show SS p e below T110 m 54 #[.val (.ref a), .val (.ref src), .val (.int (0 : Int32)), .val (.int (Int32.ofNat cs.length)), .val .null, .val (.ref t_105)] [(.ref t_105), (.ref a)] _
    refine st113 _ ?_
    show SS p e below T113 m 57 #[.val (.ref a), .val (.ref src), .val (.int (0 : Int32)), .val (.int (Int32.ofNat cs.length)), .val .null, .val (.ref t_105)] [] _
    exact kt
  have F115 : Exa Z h113 a "java/lang/String" := (F111.keep K113)
  have F116 : Fld Z h113 a "java/lang/String" "coder" "B" (.int (cdr cs)) := (Fld.other Wr113 G110 (Or.inr (slot_ne (Or.inr (w30 hw)) (Or.inr (w32 hw)) (by decide) (t := .byte) (t' := (.array .byte)) (by decide) (by decide))))
  have F117 : Arv Z h113 t_105 kb_106 .byte (Int32.ofNat (blen cs)) (enc cs) (.int (0 : Int32)) := ((P104_1.keep K110 (ninS (Ne.symm (Nat.ne_of_lt (Nat.lt_of_lt_of_le E1.lt P104_0))) nin0)).keep K113 (ninS (Ne.symm (Nat.ne_of_lt (Nat.lt_of_lt_of_le E1.lt P104_0))) nin0))
  obtain ⟨fs, hr, hrun, hended, hW, hsame⟩ := X113.leave (v := none) (fun _ => rfl)
  refine ⟨_, _, W114 _ (X113.returnOut hx Bd.returns (hb hby d_jdk_42_method_149_57) hr), hrun, hended, _, _, rfl, ?_, ⟨_, rfl⟩, hW, hsame.mono (by decide) (by decide)⟩
  show Q_sinitV Z a src kc cs cS h0 n0 _ T113.heap _
  rw [e113]
  exact ⟨t_105, kb_106, rfl, N113, (Keep.trans (Keep.trans (Keep.trans (Keep.refl h0 [a]) K104 all0) K110 (allS (Or.inl (List.mem_of_getElem? (i := 0) rfl)) all0)) K113 (allS (Or.inl (List.mem_of_getElem? (i := 0) rfl)) all0)), P104_0, ⟨F115, G113, F116, F117, ok⟩⟩
def Q_sinit (Z : State) (a : Addr) (src : Addr) (kc : ClassId) (cs : List Int32) (cS : Int32) (h0 : Heap) (n0 : Nat) (vQ_ : Option Value) (hQ_ : Heap) (LQ_ : List Loc) : Prop := ∃ t : Addr, ∃ kb : ClassId, vQ_ = none ∧ Fr n0 LQ_ ∧ Keep h0 hQ_ [a] ∧ h0.size ≤ t ∧ Str Z hQ_ a t kb cs
set_option maxRecDepth 65536 in
set_option maxHeartbeats 40000000 in
theorem rm_sinit (l : Launch) (Z : State) (a0 : Array Value) (hw : HW a0 Z) (ws : List Jvm.Cond) (a : Addr) (src : Addr) (kc : ClassId) (cs : List Int32) (cS : Int32) (h0 : Heap) (n0 : Nat) (Z0 : n0 ≤ h0.size) (O0 : Old Z n0 h0) (S_cs : Sta Z Z.heap "java/lang/String" "COMPACT_STRINGS" "Z" (.int cS)) (hcS : ¬ (cS = (0 : Int32))) (E1 : Exa Z h0 a "java/lang/String") (F1 : Fld Z h0 a "java/lang/String" "value" "[B" .null) (F2 : Fld Z h0 a "java/lang/String" "coder" "B" (.int (0 : Int32))) (hg : n0 ≤ a) (Vs : Arv Z h0 src kc .char (Int32.ofNat cs.length) (cs.map Value.int) (.int (0 : Int32))) (ok : OkS cs) (hcap : cs.length ≤ 4) (hpos : 0 < cs.length) (hne : a ≠ src) (hl : lat cs = true) :
    MetFree l (⟨"java/lang/String", "<init>", "([C)V"⟩ : MethodName) (head1 (Jvm.Cond.code (⟨"java/lang/String", "<init>", "([C)V"⟩ : MethodName) jdk_42_method_3_code 2 none :: ws) ({ frames := 3, cells := 1, slots := 4, locals := 52 } : Room)) (fun aQ_ UQ => aQ_ = #[(.ref a), (.ref src)] ∧ Z.Warmed39 UQ.vm ∧ UQ.heap = h0) (fun _ _ _ _ _ => True) (fun _ UQ oQ UQ' => ∃ vQ_ LQ_, oQ = .returned vQ_ ∧ Q_sinit Z a src kc cs cS h0 n0 vQ_ UQ'.heap LQ_ ∧ FrameEnd UQ oQ UQ' LQ_ ({ frames := 3, cells := 1, slots := 4, locals := 52 } : Room).cells ({ frames := 3, cells := 1, slots := 4, locals := 52 } : Room).slots) := by
  refine MetFree.of_bodySF (plainFor_of_name pn_java_lang_String) hisR ?_
  intro p e s m args below meth cO s₁ Bd hml0 hP hK
  obtain ⟨rfl, hZ, hh⟩ := hP
  have hx := Bd.exec
  have hby := Bd.bytes
  have hml : cO.maxLocals = 2 := hml0
  have hown : s.vm.findClass "java/lang/String" = some m.cls := findClass_of_methodNamed Bd.named
  have hnm := (name_of_methodNamed Bd.named Bd.method).1
  have X0 : Stand p l e ({ frames := 3, cells := 1, slots := 4, locals := 52 } : Room) s m #[(.ref a), (.ref src)] below meth cO s₁ [] 0 0 := Stand.of_body Bd
  have e0 : s₁.heap = h0 := by rw [← hh, Bd.state]; rfl
  have N0 := Fr.nil n0
  have W0 : ∀ zQ, SS p e below s₁ m 0 #[.val (.ref a), .val (.ref src)] [] zQ → Steps p.tables e below (s₁.setTop (entryFrame m #[(.ref a), (.ref src)] 2)) zQ := fun tt kt => castTop (ef_sinit m a src) kt
  obtain ⟨cl101, Ar101, -, S101, M101, -, -⟩ := id Vs
  obtain ⟨_, _, ⟨T102, L102, k102, n102⟩, -, X102, ⟨Lc102, hQ102, l102, y102, z102⟩, st102⟩ := X0.specialBack hx (y := (⟨"java/lang/String", "<init>", "([CIILjava/lang/Void;)V"⟩ : MethodName)) rfl hown (mvT hZ (w10 hw)) (mvT hZ (w11 hw)) (mvT hZ (w13 hw)) (by decide) (backOf (W := 0) (rm_sinitV l Z a0 hw [] a src kc cs cS h0 n0 Z0 O0 S_cs hcS E1 F1 F2 hg Vs ok hcap hpos hne hl) hZ (w13 hw) (w6 hw) (by decide) (by decide)) (g := (mkF m 6 #[.val (.ref a), .val (.ref src)] [.null, (.int (Int32.ofNat cs.length)), (.int (0 : Int32)), (.ref src), (.ref a)])) rfl (by rw [hml]; rfl) (Steps.refl _) (a := a) (argsL := [(.ref src), (.int (0 : Int32)), (.int (Int32.ofNat cs.length)), .null]) (rest := []) (lenOf pd__28__5b_CIILjava_2f_lang_2f_Void_3b__29_V rfl) rfl (by show 2 * 0 + _ ≤ _; exact Nat.le_of_eq rfl) (hb hby d_jdk_42_method_3_6) (fun _ _ => ⟨rfl, e0, (Nat.le_of_ble_eq_true rfl), (Nat.le_of_ble_eq_true rfl)⟩)
  dsimp only [Pt.U, Pt.locs, Pt.cells, Pt.slots] at X102 l102 y102 z102 st102 hQ102
  subst l102 y102 z102
  obtain ⟨t_103, kb_104, rfl, Nq102, K102, P102_0, P102_1⟩ := hQ102
  have N102 := Fr.app N0 Nq102
  have W105 : ∀ zQ, SS p e below T102 m 9 #[.val (.ref a), .val (.ref src)] [] zQ → Steps p.tables e below (s₁.setTop (entryFrame m #[(.ref a), (.ref src)] 2)) zQ := by
    intro tt kt
    refine W0 tt ?_
    refine XS.aloadN X0.here hx rfl (hb hby d_jdk_42_method_3_0) rfl rfl ?_
    show SS p e below s₁ m 1 #[.val (.ref a), .val (.ref src)] [(.ref a)] _
    refine XS.aloadN X0.here hx rfl (hb hby d_jdk_42_method_3_1) rfl rfl ?_
    show SS p e below s₁ m 2 #[.val (.ref a), .val (.ref src)] [(.ref src), (.ref a)] _
    refine XS.iconst X0.here hx rfl (hb hby d_jdk_42_method_3_2) ?_
    show SS p e below s₁ m 3 #[.val (.ref a), .val (.ref src)] [(.int (0 : Int32)), (.ref src), (.ref a)] _
    refine XS.aloadN X0.here hx rfl (hb hby d_jdk_42_method_3_3) rfl rfl ?_
    show SS p e below s₁ m 4 #[.val (.ref a), .val (.ref src)] [(.ref src), (.int (0 : Int32)), (.ref src), (.ref a)] _
    refine X0.arraylength hx (by first | exact Ar101.1 | (rw [e0]; exact Ar101.1)) (State.isArrayOf_alike hZ.alike Ar101.2.1) (g := (mkF m 4 #[.val (.ref a), .val (.ref src)] [(.ref src), (.int (0 : Int32)), (.ref src), (.ref a)])) rfl rfl (hb hby d_jdk_42_method_3_4) _ ?_
    rw [len_of S101 M101]
    show SS p e below s₁ m 5 #[.val (.ref a), .val (.ref src)] [(.int (Int32.ofNat cs.length)), (.int (0 : Int32)), (.ref src), (.ref a)] _
    refine XS.aconstNull X0.here hx rfl (hb hby d_jdk_42_method_3_5) ?_
    show SS p e below s₁ m 6 #[.val (.ref a), .val (.ref src)] [.null, (.int (Int32.ofNat cs.length)), (.int (0 : Int32)), (.ref src), (.ref a)] _
    refine st102.trans ?_
    show SS p e below T102 m 9 #[.val (.ref a), .val (.ref src)] [] _
    exact kt
  obtain ⟨fs, hr, hrun, hended, hW, hsame⟩ := X102.leave (v := none) (fun _ => rfl)
  refine ⟨_, _, W105 _ (X102.returnOut hx Bd.returns (hb hby d_jdk_42_method_3_9) hr), hrun, hended, _, _, rfl, ?_, ⟨_, rfl⟩, hW, hsame.mono (by decide) (by decide)⟩
  show Q_sinit Z a src kc cs cS h0 n0 _ T102.heap _
  exact ⟨t_103, kb_104, rfl, N102, (Keep.trans (Keep.refl h0 [a]) K102 (allS (Or.inl (List.mem_of_getElem? (i := 0) rfl)) all0)), P102_0, P102_1⟩
def Q_tinit (Z : State) (a : Addr) (mv_ : Addr) (uv : Value) (sv : Value) (h0 : Heap) (n0 : Nat) (vQ_ : Option Value) (hQ_ : Heap) (LQ_ : List Loc) : Prop := vQ_ = none ∧ Fr n0 LQ_ ∧ Keep h0 hQ_ [a] ∧ Exa Z hQ_ a "axiomend/ontology/OntologyReadException" ∧ Unt hQ_ a
set_option maxRecDepth 65536 in
set_option maxHeartbeats 40000000 in
theorem rm_tinit (l : Launch) (Z : State) (a0 : Array Value) (hw : HW a0 Z) (ws : List Jvm.Cond) (a : Addr) (mv_ : Addr) (uv : Value) (sv : Value) (h0 : Heap) (n0 : Nat) (Z0 : n0 ≤ h0.size) (O0 : Old Z n0 h0) (hst : l.stackTraces = true) (S_un : Sta Z Z.heap "java/lang/Throwable" "UNASSIGNED_STACK" "[Ljava/lang/StackTraceElement;" uv) (huv : uv.isRef = true) (S_se : Sta Z Z.heap "java/lang/Throwable" "SUPPRESSED_SENTINEL" "Ljava/util/List;" sv) (hsv : sv.isRef = true) (E1 : Exa Z h0 a "axiomend/ontology/OntologyReadException") (U1 : Unt h0 a) (F1 : Fld Z h0 a "java/lang/Throwable" "backtrace" "Ljava/lang/Object;" .null) (F2 : Fld Z h0 a "java/lang/Throwable" "detailMessage" "Ljava/lang/String;" .null) (F5 : Fld Z h0 a "java/lang/Throwable" "cause" "Ljava/lang/Throwable;" .null) (F6 : Fld Z h0 a "java/lang/Throwable" "stackTrace" "[Ljava/lang/StackTraceElement;" .null) (F7 : Fld Z h0 a "java/lang/Throwable" "suppressedExceptions" "Ljava/util/List;" .null) (g1 : n0 ≤ a) :
    MetFree l (⟨"java/lang/Throwable", "<init>", "(Ljava/lang/String;)V"⟩ : MethodName) (head1 (Jvm.Cond.code (⟨"java/lang/Throwable", "<init>", "(Ljava/lang/String;)V"⟩ : MethodName) jdk_78_method_2_code 2 none :: ws) ({ frames := 3, cells := 1, slots := 2752, locals := 42 } : Room)) (fun aQ_ UQ => aQ_ = #[(.ref a), (.ref mv_)] ∧ Z.Warmed39 UQ.vm ∧ UQ.heap = h0) (fun _ _ bl s _ => s.vm.MethodsKnown ∧ s.vm.FramesKnown bl) (fun _ UQ oQ UQ' => ∃ vQ_ LQ_, oQ = .returned vQ_ ∧ Q_tinit Z a mv_ uv sv h0 n0 vQ_ UQ'.heap LQ_ ∧ FrameEnd UQ oQ UQ' LQ_ ({ frames := 3, cells := 1, slots := 2752, locals := 42 } : Room).cells ({ frames := 3, cells := 1, slots := 2752, locals := 42 } : Room).slots) := by
  refine MetFree.of_bodySF (plainFor_of_name pn_java_lang_Throwable) hisR ?_
  intro p e s m args below meth cO s₁ Bd hml0 hP hK
  obtain ⟨rfl, hZ, hh⟩ := hP
  have hx := Bd.exec
  have hby := Bd.bytes
  have hml : cO.maxLocals = 2 := hml0
  have hown : s.vm.findClass "java/lang/Throwable" = some m.cls := findClass_of_methodNamed Bd.named
  have hnm := (name_of_methodNamed Bd.named Bd.method).1
  have X0 : Stand p l e ({ frames := 3, cells := 1, slots := 2752, locals := 42 } : Room) s m #[(.ref a), (.ref mv_)] below meth cO s₁ [] 0 0 := Stand.of_body Bd
  have e0 : s₁.heap = h0 := by rw [← hh, Bd.state]; rfl
  have N0 := Fr.nil n0
  obtain ⟨hTK, hBelow⟩ := hK
  have W0 : ∀ zQ, SS p e below s₁ m 0 #[.val (.ref a), .val (.ref mv_)] [] zQ → Steps p.tables e below (s₁.setTop (entryFrame m #[(.ref a), (.ref mv_)] 2)) zQ := fun tt kt => castTop (ef_tinit m a mv_) kt
  obtain ⟨T101, X101, e101, st101⟩ := initO X0 hx hZ hown (w50 hw) (w15 hw) (w16 hw) e0 (g := (mkF m 1 #[.val (.ref a), .val (.ref mv_)] [(.ref a)])) rfl (by rw [hml]; rfl) rfl (hb hby d_jdk_78_method_2_1) (by decide) (W := 0) (by show 2 * 0 + _ ≤ _; exact Nat.le_of_eq rfl) (by decide)
  obtain ⟨T102, h102, X102, e102, Wr102, st102⟩ := putF X101 hx hZ hown (host := "") (Or.inl (w51 hw)) Via.refl e101 F5 E1 (Or.inl (w52 hw)) (w34 hw) (ty := (.object "java/lang/Throwable")) (by decide) rfl rfl (g := (mkF m 6 #[.val (.ref a), .val (.ref mv_)] [(.ref a), (.ref a)])) rfl rfl (hb hby d_jdk_78_method_2_6)
  have K102 := Keep.of_wr Wr102
  have G102 := F5.same Wr102
  have N102 := Fr.snoc X102 N0 g1
  have O104 : Old Z n0 h102 := (O0.keep K102 (allS g1 all0))
  have F105 : Sta Z h102 "java/lang/Throwable" "UNASSIGNED_STACK" "[Ljava/lang/StackTraceElement;" uv := S_un.ext O104.2
  obtain ⟨T103, X103, e103, st103⟩ := getS2 X102 hx hZ hown (host := "") (Or.inl (w53 hw)) Via.refl e102 F105 (g := (mkF m 10 #[.val (.ref a), .val (.ref mv_)] [(.ref a)])) rfl (hb hby d_jdk_78_method_2_10)
  have F106 : Exa Z h102 a "axiomend/ontology/OntologyReadException" := (E1.keep K102)
  have F107 : Fld Z h102 a "java/lang/Throwable" "stackTrace" "[Ljava/lang/StackTraceElement;" .null := (Fld.other Wr102 F6 (Or.inr (slot_ne (Or.inl (w55 hw)) (Or.inl (w52 hw)) (by decide) (t := (.array (.object "java/lang/StackTraceElement"))) (t' := (.object "java/lang/Throwable")) (by decide) (by decide))))
  obtain ⟨T108, h108, X108, e108, Wr108, st108⟩ := putF X103 hx hZ hown (host := "") (Or.inl (w54 hw)) Via.refl e103 F107 F106 (Or.inl (w55 hw)) (w34 hw) (ty := (.array (.object "java/lang/StackTraceElement"))) (by decide) (own_narR huv) (own_fitR huv) (g := (mkF m 13 #[.val (.ref a), .val (.ref mv_)] [uv, (.ref a)])) rfl rfl (hb hby d_jdk_78_method_2_13)
  have K108 := Keep.of_wr Wr108
  have G108 := F107.same Wr108
  have N108 := Fr.snoc X108 N102 g1
  have O110 : Old Z n0 h108 := (O104.keep K108 (allS g1 all0))
  have F111 : Sta Z h108 "java/lang/Throwable" "SUPPRESSED_SENTINEL" "Ljava/util/List;" sv := S_se.ext O110.2
  obtain ⟨T109, X109, e109, st109⟩ := getS2 X108 hx hZ hown (host := "") (Or.inl (w56 hw)) Via.refl e108 F111 (g := (mkF m 17 #[.val (.ref a), .val (.ref mv_)] [(.ref a)])) rfl (hb hby d_jdk_78_method_2_17)
  have F112 : Exa Z h108 a "axiomend/ontology/OntologyReadException" := (F106.keep K108)
  have F113 : Fld Z h108 a "java/lang/Throwable" "suppressedExceptions" "Ljava/util/List;" .null := (Fld.other Wr108 (Fld.other Wr102 F7 (Or.inr (slot_ne (Or.inl (w58 hw)) (Or.inl (w52 hw)) (by decide) (t := (.object "java/util/List")) (t' := (.object "java/lang/Throwable")) (by decide) (by decide)))) (Or.inr (slot_ne (Or.inl (w58 hw)) (Or.inl (w55 hw)) (by decide) (t := (.object "java/util/List")) (t' := (.array (.object "java/lang/StackTraceElement"))) (by decide) (by decide))))
  obtain ⟨T114, h114, X114, e114, Wr114, st114⟩ := putF X109 hx hZ hown (host := "") (Or.inl (w57 hw)) Via.refl e109 F113 F112 (Or.inl (w58 hw)) (w34 hw) (ty := (.object "java/util/List")) (by decide) (own_narR hsv) (own_fitR hsv) (g := (mkF m 20 #[.val (.ref a), .val (.ref mv_)] [sv, (.ref a)])) rfl rfl (hb hby d_jdk_78_method_2_20)
  have K114 := Keep.of_wr Wr114
  have G114 := F113.same Wr114
  have N114 := Fr.snoc X114 N108 g1
  have F116 : Exa Z h114 a "axiomend/ontology/OntologyReadException" := (F112.keep K114)
  have F117 : Unt h114 a := (Unt.wr Wr114 (Unt.wr Wr108 (Unt.wr Wr102 U1)))
  have F118 : Fld Z h114 a "java/lang/Throwable" "backtrace" "Ljava/lang/Object;" .null := (Fld.other Wr114 (Fld.other Wr108 (Fld.other Wr102 F1 (Or.inr (slot_ne (Or.inl (w83 hw)) (Or.inl (w52 hw)) (by decide) (t := (.object "java/lang/Object")) (t' := (.object "java/lang/Throwable")) (by decide) (by decide)))) (Or.inr (slot_ne (Or.inl (w83 hw)) (Or.inl (w55 hw)) (by decide) (t := (.object "java/lang/Object")) (t' := (.array (.object "java/lang/StackTraceElement"))) (by decide) (by decide)))) (Or.inr (slot_ne (Or.inl (w83 hw)) (Or.inl (w58 hw)) (by decide) (t := (.object "java/lang/Object")) (t' := (.object "java/util/List")) (by decide) (by decide))))
  have F119 : Fld Z h114 a "java/lang/Throwable" "stackTrace" "[Ljava/lang/StackTraceElement;" uv := (Fld.other Wr114 G108 (Or.inr (slot_ne (Or.inl (w55 hw)) (Or.inl (w58 hw)) (by decide) (t := (.array (.object "java/lang/StackTraceElement"))) (t' := (.object "java/util/List")) (by decide) (by decide))))
  have O120 : Old Z n0 h114 := (O110.keep K114 (allS g1 all0))
  have F121 : Sta Z h114 "java/lang/Throwable" "UNASSIGNED_STACK" "[Ljava/lang/StackTraceElement;" uv := S_un.ext O120.2
  obtain ⟨T115, h115, L115, X115, e115, hb115, Kp115, st115⟩ := own_fillT X114 hx hst hZ hown (own_fxw hw) (w34 hw) (by rw [hh]; exact ThS.ext O0.2 ThS.start) hTK hBelow e114 (by intro x hq; simp only [List.mem_append, List.mem_singleton, List.not_mem_nil, false_or, or_false] at hq; rcases hq with (hq | hq) | hq <;> (subst hq; rfl)) huv F116 F117 F118 F119 F121 (g := (mkF m 24 #[.val (.ref a), .val (.ref mv_)] [(.ref a)])) rfl (by rw [hml]; rfl) rfl (hb hby d_jdk_78_method_2_24) (by decide) (W := 0) (by show 2 * 0 + _ ≤ _; exact Nat.le_of_eq rfl) (by decide) (by decide) (by decide)
  have K115 := own_kpk Kp115
  have N115 := Fr.app N114 (fun x q => by rw [hb115 x q]; exact g1)
  have J122 := Exa.kp Kp115 F116
  have J123 := Unt.kp Kp115 F117
  obtain ⟨vlf124, Flf124⟩ := fld_laid (O := "java/lang/Throwable") (n := "detailMessage") (d := "Ljava/lang/String;") J122 (Unt.known J123) (w34 hw) (Or.inl (w82 hw))
  obtain ⟨T125, h125, X125, e125, Wr125, st125⟩ := putF X115 hx hZ hown (host := "") (Or.inl (w86 hw)) Via.refl e115 Flf124 J122 (Or.inl (w82 hw)) (w34 hw) (ty := (.object "java/lang/String")) (by decide) rfl rfl (g := (mkF m 30 #[.val (.ref a), .val (.ref mv_)] [(.ref mv_), (.ref a)])) rfl rfl (hb hby d_jdk_78_method_2_30)
  have K125 := Keep.of_wr Wr125
  have G125 := Flf124.same Wr125
  have N125 := Fr.snoc X125 N115 g1
  have W126 : ∀ zQ, SS p e below T125 m 33 #[.val (.ref a), .val (.ref mv_)] [] zQ → Steps p.tables e below (s₁.setTop (entryFrame m #[(.ref a), (.ref mv_)] 2)) zQ := by
    intro tt kt
    refine W0 tt ?_
    refine XS.aloadN X0.here hx rfl (hb hby d_jdk_78_method_2_0) rfl rfl ?_
    show SS p e below s₁ m 1 #[.val (.ref a), .val (.ref mv_)] [(.ref a)] _
    refine st101 _ ?_
    show SS p e below T101 m 4 #[.val (.ref a), .val (.ref mv_)] [] _
    refine XS.aloadN X101.here hx rfl (hb hby d_jdk_78_method_2_4) rfl rfl ?_
    show SS p e below T101 m 5 #[.val (.ref a), .val (.ref mv_)] [(.ref a)] _
    refine XS.aloadN X101.here hx rfl (hb hby d_jdk_78_method_2_5) rfl rfl ?_
    show SS p e below T101 m 6 #[.val (.ref a), .val (.ref mv_)] [(.ref a), (.ref a)] _
    refine st102 _ ?_
    show SS p e below T102 m 9 #[.val (.ref a), .val (.ref mv_)] [] _
    refine XS.aloadN X102.here hx rfl (hb hby d_jdk_78_method_2_9) rfl rfl ?_
    show SS p e below T102 m 10 #[.val (.ref a), .val (.ref mv_)] [(.ref a)] _
    refine st103 _ ?_
    show SS p e below T103 m 13 #[.val (.ref a), .val (.ref mv_)] [uv, (.ref a)] _
    refine st108 _ ?_
    show SS p e below T108 m 16 #[.val (.ref a), .val (.ref mv_)] [] _
    refine XS.aloadN X108.here hx rfl (hb hby d_jdk_78_method_2_16) rfl rfl ?_
    show SS p e below T108 m 17 #[.val (.ref a), .val (.ref mv_)] [(.ref a)] _
    refine st109 _ ?_
    show SS p e below T109 m 20 #[.val (.ref a), .val (.ref mv_)] [sv, (.ref a)] _
    refine st114 _ ?_
    show SS p e below T114 m 23 #[.val (.ref a), .val (.ref mv_)] [] _
    refine XS.aloadN X114.here hx rfl (hb hby d_jdk_78_method_2_23) rfl rfl ?_
    show SS p e below T114 m 24 #[.val (.ref a), .val (.ref mv_)] [(.ref a)] _
    refine st115 _ ?_
    show SS p e below T115 m 27 #[.val (.ref a), .val (.ref mv_)] [(.ref a)] _
    refine XS.pop X115.here hx rfl (hb hby d_jdk_78_method_2_27) rfl rfl ?_
    show SS p e below T115 m 28 #[.val (.ref a), .val (.ref mv_)] [] _
    refine XS.aloadN X115.here hx rfl (hb hby d_jdk_78_method_2_28) rfl rfl ?_
    show SS p e below T115 m 29 #[.val (.ref a), .val (.ref mv_)] [(.ref a)] _
    refine XS.aloadN X115.here hx rfl (hb hby d_jdk_78_method_2_29) rfl rfl ?_
    show SS p e below T115 m 30 #[.val (.ref a), .val (.ref mv_)] [(.ref mv_), (.ref a)] _
    refine st125 _ ?_
    show SS p e below T125 m 33 #[.val (.ref a), .val (.ref mv_)] [] _
    exact kt
  have F127 : Exa Z h125 a "axiomend/ontology/OntologyReadException" := (J122.keep K125)
  have F128 : Unt h125 a := (Unt.wr Wr125 J123)
  obtain ⟨fs, hr, hrun, hended, hW, hsame⟩ := X125.leave (v := none) (fun _ => rfl)
  refine ⟨_, _, W126 _ (X125.returnOut hx Bd.returns (hb hby d_jdk_78_method_2_33) hr), hrun, hended, _, _, rfl, ?_, ⟨_, rfl⟩, hW, hsame.mono (by decide) (by decide)⟩
  show Q_tinit Z a mv_ uv sv h0 n0 _ T125.heap _
  rw [e125]
  exact ⟨rfl, N125, (Keep.trans (Keep.trans (Keep.trans (Keep.trans (Keep.trans (Keep.refl h0 [a]) K102 (allS (Or.inl (List.mem_of_getElem? (i := 0) rfl)) all0)) K108 (allS (Or.inl (List.mem_of_getElem? (i := 0) rfl)) all0)) K114 (allS (Or.inl (List.mem_of_getElem? (i := 0) rfl)) all0)) K115 (allS (Or.inl (List.mem_of_getElem? (i := 0) rfl)) all0)) K125 (allS (Or.inl (List.mem_of_getElem? (i := 0) rfl)) all0)), F127, F128⟩
def Q_einit (Z : State) (a : Addr) (mv_ : Addr) (uv : Value) (sv : Value) (h0 : Heap) (n0 : Nat) (vQ_ : Option Value) (hQ_ : Heap) (LQ_ : List Loc) : Prop := vQ_ = none ∧ Fr n0 LQ_ ∧ Keep h0 hQ_ [a] ∧ Exa Z hQ_ a "axiomend/ontology/OntologyReadException" ∧ Unt hQ_ a
set_option maxRecDepth 65536 in
set_option maxHeartbeats 40000000 in
theorem rm_einit (l : Launch) (Z : State) (a0 : Array Value) (hw : HW a0 Z) (ws : List Jvm.Cond) (a : Addr) (mv_ : Addr) (uv : Value) (sv : Value) (h0 : Heap) (n0 : Nat) (Z0 : n0 ≤ h0.size) (O0 : Old Z n0 h0) (hst : l.stackTraces = true) (S_un : Sta Z Z.heap "java/lang/Throwable" "UNASSIGNED_STACK" "[Ljava/lang/StackTraceElement;" uv) (huv : uv.isRef = true) (S_se : Sta Z Z.heap "java/lang/Throwable" "SUPPRESSED_SENTINEL" "Ljava/util/List;" sv) (hsv : sv.isRef = true) (E1 : Exa Z h0 a "axiomend/ontology/OntologyReadException") (U1 : Unt h0 a) (F1 : Fld Z h0 a "java/lang/Throwable" "backtrace" "Ljava/lang/Object;" .null) (F2 : Fld Z h0 a "java/lang/Throwable" "detailMessage" "Ljava/lang/String;" .null) (F5 : Fld Z h0 a "java/lang/Throwable" "cause" "Ljava/lang/Throwable;" .null) (F6 : Fld Z h0 a "java/lang/Throwable" "stackTrace" "[Ljava/lang/StackTraceElement;" .null) (F7 : Fld Z h0 a "java/lang/Throwable" "suppressedExceptions" "Ljava/util/List;" .null) (g1 : n0 ≤ a) :
    MetFree l (⟨"java/lang/Exception", "<init>", "(Ljava/lang/String;)V"⟩ : MethodName) (head1 (Jvm.Cond.code (⟨"java/lang/Exception", "<init>", "(Ljava/lang/String;)V"⟩ : MethodName) jdk_59_method_2_code 2 none :: ws) ({ frames := 4, cells := 1, slots := 2752, locals := 55 } : Room)) (fun aQ_ UQ => aQ_ = #[(.ref a), (.ref mv_)] ∧ Z.Warmed39 UQ.vm ∧ UQ.heap = h0) (fun _ _ bl s _ => s.vm.MethodsKnown ∧ s.vm.FramesKnown bl) (fun _ UQ oQ UQ' => ∃ vQ_ LQ_, oQ = .returned vQ_ ∧ Q_einit Z a mv_ uv sv h0 n0 vQ_ UQ'.heap LQ_ ∧ FrameEnd UQ oQ UQ' LQ_ ({ frames := 4, cells := 1, slots := 2752, locals := 55 } : Room).cells ({ frames := 4, cells := 1, slots := 2752, locals := 55 } : Room).slots) := by
  refine MetFree.of_bodySF (plainFor_of_name pn_java_lang_Exception) hisR ?_
  intro p e s m args below meth cO s₁ Bd hml0 hP hK
  obtain ⟨rfl, hZ, hh⟩ := hP
  have hx := Bd.exec
  have hby := Bd.bytes
  have hml : cO.maxLocals = 2 := hml0
  have hown : s.vm.findClass "java/lang/Exception" = some m.cls := findClass_of_methodNamed Bd.named
  have hnm := (name_of_methodNamed Bd.named Bd.method).1
  have X0 : Stand p l e ({ frames := 4, cells := 1, slots := 2752, locals := 55 } : Room) s m #[(.ref a), (.ref mv_)] below meth cO s₁ [] 0 0 := Stand.of_body Bd
  have e0 : s₁.heap = h0 := by rw [← hh, Bd.state]; rfl
  have N0 := Fr.nil n0
  obtain ⟨hTK, hBelow⟩ := hK
  have W0 : ∀ zQ, SS p e below s₁ m 0 #[.val (.ref a), .val (.ref mv_)] [] zQ → Steps p.tables e below (s₁.setTop (entryFrame m #[(.ref a), (.ref mv_)] 2)) zQ := fun tt kt => castTop (ef_einit m a mv_) kt
  obtain ⟨_, _, ⟨T101, L101, k101, n101⟩, -, X101, ⟨Lc101, hQ101, l101, y101, z101⟩, st101⟩ := X0.specialBack hx (y := (⟨"java/lang/Throwable", "<init>", "(Ljava/lang/String;)V"⟩ : MethodName)) rfl hown (mvT hZ (w44 hw)) (mvT hZ (w45 hw)) (mvT hZ (w49 hw)) (by decide) (backOfKL (W := 0) (rm_tinit l Z a0 hw [] a mv_ uv sv h0 n0 Z0 O0 hst S_un huv S_se hsv E1 U1 F1 F2 F5 F6 F7 g1) hZ (w49 hw) (w48 hw) (by decide) (by decide) hTK hBelow) (g := (mkF m 2 #[.val (.ref a), .val (.ref mv_)] [(.ref mv_), (.ref a)])) rfl (by rw [hml]; rfl) (Steps.refl _) (a := a) (argsL := [(.ref mv_)]) (rest := []) (lenOf pd__28_Ljava_2f_lang_2f_String_3b__29_V rfl) rfl (by show 2 * 0 + _ ≤ _; exact Nat.le_of_eq rfl) (hb hby d_jdk_59_method_2_2) (fun _ _ => ⟨rfl, e0, (Nat.le_of_ble_eq_true rfl), (Nat.le_of_ble_eq_true rfl)⟩)
  dsimp only [Pt.U, Pt.locs, Pt.cells, Pt.slots] at X101 l101 y101 z101 st101 hQ101
  subst l101 y101 z101
  obtain ⟨rfl, Nq101, K101, P101_0, P101_1⟩ := hQ101
  have N101 := Fr.app N0 Nq101
  have W102 : ∀ zQ, SS p e below T101 m 5 #[.val (.ref a), .val (.ref mv_)] [] zQ → Steps p.tables e below (s₁.setTop (entryFrame m #[(.ref a), (.ref mv_)] 2)) zQ := by
    intro tt kt
    refine W0 tt ?_
    refine XS.aloadN X0.here hx rfl (hb hby d_jdk_59_method_2_0) rfl rfl ?_
    show SS p e below s₁ m 1 #[.val (.ref a), .val (.ref mv_)] [(.ref a)] _
    refine XS.aloadN X0.here hx rfl (hb hby d_jdk_59_method_2_1) rfl rfl ?_
    show SS p e below s₁ m 2 #[.val (.ref a), .val (.ref mv_)] [(.ref mv_), (.ref a)] _
    refine st101.trans ?_
    show SS p e below T101 m 5 #[.val (.ref a), .val (.ref mv_)] [] _
    exact kt
  obtain ⟨fs, hr, hrun, hended, hW, hsame⟩ := X101.leave (v := none) (fun _ => rfl)
  refine ⟨_, _, W102 _ (X101.returnOut hx Bd.returns (hb hby d_jdk_59_method_2_5) hr), hrun, hended, _, _, rfl, ?_, ⟨_, rfl⟩, hW, hsame.mono (by decide) (by decide)⟩
  show Q_einit Z a mv_ uv sv h0 n0 _ T101.heap _
  exact ⟨rfl, N101, (Keep.trans (Keep.refl h0 [a]) K101 (allS (Or.inl (List.mem_of_getElem? (i := 0) rfl)) all0)), P101_0, P101_1⟩
def Q_xinit (Z : State) (a : Addr) (fv : Addr) (pv : Addr) (mv_ : Addr) (uv : Value) (sv : Value) (h0 : Heap) (n0 : Nat) (vQ_ : Option Value) (hQ_ : Heap) (LQ_ : List Loc) : Prop := vQ_ = none ∧ Fr n0 LQ_ ∧ Keep h0 hQ_ [a] ∧ Exa Z hQ_ a "axiomend/ontology/OntologyReadException" ∧ Fld Z hQ_ a "axiomend/ontology/OntologyReadException" "problem" "Laxiomend/ontology/OntologyReadException$Problem;" (.ref pv)
set_option maxRecDepth 65536 in
set_option maxHeartbeats 40000000 in
theorem rm_xinit (l : Launch) (Z : State) (a0 : Array Value) (hw : HW a0 Z) (ws : List Jvm.Cond) (a : Addr) (fv : Addr) (pv : Addr) (mv_ : Addr) (uv : Value) (sv : Value) (h0 : Heap) (n0 : Nat) (Z0 : n0 ≤ h0.size) (O0 : Old Z n0 h0) (hst : l.stackTraces = true) (S_un : Sta Z Z.heap "java/lang/Throwable" "UNASSIGNED_STACK" "[Ljava/lang/StackTraceElement;" uv) (huv : uv.isRef = true) (S_se : Sta Z Z.heap "java/lang/Throwable" "SUPPRESSED_SENTINEL" "Ljava/util/List;" sv) (hsv : sv.isRef = true) (E1 : Exa Z h0 a "axiomend/ontology/OntologyReadException") (U1 : Unt h0 a) (F1 : Fld Z h0 a "java/lang/Throwable" "backtrace" "Ljava/lang/Object;" .null) (F2 : Fld Z h0 a "java/lang/Throwable" "detailMessage" "Ljava/lang/String;" .null) (F5 : Fld Z h0 a "java/lang/Throwable" "cause" "Ljava/lang/Throwable;" .null) (F6 : Fld Z h0 a "java/lang/Throwable" "stackTrace" "[Ljava/lang/StackTraceElement;" .null) (F7 : Fld Z h0 a "java/lang/Throwable" "suppressedExceptions" "Ljava/util/List;" .null) (g1 : n0 ≤ a) :
    MetFree l (⟨"axiomend/ontology/OntologyReadException", "<init>", "(Ljava/lang/String;Laxiomend/ontology/OntologyReadException$Problem;Ljava/lang/String;)V"⟩ : MethodName) (head1 (Jvm.Cond.code (⟨"axiomend/ontology/OntologyReadException", "<init>", "(Ljava/lang/String;Laxiomend/ontology/OntologyReadException$Problem;Ljava/lang/String;)V"⟩ : MethodName) prog_67_method_1_code 4 none :: ws) ({ frames := 5, cells := 1, slots := 2752, locals := 68 } : Room)) (fun aQ_ UQ => aQ_ = #[(.ref a), (.ref fv), (.ref pv), (.ref mv_)] ∧ Z.Warmed39 UQ.vm ∧ UQ.heap = h0) (fun _ _ bl s _ => s.vm.MethodsKnown ∧ s.vm.FramesKnown bl) (fun _ UQ oQ UQ' => ∃ vQ_ LQ_, oQ = .returned vQ_ ∧ Q_xinit Z a fv pv mv_ uv sv h0 n0 vQ_ UQ'.heap LQ_ ∧ FrameEnd UQ oQ UQ' LQ_ ({ frames := 5, cells := 1, slots := 2752, locals := 68 } : Room).cells ({ frames := 5, cells := 1, slots := 2752, locals := 68 } : Room).slots) := by
  refine MetFree.of_bodySF (plainFor_of_name pn_axiomend_ontology_OntologyReadException) hisR ?_
  intro p e s m args below meth cO s₁ Bd hml0 hP hK
  obtain ⟨rfl, hZ, hh⟩ := hP
  have hx := Bd.exec
  have hby := Bd.bytes
  have hml : cO.maxLocals = 4 := hml0
  have hown : s.vm.findClass "axiomend/ontology/OntologyReadException" = some m.cls := findClass_of_methodNamed Bd.named
  have hnm := (name_of_methodNamed Bd.named Bd.method).1
  have X0 : Stand p l e ({ frames := 5, cells := 1, slots := 2752, locals := 68 } : Room) s m #[(.ref a), (.ref fv), (.ref pv), (.ref mv_)] below meth cO s₁ [] 0 0 := Stand.of_body Bd
  have e0 : s₁.heap = h0 := by rw [← hh, Bd.state]; rfl
  have N0 := Fr.nil n0
  obtain ⟨hTK, hBelow⟩ := hK
  have W0 : ∀ zQ, SS p e below s₁ m 0 #[.val (.ref a), .val (.ref fv), .val (.ref pv), .val (.ref mv_)] [] zQ → Steps p.tables e below (s₁.setTop (entryFrame m #[(.ref a), (.ref fv), (.ref pv), (.ref mv_)] 4)) zQ := fun tt kt => castTop (ef_xinit m a fv pv mv_) kt
  obtain ⟨_, _, ⟨T101, L101, k101, n101⟩, -, X101, ⟨Lc101, hQ101, l101, y101, z101⟩, st101⟩ := X0.specialBack hx (y := (⟨"java/lang/Exception", "<init>", "(Ljava/lang/String;)V"⟩ : MethodName)) rfl hown (mvT hZ (w39 hw)) (mvT hZ (w40 hw)) (mvT hZ (w43 hw)) (by decide) (backOfKL (W := 0) (rm_einit l Z a0 hw [] a mv_ uv sv h0 n0 Z0 O0 hst S_un huv S_se hsv E1 U1 F1 F2 F5 F6 F7 g1) hZ (w43 hw) (w42 hw) (by decide) (by decide) hTK hBelow) (g := (mkF m 2 #[.val (.ref a), .val (.ref fv), .val (.ref pv), .val (.ref mv_)] [(.ref mv_), (.ref a)])) rfl (by rw [hml]; rfl) (Steps.refl _) (a := a) (argsL := [(.ref mv_)]) (rest := []) (lenOf pd__28_Ljava_2f_lang_2f_String_3b__29_V rfl) rfl (by show 2 * 0 + _ ≤ _; exact Nat.le_of_eq rfl) (hb hby d_prog_67_method_1_2) (fun _ _ => ⟨rfl, e0, (Nat.le_of_ble_eq_true rfl), (Nat.le_of_ble_eq_true rfl)⟩)
  dsimp only [Pt.U, Pt.locs, Pt.cells, Pt.slots] at X101 l101 y101 z101 st101 hQ101
  subst l101 y101 z101
  obtain ⟨rfl, Nq101, K101, P101_0, P101_1⟩ := hQ101
  have N101 := Fr.app N0 Nq101
  obtain ⟨vlf102, Flf102⟩ := fld_laid (O := "axiomend/ontology/OntologyReadException") (n := "file") (d := "Ljava/lang/String;") P101_0 (Unt.known P101_1) (w34 hw) (Or.inr (w88 hw))
  obtain ⟨vlf103, Flf103⟩ := fld_laid (O := "axiomend/ontology/OntologyReadException") (n := "problem") (d := "Laxiomend/ontology/OntologyReadException$Problem;") P101_0 (Unt.known P101_1) (w34 hw) (Or.inr (w90 hw))
  obtain ⟨T104, h104, X104, e104, Wr104, st104⟩ := putF X101 hx hZ hown (host := "") (Or.inl (w87 hw)) Via.refl rfl Flf102 P101_0 (Or.inr ⟨(w88 hw), rfl, hnm⟩) (w34 hw) (ty := (.object "java/lang/String")) (by decide) rfl rfl (g := (mkF m 7 #[.val (.ref a), .val (.ref fv), .val (.ref pv), .val (.ref mv_)] [(.ref fv), (.ref a)])) rfl rfl (hb hby d_prog_67_method_1_7)
  have K104 := Keep.of_wr Wr104
  have G104 := Flf102.same Wr104
  have N104 := Fr.snoc X104 N101 g1
  have F105 : Exa Z h104 a "axiomend/ontology/OntologyReadException" := (P101_0.keep K104)
  have F106 : Fld Z h104 a "axiomend/ontology/OntologyReadException" "problem" "Laxiomend/ontology/OntologyReadException$Problem;" vlf103 := (Fld.other Wr104 Flf103 (Or.inr (slot_ne (Or.inr (w90 hw)) (Or.inr (w88 hw)) (by decide) (t := (.object "axiomend/ontology/OntologyReadException$Problem")) (t' := (.object "java/lang/String")) (by decide) (by decide))))
  obtain ⟨T107, h107, X107, e107, Wr107, st107⟩ := putF X104 hx hZ hown (host := "") (Or.inl (w89 hw)) Via.refl e104 F106 F105 (Or.inr ⟨(w90 hw), rfl, hnm⟩) (w34 hw) (ty := (.object "axiomend/ontology/OntologyReadException$Problem")) (by decide) rfl rfl (g := (mkF m 12 #[.val (.ref a), .val (.ref fv), .val (.ref pv), .val (.ref mv_)] [(.ref pv), (.ref a)])) rfl rfl (hb hby d_prog_67_method_1_12)
  have K107 := Keep.of_wr Wr107
  have G107 := F106.same Wr107
  have N107 := Fr.snoc X107 N104 g1
  have W108 : ∀ zQ, SS p e below T107 m 15 #[.val (.ref a), .val (.ref fv), .val (.ref pv), .val (.ref mv_)] [] zQ → Steps p.tables e below (s₁.setTop (entryFrame m #[(.ref a), (.ref fv), (.ref pv), (.ref mv_)] 4)) zQ := by
    intro tt kt
    refine W0 tt ?_
    refine XS.aloadN X0.here hx rfl (hb hby d_prog_67_method_1_0) rfl rfl ?_
    show SS p e below s₁ m 1 #[.val (.ref a), .val (.ref fv), .val (.ref pv), .val (.ref mv_)] [(.ref a)] _
    refine XS.aloadN X0.here hx rfl (hb hby d_prog_67_method_1_1) rfl rfl ?_
    show SS p e below s₁ m 2 #[.val (.ref a), .val (.ref fv), .val (.ref pv), .val (.ref mv_)] [(.ref mv_), (.ref a)] _
    refine st101.trans ?_
    show SS p e below T101 m 5 #[.val (.ref a), .val (.ref fv), .val (.ref pv), .val (.ref mv_)] [] _
    refine XS.aloadN X101.here hx rfl (hb hby d_prog_67_method_1_5) rfl rfl ?_
    show SS p e below T101 m 6 #[.val (.ref a), .val (.ref fv), .val (.ref pv), .val (.ref mv_)] [(.ref a)] _
    refine XS.aloadN X101.here hx rfl (hb hby d_prog_67_method_1_6) rfl rfl ?_
    show SS p e below T101 m 7 #[.val (.ref a), .val (.ref fv), .val (.ref pv), .val (.ref mv_)] [(.ref fv), (.ref a)] _
    refine st104 _ ?_
    show SS p e below T104 m 10 #[.val (.ref a), .val (.ref fv), .val (.ref pv), .val (.ref mv_)] [] _
    refine XS.aloadN X104.here hx rfl (hb hby d_prog_67_method_1_10) rfl rfl ?_
    show SS p e below T104 m 11 #[.val (.ref a), .val (.ref fv), .val (.ref pv), .val (.ref mv_)] [(.ref a)] _
    refine XS.aloadN X104.here hx rfl (hb hby d_prog_67_method_1_11) rfl rfl ?_
    show SS p e below T104 m 12 #[.val (.ref a), .val (.ref fv), .val (.ref pv), .val (.ref mv_)] [(.ref pv), (.ref a)] _
    refine st107 _ ?_
    show SS p e below T107 m 15 #[.val (.ref a), .val (.ref fv), .val (.ref pv), .val (.ref mv_)] [] _
    exact kt
  have F109 : Exa Z h107 a "axiomend/ontology/OntologyReadException" := (F105.keep K107)
  obtain ⟨fs, hr, hrun, hended, hW, hsame⟩ := X107.leave (v := none) (fun _ => rfl)
  refine ⟨_, _, W108 _ (X107.returnOut hx Bd.returns (hb hby d_prog_67_method_1_15) hr), hrun, hended, _, _, rfl, ?_, ⟨_, rfl⟩, hW, hsame.mono (by decide) (by decide)⟩
  show Q_xinit Z a fv pv mv_ uv sv h0 n0 _ T107.heap _
  rw [e107]
  exact ⟨rfl, N107, (Keep.trans (Keep.trans (Keep.trans (Keep.refl h0 [a]) K101 (allS (Or.inl (List.mem_of_getElem? (i := 0) rfl)) all0)) K104 (allS (Or.inl (List.mem_of_getElem? (i := 0) rfl)) all0)) K107 (allS (Or.inl (List.mem_of_getElem? (i := 0) rfl)) all0)), F109, G107⟩
def Q_exitStatus (Z : State) (a : Addr) (pv : Addr) (oNO_FILE : Addr) (h0 : Heap) (n0 : Nat) (vQ_ : Option Value) (hQ_ : Heap) (LQ_ : List Loc) : Prop := vQ_ = some (.int (if pv = oNO_FILE then (66 : Int32) else (65 : Int32))) ∧ Fr n0 LQ_ ∧ hQ_ = h0
set_option maxRecDepth 65536 in
set_option maxHeartbeats 40000000 in
theorem rm_exitStatus (l : Launch) (Z : State) (a0 : Array Value) (hw : HW a0 Z) (ws : List Jvm.Cond) (a : Addr) (pv : Addr) (oNO_FILE : Addr) (h0 : Heap) (n0 : Nat) (Z0 : n0 ≤ h0.size) (O0 : Old Z n0 h0) (S_NO_FILE : Sta Z Z.heap "axiomend/ontology/OntologyReadException$Problem" "NO_FILE" "Laxiomend/ontology/OntologyReadException$Problem;" (.ref oNO_FILE)) (F1 : Fld Z h0 a "axiomend/ontology/OntologyReadException" "problem" "Laxiomend/ontology/OntologyReadException$Problem;" (.ref pv)) :
    MetFree l (⟨"axiomend/ontology/OntologyReadException", "exitStatus", "()I"⟩ : MethodName) (head1 (Jvm.Cond.code (⟨"axiomend/ontology/OntologyReadException", "exitStatus", "()I"⟩ : MethodName) prog_67_method_4_code 1 (some .int) :: ws) ({ frames := 0, cells := 0, slots := 0, locals := 0 } : Room)) (fun aQ_ UQ => aQ_ = #[(.ref a)] ∧ Z.Warmed39 UQ.vm ∧ UQ.heap = h0) (fun _ _ _ _ _ => True) (fun _ UQ oQ UQ' => ∃ vQ_ LQ_, oQ = .returned vQ_ ∧ Q_exitStatus Z a pv oNO_FILE h0 n0 vQ_ UQ'.heap LQ_ ∧ FrameEnd UQ oQ UQ' LQ_ ({ frames := 0, cells := 0, slots := 0, locals := 0 } : Room).cells ({ frames := 0, cells := 0, slots := 0, locals := 0 } : Room).slots) := by
  refine MetFree.of_bodySF (plainFor_of_name pn_axiomend_ontology_OntologyReadException) hisR ?_
  intro p e s m args below meth cO s₁ Bd hml0 hP hK
  obtain ⟨rfl, hZ, hh⟩ := hP
  have hx := Bd.exec
  have hby := Bd.bytes
  have hml : cO.maxLocals = 1 := hml0
  have hown : s.vm.findClass "axiomend/ontology/OntologyReadException" = some m.cls := findClass_of_methodNamed Bd.named
  have hnm := (name_of_methodNamed Bd.named Bd.method).1
  have X0 : Stand p l e ({ frames := 0, cells := 0, slots := 0, locals := 0 } : Room) s m #[(.ref a)] below meth cO s₁ [] 0 0 := Stand.of_body Bd
  have e0 : s₁.heap = h0 := by rw [← hh, Bd.state]; rfl
  have N0 := Fr.nil n0
  have W0 : ∀ zQ, SS p e below s₁ m 0 #[.val (.ref a)] [] zQ → Steps p.tables e below (s₁.setTop (entryFrame m #[(.ref a)] 1)) zQ := fun tt kt => castTop (ef_exitStatus m a) kt
  obtain ⟨T101, X101, e101, st101⟩ := getF X0 hx hZ hown (host := "") (Or.inl (w89 hw)) Via.refl e0 F1 (g := (mkF m 1 #[.val (.ref a)] [(.ref a)])) rfl rfl (hb hby d_prog_67_method_4_1)
  have F103 : Sta Z h0 "axiomend/ontology/OntologyReadException$Problem" "NO_FILE" "Laxiomend/ontology/OntologyReadException$Problem;" (.ref oNO_FILE) := S_NO_FILE.ext O0.2
  obtain ⟨T102, X102, e102, st102⟩ := getS2 X101 hx hZ hown (host := "") (Or.inl (w96 hw)) Via.refl e101 F103 (g := (mkF m 4 #[.val (.ref a)] [(.ref pv)])) rfl (hb hby d_prog_67_method_4_4)
  have W104 : ∀ zQ, SS p e below T102 m 7 #[.val (.ref a)] [(.ref oNO_FILE), (.ref pv)] zQ → Steps p.tables e below (s₁.setTop (entryFrame m #[(.ref a)] 1)) zQ := by
    intro tt kt
    refine W0 tt ?_
    refine XS.aloadN X0.here hx rfl (hb hby d_prog_67_method_4_0) rfl rfl ?_
    show SS p e below s₁ m 1 #[.val (.ref a)] [(.ref a)] _
    refine st101 _ ?_
    show SS p e below T101 m 4 #[.val (.ref a)] [(.ref pv)] _
    refine st102 _ ?_
    show SS p e below T102 m 7 #[.val (.ref a)] [(.ref oNO_FILE), (.ref pv)] _
    exact kt
  have W106 : ∀ zQ, SS p e below T102 m 17 #[.val (.ref a)] [(.int (if pv = oNO_FILE then (66 : Int32) else (65 : Int32)))] zQ → Steps p.tables e below (s₁.setTop (entryFrame m #[(.ref a)] 1)) zQ := by
    intro tt kt
    refine W104 tt ?_
    by_cases hj105 : pv = oNO_FILE
    ·
      refine Jvm.RoadKit.acmp (g := (mkF m 7 #[.val (.ref a)] [(.ref oNO_FILE), (.ref pv)])) X102 hx rfl rfl rfl (pc0 := 7) (pc' := 10) (same := true) rfl (hb hby d_prog_67_method_4_7) rfl (decide_eq_true (congrArg Value.ref hj105)) (by decide) (by decide) ?_
      show SS p e below T102 m 10 #[.val (.ref a)] [] _
      refine XS.bipush X102.here hx rfl (hb hby d_prog_67_method_4_10) ?_
      show SS p e below T102 m 12 #[.val (.ref a)] [(.int (66 : Int32))] _
      refine XS.goto X102.here hx rfl (pc0 := 12) (pc' := 17) rfl (hb hby d_prog_67_method_4_12) (by decide) (by decide) ?_
      show SS p e below T102 m 17 #[.val (.ref a)] [(.int (66 : Int32))] _
      exact castTop (by first | rfl | (simp only [if_pos hj105]; first | done | rfl)) kt
    ·
      refine Jvm.RoadKit.acmp (g := (mkF m 7 #[.val (.ref a)] [(.ref oNO_FILE), (.ref pv)])) X102 hx rfl rfl rfl (pc0 := 7) (pc' := 15) (same := false) rfl (hb hby d_prog_67_method_4_7) rfl (decide_eq_false fun q => hj105 (Value.ref.inj q)) (by decide) (by decide) ?_
      show SS p e below T102 m 15 #[.val (.ref a)] [] _
      refine XS.bipush X102.here hx rfl (hb hby d_prog_67_method_4_15) ?_
      show SS p e below T102 m 17 #[.val (.ref a)] [(.int (65 : Int32))] _
      exact castTop (by first | rfl | (simp only [if_neg hj105]; first | done | rfl)) kt
  obtain ⟨fs, hr, hrun, hended, hW, hsame⟩ := X102.leave (v := some (.int (if pv = oNO_FILE then (66 : Int32) else (65 : Int32)))) (fun h => by rw [Bd.returns] at h; cases h)
  refine ⟨_, _, W106 _ (retI X102 hx Bd.returns (hb hby d_prog_67_method_4_17) hr), hrun, hended, _, _, rfl, ?_, ⟨_, rfl⟩, hW, hsame.mono (by decide) (by decide)⟩
  show Q_exitStatus Z a pv oNO_FILE h0 n0 _ T102.heap _
  rw [e102]
  exact ⟨rfl, N0, rfl⟩
def Q_law (Z : State) (p0 : Int32) (f0 : Int32) (m0 : Int32) (oNO_FILE : Addr) (oNOT_AN_ONTOLOGY : Addr) (oMISSING_IMPORT : Addr) (oNOT_A_CATALOG : Addr) (cS : Int32) (uv : Value) (sv : Value) (h0 : Heap) (n0 : Nat) (vQ_ : Option Value) (hQ_ : Heap) (LQ_ : List Loc) : Prop := vQ_ = some (.int (1 : Int32)) ∧ Fr n0 LQ_ ∧ Keep h0 hQ_ []
set_option maxRecDepth 65536 in
set_option maxHeartbeats 40000000 in
theorem rm_law (l : Launch) (Z : State) (a0 : Array Value) (hw : HW a0 Z) (ws : List Jvm.Cond) (p0 : Int32) (f0 : Int32) (m0 : Int32) (oNO_FILE : Addr) (oNOT_AN_ONTOLOGY : Addr) (oMISSING_IMPORT : Addr) (oNOT_A_CATALOG : Addr) (cS : Int32) (uv : Value) (sv : Value) (h0 : Heap) (n0 : Nat) (Z0 : n0 ≤ h0.size) (O0 : Old Z n0 h0) (S_cs : Sta Z Z.heap "java/lang/String" "COMPACT_STRINGS" "Z" (.int cS)) (hcS : ¬ (cS = (0 : Int32))) (hst : l.stackTraces = true) (S_un : Sta Z Z.heap "java/lang/Throwable" "UNASSIGNED_STACK" "[Ljava/lang/StackTraceElement;" uv) (huv : uv.isRef = true) (S_se : Sta Z Z.heap "java/lang/Throwable" "SUPPRESSED_SENTINEL" "Ljava/util/List;" sv) (hsv : sv.isRef = true) (S_NO_FILE : Sta Z Z.heap "axiomend/ontology/OntologyReadException$Problem" "NO_FILE" "Laxiomend/ontology/OntologyReadException$Problem;" (.ref oNO_FILE)) (E_NO_FILE : Exa Z Z.heap oNO_FILE "axiomend/ontology/OntologyReadException$Problem") (F_NO_FILE : Fld Z Z.heap oNO_FILE "java/lang/Enum" "ordinal" "I" (.int (0 : Int32))) (S_NOT_AN_ONTOLOGY : Sta Z Z.heap "axiomend/ontology/OntologyReadException$Problem" "NOT_AN_ONTOLOGY" "Laxiomend/ontology/OntologyReadException$Problem;" (.ref oNOT_AN_ONTOLOGY)) (E_NOT_AN_ONTOLOGY : Exa Z Z.heap oNOT_AN_ONTOLOGY "axiomend/ontology/OntologyReadException$Problem") (F_NOT_AN_ONTOLOGY : Fld Z Z.heap oNOT_AN_ONTOLOGY "java/lang/Enum" "ordinal" "I" (.int (1 : Int32))) (S_MISSING_IMPORT : Sta Z Z.heap "axiomend/ontology/OntologyReadException$Problem" "MISSING_IMPORT" "Laxiomend/ontology/OntologyReadException$Problem;" (.ref oMISSING_IMPORT)) (E_MISSING_IMPORT : Exa Z Z.heap oMISSING_IMPORT "axiomend/ontology/OntologyReadException$Problem") (F_MISSING_IMPORT : Fld Z Z.heap oMISSING_IMPORT "java/lang/Enum" "ordinal" "I" (.int (2 : Int32))) (S_NOT_A_CATALOG : Sta Z Z.heap "axiomend/ontology/OntologyReadException$Problem" "NOT_A_CATALOG" "Laxiomend/ontology/OntologyReadException$Problem;" (.ref oNOT_A_CATALOG)) (E_NOT_A_CATALOG : Exa Z Z.heap oNOT_A_CATALOG "axiomend/ontology/OntologyReadException$Problem") (F_NOT_A_CATALOG : Fld Z Z.heap oNOT_A_CATALOG "java/lang/Enum" "ordinal" "I" (.int (3 : Int32))) :
    MetFree l x (head1 (Jvm.Cond.code x code maxLocals ret :: ws) room_1) (fun aQ_ UQ => aQ_ = #[(.int p0), (.int f0), (.int m0)] ∧ Z.Warmed39 UQ.vm ∧ UQ.heap = h0) (fun _ _ _ s _ => framesKnown s = true ∧ tablesKnown s = true) (fun _ UQ oQ UQ' => ∃ vQ_ LQ_, oQ = .returned vQ_ ∧ Q_law Z p0 f0 m0 oNO_FILE oNOT_AN_ONTOLOGY oMISSING_IMPORT oNOT_A_CATALOG cS uv sv h0 n0 vQ_ UQ'.heap LQ_ ∧ FrameEnd UQ oQ UQ' LQ_ room_1.cells room_1.slots) := by
  refine MetFree.of_bodySF (plainFor_of_name pn_axiomend_ontology_OntologyReadExceptionExitStatusPinLaw) hisR ?_
  intro p e s m args below meth cO s₁ Bd hml0 hP hK
  obtain ⟨rfl, hZ, hh⟩ := hP
  have hx := Bd.exec
  have hby := Bd.bytes
  have hml : cO.maxLocals = 12 := hml0
  have hown : s.vm.findClass "axiomend/ontology/OntologyReadExceptionExitStatusPinLaw" = some m.cls := findClass_of_methodNamed Bd.named
  have hnm := (name_of_methodNamed Bd.named Bd.method).1
  have X0 : Stand p l e room_1 s m #[(.int p0), (.int f0), (.int m0)] below meth cO s₁ [] 0 0 := Stand.of_body Bd
  have e0 : s₁.heap = h0 := by rw [← hh, Bd.state]; rfl
  have N0 := Fr.nil n0
  obtain ⟨hTK, hBelow⟩ := own_known X0.frames hK.2 hK.1
  have W0 : ∀ zQ, SS p e below s₁ m 0 #[.val (.int p0), .val (.int f0), .val (.int m0), .unset, .unset, .unset, .unset, .unset, .unset, .unset, .unset, .unset] [] zQ → Steps p.tables e below (s₁.setTop (entryFrame m #[(.int p0), (.int f0), (.int m0)] maxLocals)) zQ := fun tt kt => castTop (ef_law m p0 f0 m0) kt
  obtain ⟨k, h_k⟩ : ∃ z : Int32, z = (p0 &&& (3 : Int32)) := ⟨_, rfl⟩
  have W101 : ∀ zQ, SS p e below s₁ m 5 #[.val (.int p0), .val (.int f0), .val (.int m0), .val (.int k), .unset, .unset, .unset, .unset, .unset, .unset, .unset, .unset] [(.int k)] zQ → Steps p.tables e below (s₁.setTop (entryFrame m #[(.int p0), (.int f0), (.int m0)] maxLocals)) zQ := by
    intro tt kt
    refine W0 tt ?_
    refine XS.iloadN X0.here hx rfl (hb hby at_0) rfl ?_
    show SS p e below s₁ m 1 #[.val (.int p0), .val (.int f0), .val (.int m0), .unset, .unset, .unset, .unset, .unset, .unset, .unset, .unset, .unset] [(.int p0)] _
    refine XS.iconst X0.here hx rfl (hb hby at_1) ?_
    show SS p e below s₁ m 2 #[.val (.int p0), .val (.int f0), .val (.int m0), .unset, .unset, .unset, .unset, .unset, .unset, .unset, .unset, .unset] [(.int (3 : Int32)), (.int p0)] _
    refine XS.iand X0.here hx rfl (hb hby at_2) rfl ?_
    show SS p e below s₁ m 3 #[.val (.int p0), .val (.int f0), .val (.int m0), .unset, .unset, .unset, .unset, .unset, .unset, .unset, .unset, .unset] [(.int (p0 &&& (3 : Int32)))] _
    rw [← h_k]
    show SS p e below s₁ m 3 #[.val (.int p0), .val (.int f0), .val (.int m0), .unset, .unset, .unset, .unset, .unset, .unset, .unset, .unset, .unset] [(.int k)] _
    refine XS.istoreN X0.here hx rfl (hb hby at_3) rfl (l' := #[.val (.int p0), .val (.int f0), .val (.int m0), .val (.int k), .unset, .unset, .unset, .unset, .unset, .unset, .unset, .unset]) rfl ?_
    show SS p e below s₁ m 4 #[.val (.int p0), .val (.int f0), .val (.int m0), .val (.int k), .unset, .unset, .unset, .unset, .unset, .unset, .unset, .unset] [] _
    refine XS.iloadN X0.here hx rfl (hb hby at_4) rfl ?_
    show SS p e below s₁ m 5 #[.val (.int p0), .val (.int f0), .val (.int m0), .val (.int k), .unset, .unset, .unset, .unset, .unset, .unset, .unset, .unset] [(.int k)] _
    exact kt
  by_cases hc102 : k = (0 : Int32)
  ·
    have F104 : Sta Z h0 "axiomend/ontology/OntologyReadException$Problem" "NO_FILE" "Laxiomend/ontology/OntologyReadException$Problem;" (.ref oNO_FILE) := S_NO_FILE.ext O0.2
    obtain ⟨T103, X103, e103, st103⟩ := getS2 X0 hx hZ hown (host := "") (Or.inl (w0 hw)) Via.refl e0 F104 (g := (mkF m 8 #[.val (.int p0), .val (.int f0), .val (.int m0), .val (.int k), .unset, .unset, .unset, .unset, .unset, .unset, .unset, .unset] [])) rfl (hb hby at_8)
    obtain ⟨T105, h105, k105, X105, e105, E105, A105, st105⟩ := newP X103 hx hZ (aty := .char) (w3 hw) e103 (g := (mkF m 48 #[.val (.int p0), .val (.int f0), .val (.int m0), .val (.int k), .val (.ref oNO_FILE), .unset, .unset, .unset, .unset, .unset, .unset, .unset] [(.int (2 : Int32))])) rfl (hb hby at_48) (n := (2 : Int32)) rfl (by decide) (cap := 2) (by decide) (by decide) (by decide) (by decide)
    obtain ⟨b105, g105⟩ : ∃ z, z = h0.size := ⟨_, rfl⟩
    rw [← g105] at A105 st105
    have K105 := (Keep.refl h0 []).ext E105
    have G105 : Arv Z h105 b105 k105 .char (2 : Int32) [(.int (0 : Int32)), (.int (0 : Int32))] (.int (0 : Int32)) := (Arv.new A105 (by decide)).pad (pad_rep [] (.int (0 : Int32)) 2)
    obtain ⟨cl106, Ar106, q106, S106, M106, H106, F106g⟩ := id G105
    have hin106 : ¬ ((0 : Int32) < 0 ∨ cl106.slots.size ≤ ((0 : Int32)).toNatClampNeg) := inb_of S106 ⟨by decide, by decide⟩
    obtain ⟨T106, h106, X106, e106, Wr106, st106⟩ := stC X105 hx hZ e105 Ar106 (j := (0 : Int32)) hin106 (g := (mkF m 58 #[.val (.int p0), .val (.int f0), .val (.int m0), .val (.int k), .val (.ref oNO_FILE), .unset, .unset, .unset, .unset, .unset, .unset, .unset] [(.int ((f0 &&& (255 : Int32)).toUInt32.toUInt16.toUInt32.toInt32)), (.int (0 : Int32)), (.ref b105), (.ref b105)])) rfl rfl (hb hby at_58)
    have G106 : Arv Z h106 b105 k105 .char (2 : Int32) [(.int (nar .char ((f0 &&& (255 : Int32)).toUInt32.toUInt16.toUInt32.toInt32))), (.int (0 : Int32))] (.int (0 : Int32)) := Arv.set Ar106 q106 S106 M106 H106 F106g (fits_nar_char _) Wr106 0 rfl (Nat.le_of_ble_eq_true rfl)
    have K106 := Keep.of_wr Wr106
    have N106 := Fr.snoc X106 N0 (Nat.le_trans Z0 (Nat.le_of_eq g105.symm))
    obtain ⟨cl107, Ar107, q107, S107, M107, H107, F107g⟩ := id G106
    have hin107 : ¬ ((1 : Int32) < 0 ∨ cl107.slots.size ≤ ((1 : Int32)).toNatClampNeg) := inb_of S107 ⟨by decide, by decide⟩
    obtain ⟨T107, h107, X107, e107, Wr107, st107⟩ := stC X106 hx hZ e106 Ar107 (j := (1 : Int32)) hin107 (g := (mkF m 70 #[.val (.int p0), .val (.int f0), .val (.int m0), .val (.int k), .val (.ref oNO_FILE), .unset, .unset, .unset, .unset, .unset, .unset, .unset] [(.int ((((f0.toUInt32 >>> ((8 : Int32) &&& 31).toUInt32).toInt32) &&& (255 : Int32)).toUInt32.toUInt16.toUInt32.toInt32)), (.int (1 : Int32)), (.ref b105), (.ref b105)])) rfl rfl (hb hby at_70)
    have G107 : Arv Z h107 b105 k105 .char (2 : Int32) [(.int (nar .char ((f0 &&& (255 : Int32)).toUInt32.toUInt16.toUInt32.toInt32))), (.int (nar .char ((((f0.toUInt32 >>> ((8 : Int32) &&& 31).toUInt32).toInt32) &&& (255 : Int32)).toUInt32.toUInt16.toUInt32.toInt32)))] (.int (0 : Int32)) := Arv.set Ar107 q107 S107 M107 H107 F107g (fits_nar_char _) Wr107 1 rfl (Nat.le_of_ble_eq_true rfl)
    have K107 := Keep.of_wr Wr107
    have N107 := Fr.snoc X107 N106 (Nat.le_trans Z0 (Nat.le_of_eq g105.symm))
    obtain ⟨T108, h108, k108, X108, e108, E108, A108, st108⟩ := newP X107 hx hZ (aty := .char) (w3 hw) e107 (g := (mkF m 74 #[.val (.int p0), .val (.int f0), .val (.int m0), .val (.int k), .val (.ref oNO_FILE), .val (.ref b105), .unset, .unset, .unset, .unset, .unset, .unset] [(.int (2 : Int32))])) rfl (hb hby at_74) (n := (2 : Int32)) rfl (by decide) (cap := 2) (by decide) (by decide) (by decide) (by decide)
    obtain ⟨b108, g108⟩ : ∃ z, z = h107.size := ⟨_, rfl⟩
    rw [← g108] at A108 st108
    have K108 := (Keep.refl h107 []).ext E108
    have G108 : Arv Z h108 b108 k108 .char (2 : Int32) [(.int (0 : Int32)), (.int (0 : Int32))] (.int (0 : Int32)) := (Arv.new A108 (by decide)).pad (pad_rep [] (.int (0 : Int32)) 2)
    obtain ⟨cl109, Ar109, q109, S109, M109, H109, F109g⟩ := id G108
    have hin109 : ¬ ((0 : Int32) < 0 ∨ cl109.slots.size ≤ ((0 : Int32)).toNatClampNeg) := inb_of S109 ⟨by decide, by decide⟩
    obtain ⟨T109, h109, X109, e109, Wr109, st109⟩ := stC X108 hx hZ e108 Ar109 (j := (0 : Int32)) hin109 (g := (mkF m 84 #[.val (.int p0), .val (.int f0), .val (.int m0), .val (.int k), .val (.ref oNO_FILE), .val (.ref b105), .unset, .unset, .unset, .unset, .unset, .unset] [(.int ((m0 &&& (255 : Int32)).toUInt32.toUInt16.toUInt32.toInt32)), (.int (0 : Int32)), (.ref b108), (.ref b108)])) rfl rfl (hb hby at_84)
    have G109 : Arv Z h109 b108 k108 .char (2 : Int32) [(.int (nar .char ((m0 &&& (255 : Int32)).toUInt32.toUInt16.toUInt32.toInt32))), (.int (0 : Int32))] (.int (0 : Int32)) := Arv.set Ar109 q109 S109 M109 H109 F109g (fits_nar_char _) Wr109 0 rfl (Nat.le_of_ble_eq_true rfl)
    have K109 := Keep.of_wr Wr109
    have N109 := Fr.snoc X109 N107 (Nat.le_trans Z0 (Nat.le_trans (Nat.le_trans (Nat.le_trans K105.1 K106.1) K107.1) (Nat.le_of_eq g108.symm)))
    obtain ⟨cl110, Ar110, q110, S110, M110, H110, F110g⟩ := id G109
    have hin110 : ¬ ((1 : Int32) < 0 ∨ cl110.slots.size ≤ ((1 : Int32)).toNatClampNeg) := inb_of S110 ⟨by decide, by decide⟩
    obtain ⟨T110, h110, X110, e110, Wr110, st110⟩ := stC X109 hx hZ e109 Ar110 (j := (1 : Int32)) hin110 (g := (mkF m 96 #[.val (.int p0), .val (.int f0), .val (.int m0), .val (.int k), .val (.ref oNO_FILE), .val (.ref b105), .unset, .unset, .unset, .unset, .unset, .unset] [(.int ((((m0.toUInt32 >>> ((8 : Int32) &&& 31).toUInt32).toInt32) &&& (255 : Int32)).toUInt32.toUInt16.toUInt32.toInt32)), (.int (1 : Int32)), (.ref b108), (.ref b108)])) rfl rfl (hb hby at_96)
    have G110 : Arv Z h110 b108 k108 .char (2 : Int32) [(.int (nar .char ((m0 &&& (255 : Int32)).toUInt32.toUInt16.toUInt32.toInt32))), (.int (nar .char ((((m0.toUInt32 >>> ((8 : Int32) &&& 31).toUInt32).toInt32) &&& (255 : Int32)).toUInt32.toUInt16.toUInt32.toInt32)))] (.int (0 : Int32)) := Arv.set Ar110 q110 S110 M110 H110 F110g (fits_nar_char _) Wr110 1 rfl (Nat.le_of_ble_eq_true rfl)
    have K110 := Keep.of_wr Wr110
    have N110 := Fr.snoc X110 N109 (Nat.le_trans Z0 (Nat.le_trans (Nat.le_trans (Nat.le_trans K105.1 K106.1) K107.1) (Nat.le_of_eq g108.symm)))
    obtain ⟨T111, h111, X111, e111, E111, A111, D111, U111, st111⟩ := newO X110 hx hZ hown (w4 hw) (w5 hw) (w6 hw) e110 (g := (mkF m 99 #[.val (.int p0), .val (.int f0), .val (.int m0), .val (.int k), .val (.ref oNO_FILE), .val (.ref b105), .val (.ref b108), .unset, .unset, .unset, .unset, .unset] [])) rfl (hb hby at_99) (by decide) (by decide)
    obtain ⟨b111, g111⟩ : ∃ z, z = h110.size := ⟨_, rfl⟩
    rw [← g111] at A111 D111 U111 st111
    have K111 := (Keep.refl h110 []).ext E111
    have G111_coder : Fld Z h111 b111 "java/lang/String" "coder" "B" (.int (0 : Int32)) := D111 (Or.inr (w30 hw)) (ty := .byte) (by decide)
    have G111_value : Fld Z h111 b111 "java/lang/String" "value" "[B" .null := D111 (Or.inr (w32 hw)) (ty := (.array .byte)) (by decide)
    have F112 : Arv Z h111 b105 k105 .char (2 : Int32) [(.int (nar .char ((f0 &&& (255 : Int32)).toUInt32.toUInt16.toUInt32.toInt32))), (.int (nar .char ((((f0.toUInt32 >>> ((8 : Int32) &&& 31).toUInt32).toInt32) &&& (255 : Int32)).toUInt32.toUInt16.toUInt32.toInt32)))] (.int (0 : Int32)) := ((((G107.keep K108 nin0).keep K109 (ninS (Nat.ne_of_lt (Nat.lt_of_lt_of_le (Nat.lt_of_lt_of_le G105.lt (Nat.le_trans K106.1 K107.1)) (Nat.le_of_eq g108.symm))) nin0)).keep K110 (ninS (Nat.ne_of_lt (Nat.lt_of_lt_of_le (Nat.lt_of_lt_of_le G105.lt (Nat.le_trans K106.1 K107.1)) (Nat.le_of_eq g108.symm))) nin0)).keep K111 nin0)
    have O113 : Old Z n0 h111 := (((((((O0.keep K105 all0).keep K106 (allS (Nat.le_trans Z0 (Nat.le_of_eq g105.symm)) all0)).keep K107 (allS (Nat.le_trans Z0 (Nat.le_of_eq g105.symm)) all0)).keep K108 all0).keep K109 (allS (Nat.le_trans Z0 (Nat.le_trans (Nat.le_trans (Nat.le_trans K105.1 K106.1) K107.1) (Nat.le_of_eq g108.symm))) all0)).keep K110 (allS (Nat.le_trans Z0 (Nat.le_trans (Nat.le_trans (Nat.le_trans K105.1 K106.1) K107.1) (Nat.le_of_eq g108.symm))) all0)).keep K111 all0)
    obtain ⟨_, _, ⟨T114, L114, k114, n114⟩, -, X114, ⟨Lc114, hQ114, l114, y114, z114⟩, st114⟩ := X111.specialBack hx (y := (⟨"java/lang/String", "<init>", "([C)V"⟩ : MethodName)) rfl hown (mvT hZ (w7 hw)) (mvT hZ (w8 hw)) (mvT hZ (w9 hw)) (by decide) (backOf (W := 1) (rm_sinit l Z a0 hw [] b111 b105 k105 [(nar .char ((f0 &&& (255 : Int32)).toUInt32.toUInt16.toUInt32.toInt32)), (nar .char ((((f0.toUInt32 >>> ((8 : Int32) &&& 31).toUInt32).toInt32) &&& (255 : Int32)).toUInt32.toUInt16.toUInt32.toInt32))] cS h111 n0 (Nat.le_trans Z0 (Nat.le_trans (Nat.le_trans (Nat.le_trans (Nat.le_trans (Nat.le_trans (Nat.le_trans K105.1 K106.1) K107.1) K108.1) K109.1) K110.1) K111.1)) O113 S_cs hcS A111 G111_value G111_coder (Nat.le_trans Z0 (Nat.le_trans (Nat.le_trans (Nat.le_trans (Nat.le_trans (Nat.le_trans (Nat.le_trans K105.1 K106.1) K107.1) K108.1) K109.1) K110.1) (Nat.le_of_eq g111.symm))) F112 (own_ok2 (own_c8 f0) (own_c8 _)).1 (Nat.le_of_ble_eq_true rfl) (Nat.le_of_ble_eq_true rfl) (Ne.symm (Nat.ne_of_lt (Nat.lt_of_lt_of_le (Nat.lt_of_lt_of_le G105.lt (Nat.le_trans (Nat.le_trans (Nat.le_trans (Nat.le_trans K106.1 K107.1) K108.1) K109.1) K110.1)) (Nat.le_of_eq g111.symm)))) (own_ok2 (own_c8 f0) (own_c8 _)).2) hZ (w9 hw) (w6 hw) (by decide) (by decide)) (g := (mkF m 105 #[.val (.int p0), .val (.int f0), .val (.int m0), .val (.int k), .val (.ref oNO_FILE), .val (.ref b105), .val (.ref b108), .unset, .unset, .unset, .unset, .unset] [(.ref b105), (.ref b111), (.ref b111)])) rfl (by rw [hml]; rfl) (Steps.refl _) (a := b111) (argsL := [(.ref b105)]) (rest := [(.ref b111)]) (lenOf pd__28__5b_C_29_V rfl) rfl (by show 2 * 0 + _ ≤ _; exact Nat.le_of_eq rfl) (hb hby at_105) (fun _ _ => ⟨rfl, e111, (Nat.le_of_ble_eq_true rfl), (Nat.le_of_ble_eq_true rfl)⟩)
    dsimp only [Pt.U, Pt.locs, Pt.cells, Pt.slots] at X114 l114 y114 z114 st114 hQ114
    subst l114 y114 z114
    obtain ⟨t_115, kb_116, rfl, Nq114, K114, P114_0, P114_1⟩ := hQ114
    have N114 := Fr.app N110 Nq114
    obtain ⟨T117, h117, X117, e117, E117, A117, D117, U117, st117⟩ := newO X114 hx hZ hown (w4 hw) (w5 hw) (w6 hw) rfl (g := (mkF m 110 #[.val (.int p0), .val (.int f0), .val (.int m0), .val (.int k), .val (.ref oNO_FILE), .val (.ref b105), .val (.ref b108), .val (.ref b111), .unset, .unset, .unset, .unset] [])) rfl (hb hby at_110) (by decide) (by decide)
    obtain ⟨b117, g117⟩ : ∃ z, z = T114.heap.size := ⟨_, rfl⟩
    rw [← g117] at A117 D117 U117 st117
    have K117 := (Keep.refl T114.heap []).ext E117
    have G117_coder : Fld Z h117 b117 "java/lang/String" "coder" "B" (.int (0 : Int32)) := D117 (Or.inr (w30 hw)) (ty := .byte) (by decide)
    have G117_value : Fld Z h117 b117 "java/lang/String" "value" "[B" .null := D117 (Or.inr (w32 hw)) (ty := (.array .byte)) (by decide)
    have F118 : Arv Z h117 b108 k108 .char (2 : Int32) [(.int (nar .char ((m0 &&& (255 : Int32)).toUInt32.toUInt16.toUInt32.toInt32))), (.int (nar .char ((((m0.toUInt32 >>> ((8 : Int32) &&& 31).toUInt32).toInt32) &&& (255 : Int32)).toUInt32.toUInt16.toUInt32.toInt32)))] (.int (0 : Int32)) := (((G110.keep K111 nin0).keep K114 (ninS (Nat.ne_of_lt (Nat.lt_of_lt_of_le (Nat.lt_of_lt_of_le G108.lt (Nat.le_trans K109.1 K110.1)) (Nat.le_of_eq g111.symm))) nin0)).keep K117 nin0)
    have O119 : Old Z n0 h117 := ((O113.keep K114 (allS (Nat.le_trans Z0 (Nat.le_trans (Nat.le_trans (Nat.le_trans (Nat.le_trans (Nat.le_trans (Nat.le_trans K105.1 K106.1) K107.1) K108.1) K109.1) K110.1) (Nat.le_of_eq g111.symm))) all0)).keep K117 all0)
    obtain ⟨_, _, ⟨T120, L120, k120, n120⟩, -, X120, ⟨Lc120, hQ120, l120, y120, z120⟩, st120⟩ := X117.specialBack hx (y := (⟨"java/lang/String", "<init>", "([C)V"⟩ : MethodName)) rfl hown (mvT hZ (w7 hw)) (mvT hZ (w8 hw)) (mvT hZ (w9 hw)) (by decide) (backOf (W := 1) (rm_sinit l Z a0 hw [] b117 b108 k108 [(nar .char ((m0 &&& (255 : Int32)).toUInt32.toUInt16.toUInt32.toInt32)), (nar .char ((((m0.toUInt32 >>> ((8 : Int32) &&& 31).toUInt32).toInt32) &&& (255 : Int32)).toUInt32.toUInt16.toUInt32.toInt32))] cS h117 n0 (Nat.le_trans Z0 (Nat.le_trans (Nat.le_trans (Nat.le_trans (Nat.le_trans (Nat.le_trans (Nat.le_trans (Nat.le_trans (Nat.le_trans K105.1 K106.1) K107.1) K108.1) K109.1) K110.1) K111.1) K114.1) K117.1)) O119 S_cs hcS A117 G117_value G117_coder (Nat.le_trans Z0 (Nat.le_trans (Nat.le_trans (Nat.le_trans (Nat.le_trans (Nat.le_trans (Nat.le_trans (Nat.le_trans (Nat.le_trans K105.1 K106.1) K107.1) K108.1) K109.1) K110.1) K111.1) K114.1) (Nat.le_of_eq g117.symm))) F118 (own_ok2 (own_c8 m0) (own_c8 _)).1 (Nat.le_of_ble_eq_true rfl) (Nat.le_of_ble_eq_true rfl) (Ne.symm (Nat.ne_of_lt (Nat.lt_of_lt_of_le (Nat.lt_of_lt_of_le G108.lt (Nat.le_trans (Nat.le_trans (Nat.le_trans K109.1 K110.1) K111.1) K114.1)) (Nat.le_of_eq g117.symm)))) (own_ok2 (own_c8 m0) (own_c8 _)).2) hZ (w9 hw) (w6 hw) (by decide) (by decide)) (g := (mkF m 116 #[.val (.int p0), .val (.int f0), .val (.int m0), .val (.int k), .val (.ref oNO_FILE), .val (.ref b105), .val (.ref b108), .val (.ref b111), .unset, .unset, .unset, .unset] [(.ref b108), (.ref b117), (.ref b117)])) rfl (by rw [hml]; rfl) (Steps.refl _) (a := b117) (argsL := [(.ref b108)]) (rest := [(.ref b117)]) (lenOf pd__28__5b_C_29_V rfl) rfl (by show 2 * 0 + _ ≤ _; exact Nat.le_of_eq rfl) (hb hby at_116) (fun _ _ => ⟨rfl, e117, (Nat.le_of_ble_eq_true rfl), (Nat.le_of_ble_eq_true rfl)⟩)
    dsimp only [Pt.U, Pt.locs, Pt.cells, Pt.slots] at X120 l120 y120 z120 st120 hQ120
    subst l120 y120 z120
    obtain ⟨t_121, kb_122, rfl, Nq120, K120, P120_0, P120_1⟩ := hQ120
    have N120 := Fr.app N114 Nq120
    obtain ⟨T123, h123, X123, e123, E123, A123, D123, U123, st123⟩ := newO X120 hx hZ hown (w33 hw) (w34 hw) (w35 hw) rfl (g := (mkF m 121 #[.val (.int p0), .val (.int f0), .val (.int m0), .val (.int k), .val (.ref oNO_FILE), .val (.ref b105), .val (.ref b108), .val (.ref b111), .val (.ref b117), .unset, .unset, .unset] [])) rfl (hb hby at_121) (by decide) (by decide)
    obtain ⟨b123, g123⟩ : ∃ z, z = T120.heap.size := ⟨_, rfl⟩
    rw [← g123] at A123 D123 U123 st123
    have K123 := (Keep.refl T120.heap []).ext E123
    have G123_cause : Fld Z h123 b123 "java/lang/Throwable" "cause" "Ljava/lang/Throwable;" .null := D123 (Or.inl (w52 hw)) (ty := (.object "java/lang/Throwable")) (by decide)
    have G123_stackTrace : Fld Z h123 b123 "java/lang/Throwable" "stackTrace" "[Ljava/lang/StackTraceElement;" .null := D123 (Or.inl (w55 hw)) (ty := (.array (.object "java/lang/StackTraceElement"))) (by decide)
    have G123_suppressedExceptions : Fld Z h123 b123 "java/lang/Throwable" "suppressedExceptions" "Ljava/util/List;" .null := D123 (Or.inl (w58 hw)) (ty := (.object "java/util/List")) (by decide)
    have G123_detailMessage : Fld Z h123 b123 "java/lang/Throwable" "detailMessage" "Ljava/lang/String;" .null := D123 (Or.inl (w82 hw)) (ty := (.object "java/lang/String")) (by decide)
    have G123_backtrace : Fld Z h123 b123 "java/lang/Throwable" "backtrace" "Ljava/lang/Object;" .null := D123 (Or.inl (w83 hw)) (ty := (.object "java/lang/Object")) (by decide)
    have G123_depth : Fld Z h123 b123 "java/lang/Throwable" "depth" "I" (.int (0 : Int32)) := D123 (Or.inl (w84 hw)) (ty := .int) (by decide)
    have G123_file : Fld Z h123 b123 "axiomend/ontology/OntologyReadException" "file" "Ljava/lang/String;" .null := D123 (Or.inr (w88 hw)) (ty := (.object "java/lang/String")) (by decide)
    have G123_problem : Fld Z h123 b123 "axiomend/ontology/OntologyReadException" "problem" "Laxiomend/ontology/OntologyReadException$Problem;" .null := D123 (Or.inr (w90 hw)) (ty := (.object "axiomend/ontology/OntologyReadException$Problem")) (by decide)
    have O124 : Old Z n0 h123 := ((O119.keep K120 (allS (Nat.le_trans Z0 (Nat.le_trans (Nat.le_trans (Nat.le_trans (Nat.le_trans (Nat.le_trans (Nat.le_trans (Nat.le_trans (Nat.le_trans K105.1 K106.1) K107.1) K108.1) K109.1) K110.1) K111.1) K114.1) (Nat.le_of_eq g117.symm))) all0)).keep K123 all0)
    obtain ⟨_, _, ⟨T125, L125, k125, n125⟩, -, X125, ⟨Lc125, hQ125, l125, y125, z125⟩, st125⟩ := X123.specialBack hx (y := (⟨"axiomend/ontology/OntologyReadException", "<init>", "(Ljava/lang/String;Laxiomend/ontology/OntologyReadException$Problem;Ljava/lang/String;)V"⟩ : MethodName)) rfl hown (mvT hZ (w36 hw)) (mvT hZ (w37 hw)) (mvT hZ (w38 hw)) (by decide) (backOfKL (W := 1) (rm_xinit l Z a0 hw [] b123 b111 oNO_FILE b117 uv sv h123 n0 (Nat.le_trans Z0 (Nat.le_trans (Nat.le_trans (Nat.le_trans (Nat.le_trans (Nat.le_trans (Nat.le_trans (Nat.le_trans (Nat.le_trans (Nat.le_trans (Nat.le_trans K105.1 K106.1) K107.1) K108.1) K109.1) K110.1) K111.1) K114.1) K117.1) K120.1) K123.1)) O124 hst S_un huv S_se hsv A123 U123 G123_backtrace G123_detailMessage G123_cause G123_stackTrace G123_suppressedExceptions (Nat.le_trans Z0 (Nat.le_trans (Nat.le_trans (Nat.le_trans (Nat.le_trans (Nat.le_trans (Nat.le_trans (Nat.le_trans (Nat.le_trans (Nat.le_trans (Nat.le_trans K105.1 K106.1) K107.1) K108.1) K109.1) K110.1) K111.1) K114.1) K117.1) K120.1) (Nat.le_of_eq g123.symm)))) hZ (w38 hw) (w35 hw) (by decide) (by decide) hTK hBelow) (g := (mkF m 131 #[.val (.int p0), .val (.int f0), .val (.int m0), .val (.int k), .val (.ref oNO_FILE), .val (.ref b105), .val (.ref b108), .val (.ref b111), .val (.ref b117), .unset, .unset, .unset] [(.ref b117), (.ref oNO_FILE), (.ref b111), (.ref b123), (.ref b123)])) rfl (by rw [hml]; rfl) (Steps.refl _) (a := b123) (argsL := [(.ref b111), (.ref oNO_FILE), (.ref b117)]) (rest := [(.ref b123)]) (lenOf pd__28_Ljava_2f_lang_2f_String_3b_Laxiomend_2f_ontology_2f_OntologyReadException_24_Problem_3b_Ljava_2f_lang_2f_String_3b__29_V rfl) rfl (by show 2 * 0 + _ ≤ _; exact Nat.le_of_eq rfl) (hb hby at_131) (fun _ _ => ⟨rfl, e123, (Nat.le_of_ble_eq_true rfl), (Nat.le_of_ble_eq_true rfl)⟩)
    dsimp only [Pt.U, Pt.locs, Pt.cells, Pt.slots] at X125 l125 y125 z125 st125 hQ125
    subst l125 y125 z125
    obtain ⟨rfl, Nq125, K125, P125_0, P125_1⟩ := hQ125
    have N125 := Fr.app N120 Nq125
    have O126 : Old Z n0 T125.heap := (O124.keep K125 (allS (Nat.le_trans Z0 (Nat.le_trans (Nat.le_trans (Nat.le_trans (Nat.le_trans (Nat.le_trans (Nat.le_trans (Nat.le_trans (Nat.le_trans (Nat.le_trans (Nat.le_trans K105.1 K106.1) K107.1) K108.1) K109.1) K110.1) K111.1) K114.1) K117.1) K120.1) (Nat.le_of_eq g123.symm))) all0))
    obtain ⟨cq127, kq127, q127a, q127b, q127c⟩ := isOf hZ rfl P125_0
    obtain ⟨_, _, ⟨T127, L127, k127, n127⟩, -, X127, ⟨Lc127, hQ127, l127, y127, z127⟩, st127⟩ := X125.virtualBack hx (y := (⟨"axiomend/ontology/OntologyReadException", "exitStatus", "()I"⟩ : MethodName)) (z := (⟨"axiomend/ontology/OntologyReadException", "exitStatus", "()I"⟩ : MethodName)) hown (mvT hZ (w91 hw)) (mvT hZ (w92 hw)) (notFace_of_selects (args := #[]) (mvT hZ (w94 hw))) (mvT hZ (w94 hw)) (mvT hZ (w93 hw)) (by decide) (backOf (W := 0) (rm_exitStatus l Z a0 hw [] b123 oNO_FILE oNO_FILE T125.heap n0 (Nat.le_trans Z0 (Nat.le_trans (Nat.le_trans (Nat.le_trans (Nat.le_trans (Nat.le_trans (Nat.le_trans (Nat.le_trans (Nat.le_trans (Nat.le_trans (Nat.le_trans (Nat.le_trans K105.1 K106.1) K107.1) K108.1) K109.1) K110.1) K111.1) K114.1) K117.1) K120.1) K123.1) K125.1)) O126 S_NO_FILE P125_1) hZ (w95 hw) (w35 hw) (by decide) (by decide)) q127a q127c (g := (mkF m 138 #[.val (.int p0), .val (.int f0), .val (.int m0), .val (.int k), .val (.ref oNO_FILE), .val (.ref b105), .val (.ref b108), .val (.ref b111), .val (.ref b117), .val (.ref b123), .unset, .unset] [(.ref b123)])) rfl (by rw [hml]; rfl) (Steps.refl _) (argsL := []) (rest := []) (lenOf pd__28__29_I rfl) rfl (by show 2 * 0 + _ ≤ _; exact Nat.le_of_eq rfl) (hb hby at_138) (fun _ _ => ⟨rfl, rfl, (Nat.le_of_ble_eq_true rfl), (Nat.le_of_ble_eq_true rfl)⟩)
    dsimp only [Pt.U, Pt.locs, Pt.cells, Pt.slots] at X127 l127 y127 z127 st127 hQ127
    subst l127 y127 z127
    obtain ⟨rfl, Nq127, eq127⟩ := hQ127
    have N127 := Fr.app N125 Nq127
    have W128 : ∀ zQ, SS p e below T127 m 170 #[.val (.int p0), .val (.int f0), .val (.int m0), .val (.int k), .val (.ref oNO_FILE), .val (.ref b105), .val (.ref b108), .val (.ref b111), .val (.ref b117), .val (.ref b123), .val (.int (if oNO_FILE = oNO_FILE then (66 : Int32) else (65 : Int32))), .val (.int (66 : Int32))] [(.int (1 : Int32))] zQ → Steps p.tables e below (s₁.setTop (entryFrame m #[(.int p0), (.int f0), (.int m0)] maxLocals)) zQ := by
      intro tt kt
      refine W101 tt ?_
      refine XS.ifNo X0.here hx rfl (hb hby at_5) rfl ((if0 _ _).trans (teq hc102).2) ?_
      show SS p e below s₁ m 8 #[.val (.int p0), .val (.int f0), .val (.int m0), .val (.int k), .unset, .unset, .unset, .unset, .unset, .unset, .unset, .unset] [] _
      refine st103 _ ?_
      show SS p e below T103 m 11 #[.val (.int p0), .val (.int f0), .val (.int m0), .val (.int k), .unset, .unset, .unset, .unset, .unset, .unset, .unset, .unset] [(.ref oNO_FILE)] _
      refine XS.astore X103.here hx rfl (hb hby at_11) rfl rfl (l' := #[.val (.int p0), .val (.int f0), .val (.int m0), .val (.int k), .val (.ref oNO_FILE), .unset, .unset, .unset, .unset, .unset, .unset, .unset]) rfl ?_
      show SS p e below T103 m 13 #[.val (.int p0), .val (.int f0), .val (.int m0), .val (.int k), .val (.ref oNO_FILE), .unset, .unset, .unset, .unset, .unset, .unset, .unset] [] _
      refine XS.goto X103.here hx rfl (pc0 := 13) (pc' := 47) rfl (hb hby at_13) (by decide) (by decide) ?_
      show SS p e below T103 m 47 #[.val (.int p0), .val (.int f0), .val (.int m0), .val (.int k), .val (.ref oNO_FILE), .unset, .unset, .unset, .unset, .unset, .unset, .unset] [] _
      refine XS.iconst X103.here hx rfl (hb hby at_47) ?_
      show SS p e below T103 m 48 #[.val (.int p0), .val (.int f0), .val (.int m0), .val (.int k), .val (.ref oNO_FILE), .unset, .unset, .unset, .unset, .unset, .unset, .unset] [(.int (2 : Int32))] _
      refine st105 _ ?_
      show SS p e below T105 m 50 #[.val (.int p0), .val (.int f0), .val (.int m0), .val (.int k), .val (.ref oNO_FILE), .unset, .unset, .unset, .unset, .unset, .unset, .unset] [(.ref b105)] _
      refine XS.dup X105.here hx rfl (hb hby at_50) rfl rfl ?_
      show SS p e below T105 m 51 #[.val (.int p0), .val (.int f0), .val (.int m0), .val (.int k), .val (.ref oNO_FILE), .unset, .unset, .unset, .unset, .unset, .unset, .unset] [(.ref b105), (.ref b105)] _
      refine XS.iconst X105.here hx rfl (hb hby at_51) ?_
      show SS p e below T105 m 52 #[.val (.int p0), .val (.int f0), .val (.int m0), .val (.int k), .val (.ref oNO_FILE), .unset, .unset, .unset, .unset, .unset, .unset, .unset] [(.int (0 : Int32)), (.ref b105), (.ref b105)] _
      refine XS.iloadN X105.here hx rfl (hb hby at_52) rfl ?_
      show SS p e below T105 m 53 #[.val (.int p0), .val (.int f0), .val (.int m0), .val (.int k), .val (.ref oNO_FILE), .unset, .unset, .unset, .unset, .unset, .unset, .unset] [(.int f0), (.int (0 : Int32)), (.ref b105), (.ref b105)] _
      refine XS.sipush X105.here hx rfl (hb hby at_53) ?_
      show SS p e below T105 m 56 #[.val (.int p0), .val (.int f0), .val (.int m0), .val (.int k), .val (.ref oNO_FILE), .unset, .unset, .unset, .unset, .unset, .unset, .unset] [(.int (255 : Int32)), (.int f0), (.int (0 : Int32)), (.ref b105), (.ref b105)] _
      refine XS.iand X105.here hx rfl (hb hby at_56) rfl ?_
      show SS p e below T105 m 57 #[.val (.int p0), .val (.int f0), .val (.int m0), .val (.int k), .val (.ref oNO_FILE), .unset, .unset, .unset, .unset, .unset, .unset, .unset] [(.int (f0 &&& (255 : Int32))), (.int (0 : Int32)), (.ref b105), (.ref b105)] _
      refine XS.i2c X105.here hx rfl (hb hby at_57) rfl ?_
      show SS p e below T105 m 58 #[.val (.int p0), .val (.int f0), .val (.int m0), .val (.int k), .val (.ref oNO_FILE), .unset, .unset, .unset, .unset, .unset, .unset, .unset] [(.int ((f0 &&& (255 : Int32)).toUInt32.toUInt16.toUInt32.toInt32)), (.int (0 : Int32)), (.ref b105), (.ref b105)] _
      refine st106 _ ?_
      show SS p e below T106 m 59 #[.val (.int p0), .val (.int f0), .val (.int m0), .val (.int k), .val (.ref oNO_FILE), .unset, .unset, .unset, .unset, .unset, .unset, .unset] [(.ref b105)] _
      refine XS.dup X106.here hx rfl (hb hby at_59) rfl rfl ?_
      show SS p e below T106 m 60 #[.val (.int p0), .val (.int f0), .val (.int m0), .val (.int k), .val (.ref oNO_FILE), .unset, .unset, .unset, .unset, .unset, .unset, .unset] [(.ref b105), (.ref b105)] _
      refine XS.iconst X106.here hx rfl (hb hby at_60) ?_
      show SS p e below T106 m 61 #[.val (.int p0), .val (.int f0), .val (.int m0), .val (.int k), .val (.ref oNO_FILE), .unset, .unset, .unset, .unset, .unset, .unset, .unset] [(.int (1 : Int32)), (.ref b105), (.ref b105)] _
      refine XS.iloadN X106.here hx rfl (hb hby at_61) rfl ?_
      show SS p e below T106 m 62 #[.val (.int p0), .val (.int f0), .val (.int m0), .val (.int k), .val (.ref oNO_FILE), .unset, .unset, .unset, .unset, .unset, .unset, .unset] [(.int f0), (.int (1 : Int32)), (.ref b105), (.ref b105)] _
      refine XS.bipush X106.here hx rfl (hb hby at_62) ?_
      show SS p e below T106 m 64 #[.val (.int p0), .val (.int f0), .val (.int m0), .val (.int k), .val (.ref oNO_FILE), .unset, .unset, .unset, .unset, .unset, .unset, .unset] [(.int (8 : Int32)), (.int f0), (.int (1 : Int32)), (.ref b105), (.ref b105)] _
      refine XS.iushr X106.here hx rfl (hb hby at_64) rfl ?_
      show SS p e below T106 m 65 #[.val (.int p0), .val (.int f0), .val (.int m0), .val (.int k), .val (.ref oNO_FILE), .unset, .unset, .unset, .unset, .unset, .unset, .unset] [(.int ((f0.toUInt32 >>> ((8 : Int32) &&& 31).toUInt32).toInt32)), (.int (1 : Int32)), (.ref b105), (.ref b105)] _
      refine XS.sipush X106.here hx rfl (hb hby at_65) ?_
      show SS p e below T106 m 68 #[.val (.int p0), .val (.int f0), .val (.int m0), .val (.int k), .val (.ref oNO_FILE), .unset, .unset, .unset, .unset, .unset, .unset, .unset] [(.int (255 : Int32)), (.int ((f0.toUInt32 >>> ((8 : Int32) &&& 31).toUInt32).toInt32)), (.int (1 : Int32)), (.ref b105), (.ref b105)] _
      refine XS.iand X106.here hx rfl (hb hby at_68) rfl ?_
      show SS p e below T106 m 69 #[.val (.int p0), .val (.int f0), .val (.int m0), .val (.int k), .val (.ref oNO_FILE), .unset, .unset, .unset, .unset, .unset, .unset, .unset] [(.int (((f0.toUInt32 >>> ((8 : Int32) &&& 31).toUInt32).toInt32) &&& (255 : Int32))), (.int (1 : Int32)), (.ref b105), (.ref b105)] _
      refine XS.i2c X106.here hx rfl (hb hby at_69) rfl ?_
      show SS p e below T106 m 70 #[.val (.int p0), .val (.int f0), .val (.int m0), .val (.int k), .val (.ref oNO_FILE), .unset, .unset, .unset, .unset, .unset, .unset, .unset] [(.int ((((f0.toUInt32 >>> ((8 : Int32) &&& 31).toUInt32).toInt32) &&& (255 : Int32)).toUInt32.toUInt16.toUInt32.toInt32)), (.int (1 : Int32)), (.ref b105), (.ref b105)] _
      refine st107 _ ?_
      show SS p e below T107 m 71 #[.val (.int p0), .val (.int f0), .val (.int m0), .val (.int k), .val (.ref oNO_FILE), .unset, .unset, .unset, .unset, .unset, .unset, .unset] [(.ref b105)] _
      refine XS.astore X107.here hx rfl (hb hby at_71) rfl rfl (l' := #[.val (.int p0), .val (.int f0), .val (.int m0), .val (.int k), .val (.ref oNO_FILE), .val (.ref b105), .unset, .unset, .unset, .unset, .unset, .unset]) rfl ?_
      show SS p e below T107 m 73 #[.val (.int p0), .val (.int f0), .val (.int m0), .val (.int k), .val (.ref oNO_FILE), .val (.ref b105), .unset, .unset, .unset, .unset, .unset, .unset] [] _
      refine XS.iconst X107.here hx rfl (hb hby at_73) ?_
      show SS p e below T107 m 74 #[.val (.int p0), .val (.int f0), .val (.int m0), .val (.int k), .val (.ref oNO_FILE), .val (.ref b105), .unset, .unset, .unset, .unset, .unset, .unset] [(.int (2 : Int32))] _
      refine st108 _ ?_
      show SS p e below T108 m 76 #[.val (.int p0), .val (.int f0), .val (.int m0), .val (.int k), .val (.ref oNO_FILE), .val (.ref b105), .unset, .unset, .unset, .unset, .unset, .unset] [(.ref b108)] _
      refine XS.dup X108.here hx rfl (hb hby at_76) rfl rfl ?_
      show SS p e below T108 m 77 #[.val (.int p0), .val (.int f0), .val (.int m0), .val (.int k), .val (.ref oNO_FILE), .val (.ref b105), .unset, .unset, .unset, .unset, .unset, .unset] [(.ref b108), (.ref b108)] _
      refine XS.iconst X108.here hx rfl (hb hby at_77) ?_
      show SS p e below T108 m 78 #[.val (.int p0), .val (.int f0), .val (.int m0), .val (.int k), .val (.ref oNO_FILE), .val (.ref b105), .unset, .unset, .unset, .unset, .unset, .unset] [(.int (0 : Int32)), (.ref b108), (.ref b108)] _
      refine XS.iloadN X108.here hx rfl (hb hby at_78) rfl ?_
      show SS p e below T108 m 79 #[.val (.int p0), .val (.int f0), .val (.int m0), .val (.int k), .val (.ref oNO_FILE), .val (.ref b105), .unset, .unset, .unset, .unset, .unset, .unset] [(.int m0), (.int (0 : Int32)), (.ref b108), (.ref b108)] _
      refine XS.sipush X108.here hx rfl (hb hby at_79) ?_
      show SS p e below T108 m 82 #[.val (.int p0), .val (.int f0), .val (.int m0), .val (.int k), .val (.ref oNO_FILE), .val (.ref b105), .unset, .unset, .unset, .unset, .unset, .unset] [(.int (255 : Int32)), (.int m0), (.int (0 : Int32)), (.ref b108), (.ref b108)] _
      refine XS.iand X108.here hx rfl (hb hby at_82) rfl ?_
      show SS p e below T108 m 83 #[.val (.int p0), .val (.int f0), .val (.int m0), .val (.int k), .val (.ref oNO_FILE), .val (.ref b105), .unset, .unset, .unset, .unset, .unset, .unset] [(.int (m0 &&& (255 : Int32))), (.int (0 : Int32)), (.ref b108), (.ref b108)] _
      refine XS.i2c X108.here hx rfl (hb hby at_83) rfl ?_
      show SS p e below T108 m 84 #[.val (.int p0), .val (.int f0), .val (.int m0), .val (.int k), .val (.ref oNO_FILE), .val (.ref b105), .unset, .unset, .unset, .unset, .unset, .unset] [(.int ((m0 &&& (255 : Int32)).toUInt32.toUInt16.toUInt32.toInt32)), (.int (0 : Int32)), (.ref b108), (.ref b108)] _
      refine st109 _ ?_
      show SS p e below T109 m 85 #[.val (.int p0), .val (.int f0), .val (.int m0), .val (.int k), .val (.ref oNO_FILE), .val (.ref b105), .unset, .unset, .unset, .unset, .unset, .unset] [(.ref b108)] _
      refine XS.dup X109.here hx rfl (hb hby at_85) rfl rfl ?_
      show SS p e below T109 m 86 #[.val (.int p0), .val (.int f0), .val (.int m0), .val (.int k), .val (.ref oNO_FILE), .val (.ref b105), .unset, .unset, .unset, .unset, .unset, .unset] [(.ref b108), (.ref b108)] _
      refine XS.iconst X109.here hx rfl (hb hby at_86) ?_
      show SS p e below T109 m 87 #[.val (.int p0), .val (.int f0), .val (.int m0), .val (.int k), .val (.ref oNO_FILE), .val (.ref b105), .unset, .unset, .unset, .unset, .unset, .unset] [(.int (1 : Int32)), (.ref b108), (.ref b108)] _
      refine XS.iloadN X109.here hx rfl (hb hby at_87) rfl ?_
      show SS p e below T109 m 88 #[.val (.int p0), .val (.int f0), .val (.int m0), .val (.int k), .val (.ref oNO_FILE), .val (.ref b105), .unset, .unset, .unset, .unset, .unset, .unset] [(.int m0), (.int (1 : Int32)), (.ref b108), (.ref b108)] _
      refine XS.bipush X109.here hx rfl (hb hby at_88) ?_
      show SS p e below T109 m 90 #[.val (.int p0), .val (.int f0), .val (.int m0), .val (.int k), .val (.ref oNO_FILE), .val (.ref b105), .unset, .unset, .unset, .unset, .unset, .unset] [(.int (8 : Int32)), (.int m0), (.int (1 : Int32)), (.ref b108), (.ref b108)] _
      refine XS.iushr X109.here hx rfl (hb hby at_90) rfl ?_
      show SS p e below T109 m 91 #[.val (.int p0), .val (.int f0), .val (.int m0), .val (.int k), .val (.ref oNO_FILE), .val (.ref b105), .unset, .unset, .unset, .unset, .unset, .unset] [(.int ((m0.toUInt32 >>> ((8 : Int32) &&& 31).toUInt32).toInt32)), (.int (1 : Int32)), (.ref b108), (.ref b108)] _
      refine XS.sipush X109.here hx rfl (hb hby at_91) ?_
      show SS p e below T109 m 94 #[.val (.int p0), .val (.int f0), .val (.int m0), .val (.int k), .val (.ref oNO_FILE), .val (.ref b105), .unset, .unset, .unset, .unset, .unset, .unset] [(.int (255 : Int32)), (.int ((m0.toUInt32 >>> ((8 : Int32) &&& 31).toUInt32).toInt32)), (.int (1 : Int32)), (.ref b108), (.ref b108)] _
      refine XS.iand X109.here hx rfl (hb hby at_94) rfl ?_
      show SS p e below T109 m 95 #[.val (.int p0), .val (.int f0), .val (.int m0), .val (.int k), .val (.ref oNO_FILE), .val (.ref b105), .unset, .unset, .unset, .unset, .unset, .unset] [(.int (((m0.toUInt32 >>> ((8 : Int32) &&& 31).toUInt32).toInt32) &&& (255 : Int32))), (.int (1 : Int32)), (.ref b108), (.ref b108)] _
      refine XS.i2c X109.here hx rfl (hb hby at_95) rfl ?_
      show SS p e below T109 m 96 #[.val (.int p0), .val (.int f0), .val (.int m0), .val (.int k), .val (.ref oNO_FILE), .val (.ref b105), .unset, .unset, .unset, .unset, .unset, .unset] [(.int ((((m0.toUInt32 >>> ((8 : Int32) &&& 31).toUInt32).toInt32) &&& (255 : Int32)).toUInt32.toUInt16.toUInt32.toInt32)), (.int (1 : Int32)), (.ref b108), (.ref b108)] _
      refine st110 _ ?_
      show SS p e below T110 m 97 #[.val (.int p0), .val (.int f0), .val (.int m0), .val (.int k), .val (.ref oNO_FILE), .val (.ref b105), .unset, .unset, .unset, .unset, .unset, .unset] [(.ref b108)] _
      refine XS.astore X110.here hx rfl (hb hby at_97) rfl rfl (l' := #[.val (.int p0), .val (.int f0), .val (.int m0), .val (.int k), .val (.ref oNO_FILE), .val (.ref b105), .val (.ref b108), .unset, .unset, .unset, .unset, .unset]) rfl ?_
      show SS p e below T110 m 99 #[.val (.int p0), .val (.int f0), .val (.int m0), .val (.int k), .val (.ref oNO_FILE), .val (.ref b105), .val (.ref b108), .unset, .unset, .unset, .unset, .unset] [] _
      refine st111 _ ?_
      show SS p e below T111 m 102 #[.val (.int p0), .val (.int f0), .val (.int m0), .val (.int k), .val (.ref oNO_FILE), .val (.ref b105), .val (.ref b108), .unset, .unset, .unset, .unset, .unset] [(.ref b111)] _
      refine XS.dup X111.here hx rfl (hb hby at_102) rfl rfl ?_
      show SS p e below T111 m 103 #[.val (.int p0), .val (.int f0), .val (.int m0), .val (.int k), .val (.ref oNO_FILE), .val (.ref b105), .val (.ref b108), .unset, .unset, .unset, .unset, .unset] [(.ref b111), (.ref b111)] _
      refine XS.aload X111.here hx rfl (hb hby at_103) rfl rfl ?_
      show SS p e below T111 m 105 #[.val (.int p0), .val (.int f0), .val (.int m0), .val (.int k), .val (.ref oNO_FILE), .val (.ref b105), .val (.ref b108), .unset, .unset, .unset, .unset, .unset] [(.ref b105), (.ref b111), (.ref b111)] _
      refine st114.trans ?_
      show SS p e below T114 m 108 #[.val (.int p0), .val (.int f0), .val (.int m0), .val (.int k), .val (.ref oNO_FILE), .val (.ref b105), .val (.ref b108), .unset, .unset, .unset, .unset, .unset] [(.ref b111)] _
      refine XS.astore X114.here hx rfl (hb hby at_108) rfl rfl (l' := #[.val (.int p0), .val (.int f0), .val (.int m0), .val (.int k), .val (.ref oNO_FILE), .val (.ref b105), .val (.ref b108), .val (.ref b111), .unset, .unset, .unset, .unset]) rfl ?_
      show SS p e below T114 m 110 #[.val (.int p0), .val (.int f0), .val (.int m0), .val (.int k), .val (.ref oNO_FILE), .val (.ref b105), .val (.ref b108), .val (.ref b111), .unset, .unset, .unset, .unset] [] _
      refine st117 _ ?_
      show SS p e below T117 m 113 #[.val (.int p0), .val (.int f0), .val (.int m0), .val (.int k), .val (.ref oNO_FILE), .val (.ref b105), .val (.ref b108), .val (.ref b111), .unset, .unset, .unset, .unset] [(.ref b117)] _
      refine XS.dup X117.here hx rfl (hb hby at_113) rfl rfl ?_
      show SS p e below T117 m 114 #[.val (.int p0), .val (.int f0), .val (.int m0), .val (.int k), .val (.ref oNO_FILE), .val (.ref b105), .val (.ref b108), .val (.ref b111), .unset, .unset, .unset, .unset] [(.ref b117), (.ref b117)] _
      refine XS.aload X117.here hx rfl (hb hby at_114) rfl rfl ?_
      show SS p e below T117 m 116 #[.val (.int p0), .val (.int f0), .val (.int m0), .val (.int k), .val (.ref oNO_FILE), .val (.ref b105), .val (.ref b108), .val (.ref b111), .unset, .unset, .unset, .unset] [(.ref b108), (.ref b117), (.ref b117)] _
      refine st120.trans ?_
      show SS p e below T120 m 119 #[.val (.int p0), .val (.int f0), .val (.int m0), .val (.int k), .val (.ref oNO_FILE), .val (.ref b105), .val (.ref b108), .val (.ref b111), .unset, .unset, .unset, .unset] [(.ref b117)] _
      refine XS.astore X120.here hx rfl (hb hby at_119) rfl rfl (l' := #[.val (.int p0), .val (.int f0), .val (.int m0), .val (.int k), .val (.ref oNO_FILE), .val (.ref b105), .val (.ref b108), .val (.ref b111), .val (.ref b117), .unset, .unset, .unset]) rfl ?_
      show SS p e below T120 m 121 #[.val (.int p0), .val (.int f0), .val (.int m0), .val (.int k), .val (.ref oNO_FILE), .val (.ref b105), .val (.ref b108), .val (.ref b111), .val (.ref b117), .unset, .unset, .unset] [] _
      refine st123 _ ?_
      show SS p e below T123 m 124 #[.val (.int p0), .val (.int f0), .val (.int m0), .val (.int k), .val (.ref oNO_FILE), .val (.ref b105), .val (.ref b108), .val (.ref b111), .val (.ref b117), .unset, .unset, .unset] [(.ref b123)] _
      refine XS.dup X123.here hx rfl (hb hby at_124) rfl rfl ?_
      show SS p e below T123 m 125 #[.val (.int p0), .val (.int f0), .val (.int m0), .val (.int k), .val (.ref oNO_FILE), .val (.ref b105), .val (.ref b108), .val (.ref b111), .val (.ref b117), .unset, .unset, .unset] [(.ref b123), (.ref b123)] _
      refine XS.aload X123.here hx rfl (hb hby at_125) rfl rfl ?_
      show SS p e below T123 m 127 #[.val (.int p0), .val (.int f0), .val (.int m0), .val (.int k), .val (.ref oNO_FILE), .val (.ref b105), .val (.ref b108), .val (.ref b111), .val (.ref b117), .unset, .unset, .unset] [(.ref b111), (.ref b123), (.ref b123)] _
      refine XS.aload X123.here hx rfl (hb hby at_127) rfl rfl ?_
      show SS p e below T123 m 129 #[.val (.int p0), .val (.int f0), .val (.int m0), .val (.int k), .val (.ref oNO_FILE), .val (.ref b105), .val (.ref b108), .val (.ref b111), .val (.ref b117), .unset, .unset, .unset] [(.ref oNO_FILE), (.ref b111), (.ref b123), (.ref b123)] _
      refine XS.aload X123.here hx rfl (hb hby at_129) rfl rfl ?_
      show SS p e below T123 m 131 #[.val (.int p0), .val (.int f0), .val (.int m0), .val (.int k), .val (.ref oNO_FILE), .val (.ref b105), .val (.ref b108), .val (.ref b111), .val (.ref b117), .unset, .unset, .unset] [(.ref b117), (.ref oNO_FILE), (.ref b111), (.ref b123), (.ref b123)] _
      refine st125.trans ?_
      show SS p e below T125 m 134 #[.val (.int p0), .val (.int f0), .val (.int m0), .val (.int k), .val (.ref oNO_FILE), .val (.ref b105), .val (.ref b108), .val (.ref b111), .val (.ref b117), .unset, .unset, .unset] [(.ref b123)] _
      refine XS.astore X125.here hx rfl (hb hby at_134) rfl rfl (l' := #[.val (.int p0), .val (.int f0), .val (.int m0), .val (.int k), .val (.ref oNO_FILE), .val (.ref b105), .val (.ref b108), .val (.ref b111), .val (.ref b117), .val (.ref b123), .unset, .unset]) rfl ?_
      show SS p e below T125 m 136 #[.val (.int p0), .val (.int f0), .val (.int m0), .val (.int k), .val (.ref oNO_FILE), .val (.ref b105), .val (.ref b108), .val (.ref b111), .val (.ref b117), .val (.ref b123), .unset, .unset] [] _
      refine XS.aload X125.here hx rfl (hb hby at_136) rfl rfl ?_
      show SS p e below T125 m 138 #[.val (.int p0), .val (.int f0), .val (.int m0), .val (.int k), .val (.ref oNO_FILE), .val (.ref b105), .val (.ref b108), .val (.ref b111), .val (.ref b117), .val (.ref b123), .unset, .unset] [(.ref b123)] _
      refine st127.trans ?_
      show SS p e below T127 m 141 #[.val (.int p0), .val (.int f0), .val (.int m0), .val (.int k), .val (.ref oNO_FILE), .val (.ref b105), .val (.ref b108), .val (.ref b111), .val (.ref b117), .val (.ref b123), .unset, .unset] [(.int (if oNO_FILE = oNO_FILE then (66 : Int32) else (65 : Int32)))] _
      refine XS.istore X127.here hx rfl (hb hby at_141) rfl (l' := #[.val (.int p0), .val (.int f0), .val (.int m0), .val (.int k), .val (.ref oNO_FILE), .val (.ref b105), .val (.ref b108), .val (.ref b111), .val (.ref b117), .val (.ref b123), .val (.int (if oNO_FILE = oNO_FILE then (66 : Int32) else (65 : Int32))), .unset]) rfl ?_
      show SS p e below T127 m 143 #[.val (.int p0), .val (.int f0), .val (.int m0), .val (.int k), .val (.ref oNO_FILE), .val (.ref b105), .val (.ref b108), .val (.ref b111), .val (.ref b117), .val (.ref b123), .val (.int (if oNO_FILE = oNO_FILE then (66 : Int32) else (65 : Int32))), .unset] [] _
      refine XS.iloadN X127.here hx rfl (hb hby at_143) rfl ?_
      show SS p e below T127 m 144 #[.val (.int p0), .val (.int f0), .val (.int m0), .val (.int k), .val (.ref oNO_FILE), .val (.ref b105), .val (.ref b108), .val (.ref b111), .val (.ref b117), .val (.ref b123), .val (.int (if oNO_FILE = oNO_FILE then (66 : Int32) else (65 : Int32))), .unset] [(.int k)] _
      refine XS.ifNo X127.here hx rfl (hb hby at_144) rfl ((if0 _ _).trans (teq hc102).2) ?_
      show SS p e below T127 m 147 #[.val (.int p0), .val (.int f0), .val (.int m0), .val (.int k), .val (.ref oNO_FILE), .val (.ref b105), .val (.ref b108), .val (.ref b111), .val (.ref b117), .val (.ref b123), .val (.int (if oNO_FILE = oNO_FILE then (66 : Int32) else (65 : Int32))), .unset] [] _
      refine XS.bipush X127.here hx rfl (hb hby at_147) ?_
      show SS p e below T127 m 149 #[.val (.int p0), .val (.int f0), .val (.int m0), .val (.int k), .val (.ref oNO_FILE), .val (.ref b105), .val (.ref b108), .val (.ref b111), .val (.ref b117), .val (.ref b123), .val (.int (if oNO_FILE = oNO_FILE then (66 : Int32) else (65 : Int32))), .unset] [(.int (66 : Int32))] _
      refine XS.istore X127.here hx rfl (hb hby at_149) rfl (l' := #[.val (.int p0), .val (.int f0), .val (.int m0), .val (.int k), .val (.ref oNO_FILE), .val (.ref b105), .val (.ref b108), .val (.ref b111), .val (.ref b117), .val (.ref b123), .val (.int (if oNO_FILE = oNO_FILE then (66 : Int32) else (65 : Int32))), .val (.int (66 : Int32))]) rfl ?_
      show SS p e below T127 m 151 #[.val (.int p0), .val (.int f0), .val (.int m0), .val (.int k), .val (.ref oNO_FILE), .val (.ref b105), .val (.ref b108), .val (.ref b111), .val (.ref b117), .val (.ref b123), .val (.int (if oNO_FILE = oNO_FILE then (66 : Int32) else (65 : Int32))), .val (.int (66 : Int32))] [] _
      refine XS.goto X127.here hx rfl (pc0 := 151) (pc' := 158) rfl (hb hby at_151) (by decide) (by decide) ?_
      show SS p e below T127 m 158 #[.val (.int p0), .val (.int f0), .val (.int m0), .val (.int k), .val (.ref oNO_FILE), .val (.ref b105), .val (.ref b108), .val (.ref b111), .val (.ref b117), .val (.ref b123), .val (.int (if oNO_FILE = oNO_FILE then (66 : Int32) else (65 : Int32))), .val (.int (66 : Int32))] [] _
      refine XS.iload X127.here hx rfl (hb hby at_158) rfl ?_
      show SS p e below T127 m 160 #[.val (.int p0), .val (.int f0), .val (.int m0), .val (.int k), .val (.ref oNO_FILE), .val (.ref b105), .val (.ref b108), .val (.ref b111), .val (.ref b117), .val (.ref b123), .val (.int (if oNO_FILE = oNO_FILE then (66 : Int32) else (65 : Int32))), .val (.int (66 : Int32))] [(.int (if oNO_FILE = oNO_FILE then (66 : Int32) else (65 : Int32)))] _
      refine XS.iload X127.here hx rfl (hb hby at_160) rfl ?_
      show SS p e below T127 m 162 #[.val (.int p0), .val (.int f0), .val (.int m0), .val (.int k), .val (.ref oNO_FILE), .val (.ref b105), .val (.ref b108), .val (.ref b111), .val (.ref b117), .val (.ref b123), .val (.int (if oNO_FILE = oNO_FILE then (66 : Int32) else (65 : Int32))), .val (.int (66 : Int32))] [(.int (66 : Int32)), (.int (if oNO_FILE = oNO_FILE then (66 : Int32) else (65 : Int32)))] _
      refine XS.icmpNo X127.here hx rfl (hb hby at_162) rfl (teq (if_pos rfl)).2 ?_
      show SS p e below T127 m 165 #[.val (.int p0), .val (.int f0), .val (.int m0), .val (.int k), .val (.ref oNO_FILE), .val (.ref b105), .val (.ref b108), .val (.ref b111), .val (.ref b117), .val (.ref b123), .val (.int (if oNO_FILE = oNO_FILE then (66 : Int32) else (65 : Int32))), .val (.int (66 : Int32))] [] _
      refine XS.iconst X127.here hx rfl (hb hby at_165) ?_
      show SS p e below T127 m 166 #[.val (.int p0), .val (.int f0), .val (.int m0), .val (.int k), .val (.ref oNO_FILE), .val (.ref b105), .val (.ref b108), .val (.ref b111), .val (.ref b117), .val (.ref b123), .val (.int (if oNO_FILE = oNO_FILE then (66 : Int32) else (65 : Int32))), .val (.int (66 : Int32))] [(.int (1 : Int32))] _
      refine XS.goto X127.here hx rfl (pc0 := 166) (pc' := 170) rfl (hb hby at_166) (by decide) (by decide) ?_
      show SS p e below T127 m 170 #[.val (.int p0), .val (.int f0), .val (.int m0), .val (.int k), .val (.ref oNO_FILE), .val (.ref b105), .val (.ref b108), .val (.ref b111), .val (.ref b117), .val (.ref b123), .val (.int (if oNO_FILE = oNO_FILE then (66 : Int32) else (65 : Int32))), .val (.int (66 : Int32))] [(.int (1 : Int32))] _
      exact kt
    obtain ⟨fs, hr, hrun, hended, hW, hsame⟩ := X127.leave (v := some (.int (nar .boolean (1 : Int32)))) (fun h => by rw [Bd.returns] at h; cases h)
    refine ⟨_, _, W128 _ (retN X127 hx (t := .boolean) Bd.returns (by simp) (hb hby at_170) hr), hrun, hended, _, _, rfl, ?_, ⟨_, rfl⟩, hW, hsame.mono (by decide) (by decide)⟩
    show Q_law Z p0 f0 m0 oNO_FILE oNOT_AN_ONTOLOGY oMISSING_IMPORT oNOT_A_CATALOG cS uv sv h0 n0 _ T127.heap _
    rw [eq127]
    exact ⟨rfl, N127, (Keep.trans (Keep.trans (Keep.trans (Keep.trans (Keep.trans (Keep.trans (Keep.trans (Keep.trans (Keep.trans (Keep.trans (Keep.trans (Keep.trans (Keep.refl h0 []) K105 all0) K106 (allS (Or.inr (Nat.le_of_eq g105.symm)) all0)) K107 (allS (Or.inr (Nat.le_of_eq g105.symm)) all0)) K108 all0) K109 (allS (Or.inr (Nat.le_trans (Nat.le_trans (Nat.le_trans K105.1 K106.1) K107.1) (Nat.le_of_eq g108.symm))) all0)) K110 (allS (Or.inr (Nat.le_trans (Nat.le_trans (Nat.le_trans K105.1 K106.1) K107.1) (Nat.le_of_eq g108.symm))) all0)) K111 all0) K114 (allS (Or.inr (Nat.le_trans (Nat.le_trans (Nat.le_trans (Nat.le_trans (Nat.le_trans (Nat.le_trans K105.1 K106.1) K107.1) K108.1) K109.1) K110.1) (Nat.le_of_eq g111.symm))) all0)) K117 all0) K120 (allS (Or.inr (Nat.le_trans (Nat.le_trans (Nat.le_trans (Nat.le_trans (Nat.le_trans (Nat.le_trans (Nat.le_trans (Nat.le_trans K105.1 K106.1) K107.1) K108.1) K109.1) K110.1) K111.1) K114.1) (Nat.le_of_eq g117.symm))) all0)) K123 all0) K125 (allS (Or.inr (Nat.le_trans (Nat.le_trans (Nat.le_trans (Nat.le_trans (Nat.le_trans (Nat.le_trans (Nat.le_trans (Nat.le_trans (Nat.le_trans (Nat.le_trans K105.1 K106.1) K107.1) K108.1) K109.1) K110.1) K111.1) K114.1) K117.1) K120.1) (Nat.le_of_eq g123.symm))) all0))⟩
  ·
    have W129 : ∀ zQ, SS p e below s₁ m 18 #[.val (.int p0), .val (.int f0), .val (.int m0), .val (.int k), .unset, .unset, .unset, .unset, .unset, .unset, .unset, .unset] [(.int (1 : Int32)), (.int k)] zQ → Steps p.tables e below (s₁.setTop (entryFrame m #[(.int p0), (.int f0), (.int m0)] maxLocals)) zQ := by
      intro tt kt
      refine W101 tt ?_
      refine XS.ifYes X0.here hx rfl (pc0 := 5) (pc' := 16) rfl (hb hby at_5) rfl ((if0 _ _).trans (feq hc102).2) (by decide) (by decide) ?_
      show SS p e below s₁ m 16 #[.val (.int p0), .val (.int f0), .val (.int m0), .val (.int k), .unset, .unset, .unset, .unset, .unset, .unset, .unset, .unset] [] _
      refine XS.iloadN X0.here hx rfl (hb hby at_16) rfl ?_
      show SS p e below s₁ m 17 #[.val (.int p0), .val (.int f0), .val (.int m0), .val (.int k), .unset, .unset, .unset, .unset, .unset, .unset, .unset, .unset] [(.int k)] _
      refine XS.iconst X0.here hx rfl (hb hby at_17) ?_
      show SS p e below s₁ m 18 #[.val (.int p0), .val (.int f0), .val (.int m0), .val (.int k), .unset, .unset, .unset, .unset, .unset, .unset, .unset, .unset] [(.int (1 : Int32)), (.int k)] _
      exact kt
    by_cases hc130 : k = (1 : Int32)
    ·
      have F132 : Sta Z h0 "axiomend/ontology/OntologyReadException$Problem" "NOT_AN_ONTOLOGY" "Laxiomend/ontology/OntologyReadException$Problem;" (.ref oNOT_AN_ONTOLOGY) := S_NOT_AN_ONTOLOGY.ext O0.2
      obtain ⟨T131, X131, e131, st131⟩ := getS2 X0 hx hZ hown (host := "") (Or.inl (w97 hw)) Via.refl e0 F132 (g := (mkF m 21 #[.val (.int p0), .val (.int f0), .val (.int m0), .val (.int k), .unset, .unset, .unset, .unset, .unset, .unset, .unset, .unset] [])) rfl (hb hby at_21)
      obtain ⟨T133, h133, k133, X133, e133, E133, A133, st133⟩ := newP X131 hx hZ (aty := .char) (w3 hw) e131 (g := (mkF m 48 #[.val (.int p0), .val (.int f0), .val (.int m0), .val (.int k), .val (.ref oNOT_AN_ONTOLOGY), .unset, .unset, .unset, .unset, .unset, .unset, .unset] [(.int (2 : Int32))])) rfl (hb hby at_48) (n := (2 : Int32)) rfl (by decide) (cap := 2) (by decide) (by decide) (by decide) (by decide)
      obtain ⟨b133, g133⟩ : ∃ z, z = h0.size := ⟨_, rfl⟩
      rw [← g133] at A133 st133
      have K133 := (Keep.refl h0 []).ext E133
      have G133 : Arv Z h133 b133 k133 .char (2 : Int32) [(.int (0 : Int32)), (.int (0 : Int32))] (.int (0 : Int32)) := (Arv.new A133 (by decide)).pad (pad_rep [] (.int (0 : Int32)) 2)
      obtain ⟨cl134, Ar134, q134, S134, M134, H134, F134g⟩ := id G133
      have hin134 : ¬ ((0 : Int32) < 0 ∨ cl134.slots.size ≤ ((0 : Int32)).toNatClampNeg) := inb_of S134 ⟨by decide, by decide⟩
      obtain ⟨T134, h134, X134, e134, Wr134, st134⟩ := stC X133 hx hZ e133 Ar134 (j := (0 : Int32)) hin134 (g := (mkF m 58 #[.val (.int p0), .val (.int f0), .val (.int m0), .val (.int k), .val (.ref oNOT_AN_ONTOLOGY), .unset, .unset, .unset, .unset, .unset, .unset, .unset] [(.int ((f0 &&& (255 : Int32)).toUInt32.toUInt16.toUInt32.toInt32)), (.int (0 : Int32)), (.ref b133), (.ref b133)])) rfl rfl (hb hby at_58)
      have G134 : Arv Z h134 b133 k133 .char (2 : Int32) [(.int (nar .char ((f0 &&& (255 : Int32)).toUInt32.toUInt16.toUInt32.toInt32))), (.int (0 : Int32))] (.int (0 : Int32)) := Arv.set Ar134 q134 S134 M134 H134 F134g (fits_nar_char _) Wr134 0 rfl (Nat.le_of_ble_eq_true rfl)
      have K134 := Keep.of_wr Wr134
      have N134 := Fr.snoc X134 N0 (Nat.le_trans Z0 (Nat.le_of_eq g133.symm))
      obtain ⟨cl135, Ar135, q135, S135, M135, H135, F135g⟩ := id G134
      have hin135 : ¬ ((1 : Int32) < 0 ∨ cl135.slots.size ≤ ((1 : Int32)).toNatClampNeg) := inb_of S135 ⟨by decide, by decide⟩
      obtain ⟨T135, h135, X135, e135, Wr135, st135⟩ := stC X134 hx hZ e134 Ar135 (j := (1 : Int32)) hin135 (g := (mkF m 70 #[.val (.int p0), .val (.int f0), .val (.int m0), .val (.int k), .val (.ref oNOT_AN_ONTOLOGY), .unset, .unset, .unset, .unset, .unset, .unset, .unset] [(.int ((((f0.toUInt32 >>> ((8 : Int32) &&& 31).toUInt32).toInt32) &&& (255 : Int32)).toUInt32.toUInt16.toUInt32.toInt32)), (.int (1 : Int32)), (.ref b133), (.ref b133)])) rfl rfl (hb hby at_70)
      have G135 : Arv Z h135 b133 k133 .char (2 : Int32) [(.int (nar .char ((f0 &&& (255 : Int32)).toUInt32.toUInt16.toUInt32.toInt32))), (.int (nar .char ((((f0.toUInt32 >>> ((8 : Int32) &&& 31).toUInt32).toInt32) &&& (255 : Int32)).toUInt32.toUInt16.toUInt32.toInt32)))] (.int (0 : Int32)) := Arv.set Ar135 q135 S135 M135 H135 F135g (fits_nar_char _) Wr135 1 rfl (Nat.le_of_ble_eq_true rfl)
      have K135 := Keep.of_wr Wr135
      have N135 := Fr.snoc X135 N134 (Nat.le_trans Z0 (Nat.le_of_eq g133.symm))
      obtain ⟨T136, h136, k136, X136, e136, E136, A136, st136⟩ := newP X135 hx hZ (aty := .char) (w3 hw) e135 (g := (mkF m 74 #[.val (.int p0), .val (.int f0), .val (.int m0), .val (.int k), .val (.ref oNOT_AN_ONTOLOGY), .val (.ref b133), .unset, .unset, .unset, .unset, .unset, .unset] [(.int (2 : Int32))])) rfl (hb hby at_74) (n := (2 : Int32)) rfl (by decide) (cap := 2) (by decide) (by decide) (by decide) (by decide)
      obtain ⟨b136, g136⟩ : ∃ z, z = h135.size := ⟨_, rfl⟩
      rw [← g136] at A136 st136
      have K136 := (Keep.refl h135 []).ext E136
      have G136 : Arv Z h136 b136 k136 .char (2 : Int32) [(.int (0 : Int32)), (.int (0 : Int32))] (.int (0 : Int32)) := (Arv.new A136 (by decide)).pad (pad_rep [] (.int (0 : Int32)) 2)
      obtain ⟨cl137, Ar137, q137, S137, M137, H137, F137g⟩ := id G136
      have hin137 : ¬ ((0 : Int32) < 0 ∨ cl137.slots.size ≤ ((0 : Int32)).toNatClampNeg) := inb_of S137 ⟨by decide, by decide⟩
      obtain ⟨T137, h137, X137, e137, Wr137, st137⟩ := stC X136 hx hZ e136 Ar137 (j := (0 : Int32)) hin137 (g := (mkF m 84 #[.val (.int p0), .val (.int f0), .val (.int m0), .val (.int k), .val (.ref oNOT_AN_ONTOLOGY), .val (.ref b133), .unset, .unset, .unset, .unset, .unset, .unset] [(.int ((m0 &&& (255 : Int32)).toUInt32.toUInt16.toUInt32.toInt32)), (.int (0 : Int32)), (.ref b136), (.ref b136)])) rfl rfl (hb hby at_84)
      have G137 : Arv Z h137 b136 k136 .char (2 : Int32) [(.int (nar .char ((m0 &&& (255 : Int32)).toUInt32.toUInt16.toUInt32.toInt32))), (.int (0 : Int32))] (.int (0 : Int32)) := Arv.set Ar137 q137 S137 M137 H137 F137g (fits_nar_char _) Wr137 0 rfl (Nat.le_of_ble_eq_true rfl)
      have K137 := Keep.of_wr Wr137
      have N137 := Fr.snoc X137 N135 (Nat.le_trans Z0 (Nat.le_trans (Nat.le_trans (Nat.le_trans K133.1 K134.1) K135.1) (Nat.le_of_eq g136.symm)))
      obtain ⟨cl138, Ar138, q138, S138, M138, H138, F138g⟩ := id G137
      have hin138 : ¬ ((1 : Int32) < 0 ∨ cl138.slots.size ≤ ((1 : Int32)).toNatClampNeg) := inb_of S138 ⟨by decide, by decide⟩
      obtain ⟨T138, h138, X138, e138, Wr138, st138⟩ := stC X137 hx hZ e137 Ar138 (j := (1 : Int32)) hin138 (g := (mkF m 96 #[.val (.int p0), .val (.int f0), .val (.int m0), .val (.int k), .val (.ref oNOT_AN_ONTOLOGY), .val (.ref b133), .unset, .unset, .unset, .unset, .unset, .unset] [(.int ((((m0.toUInt32 >>> ((8 : Int32) &&& 31).toUInt32).toInt32) &&& (255 : Int32)).toUInt32.toUInt16.toUInt32.toInt32)), (.int (1 : Int32)), (.ref b136), (.ref b136)])) rfl rfl (hb hby at_96)
      have G138 : Arv Z h138 b136 k136 .char (2 : Int32) [(.int (nar .char ((m0 &&& (255 : Int32)).toUInt32.toUInt16.toUInt32.toInt32))), (.int (nar .char ((((m0.toUInt32 >>> ((8 : Int32) &&& 31).toUInt32).toInt32) &&& (255 : Int32)).toUInt32.toUInt16.toUInt32.toInt32)))] (.int (0 : Int32)) := Arv.set Ar138 q138 S138 M138 H138 F138g (fits_nar_char _) Wr138 1 rfl (Nat.le_of_ble_eq_true rfl)
      have K138 := Keep.of_wr Wr138
      have N138 := Fr.snoc X138 N137 (Nat.le_trans Z0 (Nat.le_trans (Nat.le_trans (Nat.le_trans K133.1 K134.1) K135.1) (Nat.le_of_eq g136.symm)))
      obtain ⟨T139, h139, X139, e139, E139, A139, D139, U139, st139⟩ := newO X138 hx hZ hown (w4 hw) (w5 hw) (w6 hw) e138 (g := (mkF m 99 #[.val (.int p0), .val (.int f0), .val (.int m0), .val (.int k), .val (.ref oNOT_AN_ONTOLOGY), .val (.ref b133), .val (.ref b136), .unset, .unset, .unset, .unset, .unset] [])) rfl (hb hby at_99) (by decide) (by decide)
      obtain ⟨b139, g139⟩ : ∃ z, z = h138.size := ⟨_, rfl⟩
      rw [← g139] at A139 D139 U139 st139
      have K139 := (Keep.refl h138 []).ext E139
      have G139_coder : Fld Z h139 b139 "java/lang/String" "coder" "B" (.int (0 : Int32)) := D139 (Or.inr (w30 hw)) (ty := .byte) (by decide)
      have G139_value : Fld Z h139 b139 "java/lang/String" "value" "[B" .null := D139 (Or.inr (w32 hw)) (ty := (.array .byte)) (by decide)
      have F140 : Arv Z h139 b133 k133 .char (2 : Int32) [(.int (nar .char ((f0 &&& (255 : Int32)).toUInt32.toUInt16.toUInt32.toInt32))), (.int (nar .char ((((f0.toUInt32 >>> ((8 : Int32) &&& 31).toUInt32).toInt32) &&& (255 : Int32)).toUInt32.toUInt16.toUInt32.toInt32)))] (.int (0 : Int32)) := ((((G135.keep K136 nin0).keep K137 (ninS (Nat.ne_of_lt (Nat.lt_of_lt_of_le (Nat.lt_of_lt_of_le G133.lt (Nat.le_trans K134.1 K135.1)) (Nat.le_of_eq g136.symm))) nin0)).keep K138 (ninS (Nat.ne_of_lt (Nat.lt_of_lt_of_le (Nat.lt_of_lt_of_le G133.lt (Nat.le_trans K134.1 K135.1)) (Nat.le_of_eq g136.symm))) nin0)).keep K139 nin0)
      have O141 : Old Z n0 h139 := (((((((O0.keep K133 all0).keep K134 (allS (Nat.le_trans Z0 (Nat.le_of_eq g133.symm)) all0)).keep K135 (allS (Nat.le_trans Z0 (Nat.le_of_eq g133.symm)) all0)).keep K136 all0).keep K137 (allS (Nat.le_trans Z0 (Nat.le_trans (Nat.le_trans (Nat.le_trans K133.1 K134.1) K135.1) (Nat.le_of_eq g136.symm))) all0)).keep K138 (allS (Nat.le_trans Z0 (Nat.le_trans (Nat.le_trans (Nat.le_trans K133.1 K134.1) K135.1) (Nat.le_of_eq g136.symm))) all0)).keep K139 all0)
      obtain ⟨_, _, ⟨T142, L142, k142, n142⟩, -, X142, ⟨Lc142, hQ142, l142, y142, z142⟩, st142⟩ := X139.specialBack hx (y := (⟨"java/lang/String", "<init>", "([C)V"⟩ : MethodName)) rfl hown (mvT hZ (w7 hw)) (mvT hZ (w8 hw)) (mvT hZ (w9 hw)) (by decide) (backOf (W := 1) (rm_sinit l Z a0 hw [] b139 b133 k133 [(nar .char ((f0 &&& (255 : Int32)).toUInt32.toUInt16.toUInt32.toInt32)), (nar .char ((((f0.toUInt32 >>> ((8 : Int32) &&& 31).toUInt32).toInt32) &&& (255 : Int32)).toUInt32.toUInt16.toUInt32.toInt32))] cS h139 n0 (Nat.le_trans Z0 (Nat.le_trans (Nat.le_trans (Nat.le_trans (Nat.le_trans (Nat.le_trans (Nat.le_trans K133.1 K134.1) K135.1) K136.1) K137.1) K138.1) K139.1)) O141 S_cs hcS A139 G139_value G139_coder (Nat.le_trans Z0 (Nat.le_trans (Nat.le_trans (Nat.le_trans (Nat.le_trans (Nat.le_trans (Nat.le_trans K133.1 K134.1) K135.1) K136.1) K137.1) K138.1) (Nat.le_of_eq g139.symm))) F140 (own_ok2 (own_c8 f0) (own_c8 _)).1 (Nat.le_of_ble_eq_true rfl) (Nat.le_of_ble_eq_true rfl) (Ne.symm (Nat.ne_of_lt (Nat.lt_of_lt_of_le (Nat.lt_of_lt_of_le G133.lt (Nat.le_trans (Nat.le_trans (Nat.le_trans (Nat.le_trans K134.1 K135.1) K136.1) K137.1) K138.1)) (Nat.le_of_eq g139.symm)))) (own_ok2 (own_c8 f0) (own_c8 _)).2) hZ (w9 hw) (w6 hw) (by decide) (by decide)) (g := (mkF m 105 #[.val (.int p0), .val (.int f0), .val (.int m0), .val (.int k), .val (.ref oNOT_AN_ONTOLOGY), .val (.ref b133), .val (.ref b136), .unset, .unset, .unset, .unset, .unset] [(.ref b133), (.ref b139), (.ref b139)])) rfl (by rw [hml]; rfl) (Steps.refl _) (a := b139) (argsL := [(.ref b133)]) (rest := [(.ref b139)]) (lenOf pd__28__5b_C_29_V rfl) rfl (by show 2 * 0 + _ ≤ _; exact Nat.le_of_eq rfl) (hb hby at_105) (fun _ _ => ⟨rfl, e139, (Nat.le_of_ble_eq_true rfl), (Nat.le_of_ble_eq_true rfl)⟩)
      dsimp only [Pt.U, Pt.locs, Pt.cells, Pt.slots] at X142 l142 y142 z142 st142 hQ142
      subst l142 y142 z142
      obtain ⟨t_143, kb_144, rfl, Nq142, K142, P142_0, P142_1⟩ := hQ142
      have N142 := Fr.app N138 Nq142
      obtain ⟨T145, h145, X145, e145, E145, A145, D145, U145, st145⟩ := newO X142 hx hZ hown (w4 hw) (w5 hw) (w6 hw) rfl (g := (mkF m 110 #[.val (.int p0), .val (.int f0), .val (.int m0), .val (.int k), .val (.ref oNOT_AN_ONTOLOGY), .val (.ref b133), .val (.ref b136), .val (.ref b139), .unset, .unset, .unset, .unset] [])) rfl (hb hby at_110) (by decide) (by decide)
      obtain ⟨b145, g145⟩ : ∃ z, z = T142.heap.size := ⟨_, rfl⟩
      rw [← g145] at A145 D145 U145 st145
      have K145 := (Keep.refl T142.heap []).ext E145
      have G145_coder : Fld Z h145 b145 "java/lang/String" "coder" "B" (.int (0 : Int32)) := D145 (Or.inr (w30 hw)) (ty := .byte) (by decide)
      have G145_value : Fld Z h145 b145 "java/lang/String" "value" "[B" .null := D145 (Or.inr (w32 hw)) (ty := (.array .byte)) (by decide)
      have F146 : Arv Z h145 b136 k136 .char (2 : Int32) [(.int (nar .char ((m0 &&& (255 : Int32)).toUInt32.toUInt16.toUInt32.toInt32))), (.int (nar .char ((((m0.toUInt32 >>> ((8 : Int32) &&& 31).toUInt32).toInt32) &&& (255 : Int32)).toUInt32.toUInt16.toUInt32.toInt32)))] (.int (0 : Int32)) := (((G138.keep K139 nin0).keep K142 (ninS (Nat.ne_of_lt (Nat.lt_of_lt_of_le (Nat.lt_of_lt_of_le G136.lt (Nat.le_trans K137.1 K138.1)) (Nat.le_of_eq g139.symm))) nin0)).keep K145 nin0)
      have O147 : Old Z n0 h145 := ((O141.keep K142 (allS (Nat.le_trans Z0 (Nat.le_trans (Nat.le_trans (Nat.le_trans (Nat.le_trans (Nat.le_trans (Nat.le_trans K133.1 K134.1) K135.1) K136.1) K137.1) K138.1) (Nat.le_of_eq g139.symm))) all0)).keep K145 all0)
      obtain ⟨_, _, ⟨T148, L148, k148, n148⟩, -, X148, ⟨Lc148, hQ148, l148, y148, z148⟩, st148⟩ := X145.specialBack hx (y := (⟨"java/lang/String", "<init>", "([C)V"⟩ : MethodName)) rfl hown (mvT hZ (w7 hw)) (mvT hZ (w8 hw)) (mvT hZ (w9 hw)) (by decide) (backOf (W := 1) (rm_sinit l Z a0 hw [] b145 b136 k136 [(nar .char ((m0 &&& (255 : Int32)).toUInt32.toUInt16.toUInt32.toInt32)), (nar .char ((((m0.toUInt32 >>> ((8 : Int32) &&& 31).toUInt32).toInt32) &&& (255 : Int32)).toUInt32.toUInt16.toUInt32.toInt32))] cS h145 n0 (Nat.le_trans Z0 (Nat.le_trans (Nat.le_trans (Nat.le_trans (Nat.le_trans (Nat.le_trans (Nat.le_trans (Nat.le_trans (Nat.le_trans K133.1 K134.1) K135.1) K136.1) K137.1) K138.1) K139.1) K142.1) K145.1)) O147 S_cs hcS A145 G145_value G145_coder (Nat.le_trans Z0 (Nat.le_trans (Nat.le_trans (Nat.le_trans (Nat.le_trans (Nat.le_trans (Nat.le_trans (Nat.le_trans (Nat.le_trans K133.1 K134.1) K135.1) K136.1) K137.1) K138.1) K139.1) K142.1) (Nat.le_of_eq g145.symm))) F146 (own_ok2 (own_c8 m0) (own_c8 _)).1 (Nat.le_of_ble_eq_true rfl) (Nat.le_of_ble_eq_true rfl) (Ne.symm (Nat.ne_of_lt (Nat.lt_of_lt_of_le (Nat.lt_of_lt_of_le G136.lt (Nat.le_trans (Nat.le_trans (Nat.le_trans K137.1 K138.1) K139.1) K142.1)) (Nat.le_of_eq g145.symm)))) (own_ok2 (own_c8 m0) (own_c8 _)).2) hZ (w9 hw) (w6 hw) (by decide) (by decide)) (g := (mkF m 116 #[.val (.int p0), .val (.int f0), .val (.int m0), .val (.int k), .val (.ref oNOT_AN_ONTOLOGY), .val (.ref b133), .val (.ref b136), .val (.ref b139), .unset, .unset, .unset, .unset] [(.ref b136), (.ref b145), (.ref b145)])) rfl (by rw [hml]; rfl) (Steps.refl _) (a := b145) (argsL := [(.ref b136)]) (rest := [(.ref b145)]) (lenOf pd__28__5b_C_29_V rfl) rfl (by show 2 * 0 + _ ≤ _; exact Nat.le_of_eq rfl) (hb hby at_116) (fun _ _ => ⟨rfl, e145, (Nat.le_of_ble_eq_true rfl), (Nat.le_of_ble_eq_true rfl)⟩)
      dsimp only [Pt.U, Pt.locs, Pt.cells, Pt.slots] at X148 l148 y148 z148 st148 hQ148
      subst l148 y148 z148
      obtain ⟨t_149, kb_150, rfl, Nq148, K148, P148_0, P148_1⟩ := hQ148
      have N148 := Fr.app N142 Nq148
      obtain ⟨T151, h151, X151, e151, E151, A151, D151, U151, st151⟩ := newO X148 hx hZ hown (w33 hw) (w34 hw) (w35 hw) rfl (g := (mkF m 121 #[.val (.int p0), .val (.int f0), .val (.int m0), .val (.int k), .val (.ref oNOT_AN_ONTOLOGY), .val (.ref b133), .val (.ref b136), .val (.ref b139), .val (.ref b145), .unset, .unset, .unset] [])) rfl (hb hby at_121) (by decide) (by decide)
      obtain ⟨b151, g151⟩ : ∃ z, z = T148.heap.size := ⟨_, rfl⟩
      rw [← g151] at A151 D151 U151 st151
      have K151 := (Keep.refl T148.heap []).ext E151
      have G151_cause : Fld Z h151 b151 "java/lang/Throwable" "cause" "Ljava/lang/Throwable;" .null := D151 (Or.inl (w52 hw)) (ty := (.object "java/lang/Throwable")) (by decide)
      have G151_stackTrace : Fld Z h151 b151 "java/lang/Throwable" "stackTrace" "[Ljava/lang/StackTraceElement;" .null := D151 (Or.inl (w55 hw)) (ty := (.array (.object "java/lang/StackTraceElement"))) (by decide)
      have G151_suppressedExceptions : Fld Z h151 b151 "java/lang/Throwable" "suppressedExceptions" "Ljava/util/List;" .null := D151 (Or.inl (w58 hw)) (ty := (.object "java/util/List")) (by decide)
      have G151_detailMessage : Fld Z h151 b151 "java/lang/Throwable" "detailMessage" "Ljava/lang/String;" .null := D151 (Or.inl (w82 hw)) (ty := (.object "java/lang/String")) (by decide)
      have G151_backtrace : Fld Z h151 b151 "java/lang/Throwable" "backtrace" "Ljava/lang/Object;" .null := D151 (Or.inl (w83 hw)) (ty := (.object "java/lang/Object")) (by decide)
      have G151_depth : Fld Z h151 b151 "java/lang/Throwable" "depth" "I" (.int (0 : Int32)) := D151 (Or.inl (w84 hw)) (ty := .int) (by decide)
      have G151_file : Fld Z h151 b151 "axiomend/ontology/OntologyReadException" "file" "Ljava/lang/String;" .null := D151 (Or.inr (w88 hw)) (ty := (.object "java/lang/String")) (by decide)
      have G151_problem : Fld Z h151 b151 "axiomend/ontology/OntologyReadException" "problem" "Laxiomend/ontology/OntologyReadException$Problem;" .null := D151 (Or.inr (w90 hw)) (ty := (.object "axiomend/ontology/OntologyReadException$Problem")) (by decide)
      have O152 : Old Z n0 h151 := ((O147.keep K148 (allS (Nat.le_trans Z0 (Nat.le_trans (Nat.le_trans (Nat.le_trans (Nat.le_trans (Nat.le_trans (Nat.le_trans (Nat.le_trans (Nat.le_trans K133.1 K134.1) K135.1) K136.1) K137.1) K138.1) K139.1) K142.1) (Nat.le_of_eq g145.symm))) all0)).keep K151 all0)
      obtain ⟨_, _, ⟨T153, L153, k153, n153⟩, -, X153, ⟨Lc153, hQ153, l153, y153, z153⟩, st153⟩ := X151.specialBack hx (y := (⟨"axiomend/ontology/OntologyReadException", "<init>", "(Ljava/lang/String;Laxiomend/ontology/OntologyReadException$Problem;Ljava/lang/String;)V"⟩ : MethodName)) rfl hown (mvT hZ (w36 hw)) (mvT hZ (w37 hw)) (mvT hZ (w38 hw)) (by decide) (backOfKL (W := 1) (rm_xinit l Z a0 hw [] b151 b139 oNOT_AN_ONTOLOGY b145 uv sv h151 n0 (Nat.le_trans Z0 (Nat.le_trans (Nat.le_trans (Nat.le_trans (Nat.le_trans (Nat.le_trans (Nat.le_trans (Nat.le_trans (Nat.le_trans (Nat.le_trans (Nat.le_trans K133.1 K134.1) K135.1) K136.1) K137.1) K138.1) K139.1) K142.1) K145.1) K148.1) K151.1)) O152 hst S_un huv S_se hsv A151 U151 G151_backtrace G151_detailMessage G151_cause G151_stackTrace G151_suppressedExceptions (Nat.le_trans Z0 (Nat.le_trans (Nat.le_trans (Nat.le_trans (Nat.le_trans (Nat.le_trans (Nat.le_trans (Nat.le_trans (Nat.le_trans (Nat.le_trans (Nat.le_trans K133.1 K134.1) K135.1) K136.1) K137.1) K138.1) K139.1) K142.1) K145.1) K148.1) (Nat.le_of_eq g151.symm)))) hZ (w38 hw) (w35 hw) (by decide) (by decide) hTK hBelow) (g := (mkF m 131 #[.val (.int p0), .val (.int f0), .val (.int m0), .val (.int k), .val (.ref oNOT_AN_ONTOLOGY), .val (.ref b133), .val (.ref b136), .val (.ref b139), .val (.ref b145), .unset, .unset, .unset] [(.ref b145), (.ref oNOT_AN_ONTOLOGY), (.ref b139), (.ref b151), (.ref b151)])) rfl (by rw [hml]; rfl) (Steps.refl _) (a := b151) (argsL := [(.ref b139), (.ref oNOT_AN_ONTOLOGY), (.ref b145)]) (rest := [(.ref b151)]) (lenOf pd__28_Ljava_2f_lang_2f_String_3b_Laxiomend_2f_ontology_2f_OntologyReadException_24_Problem_3b_Ljava_2f_lang_2f_String_3b__29_V rfl) rfl (by show 2 * 0 + _ ≤ _; exact Nat.le_of_eq rfl) (hb hby at_131) (fun _ _ => ⟨rfl, e151, (Nat.le_of_ble_eq_true rfl), (Nat.le_of_ble_eq_true rfl)⟩)
      dsimp only [Pt.U, Pt.locs, Pt.cells, Pt.slots] at X153 l153 y153 z153 st153 hQ153
      subst l153 y153 z153
      obtain ⟨rfl, Nq153, K153, P153_0, P153_1⟩ := hQ153
      have N153 := Fr.app N148 Nq153
      have O154 : Old Z n0 T153.heap := (O152.keep K153 (allS (Nat.le_trans Z0 (Nat.le_trans (Nat.le_trans (Nat.le_trans (Nat.le_trans (Nat.le_trans (Nat.le_trans (Nat.le_trans (Nat.le_trans (Nat.le_trans (Nat.le_trans K133.1 K134.1) K135.1) K136.1) K137.1) K138.1) K139.1) K142.1) K145.1) K148.1) (Nat.le_of_eq g151.symm))) all0))
      obtain ⟨cq155, kq155, q155a, q155b, q155c⟩ := isOf hZ rfl P153_0
      obtain ⟨_, _, ⟨T155, L155, k155, n155⟩, -, X155, ⟨Lc155, hQ155, l155, y155, z155⟩, st155⟩ := X153.virtualBack hx (y := (⟨"axiomend/ontology/OntologyReadException", "exitStatus", "()I"⟩ : MethodName)) (z := (⟨"axiomend/ontology/OntologyReadException", "exitStatus", "()I"⟩ : MethodName)) hown (mvT hZ (w91 hw)) (mvT hZ (w92 hw)) (notFace_of_selects (args := #[]) (mvT hZ (w94 hw))) (mvT hZ (w94 hw)) (mvT hZ (w93 hw)) (by decide) (backOf (W := 0) (rm_exitStatus l Z a0 hw [] b151 oNOT_AN_ONTOLOGY oNO_FILE T153.heap n0 (Nat.le_trans Z0 (Nat.le_trans (Nat.le_trans (Nat.le_trans (Nat.le_trans (Nat.le_trans (Nat.le_trans (Nat.le_trans (Nat.le_trans (Nat.le_trans (Nat.le_trans (Nat.le_trans K133.1 K134.1) K135.1) K136.1) K137.1) K138.1) K139.1) K142.1) K145.1) K148.1) K151.1) K153.1)) O154 S_NO_FILE P153_1) hZ (w95 hw) (w35 hw) (by decide) (by decide)) q155a q155c (g := (mkF m 138 #[.val (.int p0), .val (.int f0), .val (.int m0), .val (.int k), .val (.ref oNOT_AN_ONTOLOGY), .val (.ref b133), .val (.ref b136), .val (.ref b139), .val (.ref b145), .val (.ref b151), .unset, .unset] [(.ref b151)])) rfl (by rw [hml]; rfl) (Steps.refl _) (argsL := []) (rest := []) (lenOf pd__28__29_I rfl) rfl (by show 2 * 0 + _ ≤ _; exact Nat.le_of_eq rfl) (hb hby at_138) (fun _ _ => ⟨rfl, rfl, (Nat.le_of_ble_eq_true rfl), (Nat.le_of_ble_eq_true rfl)⟩)
      dsimp only [Pt.U, Pt.locs, Pt.cells, Pt.slots] at X155 l155 y155 z155 st155 hQ155
      subst l155 y155 z155
      obtain ⟨rfl, Nq155, eq155⟩ := hQ155
      have N155 := Fr.app N153 Nq155
      have W156 : ∀ zQ, SS p e below T155 m 170 #[.val (.int p0), .val (.int f0), .val (.int m0), .val (.int k), .val (.ref oNOT_AN_ONTOLOGY), .val (.ref b133), .val (.ref b136), .val (.ref b139), .val (.ref b145), .val (.ref b151), .val (.int (if oNOT_AN_ONTOLOGY = oNO_FILE then (66 : Int32) else (65 : Int32))), .val (.int (65 : Int32))] [(.int (1 : Int32))] zQ → Steps p.tables e below (s₁.setTop (entryFrame m #[(.int p0), (.int f0), (.int m0)] maxLocals)) zQ := by
        intro tt kt
        refine W129 tt ?_
        refine XS.icmpNo X0.here hx rfl (hb hby at_18) rfl (teq hc130).2 ?_
        show SS p e below s₁ m 21 #[.val (.int p0), .val (.int f0), .val (.int m0), .val (.int k), .unset, .unset, .unset, .unset, .unset, .unset, .unset, .unset] [] _
        refine st131 _ ?_
        show SS p e below T131 m 24 #[.val (.int p0), .val (.int f0), .val (.int m0), .val (.int k), .unset, .unset, .unset, .unset, .unset, .unset, .unset, .unset] [(.ref oNOT_AN_ONTOLOGY)] _
        refine XS.astore X131.here hx rfl (hb hby at_24) rfl rfl (l' := #[.val (.int p0), .val (.int f0), .val (.int m0), .val (.int k), .val (.ref oNOT_AN_ONTOLOGY), .unset, .unset, .unset, .unset, .unset, .unset, .unset]) rfl ?_
        show SS p e below T131 m 26 #[.val (.int p0), .val (.int f0), .val (.int m0), .val (.int k), .val (.ref oNOT_AN_ONTOLOGY), .unset, .unset, .unset, .unset, .unset, .unset, .unset] [] _
        refine XS.goto X131.here hx rfl (pc0 := 26) (pc' := 47) rfl (hb hby at_26) (by decide) (by decide) ?_
        show SS p e below T131 m 47 #[.val (.int p0), .val (.int f0), .val (.int m0), .val (.int k), .val (.ref oNOT_AN_ONTOLOGY), .unset, .unset, .unset, .unset, .unset, .unset, .unset] [] _
        refine XS.iconst X131.here hx rfl (hb hby at_47) ?_
        show SS p e below T131 m 48 #[.val (.int p0), .val (.int f0), .val (.int m0), .val (.int k), .val (.ref oNOT_AN_ONTOLOGY), .unset, .unset, .unset, .unset, .unset, .unset, .unset] [(.int (2 : Int32))] _
        refine st133 _ ?_
        show SS p e below T133 m 50 #[.val (.int p0), .val (.int f0), .val (.int m0), .val (.int k), .val (.ref oNOT_AN_ONTOLOGY), .unset, .unset, .unset, .unset, .unset, .unset, .unset] [(.ref b133)] _
        refine XS.dup X133.here hx rfl (hb hby at_50) rfl rfl ?_
        show SS p e below T133 m 51 #[.val (.int p0), .val (.int f0), .val (.int m0), .val (.int k), .val (.ref oNOT_AN_ONTOLOGY), .unset, .unset, .unset, .unset, .unset, .unset, .unset] [(.ref b133), (.ref b133)] _
        refine XS.iconst X133.here hx rfl (hb hby at_51) ?_
        show SS p e below T133 m 52 #[.val (.int p0), .val (.int f0), .val (.int m0), .val (.int k), .val (.ref oNOT_AN_ONTOLOGY), .unset, .unset, .unset, .unset, .unset, .unset, .unset] [(.int (0 : Int32)), (.ref b133), (.ref b133)] _
        refine XS.iloadN X133.here hx rfl (hb hby at_52) rfl ?_
        show SS p e below T133 m 53 #[.val (.int p0), .val (.int f0), .val (.int m0), .val (.int k), .val (.ref oNOT_AN_ONTOLOGY), .unset, .unset, .unset, .unset, .unset, .unset, .unset] [(.int f0), (.int (0 : Int32)), (.ref b133), (.ref b133)] _
        refine XS.sipush X133.here hx rfl (hb hby at_53) ?_
        show SS p e below T133 m 56 #[.val (.int p0), .val (.int f0), .val (.int m0), .val (.int k), .val (.ref oNOT_AN_ONTOLOGY), .unset, .unset, .unset, .unset, .unset, .unset, .unset] [(.int (255 : Int32)), (.int f0), (.int (0 : Int32)), (.ref b133), (.ref b133)] _
        refine XS.iand X133.here hx rfl (hb hby at_56) rfl ?_
        show SS p e below T133 m 57 #[.val (.int p0), .val (.int f0), .val (.int m0), .val (.int k), .val (.ref oNOT_AN_ONTOLOGY), .unset, .unset, .unset, .unset, .unset, .unset, .unset] [(.int (f0 &&& (255 : Int32))), (.int (0 : Int32)), (.ref b133), (.ref b133)] _
        refine XS.i2c X133.here hx rfl (hb hby at_57) rfl ?_
        show SS p e below T133 m 58 #[.val (.int p0), .val (.int f0), .val (.int m0), .val (.int k), .val (.ref oNOT_AN_ONTOLOGY), .unset, .unset, .unset, .unset, .unset, .unset, .unset] [(.int ((f0 &&& (255 : Int32)).toUInt32.toUInt16.toUInt32.toInt32)), (.int (0 : Int32)), (.ref b133), (.ref b133)] _
        refine st134 _ ?_
        show SS p e below T134 m 59 #[.val (.int p0), .val (.int f0), .val (.int m0), .val (.int k), .val (.ref oNOT_AN_ONTOLOGY), .unset, .unset, .unset, .unset, .unset, .unset, .unset] [(.ref b133)] _
        refine XS.dup X134.here hx rfl (hb hby at_59) rfl rfl ?_
        show SS p e below T134 m 60 #[.val (.int p0), .val (.int f0), .val (.int m0), .val (.int k), .val (.ref oNOT_AN_ONTOLOGY), .unset, .unset, .unset, .unset, .unset, .unset, .unset] [(.ref b133), (.ref b133)] _
        refine XS.iconst X134.here hx rfl (hb hby at_60) ?_
        show SS p e below T134 m 61 #[.val (.int p0), .val (.int f0), .val (.int m0), .val (.int k), .val (.ref oNOT_AN_ONTOLOGY), .unset, .unset, .unset, .unset, .unset, .unset, .unset] [(.int (1 : Int32)), (.ref b133), (.ref b133)] _
        refine XS.iloadN X134.here hx rfl (hb hby at_61) rfl ?_
        show SS p e below T134 m 62 #[.val (.int p0), .val (.int f0), .val (.int m0), .val (.int k), .val (.ref oNOT_AN_ONTOLOGY), .unset, .unset, .unset, .unset, .unset, .unset, .unset] [(.int f0), (.int (1 : Int32)), (.ref b133), (.ref b133)] _
        refine XS.bipush X134.here hx rfl (hb hby at_62) ?_
        show SS p e below T134 m 64 #[.val (.int p0), .val (.int f0), .val (.int m0), .val (.int k), .val (.ref oNOT_AN_ONTOLOGY), .unset, .unset, .unset, .unset, .unset, .unset, .unset] [(.int (8 : Int32)), (.int f0), (.int (1 : Int32)), (.ref b133), (.ref b133)] _
        refine XS.iushr X134.here hx rfl (hb hby at_64) rfl ?_
        show SS p e below T134 m 65 #[.val (.int p0), .val (.int f0), .val (.int m0), .val (.int k), .val (.ref oNOT_AN_ONTOLOGY), .unset, .unset, .unset, .unset, .unset, .unset, .unset] [(.int ((f0.toUInt32 >>> ((8 : Int32) &&& 31).toUInt32).toInt32)), (.int (1 : Int32)), (.ref b133), (.ref b133)] _
        refine XS.sipush X134.here hx rfl (hb hby at_65) ?_
        show SS p e below T134 m 68 #[.val (.int p0), .val (.int f0), .val (.int m0), .val (.int k), .val (.ref oNOT_AN_ONTOLOGY), .unset, .unset, .unset, .unset, .unset, .unset, .unset] [(.int (255 : Int32)), (.int ((f0.toUInt32 >>> ((8 : Int32) &&& 31).toUInt32).toInt32)), (.int (1 : Int32)), (.ref b133), (.ref b133)] _
        refine XS.iand X134.here hx rfl (hb hby at_68) rfl ?_
        show SS p e below T134 m 69 #[.val (.int p0), .val (.int f0), .val (.int m0), .val (.int k), .val (.ref oNOT_AN_ONTOLOGY), .unset, .unset, .unset, .unset, .unset, .unset, .unset] [(.int (((f0.toUInt32 >>> ((8 : Int32) &&& 31).toUInt32).toInt32) &&& (255 : Int32))), (.int (1 : Int32)), (.ref b133), (.ref b133)] _
        refine XS.i2c X134.here hx rfl (hb hby at_69) rfl ?_
        show SS p e below T134 m 70 #[.val (.int p0), .val (.int f0), .val (.int m0), .val (.int k), .val (.ref oNOT_AN_ONTOLOGY), .unset, .unset, .unset, .unset, .unset, .unset, .unset] [(.int ((((f0.toUInt32 >>> ((8 : Int32) &&& 31).toUInt32).toInt32) &&& (255 : Int32)).toUInt32.toUInt16.toUInt32.toInt32)), (.int (1 : Int32)), (.ref b133), (.ref b133)] _
        refine st135 _ ?_
        show SS p e below T135 m 71 #[.val (.int p0), .val (.int f0), .val (.int m0), .val (.int k), .val (.ref oNOT_AN_ONTOLOGY), .unset, .unset, .unset, .unset, .unset, .unset, .unset] [(.ref b133)] _
        refine XS.astore X135.here hx rfl (hb hby at_71) rfl rfl (l' := #[.val (.int p0), .val (.int f0), .val (.int m0), .val (.int k), .val (.ref oNOT_AN_ONTOLOGY), .val (.ref b133), .unset, .unset, .unset, .unset, .unset, .unset]) rfl ?_
        show SS p e below T135 m 73 #[.val (.int p0), .val (.int f0), .val (.int m0), .val (.int k), .val (.ref oNOT_AN_ONTOLOGY), .val (.ref b133), .unset, .unset, .unset, .unset, .unset, .unset] [] _
        refine XS.iconst X135.here hx rfl (hb hby at_73) ?_
        show SS p e below T135 m 74 #[.val (.int p0), .val (.int f0), .val (.int m0), .val (.int k), .val (.ref oNOT_AN_ONTOLOGY), .val (.ref b133), .unset, .unset, .unset, .unset, .unset, .unset] [(.int (2 : Int32))] _
        refine st136 _ ?_
        show SS p e below T136 m 76 #[.val (.int p0), .val (.int f0), .val (.int m0), .val (.int k), .val (.ref oNOT_AN_ONTOLOGY), .val (.ref b133), .unset, .unset, .unset, .unset, .unset, .unset] [(.ref b136)] _
        refine XS.dup X136.here hx rfl (hb hby at_76) rfl rfl ?_
        show SS p e below T136 m 77 #[.val (.int p0), .val (.int f0), .val (.int m0), .val (.int k), .val (.ref oNOT_AN_ONTOLOGY), .val (.ref b133), .unset, .unset, .unset, .unset, .unset, .unset] [(.ref b136), (.ref b136)] _
        refine XS.iconst X136.here hx rfl (hb hby at_77) ?_
        show SS p e below T136 m 78 #[.val (.int p0), .val (.int f0), .val (.int m0), .val (.int k), .val (.ref oNOT_AN_ONTOLOGY), .val (.ref b133), .unset, .unset, .unset, .unset, .unset, .unset] [(.int (0 : Int32)), (.ref b136), (.ref b136)] _
        refine XS.iloadN X136.here hx rfl (hb hby at_78) rfl ?_
        show SS p e below T136 m 79 #[.val (.int p0), .val (.int f0), .val (.int m0), .val (.int k), .val (.ref oNOT_AN_ONTOLOGY), .val (.ref b133), .unset, .unset, .unset, .unset, .unset, .unset] [(.int m0), (.int (0 : Int32)), (.ref b136), (.ref b136)] _
        refine XS.sipush X136.here hx rfl (hb hby at_79) ?_
        show SS p e below T136 m 82 #[.val (.int p0), .val (.int f0), .val (.int m0), .val (.int k), .val (.ref oNOT_AN_ONTOLOGY), .val (.ref b133), .unset, .unset, .unset, .unset, .unset, .unset] [(.int (255 : Int32)), (.int m0), (.int (0 : Int32)), (.ref b136), (.ref b136)] _
        refine XS.iand X136.here hx rfl (hb hby at_82) rfl ?_
        show SS p e below T136 m 83 #[.val (.int p0), .val (.int f0), .val (.int m0), .val (.int k), .val (.ref oNOT_AN_ONTOLOGY), .val (.ref b133), .unset, .unset, .unset, .unset, .unset, .unset] [(.int (m0 &&& (255 : Int32))), (.int (0 : Int32)), (.ref b136), (.ref b136)] _
        refine XS.i2c X136.here hx rfl (hb hby at_83) rfl ?_
        show SS p e below T136 m 84 #[.val (.int p0), .val (.int f0), .val (.int m0), .val (.int k), .val (.ref oNOT_AN_ONTOLOGY), .val (.ref b133), .unset, .unset, .unset, .unset, .unset, .unset] [(.int ((m0 &&& (255 : Int32)).toUInt32.toUInt16.toUInt32.toInt32)), (.int (0 : Int32)), (.ref b136), (.ref b136)] _
        refine st137 _ ?_
        show SS p e below T137 m 85 #[.val (.int p0), .val (.int f0), .val (.int m0), .val (.int k), .val (.ref oNOT_AN_ONTOLOGY), .val (.ref b133), .unset, .unset, .unset, .unset, .unset, .unset] [(.ref b136)] _
        refine XS.dup X137.here hx rfl (hb hby at_85) rfl rfl ?_
        show SS p e below T137 m 86 #[.val (.int p0), .val (.int f0), .val (.int m0), .val (.int k), .val (.ref oNOT_AN_ONTOLOGY), .val (.ref b133), .unset, .unset, .unset, .unset, .unset, .unset] [(.ref b136), (.ref b136)] _
        refine XS.iconst X137.here hx rfl (hb hby at_86) ?_
        show SS p e below T137 m 87 #[.val (.int p0), .val (.int f0), .val (.int m0), .val (.int k), .val (.ref oNOT_AN_ONTOLOGY), .val (.ref b133), .unset, .unset, .unset, .unset, .unset, .unset] [(.int (1 : Int32)), (.ref b136), (.ref b136)] _
        refine XS.iloadN X137.here hx rfl (hb hby at_87) rfl ?_
        show SS p e below T137 m 88 #[.val (.int p0), .val (.int f0), .val (.int m0), .val (.int k), .val (.ref oNOT_AN_ONTOLOGY), .val (.ref b133), .unset, .unset, .unset, .unset, .unset, .unset] [(.int m0), (.int (1 : Int32)), (.ref b136), (.ref b136)] _
        refine XS.bipush X137.here hx rfl (hb hby at_88) ?_
        show SS p e below T137 m 90 #[.val (.int p0), .val (.int f0), .val (.int m0), .val (.int k), .val (.ref oNOT_AN_ONTOLOGY), .val (.ref b133), .unset, .unset, .unset, .unset, .unset, .unset] [(.int (8 : Int32)), (.int m0), (.int (1 : Int32)), (.ref b136), (.ref b136)] _
        refine XS.iushr X137.here hx rfl (hb hby at_90) rfl ?_
        show SS p e below T137 m 91 #[.val (.int p0), .val (.int f0), .val (.int m0), .val (.int k), .val (.ref oNOT_AN_ONTOLOGY), .val (.ref b133), .unset, .unset, .unset, .unset, .unset, .unset] [(.int ((m0.toUInt32 >>> ((8 : Int32) &&& 31).toUInt32).toInt32)), (.int (1 : Int32)), (.ref b136), (.ref b136)] _
        refine XS.sipush X137.here hx rfl (hb hby at_91) ?_
        show SS p e below T137 m 94 #[.val (.int p0), .val (.int f0), .val (.int m0), .val (.int k), .val (.ref oNOT_AN_ONTOLOGY), .val (.ref b133), .unset, .unset, .unset, .unset, .unset, .unset] [(.int (255 : Int32)), (.int ((m0.toUInt32 >>> ((8 : Int32) &&& 31).toUInt32).toInt32)), (.int (1 : Int32)), (.ref b136), (.ref b136)] _
        refine XS.iand X137.here hx rfl (hb hby at_94) rfl ?_
        show SS p e below T137 m 95 #[.val (.int p0), .val (.int f0), .val (.int m0), .val (.int k), .val (.ref oNOT_AN_ONTOLOGY), .val (.ref b133), .unset, .unset, .unset, .unset, .unset, .unset] [(.int (((m0.toUInt32 >>> ((8 : Int32) &&& 31).toUInt32).toInt32) &&& (255 : Int32))), (.int (1 : Int32)), (.ref b136), (.ref b136)] _
        refine XS.i2c X137.here hx rfl (hb hby at_95) rfl ?_
        show SS p e below T137 m 96 #[.val (.int p0), .val (.int f0), .val (.int m0), .val (.int k), .val (.ref oNOT_AN_ONTOLOGY), .val (.ref b133), .unset, .unset, .unset, .unset, .unset, .unset] [(.int ((((m0.toUInt32 >>> ((8 : Int32) &&& 31).toUInt32).toInt32) &&& (255 : Int32)).toUInt32.toUInt16.toUInt32.toInt32)), (.int (1 : Int32)), (.ref b136), (.ref b136)] _
        refine st138 _ ?_
        show SS p e below T138 m 97 #[.val (.int p0), .val (.int f0), .val (.int m0), .val (.int k), .val (.ref oNOT_AN_ONTOLOGY), .val (.ref b133), .unset, .unset, .unset, .unset, .unset, .unset] [(.ref b136)] _
        refine XS.astore X138.here hx rfl (hb hby at_97) rfl rfl (l' := #[.val (.int p0), .val (.int f0), .val (.int m0), .val (.int k), .val (.ref oNOT_AN_ONTOLOGY), .val (.ref b133), .val (.ref b136), .unset, .unset, .unset, .unset, .unset]) rfl ?_
        show SS p e below T138 m 99 #[.val (.int p0), .val (.int f0), .val (.int m0), .val (.int k), .val (.ref oNOT_AN_ONTOLOGY), .val (.ref b133), .val (.ref b136), .unset, .unset, .unset, .unset, .unset] [] _
        refine st139 _ ?_
        show SS p e below T139 m 102 #[.val (.int p0), .val (.int f0), .val (.int m0), .val (.int k), .val (.ref oNOT_AN_ONTOLOGY), .val (.ref b133), .val (.ref b136), .unset, .unset, .unset, .unset, .unset] [(.ref b139)] _
        refine XS.dup X139.here hx rfl (hb hby at_102) rfl rfl ?_
        show SS p e below T139 m 103 #[.val (.int p0), .val (.int f0), .val (.int m0), .val (.int k), .val (.ref oNOT_AN_ONTOLOGY), .val (.ref b133), .val (.ref b136), .unset, .unset, .unset, .unset, .unset] [(.ref b139), (.ref b139)] _
        refine XS.aload X139.here hx rfl (hb hby at_103) rfl rfl ?_
        show SS p e below T139 m 105 #[.val (.int p0), .val (.int f0), .val (.int m0), .val (.int k), .val (.ref oNOT_AN_ONTOLOGY), .val (.ref b133), .val (.ref b136), .unset, .unset, .unset, .unset, .unset] [(.ref b133), (.ref b139), (.ref b139)] _
        refine st142.trans ?_
        show SS p e below T142 m 108 #[.val (.int p0), .val (.int f0), .val (.int m0), .val (.int k), .val (.ref oNOT_AN_ONTOLOGY), .val (.ref b133), .val (.ref b136), .unset, .unset, .unset, .unset, .unset] [(.ref b139)] _
        refine XS.astore X142.here hx rfl (hb hby at_108) rfl rfl (l' := #[.val (.int p0), .val (.int f0), .val (.int m0), .val (.int k), .val (.ref oNOT_AN_ONTOLOGY), .val (.ref b133), .val (.ref b136), .val (.ref b139), .unset, .unset, .unset, .unset]) rfl ?_
        show SS p e below T142 m 110 #[.val (.int p0), .val (.int f0), .val (.int m0), .val (.int k), .val (.ref oNOT_AN_ONTOLOGY), .val (.ref b133), .val (.ref b136), .val (.ref b139), .unset, .unset, .unset, .unset] [] _
        refine st145 _ ?_
        show SS p e below T145 m 113 #[.val (.int p0), .val (.int f0), .val (.int m0), .val (.int k), .val (.ref oNOT_AN_ONTOLOGY), .val (.ref b133), .val (.ref b136), .val (.ref b139), .unset, .unset, .unset, .unset] [(.ref b145)] _
        refine XS.dup X145.here hx rfl (hb hby at_113) rfl rfl ?_
        show SS p e below T145 m 114 #[.val (.int p0), .val (.int f0), .val (.int m0), .val (.int k), .val (.ref oNOT_AN_ONTOLOGY), .val (.ref b133), .val (.ref b136), .val (.ref b139), .unset, .unset, .unset, .unset] [(.ref b145), (.ref b145)] _
        refine XS.aload X145.here hx rfl (hb hby at_114) rfl rfl ?_
        show SS p e below T145 m 116 #[.val (.int p0), .val (.int f0), .val (.int m0), .val (.int k), .val (.ref oNOT_AN_ONTOLOGY), .val (.ref b133), .val (.ref b136), .val (.ref b139), .unset, .unset, .unset, .unset] [(.ref b136), (.ref b145), (.ref b145)] _
        refine st148.trans ?_
        show SS p e below T148 m 119 #[.val (.int p0), .val (.int f0), .val (.int m0), .val (.int k), .val (.ref oNOT_AN_ONTOLOGY), .val (.ref b133), .val (.ref b136), .val (.ref b139), .unset, .unset, .unset, .unset] [(.ref b145)] _
        refine XS.astore X148.here hx rfl (hb hby at_119) rfl rfl (l' := #[.val (.int p0), .val (.int f0), .val (.int m0), .val (.int k), .val (.ref oNOT_AN_ONTOLOGY), .val (.ref b133), .val (.ref b136), .val (.ref b139), .val (.ref b145), .unset, .unset, .unset]) rfl ?_
        show SS p e below T148 m 121 #[.val (.int p0), .val (.int f0), .val (.int m0), .val (.int k), .val (.ref oNOT_AN_ONTOLOGY), .val (.ref b133), .val (.ref b136), .val (.ref b139), .val (.ref b145), .unset, .unset, .unset] [] _
        refine st151 _ ?_
        show SS p e below T151 m 124 #[.val (.int p0), .val (.int f0), .val (.int m0), .val (.int k), .val (.ref oNOT_AN_ONTOLOGY), .val (.ref b133), .val (.ref b136), .val (.ref b139), .val (.ref b145), .unset, .unset, .unset] [(.ref b151)] _
        refine XS.dup X151.here hx rfl (hb hby at_124) rfl rfl ?_
        show SS p e below T151 m 125 #[.val (.int p0), .val (.int f0), .val (.int m0), .val (.int k), .val (.ref oNOT_AN_ONTOLOGY), .val (.ref b133), .val (.ref b136), .val (.ref b139), .val (.ref b145), .unset, .unset, .unset] [(.ref b151), (.ref b151)] _
        refine XS.aload X151.here hx rfl (hb hby at_125) rfl rfl ?_
        show SS p e below T151 m 127 #[.val (.int p0), .val (.int f0), .val (.int m0), .val (.int k), .val (.ref oNOT_AN_ONTOLOGY), .val (.ref b133), .val (.ref b136), .val (.ref b139), .val (.ref b145), .unset, .unset, .unset] [(.ref b139), (.ref b151), (.ref b151)] _
        refine XS.aload X151.here hx rfl (hb hby at_127) rfl rfl ?_
        show SS p e below T151 m 129 #[.val (.int p0), .val (.int f0), .val (.int m0), .val (.int k), .val (.ref oNOT_AN_ONTOLOGY), .val (.ref b133), .val (.ref b136), .val (.ref b139), .val (.ref b145), .unset, .unset, .unset] [(.ref oNOT_AN_ONTOLOGY), (.ref b139), (.ref b151), (.ref b151)] _
        refine XS.aload X151.here hx rfl (hb hby at_129) rfl rfl ?_
        show SS p e below T151 m 131 #[.val (.int p0), .val (.int f0), .val (.int m0), .val (.int k), .val (.ref oNOT_AN_ONTOLOGY), .val (.ref b133), .val (.ref b136), .val (.ref b139), .val (.ref b145), .unset, .unset, .unset] [(.ref b145), (.ref oNOT_AN_ONTOLOGY), (.ref b139), (.ref b151), (.ref b151)] _
        refine st153.trans ?_
        show SS p e below T153 m 134 #[.val (.int p0), .val (.int f0), .val (.int m0), .val (.int k), .val (.ref oNOT_AN_ONTOLOGY), .val (.ref b133), .val (.ref b136), .val (.ref b139), .val (.ref b145), .unset, .unset, .unset] [(.ref b151)] _
        refine XS.astore X153.here hx rfl (hb hby at_134) rfl rfl (l' := #[.val (.int p0), .val (.int f0), .val (.int m0), .val (.int k), .val (.ref oNOT_AN_ONTOLOGY), .val (.ref b133), .val (.ref b136), .val (.ref b139), .val (.ref b145), .val (.ref b151), .unset, .unset]) rfl ?_
        show SS p e below T153 m 136 #[.val (.int p0), .val (.int f0), .val (.int m0), .val (.int k), .val (.ref oNOT_AN_ONTOLOGY), .val (.ref b133), .val (.ref b136), .val (.ref b139), .val (.ref b145), .val (.ref b151), .unset, .unset] [] _
        refine XS.aload X153.here hx rfl (hb hby at_136) rfl rfl ?_
        show SS p e below T153 m 138 #[.val (.int p0), .val (.int f0), .val (.int m0), .val (.int k), .val (.ref oNOT_AN_ONTOLOGY), .val (.ref b133), .val (.ref b136), .val (.ref b139), .val (.ref b145), .val (.ref b151), .unset, .unset] [(.ref b151)] _
        refine st155.trans ?_
        show SS p e below T155 m 141 #[.val (.int p0), .val (.int f0), .val (.int m0), .val (.int k), .val (.ref oNOT_AN_ONTOLOGY), .val (.ref b133), .val (.ref b136), .val (.ref b139), .val (.ref b145), .val (.ref b151), .unset, .unset] [(.int (if oNOT_AN_ONTOLOGY = oNO_FILE then (66 : Int32) else (65 : Int32)))] _
        refine XS.istore X155.here hx rfl (hb hby at_141) rfl (l' := #[.val (.int p0), .val (.int f0), .val (.int m0), .val (.int k), .val (.ref oNOT_AN_ONTOLOGY), .val (.ref b133), .val (.ref b136), .val (.ref b139), .val (.ref b145), .val (.ref b151), .val (.int (if oNOT_AN_ONTOLOGY = oNO_FILE then (66 : Int32) else (65 : Int32))), .unset]) rfl ?_
        show SS p e below T155 m 143 #[.val (.int p0), .val (.int f0), .val (.int m0), .val (.int k), .val (.ref oNOT_AN_ONTOLOGY), .val (.ref b133), .val (.ref b136), .val (.ref b139), .val (.ref b145), .val (.ref b151), .val (.int (if oNOT_AN_ONTOLOGY = oNO_FILE then (66 : Int32) else (65 : Int32))), .unset] [] _
        refine XS.iloadN X155.here hx rfl (hb hby at_143) rfl ?_
        show SS p e below T155 m 144 #[.val (.int p0), .val (.int f0), .val (.int m0), .val (.int k), .val (.ref oNOT_AN_ONTOLOGY), .val (.ref b133), .val (.ref b136), .val (.ref b139), .val (.ref b145), .val (.ref b151), .val (.int (if oNOT_AN_ONTOLOGY = oNO_FILE then (66 : Int32) else (65 : Int32))), .unset] [(.int k)] _
        refine XS.ifYes X155.here hx rfl (pc0 := 144) (pc' := 154) rfl (hb hby at_144) rfl ((if0 _ _).trans (feq hc102).2) (by decide) (by decide) ?_
        show SS p e below T155 m 154 #[.val (.int p0), .val (.int f0), .val (.int m0), .val (.int k), .val (.ref oNOT_AN_ONTOLOGY), .val (.ref b133), .val (.ref b136), .val (.ref b139), .val (.ref b145), .val (.ref b151), .val (.int (if oNOT_AN_ONTOLOGY = oNO_FILE then (66 : Int32) else (65 : Int32))), .unset] [] _
        refine XS.bipush X155.here hx rfl (hb hby at_154) ?_
        show SS p e below T155 m 156 #[.val (.int p0), .val (.int f0), .val (.int m0), .val (.int k), .val (.ref oNOT_AN_ONTOLOGY), .val (.ref b133), .val (.ref b136), .val (.ref b139), .val (.ref b145), .val (.ref b151), .val (.int (if oNOT_AN_ONTOLOGY = oNO_FILE then (66 : Int32) else (65 : Int32))), .unset] [(.int (65 : Int32))] _
        refine XS.istore X155.here hx rfl (hb hby at_156) rfl (l' := #[.val (.int p0), .val (.int f0), .val (.int m0), .val (.int k), .val (.ref oNOT_AN_ONTOLOGY), .val (.ref b133), .val (.ref b136), .val (.ref b139), .val (.ref b145), .val (.ref b151), .val (.int (if oNOT_AN_ONTOLOGY = oNO_FILE then (66 : Int32) else (65 : Int32))), .val (.int (65 : Int32))]) rfl ?_
        show SS p e below T155 m 158 #[.val (.int p0), .val (.int f0), .val (.int m0), .val (.int k), .val (.ref oNOT_AN_ONTOLOGY), .val (.ref b133), .val (.ref b136), .val (.ref b139), .val (.ref b145), .val (.ref b151), .val (.int (if oNOT_AN_ONTOLOGY = oNO_FILE then (66 : Int32) else (65 : Int32))), .val (.int (65 : Int32))] [] _
        refine XS.iload X155.here hx rfl (hb hby at_158) rfl ?_
        show SS p e below T155 m 160 #[.val (.int p0), .val (.int f0), .val (.int m0), .val (.int k), .val (.ref oNOT_AN_ONTOLOGY), .val (.ref b133), .val (.ref b136), .val (.ref b139), .val (.ref b145), .val (.ref b151), .val (.int (if oNOT_AN_ONTOLOGY = oNO_FILE then (66 : Int32) else (65 : Int32))), .val (.int (65 : Int32))] [(.int (if oNOT_AN_ONTOLOGY = oNO_FILE then (66 : Int32) else (65 : Int32)))] _
        refine XS.iload X155.here hx rfl (hb hby at_160) rfl ?_
        show SS p e below T155 m 162 #[.val (.int p0), .val (.int f0), .val (.int m0), .val (.int k), .val (.ref oNOT_AN_ONTOLOGY), .val (.ref b133), .val (.ref b136), .val (.ref b139), .val (.ref b145), .val (.ref b151), .val (.int (if oNOT_AN_ONTOLOGY = oNO_FILE then (66 : Int32) else (65 : Int32))), .val (.int (65 : Int32))] [(.int (65 : Int32)), (.int (if oNOT_AN_ONTOLOGY = oNO_FILE then (66 : Int32) else (65 : Int32)))] _
        refine XS.icmpNo X155.here hx rfl (hb hby at_162) rfl (teq (if_neg (Fld.ne F_NOT_AN_ONTOLOGY F_NO_FILE (by decide)))).2 ?_
        show SS p e below T155 m 165 #[.val (.int p0), .val (.int f0), .val (.int m0), .val (.int k), .val (.ref oNOT_AN_ONTOLOGY), .val (.ref b133), .val (.ref b136), .val (.ref b139), .val (.ref b145), .val (.ref b151), .val (.int (if oNOT_AN_ONTOLOGY = oNO_FILE then (66 : Int32) else (65 : Int32))), .val (.int (65 : Int32))] [] _
        refine XS.iconst X155.here hx rfl (hb hby at_165) ?_
        show SS p e below T155 m 166 #[.val (.int p0), .val (.int f0), .val (.int m0), .val (.int k), .val (.ref oNOT_AN_ONTOLOGY), .val (.ref b133), .val (.ref b136), .val (.ref b139), .val (.ref b145), .val (.ref b151), .val (.int (if oNOT_AN_ONTOLOGY = oNO_FILE then (66 : Int32) else (65 : Int32))), .val (.int (65 : Int32))] [(.int (1 : Int32))] _
        refine XS.goto X155.here hx rfl (pc0 := 166) (pc' := 170) rfl (hb hby at_166) (by decide) (by decide) ?_
        show SS p e below T155 m 170 #[.val (.int p0), .val (.int f0), .val (.int m0), .val (.int k), .val (.ref oNOT_AN_ONTOLOGY), .val (.ref b133), .val (.ref b136), .val (.ref b139), .val (.ref b145), .val (.ref b151), .val (.int (if oNOT_AN_ONTOLOGY = oNO_FILE then (66 : Int32) else (65 : Int32))), .val (.int (65 : Int32))] [(.int (1 : Int32))] _
        exact kt
      obtain ⟨fs, hr, hrun, hended, hW, hsame⟩ := X155.leave (v := some (.int (nar .boolean (1 : Int32)))) (fun h => by rw [Bd.returns] at h; cases h)
      refine ⟨_, _, W156 _ (retN X155 hx (t := .boolean) Bd.returns (by simp) (hb hby at_170) hr), hrun, hended, _, _, rfl, ?_, ⟨_, rfl⟩, hW, hsame.mono (by decide) (by decide)⟩
      show Q_law Z p0 f0 m0 oNO_FILE oNOT_AN_ONTOLOGY oMISSING_IMPORT oNOT_A_CATALOG cS uv sv h0 n0 _ T155.heap _
      rw [eq155]
      exact ⟨rfl, N155, (Keep.trans (Keep.trans (Keep.trans (Keep.trans (Keep.trans (Keep.trans (Keep.trans (Keep.trans (Keep.trans (Keep.trans (Keep.trans (Keep.trans (Keep.refl h0 []) K133 all0) K134 (allS (Or.inr (Nat.le_of_eq g133.symm)) all0)) K135 (allS (Or.inr (Nat.le_of_eq g133.symm)) all0)) K136 all0) K137 (allS (Or.inr (Nat.le_trans (Nat.le_trans (Nat.le_trans K133.1 K134.1) K135.1) (Nat.le_of_eq g136.symm))) all0)) K138 (allS (Or.inr (Nat.le_trans (Nat.le_trans (Nat.le_trans K133.1 K134.1) K135.1) (Nat.le_of_eq g136.symm))) all0)) K139 all0) K142 (allS (Or.inr (Nat.le_trans (Nat.le_trans (Nat.le_trans (Nat.le_trans (Nat.le_trans (Nat.le_trans K133.1 K134.1) K135.1) K136.1) K137.1) K138.1) (Nat.le_of_eq g139.symm))) all0)) K145 all0) K148 (allS (Or.inr (Nat.le_trans (Nat.le_trans (Nat.le_trans (Nat.le_trans (Nat.le_trans (Nat.le_trans (Nat.le_trans (Nat.le_trans K133.1 K134.1) K135.1) K136.1) K137.1) K138.1) K139.1) K142.1) (Nat.le_of_eq g145.symm))) all0)) K151 all0) K153 (allS (Or.inr (Nat.le_trans (Nat.le_trans (Nat.le_trans (Nat.le_trans (Nat.le_trans (Nat.le_trans (Nat.le_trans (Nat.le_trans (Nat.le_trans (Nat.le_trans K133.1 K134.1) K135.1) K136.1) K137.1) K138.1) K139.1) K142.1) K145.1) K148.1) (Nat.le_of_eq g151.symm))) all0))⟩
    ·
      have W157 : ∀ zQ, SS p e below s₁ m 31 #[.val (.int p0), .val (.int f0), .val (.int m0), .val (.int k), .unset, .unset, .unset, .unset, .unset, .unset, .unset, .unset] [(.int (2 : Int32)), (.int k)] zQ → Steps p.tables e below (s₁.setTop (entryFrame m #[(.int p0), (.int f0), (.int m0)] maxLocals)) zQ := by
        intro tt kt
        refine W129 tt ?_
        refine XS.icmpYes X0.here hx rfl (pc0 := 18) (pc' := 29) rfl (hb hby at_18) rfl (feq hc130).2 (by decide) (by decide) ?_
        show SS p e below s₁ m 29 #[.val (.int p0), .val (.int f0), .val (.int m0), .val (.int k), .unset, .unset, .unset, .unset, .unset, .unset, .unset, .unset] [] _
        refine XS.iloadN X0.here hx rfl (hb hby at_29) rfl ?_
        show SS p e below s₁ m 30 #[.val (.int p0), .val (.int f0), .val (.int m0), .val (.int k), .unset, .unset, .unset, .unset, .unset, .unset, .unset, .unset] [(.int k)] _
        refine XS.iconst X0.here hx rfl (hb hby at_30) ?_
        show SS p e below s₁ m 31 #[.val (.int p0), .val (.int f0), .val (.int m0), .val (.int k), .unset, .unset, .unset, .unset, .unset, .unset, .unset, .unset] [(.int (2 : Int32)), (.int k)] _
        exact kt
      by_cases hc158 : k = (2 : Int32)
      ·
        have F160 : Sta Z h0 "axiomend/ontology/OntologyReadException$Problem" "MISSING_IMPORT" "Laxiomend/ontology/OntologyReadException$Problem;" (.ref oMISSING_IMPORT) := S_MISSING_IMPORT.ext O0.2
        obtain ⟨T159, X159, e159, st159⟩ := getS2 X0 hx hZ hown (host := "") (Or.inl (w101 hw)) Via.refl e0 F160 (g := (mkF m 34 #[.val (.int p0), .val (.int f0), .val (.int m0), .val (.int k), .unset, .unset, .unset, .unset, .unset, .unset, .unset, .unset] [])) rfl (hb hby at_34)
        obtain ⟨T161, h161, k161, X161, e161, E161, A161, st161⟩ := newP X159 hx hZ (aty := .char) (w3 hw) e159 (g := (mkF m 48 #[.val (.int p0), .val (.int f0), .val (.int m0), .val (.int k), .val (.ref oMISSING_IMPORT), .unset, .unset, .unset, .unset, .unset, .unset, .unset] [(.int (2 : Int32))])) rfl (hb hby at_48) (n := (2 : Int32)) rfl (by decide) (cap := 2) (by decide) (by decide) (by decide) (by decide)
        obtain ⟨b161, g161⟩ : ∃ z, z = h0.size := ⟨_, rfl⟩
        rw [← g161] at A161 st161
        have K161 := (Keep.refl h0 []).ext E161
        have G161 : Arv Z h161 b161 k161 .char (2 : Int32) [(.int (0 : Int32)), (.int (0 : Int32))] (.int (0 : Int32)) := (Arv.new A161 (by decide)).pad (pad_rep [] (.int (0 : Int32)) 2)
        obtain ⟨cl162, Ar162, q162, S162, M162, H162, F162g⟩ := id G161
        have hin162 : ¬ ((0 : Int32) < 0 ∨ cl162.slots.size ≤ ((0 : Int32)).toNatClampNeg) := inb_of S162 ⟨by decide, by decide⟩
        obtain ⟨T162, h162, X162, e162, Wr162, st162⟩ := stC X161 hx hZ e161 Ar162 (j := (0 : Int32)) hin162 (g := (mkF m 58 #[.val (.int p0), .val (.int f0), .val (.int m0), .val (.int k), .val (.ref oMISSING_IMPORT), .unset, .unset, .unset, .unset, .unset, .unset, .unset] [(.int ((f0 &&& (255 : Int32)).toUInt32.toUInt16.toUInt32.toInt32)), (.int (0 : Int32)), (.ref b161), (.ref b161)])) rfl rfl (hb hby at_58)
        have G162 : Arv Z h162 b161 k161 .char (2 : Int32) [(.int (nar .char ((f0 &&& (255 : Int32)).toUInt32.toUInt16.toUInt32.toInt32))), (.int (0 : Int32))] (.int (0 : Int32)) := Arv.set Ar162 q162 S162 M162 H162 F162g (fits_nar_char _) Wr162 0 rfl (Nat.le_of_ble_eq_true rfl)
        have K162 := Keep.of_wr Wr162
        have N162 := Fr.snoc X162 N0 (Nat.le_trans Z0 (Nat.le_of_eq g161.symm))
        obtain ⟨cl163, Ar163, q163, S163, M163, H163, F163g⟩ := id G162
        have hin163 : ¬ ((1 : Int32) < 0 ∨ cl163.slots.size ≤ ((1 : Int32)).toNatClampNeg) := inb_of S163 ⟨by decide, by decide⟩
        obtain ⟨T163, h163, X163, e163, Wr163, st163⟩ := stC X162 hx hZ e162 Ar163 (j := (1 : Int32)) hin163 (g := (mkF m 70 #[.val (.int p0), .val (.int f0), .val (.int m0), .val (.int k), .val (.ref oMISSING_IMPORT), .unset, .unset, .unset, .unset, .unset, .unset, .unset] [(.int ((((f0.toUInt32 >>> ((8 : Int32) &&& 31).toUInt32).toInt32) &&& (255 : Int32)).toUInt32.toUInt16.toUInt32.toInt32)), (.int (1 : Int32)), (.ref b161), (.ref b161)])) rfl rfl (hb hby at_70)
        have G163 : Arv Z h163 b161 k161 .char (2 : Int32) [(.int (nar .char ((f0 &&& (255 : Int32)).toUInt32.toUInt16.toUInt32.toInt32))), (.int (nar .char ((((f0.toUInt32 >>> ((8 : Int32) &&& 31).toUInt32).toInt32) &&& (255 : Int32)).toUInt32.toUInt16.toUInt32.toInt32)))] (.int (0 : Int32)) := Arv.set Ar163 q163 S163 M163 H163 F163g (fits_nar_char _) Wr163 1 rfl (Nat.le_of_ble_eq_true rfl)
        have K163 := Keep.of_wr Wr163
        have N163 := Fr.snoc X163 N162 (Nat.le_trans Z0 (Nat.le_of_eq g161.symm))
        obtain ⟨T164, h164, k164, X164, e164, E164, A164, st164⟩ := newP X163 hx hZ (aty := .char) (w3 hw) e163 (g := (mkF m 74 #[.val (.int p0), .val (.int f0), .val (.int m0), .val (.int k), .val (.ref oMISSING_IMPORT), .val (.ref b161), .unset, .unset, .unset, .unset, .unset, .unset] [(.int (2 : Int32))])) rfl (hb hby at_74) (n := (2 : Int32)) rfl (by decide) (cap := 2) (by decide) (by decide) (by decide) (by decide)
        obtain ⟨b164, g164⟩ : ∃ z, z = h163.size := ⟨_, rfl⟩
        rw [← g164] at A164 st164
        have K164 := (Keep.refl h163 []).ext E164
        have G164 : Arv Z h164 b164 k164 .char (2 : Int32) [(.int (0 : Int32)), (.int (0 : Int32))] (.int (0 : Int32)) := (Arv.new A164 (by decide)).pad (pad_rep [] (.int (0 : Int32)) 2)
        obtain ⟨cl165, Ar165, q165, S165, M165, H165, F165g⟩ := id G164
        have hin165 : ¬ ((0 : Int32) < 0 ∨ cl165.slots.size ≤ ((0 : Int32)).toNatClampNeg) := inb_of S165 ⟨by decide, by decide⟩
        obtain ⟨T165, h165, X165, e165, Wr165, st165⟩ := stC X164 hx hZ e164 Ar165 (j := (0 : Int32)) hin165 (g := (mkF m 84 #[.val (.int p0), .val (.int f0), .val (.int m0), .val (.int k), .val (.ref oMISSING_IMPORT), .val (.ref b161), .unset, .unset, .unset, .unset, .unset, .unset] [(.int ((m0 &&& (255 : Int32)).toUInt32.toUInt16.toUInt32.toInt32)), (.int (0 : Int32)), (.ref b164), (.ref b164)])) rfl rfl (hb hby at_84)
        have G165 : Arv Z h165 b164 k164 .char (2 : Int32) [(.int (nar .char ((m0 &&& (255 : Int32)).toUInt32.toUInt16.toUInt32.toInt32))), (.int (0 : Int32))] (.int (0 : Int32)) := Arv.set Ar165 q165 S165 M165 H165 F165g (fits_nar_char _) Wr165 0 rfl (Nat.le_of_ble_eq_true rfl)
        have K165 := Keep.of_wr Wr165
        have N165 := Fr.snoc X165 N163 (Nat.le_trans Z0 (Nat.le_trans (Nat.le_trans (Nat.le_trans K161.1 K162.1) K163.1) (Nat.le_of_eq g164.symm)))
        obtain ⟨cl166, Ar166, q166, S166, M166, H166, F166g⟩ := id G165
        have hin166 : ¬ ((1 : Int32) < 0 ∨ cl166.slots.size ≤ ((1 : Int32)).toNatClampNeg) := inb_of S166 ⟨by decide, by decide⟩
        obtain ⟨T166, h166, X166, e166, Wr166, st166⟩ := stC X165 hx hZ e165 Ar166 (j := (1 : Int32)) hin166 (g := (mkF m 96 #[.val (.int p0), .val (.int f0), .val (.int m0), .val (.int k), .val (.ref oMISSING_IMPORT), .val (.ref b161), .unset, .unset, .unset, .unset, .unset, .unset] [(.int ((((m0.toUInt32 >>> ((8 : Int32) &&& 31).toUInt32).toInt32) &&& (255 : Int32)).toUInt32.toUInt16.toUInt32.toInt32)), (.int (1 : Int32)), (.ref b164), (.ref b164)])) rfl rfl (hb hby at_96)
        have G166 : Arv Z h166 b164 k164 .char (2 : Int32) [(.int (nar .char ((m0 &&& (255 : Int32)).toUInt32.toUInt16.toUInt32.toInt32))), (.int (nar .char ((((m0.toUInt32 >>> ((8 : Int32) &&& 31).toUInt32).toInt32) &&& (255 : Int32)).toUInt32.toUInt16.toUInt32.toInt32)))] (.int (0 : Int32)) := Arv.set Ar166 q166 S166 M166 H166 F166g (fits_nar_char _) Wr166 1 rfl (Nat.le_of_ble_eq_true rfl)
        have K166 := Keep.of_wr Wr166
        have N166 := Fr.snoc X166 N165 (Nat.le_trans Z0 (Nat.le_trans (Nat.le_trans (Nat.le_trans K161.1 K162.1) K163.1) (Nat.le_of_eq g164.symm)))
        obtain ⟨T167, h167, X167, e167, E167, A167, D167, U167, st167⟩ := newO X166 hx hZ hown (w4 hw) (w5 hw) (w6 hw) e166 (g := (mkF m 99 #[.val (.int p0), .val (.int f0), .val (.int m0), .val (.int k), .val (.ref oMISSING_IMPORT), .val (.ref b161), .val (.ref b164), .unset, .unset, .unset, .unset, .unset] [])) rfl (hb hby at_99) (by decide) (by decide)
        obtain ⟨b167, g167⟩ : ∃ z, z = h166.size := ⟨_, rfl⟩
        rw [← g167] at A167 D167 U167 st167
        have K167 := (Keep.refl h166 []).ext E167
        have G167_coder : Fld Z h167 b167 "java/lang/String" "coder" "B" (.int (0 : Int32)) := D167 (Or.inr (w30 hw)) (ty := .byte) (by decide)
        have G167_value : Fld Z h167 b167 "java/lang/String" "value" "[B" .null := D167 (Or.inr (w32 hw)) (ty := (.array .byte)) (by decide)
        have F168 : Arv Z h167 b161 k161 .char (2 : Int32) [(.int (nar .char ((f0 &&& (255 : Int32)).toUInt32.toUInt16.toUInt32.toInt32))), (.int (nar .char ((((f0.toUInt32 >>> ((8 : Int32) &&& 31).toUInt32).toInt32) &&& (255 : Int32)).toUInt32.toUInt16.toUInt32.toInt32)))] (.int (0 : Int32)) := ((((G163.keep K164 nin0).keep K165 (ninS (Nat.ne_of_lt (Nat.lt_of_lt_of_le (Nat.lt_of_lt_of_le G161.lt (Nat.le_trans K162.1 K163.1)) (Nat.le_of_eq g164.symm))) nin0)).keep K166 (ninS (Nat.ne_of_lt (Nat.lt_of_lt_of_le (Nat.lt_of_lt_of_le G161.lt (Nat.le_trans K162.1 K163.1)) (Nat.le_of_eq g164.symm))) nin0)).keep K167 nin0)
        have O169 : Old Z n0 h167 := (((((((O0.keep K161 all0).keep K162 (allS (Nat.le_trans Z0 (Nat.le_of_eq g161.symm)) all0)).keep K163 (allS (Nat.le_trans Z0 (Nat.le_of_eq g161.symm)) all0)).keep K164 all0).keep K165 (allS (Nat.le_trans Z0 (Nat.le_trans (Nat.le_trans (Nat.le_trans K161.1 K162.1) K163.1) (Nat.le_of_eq g164.symm))) all0)).keep K166 (allS (Nat.le_trans Z0 (Nat.le_trans (Nat.le_trans (Nat.le_trans K161.1 K162.1) K163.1) (Nat.le_of_eq g164.symm))) all0)).keep K167 all0)
        obtain ⟨_, _, ⟨T170, L170, k170, n170⟩, -, X170, ⟨Lc170, hQ170, l170, y170, z170⟩, st170⟩ := X167.specialBack hx (y := (⟨"java/lang/String", "<init>", "([C)V"⟩ : MethodName)) rfl hown (mvT hZ (w7 hw)) (mvT hZ (w8 hw)) (mvT hZ (w9 hw)) (by decide) (backOf (W := 1) (rm_sinit l Z a0 hw [] b167 b161 k161 [(nar .char ((f0 &&& (255 : Int32)).toUInt32.toUInt16.toUInt32.toInt32)), (nar .char ((((f0.toUInt32 >>> ((8 : Int32) &&& 31).toUInt32).toInt32) &&& (255 : Int32)).toUInt32.toUInt16.toUInt32.toInt32))] cS h167 n0 (Nat.le_trans Z0 (Nat.le_trans (Nat.le_trans (Nat.le_trans (Nat.le_trans (Nat.le_trans (Nat.le_trans K161.1 K162.1) K163.1) K164.1) K165.1) K166.1) K167.1)) O169 S_cs hcS A167 G167_value G167_coder (Nat.le_trans Z0 (Nat.le_trans (Nat.le_trans (Nat.le_trans (Nat.le_trans (Nat.le_trans (Nat.le_trans K161.1 K162.1) K163.1) K164.1) K165.1) K166.1) (Nat.le_of_eq g167.symm))) F168 (own_ok2 (own_c8 f0) (own_c8 _)).1 (Nat.le_of_ble_eq_true rfl) (Nat.le_of_ble_eq_true rfl) (Ne.symm (Nat.ne_of_lt (Nat.lt_of_lt_of_le (Nat.lt_of_lt_of_le G161.lt (Nat.le_trans (Nat.le_trans (Nat.le_trans (Nat.le_trans K162.1 K163.1) K164.1) K165.1) K166.1)) (Nat.le_of_eq g167.symm)))) (own_ok2 (own_c8 f0) (own_c8 _)).2) hZ (w9 hw) (w6 hw) (by decide) (by decide)) (g := (mkF m 105 #[.val (.int p0), .val (.int f0), .val (.int m0), .val (.int k), .val (.ref oMISSING_IMPORT), .val (.ref b161), .val (.ref b164), .unset, .unset, .unset, .unset, .unset] [(.ref b161), (.ref b167), (.ref b167)])) rfl (by rw [hml]; rfl) (Steps.refl _) (a := b167) (argsL := [(.ref b161)]) (rest := [(.ref b167)]) (lenOf pd__28__5b_C_29_V rfl) rfl (by show 2 * 0 + _ ≤ _; exact Nat.le_of_eq rfl) (hb hby at_105) (fun _ _ => ⟨rfl, e167, (Nat.le_of_ble_eq_true rfl), (Nat.le_of_ble_eq_true rfl)⟩)
        dsimp only [Pt.U, Pt.locs, Pt.cells, Pt.slots] at X170 l170 y170 z170 st170 hQ170
        subst l170 y170 z170
        obtain ⟨t_171, kb_172, rfl, Nq170, K170, P170_0, P170_1⟩ := hQ170
        have N170 := Fr.app N166 Nq170
        obtain ⟨T173, h173, X173, e173, E173, A173, D173, U173, st173⟩ := newO X170 hx hZ hown (w4 hw) (w5 hw) (w6 hw) rfl (g := (mkF m 110 #[.val (.int p0), .val (.int f0), .val (.int m0), .val (.int k), .val (.ref oMISSING_IMPORT), .val (.ref b161), .val (.ref b164), .val (.ref b167), .unset, .unset, .unset, .unset] [])) rfl (hb hby at_110) (by decide) (by decide)
        obtain ⟨b173, g173⟩ : ∃ z, z = T170.heap.size := ⟨_, rfl⟩
        rw [← g173] at A173 D173 U173 st173
        have K173 := (Keep.refl T170.heap []).ext E173
        have G173_coder : Fld Z h173 b173 "java/lang/String" "coder" "B" (.int (0 : Int32)) := D173 (Or.inr (w30 hw)) (ty := .byte) (by decide)
        have G173_value : Fld Z h173 b173 "java/lang/String" "value" "[B" .null := D173 (Or.inr (w32 hw)) (ty := (.array .byte)) (by decide)
        have F174 : Arv Z h173 b164 k164 .char (2 : Int32) [(.int (nar .char ((m0 &&& (255 : Int32)).toUInt32.toUInt16.toUInt32.toInt32))), (.int (nar .char ((((m0.toUInt32 >>> ((8 : Int32) &&& 31).toUInt32).toInt32) &&& (255 : Int32)).toUInt32.toUInt16.toUInt32.toInt32)))] (.int (0 : Int32)) := (((G166.keep K167 nin0).keep K170 (ninS (Nat.ne_of_lt (Nat.lt_of_lt_of_le (Nat.lt_of_lt_of_le G164.lt (Nat.le_trans K165.1 K166.1)) (Nat.le_of_eq g167.symm))) nin0)).keep K173 nin0)
        have O175 : Old Z n0 h173 := ((O169.keep K170 (allS (Nat.le_trans Z0 (Nat.le_trans (Nat.le_trans (Nat.le_trans (Nat.le_trans (Nat.le_trans (Nat.le_trans K161.1 K162.1) K163.1) K164.1) K165.1) K166.1) (Nat.le_of_eq g167.symm))) all0)).keep K173 all0)
        obtain ⟨_, _, ⟨T176, L176, k176, n176⟩, -, X176, ⟨Lc176, hQ176, l176, y176, z176⟩, st176⟩ := X173.specialBack hx (y := (⟨"java/lang/String", "<init>", "([C)V"⟩ : MethodName)) rfl hown (mvT hZ (w7 hw)) (mvT hZ (w8 hw)) (mvT hZ (w9 hw)) (by decide) (backOf (W := 1) (rm_sinit l Z a0 hw [] b173 b164 k164 [(nar .char ((m0 &&& (255 : Int32)).toUInt32.toUInt16.toUInt32.toInt32)), (nar .char ((((m0.toUInt32 >>> ((8 : Int32) &&& 31).toUInt32).toInt32) &&& (255 : Int32)).toUInt32.toUInt16.toUInt32.toInt32))] cS h173 n0 (Nat.le_trans Z0 (Nat.le_trans (Nat.le_trans (Nat.le_trans (Nat.le_trans (Nat.le_trans (Nat.le_trans (Nat.le_trans (Nat.le_trans K161.1 K162.1) K163.1) K164.1) K165.1) K166.1) K167.1) K170.1) K173.1)) O175 S_cs hcS A173 G173_value G173_coder (Nat.le_trans Z0 (Nat.le_trans (Nat.le_trans (Nat.le_trans (Nat.le_trans (Nat.le_trans (Nat.le_trans (Nat.le_trans (Nat.le_trans K161.1 K162.1) K163.1) K164.1) K165.1) K166.1) K167.1) K170.1) (Nat.le_of_eq g173.symm))) F174 (own_ok2 (own_c8 m0) (own_c8 _)).1 (Nat.le_of_ble_eq_true rfl) (Nat.le_of_ble_eq_true rfl) (Ne.symm (Nat.ne_of_lt (Nat.lt_of_lt_of_le (Nat.lt_of_lt_of_le G164.lt (Nat.le_trans (Nat.le_trans (Nat.le_trans K165.1 K166.1) K167.1) K170.1)) (Nat.le_of_eq g173.symm)))) (own_ok2 (own_c8 m0) (own_c8 _)).2) hZ (w9 hw) (w6 hw) (by decide) (by decide)) (g := (mkF m 116 #[.val (.int p0), .val (.int f0), .val (.int m0), .val (.int k), .val (.ref oMISSING_IMPORT), .val (.ref b161), .val (.ref b164), .val (.ref b167), .unset, .unset, .unset, .unset] [(.ref b164), (.ref b173), (.ref b173)])) rfl (by rw [hml]; rfl) (Steps.refl _) (a := b173) (argsL := [(.ref b164)]) (rest := [(.ref b173)]) (lenOf pd__28__5b_C_29_V rfl) rfl (by show 2 * 0 + _ ≤ _; exact Nat.le_of_eq rfl) (hb hby at_116) (fun _ _ => ⟨rfl, e173, (Nat.le_of_ble_eq_true rfl), (Nat.le_of_ble_eq_true rfl)⟩)
        dsimp only [Pt.U, Pt.locs, Pt.cells, Pt.slots] at X176 l176 y176 z176 st176 hQ176
        subst l176 y176 z176
        obtain ⟨t_177, kb_178, rfl, Nq176, K176, P176_0, P176_1⟩ := hQ176
        have N176 := Fr.app N170 Nq176
        obtain ⟨T179, h179, X179, e179, E179, A179, D179, U179, st179⟩ := newO X176 hx hZ hown (w33 hw) (w34 hw) (w35 hw) rfl (g := (mkF m 121 #[.val (.int p0), .val (.int f0), .val (.int m0), .val (.int k), .val (.ref oMISSING_IMPORT), .val (.ref b161), .val (.ref b164), .val (.ref b167), .val (.ref b173), .unset, .unset, .unset] [])) rfl (hb hby at_121) (by decide) (by decide)
        obtain ⟨b179, g179⟩ : ∃ z, z = T176.heap.size := ⟨_, rfl⟩
        rw [← g179] at A179 D179 U179 st179
        have K179 := (Keep.refl T176.heap []).ext E179
        have G179_cause : Fld Z h179 b179 "java/lang/Throwable" "cause" "Ljava/lang/Throwable;" .null := D179 (Or.inl (w52 hw)) (ty := (.object "java/lang/Throwable")) (by decide)
        have G179_stackTrace : Fld Z h179 b179 "java/lang/Throwable" "stackTrace" "[Ljava/lang/StackTraceElement;" .null := D179 (Or.inl (w55 hw)) (ty := (.array (.object "java/lang/StackTraceElement"))) (by decide)
        have G179_suppressedExceptions : Fld Z h179 b179 "java/lang/Throwable" "suppressedExceptions" "Ljava/util/List;" .null := D179 (Or.inl (w58 hw)) (ty := (.object "java/util/List")) (by decide)
        have G179_detailMessage : Fld Z h179 b179 "java/lang/Throwable" "detailMessage" "Ljava/lang/String;" .null := D179 (Or.inl (w82 hw)) (ty := (.object "java/lang/String")) (by decide)
        have G179_backtrace : Fld Z h179 b179 "java/lang/Throwable" "backtrace" "Ljava/lang/Object;" .null := D179 (Or.inl (w83 hw)) (ty := (.object "java/lang/Object")) (by decide)
        have G179_depth : Fld Z h179 b179 "java/lang/Throwable" "depth" "I" (.int (0 : Int32)) := D179 (Or.inl (w84 hw)) (ty := .int) (by decide)
        have G179_file : Fld Z h179 b179 "axiomend/ontology/OntologyReadException" "file" "Ljava/lang/String;" .null := D179 (Or.inr (w88 hw)) (ty := (.object "java/lang/String")) (by decide)
        have G179_problem : Fld Z h179 b179 "axiomend/ontology/OntologyReadException" "problem" "Laxiomend/ontology/OntologyReadException$Problem;" .null := D179 (Or.inr (w90 hw)) (ty := (.object "axiomend/ontology/OntologyReadException$Problem")) (by decide)
        have O180 : Old Z n0 h179 := ((O175.keep K176 (allS (Nat.le_trans Z0 (Nat.le_trans (Nat.le_trans (Nat.le_trans (Nat.le_trans (Nat.le_trans (Nat.le_trans (Nat.le_trans (Nat.le_trans K161.1 K162.1) K163.1) K164.1) K165.1) K166.1) K167.1) K170.1) (Nat.le_of_eq g173.symm))) all0)).keep K179 all0)
        obtain ⟨_, _, ⟨T181, L181, k181, n181⟩, -, X181, ⟨Lc181, hQ181, l181, y181, z181⟩, st181⟩ := X179.specialBack hx (y := (⟨"axiomend/ontology/OntologyReadException", "<init>", "(Ljava/lang/String;Laxiomend/ontology/OntologyReadException$Problem;Ljava/lang/String;)V"⟩ : MethodName)) rfl hown (mvT hZ (w36 hw)) (mvT hZ (w37 hw)) (mvT hZ (w38 hw)) (by decide) (backOfKL (W := 1) (rm_xinit l Z a0 hw [] b179 b167 oMISSING_IMPORT b173 uv sv h179 n0 (Nat.le_trans Z0 (Nat.le_trans (Nat.le_trans (Nat.le_trans (Nat.le_trans (Nat.le_trans (Nat.le_trans (Nat.le_trans (Nat.le_trans (Nat.le_trans (Nat.le_trans K161.1 K162.1) K163.1) K164.1) K165.1) K166.1) K167.1) K170.1) K173.1) K176.1) K179.1)) O180 hst S_un huv S_se hsv A179 U179 G179_backtrace G179_detailMessage G179_cause G179_stackTrace G179_suppressedExceptions (Nat.le_trans Z0 (Nat.le_trans (Nat.le_trans (Nat.le_trans (Nat.le_trans (Nat.le_trans (Nat.le_trans (Nat.le_trans (Nat.le_trans (Nat.le_trans (Nat.le_trans K161.1 K162.1) K163.1) K164.1) K165.1) K166.1) K167.1) K170.1) K173.1) K176.1) (Nat.le_of_eq g179.symm)))) hZ (w38 hw) (w35 hw) (by decide) (by decide) hTK hBelow) (g := (mkF m 131 #[.val (.int p0), .val (.int f0), .val (.int m0), .val (.int k), .val (.ref oMISSING_IMPORT), .val (.ref b161), .val (.ref b164), .val (.ref b167), .val (.ref b173), .unset, .unset, .unset] [(.ref b173), (.ref oMISSING_IMPORT), (.ref b167), (.ref b179), (.ref b179)])) rfl (by rw [hml]; rfl) (Steps.refl _) (a := b179) (argsL := [(.ref b167), (.ref oMISSING_IMPORT), (.ref b173)]) (rest := [(.ref b179)]) (lenOf pd__28_Ljava_2f_lang_2f_String_3b_Laxiomend_2f_ontology_2f_OntologyReadException_24_Problem_3b_Ljava_2f_lang_2f_String_3b__29_V rfl) rfl (by show 2 * 0 + _ ≤ _; exact Nat.le_of_eq rfl) (hb hby at_131) (fun _ _ => ⟨rfl, e179, (Nat.le_of_ble_eq_true rfl), (Nat.le_of_ble_eq_true rfl)⟩)
        dsimp only [Pt.U, Pt.locs, Pt.cells, Pt.slots] at X181 l181 y181 z181 st181 hQ181
        subst l181 y181 z181
        obtain ⟨rfl, Nq181, K181, P181_0, P181_1⟩ := hQ181
        have N181 := Fr.app N176 Nq181
        have O182 : Old Z n0 T181.heap := (O180.keep K181 (allS (Nat.le_trans Z0 (Nat.le_trans (Nat.le_trans (Nat.le_trans (Nat.le_trans (Nat.le_trans (Nat.le_trans (Nat.le_trans (Nat.le_trans (Nat.le_trans (Nat.le_trans K161.1 K162.1) K163.1) K164.1) K165.1) K166.1) K167.1) K170.1) K173.1) K176.1) (Nat.le_of_eq g179.symm))) all0))
        obtain ⟨cq183, kq183, q183a, q183b, q183c⟩ := isOf hZ rfl P181_0
        obtain ⟨_, _, ⟨T183, L183, k183, n183⟩, -, X183, ⟨Lc183, hQ183, l183, y183, z183⟩, st183⟩ := X181.virtualBack hx (y := (⟨"axiomend/ontology/OntologyReadException", "exitStatus", "()I"⟩ : MethodName)) (z := (⟨"axiomend/ontology/OntologyReadException", "exitStatus", "()I"⟩ : MethodName)) hown (mvT hZ (w91 hw)) (mvT hZ (w92 hw)) (notFace_of_selects (args := #[]) (mvT hZ (w94 hw))) (mvT hZ (w94 hw)) (mvT hZ (w93 hw)) (by decide) (backOf (W := 0) (rm_exitStatus l Z a0 hw [] b179 oMISSING_IMPORT oNO_FILE T181.heap n0 (Nat.le_trans Z0 (Nat.le_trans (Nat.le_trans (Nat.le_trans (Nat.le_trans (Nat.le_trans (Nat.le_trans (Nat.le_trans (Nat.le_trans (Nat.le_trans (Nat.le_trans (Nat.le_trans K161.1 K162.1) K163.1) K164.1) K165.1) K166.1) K167.1) K170.1) K173.1) K176.1) K179.1) K181.1)) O182 S_NO_FILE P181_1) hZ (w95 hw) (w35 hw) (by decide) (by decide)) q183a q183c (g := (mkF m 138 #[.val (.int p0), .val (.int f0), .val (.int m0), .val (.int k), .val (.ref oMISSING_IMPORT), .val (.ref b161), .val (.ref b164), .val (.ref b167), .val (.ref b173), .val (.ref b179), .unset, .unset] [(.ref b179)])) rfl (by rw [hml]; rfl) (Steps.refl _) (argsL := []) (rest := []) (lenOf pd__28__29_I rfl) rfl (by show 2 * 0 + _ ≤ _; exact Nat.le_of_eq rfl) (hb hby at_138) (fun _ _ => ⟨rfl, rfl, (Nat.le_of_ble_eq_true rfl), (Nat.le_of_ble_eq_true rfl)⟩)
        dsimp only [Pt.U, Pt.locs, Pt.cells, Pt.slots] at X183 l183 y183 z183 st183 hQ183
        subst l183 y183 z183
        obtain ⟨rfl, Nq183, eq183⟩ := hQ183
        have N183 := Fr.app N181 Nq183
        have W184 : ∀ zQ, SS p e below T183 m 170 #[.val (.int p0), .val (.int f0), .val (.int m0), .val (.int k), .val (.ref oMISSING_IMPORT), .val (.ref b161), .val (.ref b164), .val (.ref b167), .val (.ref b173), .val (.ref b179), .val (.int (if oMISSING_IMPORT = oNO_FILE then (66 : Int32) else (65 : Int32))), .val (.int (65 : Int32))] [(.int (1 : Int32))] zQ → Steps p.tables e below (s₁.setTop (entryFrame m #[(.int p0), (.int f0), (.int m0)] maxLocals)) zQ := by
          intro tt kt
          refine W157 tt ?_
          refine XS.icmpNo X0.here hx rfl (hb hby at_31) rfl (teq hc158).2 ?_
          show SS p e below s₁ m 34 #[.val (.int p0), .val (.int f0), .val (.int m0), .val (.int k), .unset, .unset, .unset, .unset, .unset, .unset, .unset, .unset] [] _
          refine st159 _ ?_
          show SS p e below T159 m 37 #[.val (.int p0), .val (.int f0), .val (.int m0), .val (.int k), .unset, .unset, .unset, .unset, .unset, .unset, .unset, .unset] [(.ref oMISSING_IMPORT)] _
          refine XS.astore X159.here hx rfl (hb hby at_37) rfl rfl (l' := #[.val (.int p0), .val (.int f0), .val (.int m0), .val (.int k), .val (.ref oMISSING_IMPORT), .unset, .unset, .unset, .unset, .unset, .unset, .unset]) rfl ?_
          show SS p e below T159 m 39 #[.val (.int p0), .val (.int f0), .val (.int m0), .val (.int k), .val (.ref oMISSING_IMPORT), .unset, .unset, .unset, .unset, .unset, .unset, .unset] [] _
          refine XS.goto X159.here hx rfl (pc0 := 39) (pc' := 47) rfl (hb hby at_39) (by decide) (by decide) ?_
          show SS p e below T159 m 47 #[.val (.int p0), .val (.int f0), .val (.int m0), .val (.int k), .val (.ref oMISSING_IMPORT), .unset, .unset, .unset, .unset, .unset, .unset, .unset] [] _
          refine XS.iconst X159.here hx rfl (hb hby at_47) ?_
          show SS p e below T159 m 48 #[.val (.int p0), .val (.int f0), .val (.int m0), .val (.int k), .val (.ref oMISSING_IMPORT), .unset, .unset, .unset, .unset, .unset, .unset, .unset] [(.int (2 : Int32))] _
          refine st161 _ ?_
          show SS p e below T161 m 50 #[.val (.int p0), .val (.int f0), .val (.int m0), .val (.int k), .val (.ref oMISSING_IMPORT), .unset, .unset, .unset, .unset, .unset, .unset, .unset] [(.ref b161)] _
          refine XS.dup X161.here hx rfl (hb hby at_50) rfl rfl ?_
          show SS p e below T161 m 51 #[.val (.int p0), .val (.int f0), .val (.int m0), .val (.int k), .val (.ref oMISSING_IMPORT), .unset, .unset, .unset, .unset, .unset, .unset, .unset] [(.ref b161), (.ref b161)] _
          refine XS.iconst X161.here hx rfl (hb hby at_51) ?_
          show SS p e below T161 m 52 #[.val (.int p0), .val (.int f0), .val (.int m0), .val (.int k), .val (.ref oMISSING_IMPORT), .unset, .unset, .unset, .unset, .unset, .unset, .unset] [(.int (0 : Int32)), (.ref b161), (.ref b161)] _
          refine XS.iloadN X161.here hx rfl (hb hby at_52) rfl ?_
          show SS p e below T161 m 53 #[.val (.int p0), .val (.int f0), .val (.int m0), .val (.int k), .val (.ref oMISSING_IMPORT), .unset, .unset, .unset, .unset, .unset, .unset, .unset] [(.int f0), (.int (0 : Int32)), (.ref b161), (.ref b161)] _
          refine XS.sipush X161.here hx rfl (hb hby at_53) ?_
          show SS p e below T161 m 56 #[.val (.int p0), .val (.int f0), .val (.int m0), .val (.int k), .val (.ref oMISSING_IMPORT), .unset, .unset, .unset, .unset, .unset, .unset, .unset] [(.int (255 : Int32)), (.int f0), (.int (0 : Int32)), (.ref b161), (.ref b161)] _
          refine XS.iand X161.here hx rfl (hb hby at_56) rfl ?_
          show SS p e below T161 m 57 #[.val (.int p0), .val (.int f0), .val (.int m0), .val (.int k), .val (.ref oMISSING_IMPORT), .unset, .unset, .unset, .unset, .unset, .unset, .unset] [(.int (f0 &&& (255 : Int32))), (.int (0 : Int32)), (.ref b161), (.ref b161)] _
          refine XS.i2c X161.here hx rfl (hb hby at_57) rfl ?_
          show SS p e below T161 m 58 #[.val (.int p0), .val (.int f0), .val (.int m0), .val (.int k), .val (.ref oMISSING_IMPORT), .unset, .unset, .unset, .unset, .unset, .unset, .unset] [(.int ((f0 &&& (255 : Int32)).toUInt32.toUInt16.toUInt32.toInt32)), (.int (0 : Int32)), (.ref b161), (.ref b161)] _
          refine st162 _ ?_
          show SS p e below T162 m 59 #[.val (.int p0), .val (.int f0), .val (.int m0), .val (.int k), .val (.ref oMISSING_IMPORT), .unset, .unset, .unset, .unset, .unset, .unset, .unset] [(.ref b161)] _
          refine XS.dup X162.here hx rfl (hb hby at_59) rfl rfl ?_
          show SS p e below T162 m 60 #[.val (.int p0), .val (.int f0), .val (.int m0), .val (.int k), .val (.ref oMISSING_IMPORT), .unset, .unset, .unset, .unset, .unset, .unset, .unset] [(.ref b161), (.ref b161)] _
          refine XS.iconst X162.here hx rfl (hb hby at_60) ?_
          show SS p e below T162 m 61 #[.val (.int p0), .val (.int f0), .val (.int m0), .val (.int k), .val (.ref oMISSING_IMPORT), .unset, .unset, .unset, .unset, .unset, .unset, .unset] [(.int (1 : Int32)), (.ref b161), (.ref b161)] _
          refine XS.iloadN X162.here hx rfl (hb hby at_61) rfl ?_
          show SS p e below T162 m 62 #[.val (.int p0), .val (.int f0), .val (.int m0), .val (.int k), .val (.ref oMISSING_IMPORT), .unset, .unset, .unset, .unset, .unset, .unset, .unset] [(.int f0), (.int (1 : Int32)), (.ref b161), (.ref b161)] _
          refine XS.bipush X162.here hx rfl (hb hby at_62) ?_
          show SS p e below T162 m 64 #[.val (.int p0), .val (.int f0), .val (.int m0), .val (.int k), .val (.ref oMISSING_IMPORT), .unset, .unset, .unset, .unset, .unset, .unset, .unset] [(.int (8 : Int32)), (.int f0), (.int (1 : Int32)), (.ref b161), (.ref b161)] _
          refine XS.iushr X162.here hx rfl (hb hby at_64) rfl ?_
          show SS p e below T162 m 65 #[.val (.int p0), .val (.int f0), .val (.int m0), .val (.int k), .val (.ref oMISSING_IMPORT), .unset, .unset, .unset, .unset, .unset, .unset, .unset] [(.int ((f0.toUInt32 >>> ((8 : Int32) &&& 31).toUInt32).toInt32)), (.int (1 : Int32)), (.ref b161), (.ref b161)] _
          refine XS.sipush X162.here hx rfl (hb hby at_65) ?_
          show SS p e below T162 m 68 #[.val (.int p0), .val (.int f0), .val (.int m0), .val (.int k), .val (.ref oMISSING_IMPORT), .unset, .unset, .unset, .unset, .unset, .unset, .unset] [(.int (255 : Int32)), (.int ((f0.toUInt32 >>> ((8 : Int32) &&& 31).toUInt32).toInt32)), (.int (1 : Int32)), (.ref b161), (.ref b161)] _
          refine XS.iand X162.here hx rfl (hb hby at_68) rfl ?_
          show SS p e below T162 m 69 #[.val (.int p0), .val (.int f0), .val (.int m0), .val (.int k), .val (.ref oMISSING_IMPORT), .unset, .unset, .unset, .unset, .unset, .unset, .unset] [(.int (((f0.toUInt32 >>> ((8 : Int32) &&& 31).toUInt32).toInt32) &&& (255 : Int32))), (.int (1 : Int32)), (.ref b161), (.ref b161)] _
          refine XS.i2c X162.here hx rfl (hb hby at_69) rfl ?_
          show SS p e below T162 m 70 #[.val (.int p0), .val (.int f0), .val (.int m0), .val (.int k), .val (.ref oMISSING_IMPORT), .unset, .unset, .unset, .unset, .unset, .unset, .unset] [(.int ((((f0.toUInt32 >>> ((8 : Int32) &&& 31).toUInt32).toInt32) &&& (255 : Int32)).toUInt32.toUInt16.toUInt32.toInt32)), (.int (1 : Int32)), (.ref b161), (.ref b161)] _
          refine st163 _ ?_
          show SS p e below T163 m 71 #[.val (.int p0), .val (.int f0), .val (.int m0), .val (.int k), .val (.ref oMISSING_IMPORT), .unset, .unset, .unset, .unset, .unset, .unset, .unset] [(.ref b161)] _
          refine XS.astore X163.here hx rfl (hb hby at_71) rfl rfl (l' := #[.val (.int p0), .val (.int f0), .val (.int m0), .val (.int k), .val (.ref oMISSING_IMPORT), .val (.ref b161), .unset, .unset, .unset, .unset, .unset, .unset]) rfl ?_
          show SS p e below T163 m 73 #[.val (.int p0), .val (.int f0), .val (.int m0), .val (.int k), .val (.ref oMISSING_IMPORT), .val (.ref b161), .unset, .unset, .unset, .unset, .unset, .unset] [] _
          refine XS.iconst X163.here hx rfl (hb hby at_73) ?_
          show SS p e below T163 m 74 #[.val (.int p0), .val (.int f0), .val (.int m0), .val (.int k), .val (.ref oMISSING_IMPORT), .val (.ref b161), .unset, .unset, .unset, .unset, .unset, .unset] [(.int (2 : Int32))] _
          refine st164 _ ?_
          show SS p e below T164 m 76 #[.val (.int p0), .val (.int f0), .val (.int m0), .val (.int k), .val (.ref oMISSING_IMPORT), .val (.ref b161), .unset, .unset, .unset, .unset, .unset, .unset] [(.ref b164)] _
          refine XS.dup X164.here hx rfl (hb hby at_76) rfl rfl ?_
          show SS p e below T164 m 77 #[.val (.int p0), .val (.int f0), .val (.int m0), .val (.int k), .val (.ref oMISSING_IMPORT), .val (.ref b161), .unset, .unset, .unset, .unset, .unset, .unset] [(.ref b164), (.ref b164)] _
          refine XS.iconst X164.here hx rfl (hb hby at_77) ?_
          show SS p e below T164 m 78 #[.val (.int p0), .val (.int f0), .val (.int m0), .val (.int k), .val (.ref oMISSING_IMPORT), .val (.ref b161), .unset, .unset, .unset, .unset, .unset, .unset] [(.int (0 : Int32)), (.ref b164), (.ref b164)] _
          refine XS.iloadN X164.here hx rfl (hb hby at_78) rfl ?_
          show SS p e below T164 m 79 #[.val (.int p0), .val (.int f0), .val (.int m0), .val (.int k), .val (.ref oMISSING_IMPORT), .val (.ref b161), .unset, .unset, .unset, .unset, .unset, .unset] [(.int m0), (.int (0 : Int32)), (.ref b164), (.ref b164)] _
          refine XS.sipush X164.here hx rfl (hb hby at_79) ?_
          show SS p e below T164 m 82 #[.val (.int p0), .val (.int f0), .val (.int m0), .val (.int k), .val (.ref oMISSING_IMPORT), .val (.ref b161), .unset, .unset, .unset, .unset, .unset, .unset] [(.int (255 : Int32)), (.int m0), (.int (0 : Int32)), (.ref b164), (.ref b164)] _
          refine XS.iand X164.here hx rfl (hb hby at_82) rfl ?_
          show SS p e below T164 m 83 #[.val (.int p0), .val (.int f0), .val (.int m0), .val (.int k), .val (.ref oMISSING_IMPORT), .val (.ref b161), .unset, .unset, .unset, .unset, .unset, .unset] [(.int (m0 &&& (255 : Int32))), (.int (0 : Int32)), (.ref b164), (.ref b164)] _
          refine XS.i2c X164.here hx rfl (hb hby at_83) rfl ?_
          show SS p e below T164 m 84 #[.val (.int p0), .val (.int f0), .val (.int m0), .val (.int k), .val (.ref oMISSING_IMPORT), .val (.ref b161), .unset, .unset, .unset, .unset, .unset, .unset] [(.int ((m0 &&& (255 : Int32)).toUInt32.toUInt16.toUInt32.toInt32)), (.int (0 : Int32)), (.ref b164), (.ref b164)] _
          refine st165 _ ?_
          show SS p e below T165 m 85 #[.val (.int p0), .val (.int f0), .val (.int m0), .val (.int k), .val (.ref oMISSING_IMPORT), .val (.ref b161), .unset, .unset, .unset, .unset, .unset, .unset] [(.ref b164)] _
          refine XS.dup X165.here hx rfl (hb hby at_85) rfl rfl ?_
          show SS p e below T165 m 86 #[.val (.int p0), .val (.int f0), .val (.int m0), .val (.int k), .val (.ref oMISSING_IMPORT), .val (.ref b161), .unset, .unset, .unset, .unset, .unset, .unset] [(.ref b164), (.ref b164)] _
          refine XS.iconst X165.here hx rfl (hb hby at_86) ?_
          show SS p e below T165 m 87 #[.val (.int p0), .val (.int f0), .val (.int m0), .val (.int k), .val (.ref oMISSING_IMPORT), .val (.ref b161), .unset, .unset, .unset, .unset, .unset, .unset] [(.int (1 : Int32)), (.ref b164), (.ref b164)] _
          refine XS.iloadN X165.here hx rfl (hb hby at_87) rfl ?_
          show SS p e below T165 m 88 #[.val (.int p0), .val (.int f0), .val (.int m0), .val (.int k), .val (.ref oMISSING_IMPORT), .val (.ref b161), .unset, .unset, .unset, .unset, .unset, .unset] [(.int m0), (.int (1 : Int32)), (.ref b164), (.ref b164)] _
          refine XS.bipush X165.here hx rfl (hb hby at_88) ?_
          show SS p e below T165 m 90 #[.val (.int p0), .val (.int f0), .val (.int m0), .val (.int k), .val (.ref oMISSING_IMPORT), .val (.ref b161), .unset, .unset, .unset, .unset, .unset, .unset] [(.int (8 : Int32)), (.int m0), (.int (1 : Int32)), (.ref b164), (.ref b164)] _
          refine XS.iushr X165.here hx rfl (hb hby at_90) rfl ?_
          show SS p e below T165 m 91 #[.val (.int p0), .val (.int f0), .val (.int m0), .val (.int k), .val (.ref oMISSING_IMPORT), .val (.ref b161), .unset, .unset, .unset, .unset, .unset, .unset] [(.int ((m0.toUInt32 >>> ((8 : Int32) &&& 31).toUInt32).toInt32)), (.int (1 : Int32)), (.ref b164), (.ref b164)] _
          refine XS.sipush X165.here hx rfl (hb hby at_91) ?_
          show SS p e below T165 m 94 #[.val (.int p0), .val (.int f0), .val (.int m0), .val (.int k), .val (.ref oMISSING_IMPORT), .val (.ref b161), .unset, .unset, .unset, .unset, .unset, .unset] [(.int (255 : Int32)), (.int ((m0.toUInt32 >>> ((8 : Int32) &&& 31).toUInt32).toInt32)), (.int (1 : Int32)), (.ref b164), (.ref b164)] _
          refine XS.iand X165.here hx rfl (hb hby at_94) rfl ?_
          show SS p e below T165 m 95 #[.val (.int p0), .val (.int f0), .val (.int m0), .val (.int k), .val (.ref oMISSING_IMPORT), .val (.ref b161), .unset, .unset, .unset, .unset, .unset, .unset] [(.int (((m0.toUInt32 >>> ((8 : Int32) &&& 31).toUInt32).toInt32) &&& (255 : Int32))), (.int (1 : Int32)), (.ref b164), (.ref b164)] _
          refine XS.i2c X165.here hx rfl (hb hby at_95) rfl ?_
          show SS p e below T165 m 96 #[.val (.int p0), .val (.int f0), .val (.int m0), .val (.int k), .val (.ref oMISSING_IMPORT), .val (.ref b161), .unset, .unset, .unset, .unset, .unset, .unset] [(.int ((((m0.toUInt32 >>> ((8 : Int32) &&& 31).toUInt32).toInt32) &&& (255 : Int32)).toUInt32.toUInt16.toUInt32.toInt32)), (.int (1 : Int32)), (.ref b164), (.ref b164)] _
          refine st166 _ ?_
          show SS p e below T166 m 97 #[.val (.int p0), .val (.int f0), .val (.int m0), .val (.int k), .val (.ref oMISSING_IMPORT), .val (.ref b161), .unset, .unset, .unset, .unset, .unset, .unset] [(.ref b164)] _
          refine XS.astore X166.here hx rfl (hb hby at_97) rfl rfl (l' := #[.val (.int p0), .val (.int f0), .val (.int m0), .val (.int k), .val (.ref oMISSING_IMPORT), .val (.ref b161), .val (.ref b164), .unset, .unset, .unset, .unset, .unset]) rfl ?_
          show SS p e below T166 m 99 #[.val (.int p0), .val (.int f0), .val (.int m0), .val (.int k), .val (.ref oMISSING_IMPORT), .val (.ref b161), .val (.ref b164), .unset, .unset, .unset, .unset, .unset] [] _
          refine st167 _ ?_
          show SS p e below T167 m 102 #[.val (.int p0), .val (.int f0), .val (.int m0), .val (.int k), .val (.ref oMISSING_IMPORT), .val (.ref b161), .val (.ref b164), .unset, .unset, .unset, .unset, .unset] [(.ref b167)] _
          refine XS.dup X167.here hx rfl (hb hby at_102) rfl rfl ?_
          show SS p e below T167 m 103 #[.val (.int p0), .val (.int f0), .val (.int m0), .val (.int k), .val (.ref oMISSING_IMPORT), .val (.ref b161), .val (.ref b164), .unset, .unset, .unset, .unset, .unset] [(.ref b167), (.ref b167)] _
          refine XS.aload X167.here hx rfl (hb hby at_103) rfl rfl ?_
          show SS p e below T167 m 105 #[.val (.int p0), .val (.int f0), .val (.int m0), .val (.int k), .val (.ref oMISSING_IMPORT), .val (.ref b161), .val (.ref b164), .unset, .unset, .unset, .unset, .unset] [(.ref b161), (.ref b167), (.ref b167)] _
          refine st170.trans ?_
          show SS p e below T170 m 108 #[.val (.int p0), .val (.int f0), .val (.int m0), .val (.int k), .val (.ref oMISSING_IMPORT), .val (.ref b161), .val (.ref b164), .unset, .unset, .unset, .unset, .unset] [(.ref b167)] _
          refine XS.astore X170.here hx rfl (hb hby at_108) rfl rfl (l' := #[.val (.int p0), .val (.int f0), .val (.int m0), .val (.int k), .val (.ref oMISSING_IMPORT), .val (.ref b161), .val (.ref b164), .val (.ref b167), .unset, .unset, .unset, .unset]) rfl ?_
          show SS p e below T170 m 110 #[.val (.int p0), .val (.int f0), .val (.int m0), .val (.int k), .val (.ref oMISSING_IMPORT), .val (.ref b161), .val (.ref b164), .val (.ref b167), .unset, .unset, .unset, .unset] [] _
          refine st173 _ ?_
          show SS p e below T173 m 113 #[.val (.int p0), .val (.int f0), .val (.int m0), .val (.int k), .val (.ref oMISSING_IMPORT), .val (.ref b161), .val (.ref b164), .val (.ref b167), .unset, .unset, .unset, .unset] [(.ref b173)] _
          refine XS.dup X173.here hx rfl (hb hby at_113) rfl rfl ?_
          show SS p e below T173 m 114 #[.val (.int p0), .val (.int f0), .val (.int m0), .val (.int k), .val (.ref oMISSING_IMPORT), .val (.ref b161), .val (.ref b164), .val (.ref b167), .unset, .unset, .unset, .unset] [(.ref b173), (.ref b173)] _
          refine XS.aload X173.here hx rfl (hb hby at_114) rfl rfl ?_
          show SS p e below T173 m 116 #[.val (.int p0), .val (.int f0), .val (.int m0), .val (.int k), .val (.ref oMISSING_IMPORT), .val (.ref b161), .val (.ref b164), .val (.ref b167), .unset, .unset, .unset, .unset] [(.ref b164), (.ref b173), (.ref b173)] _
          refine st176.trans ?_
          show SS p e below T176 m 119 #[.val (.int p0), .val (.int f0), .val (.int m0), .val (.int k), .val (.ref oMISSING_IMPORT), .val (.ref b161), .val (.ref b164), .val (.ref b167), .unset, .unset, .unset, .unset] [(.ref b173)] _
          refine XS.astore X176.here hx rfl (hb hby at_119) rfl rfl (l' := #[.val (.int p0), .val (.int f0), .val (.int m0), .val (.int k), .val (.ref oMISSING_IMPORT), .val (.ref b161), .val (.ref b164), .val (.ref b167), .val (.ref b173), .unset, .unset, .unset]) rfl ?_
          show SS p e below T176 m 121 #[.val (.int p0), .val (.int f0), .val (.int m0), .val (.int k), .val (.ref oMISSING_IMPORT), .val (.ref b161), .val (.ref b164), .val (.ref b167), .val (.ref b173), .unset, .unset, .unset] [] _
          refine st179 _ ?_
          show SS p e below T179 m 124 #[.val (.int p0), .val (.int f0), .val (.int m0), .val (.int k), .val (.ref oMISSING_IMPORT), .val (.ref b161), .val (.ref b164), .val (.ref b167), .val (.ref b173), .unset, .unset, .unset] [(.ref b179)] _
          refine XS.dup X179.here hx rfl (hb hby at_124) rfl rfl ?_
          show SS p e below T179 m 125 #[.val (.int p0), .val (.int f0), .val (.int m0), .val (.int k), .val (.ref oMISSING_IMPORT), .val (.ref b161), .val (.ref b164), .val (.ref b167), .val (.ref b173), .unset, .unset, .unset] [(.ref b179), (.ref b179)] _
          refine XS.aload X179.here hx rfl (hb hby at_125) rfl rfl ?_
          show SS p e below T179 m 127 #[.val (.int p0), .val (.int f0), .val (.int m0), .val (.int k), .val (.ref oMISSING_IMPORT), .val (.ref b161), .val (.ref b164), .val (.ref b167), .val (.ref b173), .unset, .unset, .unset] [(.ref b167), (.ref b179), (.ref b179)] _
          refine XS.aload X179.here hx rfl (hb hby at_127) rfl rfl ?_
          show SS p e below T179 m 129 #[.val (.int p0), .val (.int f0), .val (.int m0), .val (.int k), .val (.ref oMISSING_IMPORT), .val (.ref b161), .val (.ref b164), .val (.ref b167), .val (.ref b173), .unset, .unset, .unset] [(.ref oMISSING_IMPORT), (.ref b167), (.ref b179), (.ref b179)] _
          refine XS.aload X179.here hx rfl (hb hby at_129) rfl rfl ?_
          show SS p e below T179 m 131 #[.val (.int p0), .val (.int f0), .val (.int m0), .val (.int k), .val (.ref oMISSING_IMPORT), .val (.ref b161), .val (.ref b164), .val (.ref b167), .val (.ref b173), .unset, .unset, .unset] [(.ref b173), (.ref oMISSING_IMPORT), (.ref b167), (.ref b179), (.ref b179)] _
          refine st181.trans ?_
          show SS p e below T181 m 134 #[.val (.int p0), .val (.int f0), .val (.int m0), .val (.int k), .val (.ref oMISSING_IMPORT), .val (.ref b161), .val (.ref b164), .val (.ref b167), .val (.ref b173), .unset, .unset, .unset] [(.ref b179)] _
          refine XS.astore X181.here hx rfl (hb hby at_134) rfl rfl (l' := #[.val (.int p0), .val (.int f0), .val (.int m0), .val (.int k), .val (.ref oMISSING_IMPORT), .val (.ref b161), .val (.ref b164), .val (.ref b167), .val (.ref b173), .val (.ref b179), .unset, .unset]) rfl ?_
          show SS p e below T181 m 136 #[.val (.int p0), .val (.int f0), .val (.int m0), .val (.int k), .val (.ref oMISSING_IMPORT), .val (.ref b161), .val (.ref b164), .val (.ref b167), .val (.ref b173), .val (.ref b179), .unset, .unset] [] _
          refine XS.aload X181.here hx rfl (hb hby at_136) rfl rfl ?_
          show SS p e below T181 m 138 #[.val (.int p0), .val (.int f0), .val (.int m0), .val (.int k), .val (.ref oMISSING_IMPORT), .val (.ref b161), .val (.ref b164), .val (.ref b167), .val (.ref b173), .val (.ref b179), .unset, .unset] [(.ref b179)] _
          refine st183.trans ?_
          show SS p e below T183 m 141 #[.val (.int p0), .val (.int f0), .val (.int m0), .val (.int k), .val (.ref oMISSING_IMPORT), .val (.ref b161), .val (.ref b164), .val (.ref b167), .val (.ref b173), .val (.ref b179), .unset, .unset] [(.int (if oMISSING_IMPORT = oNO_FILE then (66 : Int32) else (65 : Int32)))] _
          refine XS.istore X183.here hx rfl (hb hby at_141) rfl (l' := #[.val (.int p0), .val (.int f0), .val (.int m0), .val (.int k), .val (.ref oMISSING_IMPORT), .val (.ref b161), .val (.ref b164), .val (.ref b167), .val (.ref b173), .val (.ref b179), .val (.int (if oMISSING_IMPORT = oNO_FILE then (66 : Int32) else (65 : Int32))), .unset]) rfl ?_
          show SS p e below T183 m 143 #[.val (.int p0), .val (.int f0), .val (.int m0), .val (.int k), .val (.ref oMISSING_IMPORT), .val (.ref b161), .val (.ref b164), .val (.ref b167), .val (.ref b173), .val (.ref b179), .val (.int (if oMISSING_IMPORT = oNO_FILE then (66 : Int32) else (65 : Int32))), .unset] [] _
          refine XS.iloadN X183.here hx rfl (hb hby at_143) rfl ?_
          show SS p e below T183 m 144 #[.val (.int p0), .val (.int f0), .val (.int m0), .val (.int k), .val (.ref oMISSING_IMPORT), .val (.ref b161), .val (.ref b164), .val (.ref b167), .val (.ref b173), .val (.ref b179), .val (.int (if oMISSING_IMPORT = oNO_FILE then (66 : Int32) else (65 : Int32))), .unset] [(.int k)] _
          refine XS.ifYes X183.here hx rfl (pc0 := 144) (pc' := 154) rfl (hb hby at_144) rfl ((if0 _ _).trans (feq hc102).2) (by decide) (by decide) ?_
          show SS p e below T183 m 154 #[.val (.int p0), .val (.int f0), .val (.int m0), .val (.int k), .val (.ref oMISSING_IMPORT), .val (.ref b161), .val (.ref b164), .val (.ref b167), .val (.ref b173), .val (.ref b179), .val (.int (if oMISSING_IMPORT = oNO_FILE then (66 : Int32) else (65 : Int32))), .unset] [] _
          refine XS.bipush X183.here hx rfl (hb hby at_154) ?_
          show SS p e below T183 m 156 #[.val (.int p0), .val (.int f0), .val (.int m0), .val (.int k), .val (.ref oMISSING_IMPORT), .val (.ref b161), .val (.ref b164), .val (.ref b167), .val (.ref b173), .val (.ref b179), .val (.int (if oMISSING_IMPORT = oNO_FILE then (66 : Int32) else (65 : Int32))), .unset] [(.int (65 : Int32))] _
          refine XS.istore X183.here hx rfl (hb hby at_156) rfl (l' := #[.val (.int p0), .val (.int f0), .val (.int m0), .val (.int k), .val (.ref oMISSING_IMPORT), .val (.ref b161), .val (.ref b164), .val (.ref b167), .val (.ref b173), .val (.ref b179), .val (.int (if oMISSING_IMPORT = oNO_FILE then (66 : Int32) else (65 : Int32))), .val (.int (65 : Int32))]) rfl ?_
          show SS p e below T183 m 158 #[.val (.int p0), .val (.int f0), .val (.int m0), .val (.int k), .val (.ref oMISSING_IMPORT), .val (.ref b161), .val (.ref b164), .val (.ref b167), .val (.ref b173), .val (.ref b179), .val (.int (if oMISSING_IMPORT = oNO_FILE then (66 : Int32) else (65 : Int32))), .val (.int (65 : Int32))] [] _
          refine XS.iload X183.here hx rfl (hb hby at_158) rfl ?_
          show SS p e below T183 m 160 #[.val (.int p0), .val (.int f0), .val (.int m0), .val (.int k), .val (.ref oMISSING_IMPORT), .val (.ref b161), .val (.ref b164), .val (.ref b167), .val (.ref b173), .val (.ref b179), .val (.int (if oMISSING_IMPORT = oNO_FILE then (66 : Int32) else (65 : Int32))), .val (.int (65 : Int32))] [(.int (if oMISSING_IMPORT = oNO_FILE then (66 : Int32) else (65 : Int32)))] _
          refine XS.iload X183.here hx rfl (hb hby at_160) rfl ?_
          show SS p e below T183 m 162 #[.val (.int p0), .val (.int f0), .val (.int m0), .val (.int k), .val (.ref oMISSING_IMPORT), .val (.ref b161), .val (.ref b164), .val (.ref b167), .val (.ref b173), .val (.ref b179), .val (.int (if oMISSING_IMPORT = oNO_FILE then (66 : Int32) else (65 : Int32))), .val (.int (65 : Int32))] [(.int (65 : Int32)), (.int (if oMISSING_IMPORT = oNO_FILE then (66 : Int32) else (65 : Int32)))] _
          refine XS.icmpNo X183.here hx rfl (hb hby at_162) rfl (teq (if_neg (Fld.ne F_MISSING_IMPORT F_NO_FILE (by decide)))).2 ?_
          show SS p e below T183 m 165 #[.val (.int p0), .val (.int f0), .val (.int m0), .val (.int k), .val (.ref oMISSING_IMPORT), .val (.ref b161), .val (.ref b164), .val (.ref b167), .val (.ref b173), .val (.ref b179), .val (.int (if oMISSING_IMPORT = oNO_FILE then (66 : Int32) else (65 : Int32))), .val (.int (65 : Int32))] [] _
          refine XS.iconst X183.here hx rfl (hb hby at_165) ?_
          show SS p e below T183 m 166 #[.val (.int p0), .val (.int f0), .val (.int m0), .val (.int k), .val (.ref oMISSING_IMPORT), .val (.ref b161), .val (.ref b164), .val (.ref b167), .val (.ref b173), .val (.ref b179), .val (.int (if oMISSING_IMPORT = oNO_FILE then (66 : Int32) else (65 : Int32))), .val (.int (65 : Int32))] [(.int (1 : Int32))] _
          refine XS.goto X183.here hx rfl (pc0 := 166) (pc' := 170) rfl (hb hby at_166) (by decide) (by decide) ?_
          show SS p e below T183 m 170 #[.val (.int p0), .val (.int f0), .val (.int m0), .val (.int k), .val (.ref oMISSING_IMPORT), .val (.ref b161), .val (.ref b164), .val (.ref b167), .val (.ref b173), .val (.ref b179), .val (.int (if oMISSING_IMPORT = oNO_FILE then (66 : Int32) else (65 : Int32))), .val (.int (65 : Int32))] [(.int (1 : Int32))] _
          exact kt
        obtain ⟨fs, hr, hrun, hended, hW, hsame⟩ := X183.leave (v := some (.int (nar .boolean (1 : Int32)))) (fun h => by rw [Bd.returns] at h; cases h)
        refine ⟨_, _, W184 _ (retN X183 hx (t := .boolean) Bd.returns (by simp) (hb hby at_170) hr), hrun, hended, _, _, rfl, ?_, ⟨_, rfl⟩, hW, hsame.mono (by decide) (by decide)⟩
        show Q_law Z p0 f0 m0 oNO_FILE oNOT_AN_ONTOLOGY oMISSING_IMPORT oNOT_A_CATALOG cS uv sv h0 n0 _ T183.heap _
        rw [eq183]
        exact ⟨rfl, N183, (Keep.trans (Keep.trans (Keep.trans (Keep.trans (Keep.trans (Keep.trans (Keep.trans (Keep.trans (Keep.trans (Keep.trans (Keep.trans (Keep.trans (Keep.refl h0 []) K161 all0) K162 (allS (Or.inr (Nat.le_of_eq g161.symm)) all0)) K163 (allS (Or.inr (Nat.le_of_eq g161.symm)) all0)) K164 all0) K165 (allS (Or.inr (Nat.le_trans (Nat.le_trans (Nat.le_trans K161.1 K162.1) K163.1) (Nat.le_of_eq g164.symm))) all0)) K166 (allS (Or.inr (Nat.le_trans (Nat.le_trans (Nat.le_trans K161.1 K162.1) K163.1) (Nat.le_of_eq g164.symm))) all0)) K167 all0) K170 (allS (Or.inr (Nat.le_trans (Nat.le_trans (Nat.le_trans (Nat.le_trans (Nat.le_trans (Nat.le_trans K161.1 K162.1) K163.1) K164.1) K165.1) K166.1) (Nat.le_of_eq g167.symm))) all0)) K173 all0) K176 (allS (Or.inr (Nat.le_trans (Nat.le_trans (Nat.le_trans (Nat.le_trans (Nat.le_trans (Nat.le_trans (Nat.le_trans (Nat.le_trans K161.1 K162.1) K163.1) K164.1) K165.1) K166.1) K167.1) K170.1) (Nat.le_of_eq g173.symm))) all0)) K179 all0) K181 (allS (Or.inr (Nat.le_trans (Nat.le_trans (Nat.le_trans (Nat.le_trans (Nat.le_trans (Nat.le_trans (Nat.le_trans (Nat.le_trans (Nat.le_trans (Nat.le_trans K161.1 K162.1) K163.1) K164.1) K165.1) K166.1) K167.1) K170.1) K173.1) K176.1) (Nat.le_of_eq g179.symm))) all0))⟩
      ·
        have F186 : Sta Z h0 "axiomend/ontology/OntologyReadException$Problem" "NOT_A_CATALOG" "Laxiomend/ontology/OntologyReadException$Problem;" (.ref oNOT_A_CATALOG) := S_NOT_A_CATALOG.ext O0.2
        obtain ⟨T185, X185, e185, st185⟩ := getS2 X0 hx hZ hown (host := "") (Or.inl (w99 hw)) Via.refl e0 F186 (g := (mkF m 42 #[.val (.int p0), .val (.int f0), .val (.int m0), .val (.int k), .unset, .unset, .unset, .unset, .unset, .unset, .unset, .unset] [])) rfl (hb hby at_42)
        obtain ⟨T187, h187, k187, X187, e187, E187, A187, st187⟩ := newP X185 hx hZ (aty := .char) (w3 hw) e185 (g := (mkF m 48 #[.val (.int p0), .val (.int f0), .val (.int m0), .val (.int k), .val (.ref oNOT_A_CATALOG), .unset, .unset, .unset, .unset, .unset, .unset, .unset] [(.int (2 : Int32))])) rfl (hb hby at_48) (n := (2 : Int32)) rfl (by decide) (cap := 2) (by decide) (by decide) (by decide) (by decide)
        obtain ⟨b187, g187⟩ : ∃ z, z = h0.size := ⟨_, rfl⟩
        rw [← g187] at A187 st187
        have K187 := (Keep.refl h0 []).ext E187
        have G187 : Arv Z h187 b187 k187 .char (2 : Int32) [(.int (0 : Int32)), (.int (0 : Int32))] (.int (0 : Int32)) := (Arv.new A187 (by decide)).pad (pad_rep [] (.int (0 : Int32)) 2)
        obtain ⟨cl188, Ar188, q188, S188, M188, H188, F188g⟩ := id G187
        have hin188 : ¬ ((0 : Int32) < 0 ∨ cl188.slots.size ≤ ((0 : Int32)).toNatClampNeg) := inb_of S188 ⟨by decide, by decide⟩
        obtain ⟨T188, h188, X188, e188, Wr188, st188⟩ := stC X187 hx hZ e187 Ar188 (j := (0 : Int32)) hin188 (g := (mkF m 58 #[.val (.int p0), .val (.int f0), .val (.int m0), .val (.int k), .val (.ref oNOT_A_CATALOG), .unset, .unset, .unset, .unset, .unset, .unset, .unset] [(.int ((f0 &&& (255 : Int32)).toUInt32.toUInt16.toUInt32.toInt32)), (.int (0 : Int32)), (.ref b187), (.ref b187)])) rfl rfl (hb hby at_58)
        have G188 : Arv Z h188 b187 k187 .char (2 : Int32) [(.int (nar .char ((f0 &&& (255 : Int32)).toUInt32.toUInt16.toUInt32.toInt32))), (.int (0 : Int32))] (.int (0 : Int32)) := Arv.set Ar188 q188 S188 M188 H188 F188g (fits_nar_char _) Wr188 0 rfl (Nat.le_of_ble_eq_true rfl)
        have K188 := Keep.of_wr Wr188
        have N188 := Fr.snoc X188 N0 (Nat.le_trans Z0 (Nat.le_of_eq g187.symm))
        obtain ⟨cl189, Ar189, q189, S189, M189, H189, F189g⟩ := id G188
        have hin189 : ¬ ((1 : Int32) < 0 ∨ cl189.slots.size ≤ ((1 : Int32)).toNatClampNeg) := inb_of S189 ⟨by decide, by decide⟩
        obtain ⟨T189, h189, X189, e189, Wr189, st189⟩ := stC X188 hx hZ e188 Ar189 (j := (1 : Int32)) hin189 (g := (mkF m 70 #[.val (.int p0), .val (.int f0), .val (.int m0), .val (.int k), .val (.ref oNOT_A_CATALOG), .unset, .unset, .unset, .unset, .unset, .unset, .unset] [(.int ((((f0.toUInt32 >>> ((8 : Int32) &&& 31).toUInt32).toInt32) &&& (255 : Int32)).toUInt32.toUInt16.toUInt32.toInt32)), (.int (1 : Int32)), (.ref b187), (.ref b187)])) rfl rfl (hb hby at_70)
        have G189 : Arv Z h189 b187 k187 .char (2 : Int32) [(.int (nar .char ((f0 &&& (255 : Int32)).toUInt32.toUInt16.toUInt32.toInt32))), (.int (nar .char ((((f0.toUInt32 >>> ((8 : Int32) &&& 31).toUInt32).toInt32) &&& (255 : Int32)).toUInt32.toUInt16.toUInt32.toInt32)))] (.int (0 : Int32)) := Arv.set Ar189 q189 S189 M189 H189 F189g (fits_nar_char _) Wr189 1 rfl (Nat.le_of_ble_eq_true rfl)
        have K189 := Keep.of_wr Wr189
        have N189 := Fr.snoc X189 N188 (Nat.le_trans Z0 (Nat.le_of_eq g187.symm))
        obtain ⟨T190, h190, k190, X190, e190, E190, A190, st190⟩ := newP X189 hx hZ (aty := .char) (w3 hw) e189 (g := (mkF m 74 #[.val (.int p0), .val (.int f0), .val (.int m0), .val (.int k), .val (.ref oNOT_A_CATALOG), .val (.ref b187), .unset, .unset, .unset, .unset, .unset, .unset] [(.int (2 : Int32))])) rfl (hb hby at_74) (n := (2 : Int32)) rfl (by decide) (cap := 2) (by decide) (by decide) (by decide) (by decide)
        obtain ⟨b190, g190⟩ : ∃ z, z = h189.size := ⟨_, rfl⟩
        rw [← g190] at A190 st190
        have K190 := (Keep.refl h189 []).ext E190
        have G190 : Arv Z h190 b190 k190 .char (2 : Int32) [(.int (0 : Int32)), (.int (0 : Int32))] (.int (0 : Int32)) := (Arv.new A190 (by decide)).pad (pad_rep [] (.int (0 : Int32)) 2)
        obtain ⟨cl191, Ar191, q191, S191, M191, H191, F191g⟩ := id G190
        have hin191 : ¬ ((0 : Int32) < 0 ∨ cl191.slots.size ≤ ((0 : Int32)).toNatClampNeg) := inb_of S191 ⟨by decide, by decide⟩
        obtain ⟨T191, h191, X191, e191, Wr191, st191⟩ := stC X190 hx hZ e190 Ar191 (j := (0 : Int32)) hin191 (g := (mkF m 84 #[.val (.int p0), .val (.int f0), .val (.int m0), .val (.int k), .val (.ref oNOT_A_CATALOG), .val (.ref b187), .unset, .unset, .unset, .unset, .unset, .unset] [(.int ((m0 &&& (255 : Int32)).toUInt32.toUInt16.toUInt32.toInt32)), (.int (0 : Int32)), (.ref b190), (.ref b190)])) rfl rfl (hb hby at_84)
        have G191 : Arv Z h191 b190 k190 .char (2 : Int32) [(.int (nar .char ((m0 &&& (255 : Int32)).toUInt32.toUInt16.toUInt32.toInt32))), (.int (0 : Int32))] (.int (0 : Int32)) := Arv.set Ar191 q191 S191 M191 H191 F191g (fits_nar_char _) Wr191 0 rfl (Nat.le_of_ble_eq_true rfl)
        have K191 := Keep.of_wr Wr191
        have N191 := Fr.snoc X191 N189 (Nat.le_trans Z0 (Nat.le_trans (Nat.le_trans (Nat.le_trans K187.1 K188.1) K189.1) (Nat.le_of_eq g190.symm)))
        obtain ⟨cl192, Ar192, q192, S192, M192, H192, F192g⟩ := id G191
        have hin192 : ¬ ((1 : Int32) < 0 ∨ cl192.slots.size ≤ ((1 : Int32)).toNatClampNeg) := inb_of S192 ⟨by decide, by decide⟩
        obtain ⟨T192, h192, X192, e192, Wr192, st192⟩ := stC X191 hx hZ e191 Ar192 (j := (1 : Int32)) hin192 (g := (mkF m 96 #[.val (.int p0), .val (.int f0), .val (.int m0), .val (.int k), .val (.ref oNOT_A_CATALOG), .val (.ref b187), .unset, .unset, .unset, .unset, .unset, .unset] [(.int ((((m0.toUInt32 >>> ((8 : Int32) &&& 31).toUInt32).toInt32) &&& (255 : Int32)).toUInt32.toUInt16.toUInt32.toInt32)), (.int (1 : Int32)), (.ref b190), (.ref b190)])) rfl rfl (hb hby at_96)
        have G192 : Arv Z h192 b190 k190 .char (2 : Int32) [(.int (nar .char ((m0 &&& (255 : Int32)).toUInt32.toUInt16.toUInt32.toInt32))), (.int (nar .char ((((m0.toUInt32 >>> ((8 : Int32) &&& 31).toUInt32).toInt32) &&& (255 : Int32)).toUInt32.toUInt16.toUInt32.toInt32)))] (.int (0 : Int32)) := Arv.set Ar192 q192 S192 M192 H192 F192g (fits_nar_char _) Wr192 1 rfl (Nat.le_of_ble_eq_true rfl)
        have K192 := Keep.of_wr Wr192
        have N192 := Fr.snoc X192 N191 (Nat.le_trans Z0 (Nat.le_trans (Nat.le_trans (Nat.le_trans K187.1 K188.1) K189.1) (Nat.le_of_eq g190.symm)))
        obtain ⟨T193, h193, X193, e193, E193, A193, D193, U193, st193⟩ := newO X192 hx hZ hown (w4 hw) (w5 hw) (w6 hw) e192 (g := (mkF m 99 #[.val (.int p0), .val (.int f0), .val (.int m0), .val (.int k), .val (.ref oNOT_A_CATALOG), .val (.ref b187), .val (.ref b190), .unset, .unset, .unset, .unset, .unset] [])) rfl (hb hby at_99) (by decide) (by decide)
        obtain ⟨b193, g193⟩ : ∃ z, z = h192.size := ⟨_, rfl⟩
        rw [← g193] at A193 D193 U193 st193
        have K193 := (Keep.refl h192 []).ext E193
        have G193_coder : Fld Z h193 b193 "java/lang/String" "coder" "B" (.int (0 : Int32)) := D193 (Or.inr (w30 hw)) (ty := .byte) (by decide)
        have G193_value : Fld Z h193 b193 "java/lang/String" "value" "[B" .null := D193 (Or.inr (w32 hw)) (ty := (.array .byte)) (by decide)
        have F194 : Arv Z h193 b187 k187 .char (2 : Int32) [(.int (nar .char ((f0 &&& (255 : Int32)).toUInt32.toUInt16.toUInt32.toInt32))), (.int (nar .char ((((f0.toUInt32 >>> ((8 : Int32) &&& 31).toUInt32).toInt32) &&& (255 : Int32)).toUInt32.toUInt16.toUInt32.toInt32)))] (.int (0 : Int32)) := ((((G189.keep K190 nin0).keep K191 (ninS (Nat.ne_of_lt (Nat.lt_of_lt_of_le (Nat.lt_of_lt_of_le G187.lt (Nat.le_trans K188.1 K189.1)) (Nat.le_of_eq g190.symm))) nin0)).keep K192 (ninS (Nat.ne_of_lt (Nat.lt_of_lt_of_le (Nat.lt_of_lt_of_le G187.lt (Nat.le_trans K188.1 K189.1)) (Nat.le_of_eq g190.symm))) nin0)).keep K193 nin0)
        have O195 : Old Z n0 h193 := (((((((O0.keep K187 all0).keep K188 (allS (Nat.le_trans Z0 (Nat.le_of_eq g187.symm)) all0)).keep K189 (allS (Nat.le_trans Z0 (Nat.le_of_eq g187.symm)) all0)).keep K190 all0).keep K191 (allS (Nat.le_trans Z0 (Nat.le_trans (Nat.le_trans (Nat.le_trans K187.1 K188.1) K189.1) (Nat.le_of_eq g190.symm))) all0)).keep K192 (allS (Nat.le_trans Z0 (Nat.le_trans (Nat.le_trans (Nat.le_trans K187.1 K188.1) K189.1) (Nat.le_of_eq g190.symm))) all0)).keep K193 all0)
        obtain ⟨_, _, ⟨T196, L196, k196, n196⟩, -, X196, ⟨Lc196, hQ196, l196, y196, z196⟩, st196⟩ := X193.specialBack hx (y := (⟨"java/lang/String", "<init>", "([C)V"⟩ : MethodName)) rfl hown (mvT hZ (w7 hw)) (mvT hZ (w8 hw)) (mvT hZ (w9 hw)) (by decide) (backOf (W := 1) (rm_sinit l Z a0 hw [] b193 b187 k187 [(nar .char ((f0 &&& (255 : Int32)).toUInt32.toUInt16.toUInt32.toInt32)), (nar .char ((((f0.toUInt32 >>> ((8 : Int32) &&& 31).toUInt32).toInt32) &&& (255 : Int32)).toUInt32.toUInt16.toUInt32.toInt32))] cS h193 n0 (Nat.le_trans Z0 (Nat.le_trans (Nat.le_trans (Nat.le_trans (Nat.le_trans (Nat.le_trans (Nat.le_trans K187.1 K188.1) K189.1) K190.1) K191.1) K192.1) K193.1)) O195 S_cs hcS A193 G193_value G193_coder (Nat.le_trans Z0 (Nat.le_trans (Nat.le_trans (Nat.le_trans (Nat.le_trans (Nat.le_trans (Nat.le_trans K187.1 K188.1) K189.1) K190.1) K191.1) K192.1) (Nat.le_of_eq g193.symm))) F194 (own_ok2 (own_c8 f0) (own_c8 _)).1 (Nat.le_of_ble_eq_true rfl) (Nat.le_of_ble_eq_true rfl) (Ne.symm (Nat.ne_of_lt (Nat.lt_of_lt_of_le (Nat.lt_of_lt_of_le G187.lt (Nat.le_trans (Nat.le_trans (Nat.le_trans (Nat.le_trans K188.1 K189.1) K190.1) K191.1) K192.1)) (Nat.le_of_eq g193.symm)))) (own_ok2 (own_c8 f0) (own_c8 _)).2) hZ (w9 hw) (w6 hw) (by decide) (by decide)) (g := (mkF m 105 #[.val (.int p0), .val (.int f0), .val (.int m0), .val (.int k), .val (.ref oNOT_A_CATALOG), .val (.ref b187), .val (.ref b190), .unset, .unset, .unset, .unset, .unset] [(.ref b187), (.ref b193), (.ref b193)])) rfl (by rw [hml]; rfl) (Steps.refl _) (a := b193) (argsL := [(.ref b187)]) (rest := [(.ref b193)]) (lenOf pd__28__5b_C_29_V rfl) rfl (by show 2 * 0 + _ ≤ _; exact Nat.le_of_eq rfl) (hb hby at_105) (fun _ _ => ⟨rfl, e193, (Nat.le_of_ble_eq_true rfl), (Nat.le_of_ble_eq_true rfl)⟩)
        dsimp only [Pt.U, Pt.locs, Pt.cells, Pt.slots] at X196 l196 y196 z196 st196 hQ196
        subst l196 y196 z196
        obtain ⟨t_197, kb_198, rfl, Nq196, K196, P196_0, P196_1⟩ := hQ196
        have N196 := Fr.app N192 Nq196
        obtain ⟨T199, h199, X199, e199, E199, A199, D199, U199, st199⟩ := newO X196 hx hZ hown (w4 hw) (w5 hw) (w6 hw) rfl (g := (mkF m 110 #[.val (.int p0), .val (.int f0), .val (.int m0), .val (.int k), .val (.ref oNOT_A_CATALOG), .val (.ref b187), .val (.ref b190), .val (.ref b193), .unset, .unset, .unset, .unset] [])) rfl (hb hby at_110) (by decide) (by decide)
        obtain ⟨b199, g199⟩ : ∃ z, z = T196.heap.size := ⟨_, rfl⟩
        rw [← g199] at A199 D199 U199 st199
        have K199 := (Keep.refl T196.heap []).ext E199
        have G199_coder : Fld Z h199 b199 "java/lang/String" "coder" "B" (.int (0 : Int32)) := D199 (Or.inr (w30 hw)) (ty := .byte) (by decide)
        have G199_value : Fld Z h199 b199 "java/lang/String" "value" "[B" .null := D199 (Or.inr (w32 hw)) (ty := (.array .byte)) (by decide)
        have F200 : Arv Z h199 b190 k190 .char (2 : Int32) [(.int (nar .char ((m0 &&& (255 : Int32)).toUInt32.toUInt16.toUInt32.toInt32))), (.int (nar .char ((((m0.toUInt32 >>> ((8 : Int32) &&& 31).toUInt32).toInt32) &&& (255 : Int32)).toUInt32.toUInt16.toUInt32.toInt32)))] (.int (0 : Int32)) := (((G192.keep K193 nin0).keep K196 (ninS (Nat.ne_of_lt (Nat.lt_of_lt_of_le (Nat.lt_of_lt_of_le G190.lt (Nat.le_trans K191.1 K192.1)) (Nat.le_of_eq g193.symm))) nin0)).keep K199 nin0)
        have O201 : Old Z n0 h199 := ((O195.keep K196 (allS (Nat.le_trans Z0 (Nat.le_trans (Nat.le_trans (Nat.le_trans (Nat.le_trans (Nat.le_trans (Nat.le_trans K187.1 K188.1) K189.1) K190.1) K191.1) K192.1) (Nat.le_of_eq g193.symm))) all0)).keep K199 all0)
        obtain ⟨_, _, ⟨T202, L202, k202, n202⟩, -, X202, ⟨Lc202, hQ202, l202, y202, z202⟩, st202⟩ := X199.specialBack hx (y := (⟨"java/lang/String", "<init>", "([C)V"⟩ : MethodName)) rfl hown (mvT hZ (w7 hw)) (mvT hZ (w8 hw)) (mvT hZ (w9 hw)) (by decide) (backOf (W := 1) (rm_sinit l Z a0 hw [] b199 b190 k190 [(nar .char ((m0 &&& (255 : Int32)).toUInt32.toUInt16.toUInt32.toInt32)), (nar .char ((((m0.toUInt32 >>> ((8 : Int32) &&& 31).toUInt32).toInt32) &&& (255 : Int32)).toUInt32.toUInt16.toUInt32.toInt32))] cS h199 n0 (Nat.le_trans Z0 (Nat.le_trans (Nat.le_trans (Nat.le_trans (Nat.le_trans (Nat.le_trans (Nat.le_trans (Nat.le_trans (Nat.le_trans K187.1 K188.1) K189.1) K190.1) K191.1) K192.1) K193.1) K196.1) K199.1)) O201 S_cs hcS A199 G199_value G199_coder (Nat.le_trans Z0 (Nat.le_trans (Nat.le_trans (Nat.le_trans (Nat.le_trans (Nat.le_trans (Nat.le_trans (Nat.le_trans (Nat.le_trans K187.1 K188.1) K189.1) K190.1) K191.1) K192.1) K193.1) K196.1) (Nat.le_of_eq g199.symm))) F200 (own_ok2 (own_c8 m0) (own_c8 _)).1 (Nat.le_of_ble_eq_true rfl) (Nat.le_of_ble_eq_true rfl) (Ne.symm (Nat.ne_of_lt (Nat.lt_of_lt_of_le (Nat.lt_of_lt_of_le G190.lt (Nat.le_trans (Nat.le_trans (Nat.le_trans K191.1 K192.1) K193.1) K196.1)) (Nat.le_of_eq g199.symm)))) (own_ok2 (own_c8 m0) (own_c8 _)).2) hZ (w9 hw) (w6 hw) (by decide) (by decide)) (g := (mkF m 116 #[.val (.int p0), .val (.int f0), .val (.int m0), .val (.int k), .val (.ref oNOT_A_CATALOG), .val (.ref b187), .val (.ref b190), .val (.ref b193), .unset, .unset, .unset, .unset] [(.ref b190), (.ref b199), (.ref b199)])) rfl (by rw [hml]; rfl) (Steps.refl _) (a := b199) (argsL := [(.ref b190)]) (rest := [(.ref b199)]) (lenOf pd__28__5b_C_29_V rfl) rfl (by show 2 * 0 + _ ≤ _; exact Nat.le_of_eq rfl) (hb hby at_116) (fun _ _ => ⟨rfl, e199, (Nat.le_of_ble_eq_true rfl), (Nat.le_of_ble_eq_true rfl)⟩)
        dsimp only [Pt.U, Pt.locs, Pt.cells, Pt.slots] at X202 l202 y202 z202 st202 hQ202
        subst l202 y202 z202
        obtain ⟨t_203, kb_204, rfl, Nq202, K202, P202_0, P202_1⟩ := hQ202
        have N202 := Fr.app N196 Nq202
        obtain ⟨T205, h205, X205, e205, E205, A205, D205, U205, st205⟩ := newO X202 hx hZ hown (w33 hw) (w34 hw) (w35 hw) rfl (g := (mkF m 121 #[.val (.int p0), .val (.int f0), .val (.int m0), .val (.int k), .val (.ref oNOT_A_CATALOG), .val (.ref b187), .val (.ref b190), .val (.ref b193), .val (.ref b199), .unset, .unset, .unset] [])) rfl (hb hby at_121) (by decide) (by decide)
        obtain ⟨b205, g205⟩ : ∃ z, z = T202.heap.size := ⟨_, rfl⟩
        rw [← g205] at A205 D205 U205 st205
        have K205 := (Keep.refl T202.heap []).ext E205
        have G205_cause : Fld Z h205 b205 "java/lang/Throwable" "cause" "Ljava/lang/Throwable;" .null := D205 (Or.inl (w52 hw)) (ty := (.object "java/lang/Throwable")) (by decide)
        have G205_stackTrace : Fld Z h205 b205 "java/lang/Throwable" "stackTrace" "[Ljava/lang/StackTraceElement;" .null := D205 (Or.inl (w55 hw)) (ty := (.array (.object "java/lang/StackTraceElement"))) (by decide)
        have G205_suppressedExceptions : Fld Z h205 b205 "java/lang/Throwable" "suppressedExceptions" "Ljava/util/List;" .null := D205 (Or.inl (w58 hw)) (ty := (.object "java/util/List")) (by decide)
        have G205_detailMessage : Fld Z h205 b205 "java/lang/Throwable" "detailMessage" "Ljava/lang/String;" .null := D205 (Or.inl (w82 hw)) (ty := (.object "java/lang/String")) (by decide)
        have G205_backtrace : Fld Z h205 b205 "java/lang/Throwable" "backtrace" "Ljava/lang/Object;" .null := D205 (Or.inl (w83 hw)) (ty := (.object "java/lang/Object")) (by decide)
        have G205_depth : Fld Z h205 b205 "java/lang/Throwable" "depth" "I" (.int (0 : Int32)) := D205 (Or.inl (w84 hw)) (ty := .int) (by decide)
        have G205_file : Fld Z h205 b205 "axiomend/ontology/OntologyReadException" "file" "Ljava/lang/String;" .null := D205 (Or.inr (w88 hw)) (ty := (.object "java/lang/String")) (by decide)
        have G205_problem : Fld Z h205 b205 "axiomend/ontology/OntologyReadException" "problem" "Laxiomend/ontology/OntologyReadException$Problem;" .null := D205 (Or.inr (w90 hw)) (ty := (.object "axiomend/ontology/OntologyReadException$Problem")) (by decide)
        have O206 : Old Z n0 h205 := ((O201.keep K202 (allS (Nat.le_trans Z0 (Nat.le_trans (Nat.le_trans (Nat.le_trans (Nat.le_trans (Nat.le_trans (Nat.le_trans (Nat.le_trans (Nat.le_trans K187.1 K188.1) K189.1) K190.1) K191.1) K192.1) K193.1) K196.1) (Nat.le_of_eq g199.symm))) all0)).keep K205 all0)
        obtain ⟨_, _, ⟨T207, L207, k207, n207⟩, -, X207, ⟨Lc207, hQ207, l207, y207, z207⟩, st207⟩ := X205.specialBack hx (y := (⟨"axiomend/ontology/OntologyReadException", "<init>", "(Ljava/lang/String;Laxiomend/ontology/OntologyReadException$Problem;Ljava/lang/String;)V"⟩ : MethodName)) rfl hown (mvT hZ (w36 hw)) (mvT hZ (w37 hw)) (mvT hZ (w38 hw)) (by decide) (backOfKL (W := 1) (rm_xinit l Z a0 hw [] b205 b193 oNOT_A_CATALOG b199 uv sv h205 n0 (Nat.le_trans Z0 (Nat.le_trans (Nat.le_trans (Nat.le_trans (Nat.le_trans (Nat.le_trans (Nat.le_trans (Nat.le_trans (Nat.le_trans (Nat.le_trans (Nat.le_trans K187.1 K188.1) K189.1) K190.1) K191.1) K192.1) K193.1) K196.1) K199.1) K202.1) K205.1)) O206 hst S_un huv S_se hsv A205 U205 G205_backtrace G205_detailMessage G205_cause G205_stackTrace G205_suppressedExceptions (Nat.le_trans Z0 (Nat.le_trans (Nat.le_trans (Nat.le_trans (Nat.le_trans (Nat.le_trans (Nat.le_trans (Nat.le_trans (Nat.le_trans (Nat.le_trans (Nat.le_trans K187.1 K188.1) K189.1) K190.1) K191.1) K192.1) K193.1) K196.1) K199.1) K202.1) (Nat.le_of_eq g205.symm)))) hZ (w38 hw) (w35 hw) (by decide) (by decide) hTK hBelow) (g := (mkF m 131 #[.val (.int p0), .val (.int f0), .val (.int m0), .val (.int k), .val (.ref oNOT_A_CATALOG), .val (.ref b187), .val (.ref b190), .val (.ref b193), .val (.ref b199), .unset, .unset, .unset] [(.ref b199), (.ref oNOT_A_CATALOG), (.ref b193), (.ref b205), (.ref b205)])) rfl (by rw [hml]; rfl) (Steps.refl _) (a := b205) (argsL := [(.ref b193), (.ref oNOT_A_CATALOG), (.ref b199)]) (rest := [(.ref b205)]) (lenOf pd__28_Ljava_2f_lang_2f_String_3b_Laxiomend_2f_ontology_2f_OntologyReadException_24_Problem_3b_Ljava_2f_lang_2f_String_3b__29_V rfl) rfl (by show 2 * 0 + _ ≤ _; exact Nat.le_of_eq rfl) (hb hby at_131) (fun _ _ => ⟨rfl, e205, (Nat.le_of_ble_eq_true rfl), (Nat.le_of_ble_eq_true rfl)⟩)
        dsimp only [Pt.U, Pt.locs, Pt.cells, Pt.slots] at X207 l207 y207 z207 st207 hQ207
        subst l207 y207 z207
        obtain ⟨rfl, Nq207, K207, P207_0, P207_1⟩ := hQ207
        have N207 := Fr.app N202 Nq207
        have O208 : Old Z n0 T207.heap := (O206.keep K207 (allS (Nat.le_trans Z0 (Nat.le_trans (Nat.le_trans (Nat.le_trans (Nat.le_trans (Nat.le_trans (Nat.le_trans (Nat.le_trans (Nat.le_trans (Nat.le_trans (Nat.le_trans K187.1 K188.1) K189.1) K190.1) K191.1) K192.1) K193.1) K196.1) K199.1) K202.1) (Nat.le_of_eq g205.symm))) all0))
        obtain ⟨cq209, kq209, q209a, q209b, q209c⟩ := isOf hZ rfl P207_0
        obtain ⟨_, _, ⟨T209, L209, k209, n209⟩, -, X209, ⟨Lc209, hQ209, l209, y209, z209⟩, st209⟩ := X207.virtualBack hx (y := (⟨"axiomend/ontology/OntologyReadException", "exitStatus", "()I"⟩ : MethodName)) (z := (⟨"axiomend/ontology/OntologyReadException", "exitStatus", "()I"⟩ : MethodName)) hown (mvT hZ (w91 hw)) (mvT hZ (w92 hw)) (notFace_of_selects (args := #[]) (mvT hZ (w94 hw))) (mvT hZ (w94 hw)) (mvT hZ (w93 hw)) (by decide) (backOf (W := 0) (rm_exitStatus l Z a0 hw [] b205 oNOT_A_CATALOG oNO_FILE T207.heap n0 (Nat.le_trans Z0 (Nat.le_trans (Nat.le_trans (Nat.le_trans (Nat.le_trans (Nat.le_trans (Nat.le_trans (Nat.le_trans (Nat.le_trans (Nat.le_trans (Nat.le_trans (Nat.le_trans K187.1 K188.1) K189.1) K190.1) K191.1) K192.1) K193.1) K196.1) K199.1) K202.1) K205.1) K207.1)) O208 S_NO_FILE P207_1) hZ (w95 hw) (w35 hw) (by decide) (by decide)) q209a q209c (g := (mkF m 138 #[.val (.int p0), .val (.int f0), .val (.int m0), .val (.int k), .val (.ref oNOT_A_CATALOG), .val (.ref b187), .val (.ref b190), .val (.ref b193), .val (.ref b199), .val (.ref b205), .unset, .unset] [(.ref b205)])) rfl (by rw [hml]; rfl) (Steps.refl _) (argsL := []) (rest := []) (lenOf pd__28__29_I rfl) rfl (by show 2 * 0 + _ ≤ _; exact Nat.le_of_eq rfl) (hb hby at_138) (fun _ _ => ⟨rfl, rfl, (Nat.le_of_ble_eq_true rfl), (Nat.le_of_ble_eq_true rfl)⟩)
        dsimp only [Pt.U, Pt.locs, Pt.cells, Pt.slots] at X209 l209 y209 z209 st209 hQ209
        subst l209 y209 z209
        obtain ⟨rfl, Nq209, eq209⟩ := hQ209
        have N209 := Fr.app N207 Nq209
        have W210 : ∀ zQ, SS p e below T209 m 170 #[.val (.int p0), .val (.int f0), .val (.int m0), .val (.int k), .val (.ref oNOT_A_CATALOG), .val (.ref b187), .val (.ref b190), .val (.ref b193), .val (.ref b199), .val (.ref b205), .val (.int (if oNOT_A_CATALOG = oNO_FILE then (66 : Int32) else (65 : Int32))), .val (.int (65 : Int32))] [(.int (1 : Int32))] zQ → Steps p.tables e below (s₁.setTop (entryFrame m #[(.int p0), (.int f0), (.int m0)] maxLocals)) zQ := by
          intro tt kt
          refine W157 tt ?_
          refine XS.icmpYes X0.here hx rfl (pc0 := 31) (pc' := 42) rfl (hb hby at_31) rfl (feq hc158).2 (by decide) (by decide) ?_
          show SS p e below s₁ m 42 #[.val (.int p0), .val (.int f0), .val (.int m0), .val (.int k), .unset, .unset, .unset, .unset, .unset, .unset, .unset, .unset] [] _
          refine st185 _ ?_
          show SS p e below T185 m 45 #[.val (.int p0), .val (.int f0), .val (.int m0), .val (.int k), .unset, .unset, .unset, .unset, .unset, .unset, .unset, .unset] [(.ref oNOT_A_CATALOG)] _
          refine XS.astore X185.here hx rfl (hb hby at_45) rfl rfl (l' := #[.val (.int p0), .val (.int f0), .val (.int m0), .val (.int k), .val (.ref oNOT_A_CATALOG), .unset, .unset, .unset, .unset, .unset, .unset, .unset]) rfl ?_
          show SS p e below T185 m 47 #[.val (.int p0), .val (.int f0), .val (.int m0), .val (.int k), .val (.ref oNOT_A_CATALOG), .unset, .unset, .unset, .unset, .unset, .unset, .unset] [] _
          refine XS.iconst X185.here hx rfl (hb hby at_47) ?_
          show SS p e below T185 m 48 #[.val (.int p0), .val (.int f0), .val (.int m0), .val (.int k), .val (.ref oNOT_A_CATALOG), .unset, .unset, .unset, .unset, .unset, .unset, .unset] [(.int (2 : Int32))] _
          refine st187 _ ?_
          show SS p e below T187 m 50 #[.val (.int p0), .val (.int f0), .val (.int m0), .val (.int k), .val (.ref oNOT_A_CATALOG), .unset, .unset, .unset, .unset, .unset, .unset, .unset] [(.ref b187)] _
          refine XS.dup X187.here hx rfl (hb hby at_50) rfl rfl ?_
          show SS p e below T187 m 51 #[.val (.int p0), .val (.int f0), .val (.int m0), .val (.int k), .val (.ref oNOT_A_CATALOG), .unset, .unset, .unset, .unset, .unset, .unset, .unset] [(.ref b187), (.ref b187)] _
          refine XS.iconst X187.here hx rfl (hb hby at_51) ?_
          show SS p e below T187 m 52 #[.val (.int p0), .val (.int f0), .val (.int m0), .val (.int k), .val (.ref oNOT_A_CATALOG), .unset, .unset, .unset, .unset, .unset, .unset, .unset] [(.int (0 : Int32)), (.ref b187), (.ref b187)] _
          refine XS.iloadN X187.here hx rfl (hb hby at_52) rfl ?_
          show SS p e below T187 m 53 #[.val (.int p0), .val (.int f0), .val (.int m0), .val (.int k), .val (.ref oNOT_A_CATALOG), .unset, .unset, .unset, .unset, .unset, .unset, .unset] [(.int f0), (.int (0 : Int32)), (.ref b187), (.ref b187)] _
          refine XS.sipush X187.here hx rfl (hb hby at_53) ?_
          show SS p e below T187 m 56 #[.val (.int p0), .val (.int f0), .val (.int m0), .val (.int k), .val (.ref oNOT_A_CATALOG), .unset, .unset, .unset, .unset, .unset, .unset, .unset] [(.int (255 : Int32)), (.int f0), (.int (0 : Int32)), (.ref b187), (.ref b187)] _
          refine XS.iand X187.here hx rfl (hb hby at_56) rfl ?_
          show SS p e below T187 m 57 #[.val (.int p0), .val (.int f0), .val (.int m0), .val (.int k), .val (.ref oNOT_A_CATALOG), .unset, .unset, .unset, .unset, .unset, .unset, .unset] [(.int (f0 &&& (255 : Int32))), (.int (0 : Int32)), (.ref b187), (.ref b187)] _
          refine XS.i2c X187.here hx rfl (hb hby at_57) rfl ?_
          show SS p e below T187 m 58 #[.val (.int p0), .val (.int f0), .val (.int m0), .val (.int k), .val (.ref oNOT_A_CATALOG), .unset, .unset, .unset, .unset, .unset, .unset, .unset] [(.int ((f0 &&& (255 : Int32)).toUInt32.toUInt16.toUInt32.toInt32)), (.int (0 : Int32)), (.ref b187), (.ref b187)] _
          refine st188 _ ?_
          show SS p e below T188 m 59 #[.val (.int p0), .val (.int f0), .val (.int m0), .val (.int k), .val (.ref oNOT_A_CATALOG), .unset, .unset, .unset, .unset, .unset, .unset, .unset] [(.ref b187)] _
          refine XS.dup X188.here hx rfl (hb hby at_59) rfl rfl ?_
          show SS p e below T188 m 60 #[.val (.int p0), .val (.int f0), .val (.int m0), .val (.int k), .val (.ref oNOT_A_CATALOG), .unset, .unset, .unset, .unset, .unset, .unset, .unset] [(.ref b187), (.ref b187)] _
          refine XS.iconst X188.here hx rfl (hb hby at_60) ?_
          show SS p e below T188 m 61 #[.val (.int p0), .val (.int f0), .val (.int m0), .val (.int k), .val (.ref oNOT_A_CATALOG), .unset, .unset, .unset, .unset, .unset, .unset, .unset] [(.int (1 : Int32)), (.ref b187), (.ref b187)] _
          refine XS.iloadN X188.here hx rfl (hb hby at_61) rfl ?_
          show SS p e below T188 m 62 #[.val (.int p0), .val (.int f0), .val (.int m0), .val (.int k), .val (.ref oNOT_A_CATALOG), .unset, .unset, .unset, .unset, .unset, .unset, .unset] [(.int f0), (.int (1 : Int32)), (.ref b187), (.ref b187)] _
          refine XS.bipush X188.here hx rfl (hb hby at_62) ?_
          show SS p e below T188 m 64 #[.val (.int p0), .val (.int f0), .val (.int m0), .val (.int k), .val (.ref oNOT_A_CATALOG), .unset, .unset, .unset, .unset, .unset, .unset, .unset] [(.int (8 : Int32)), (.int f0), (.int (1 : Int32)), (.ref b187), (.ref b187)] _
          refine XS.iushr X188.here hx rfl (hb hby at_64) rfl ?_
          show SS p e below T188 m 65 #[.val (.int p0), .val (.int f0), .val (.int m0), .val (.int k), .val (.ref oNOT_A_CATALOG), .unset, .unset, .unset, .unset, .unset, .unset, .unset] [(.int ((f0.toUInt32 >>> ((8 : Int32) &&& 31).toUInt32).toInt32)), (.int (1 : Int32)), (.ref b187), (.ref b187)] _
          refine XS.sipush X188.here hx rfl (hb hby at_65) ?_
          show SS p e below T188 m 68 #[.val (.int p0), .val (.int f0), .val (.int m0), .val (.int k), .val (.ref oNOT_A_CATALOG), .unset, .unset, .unset, .unset, .unset, .unset, .unset] [(.int (255 : Int32)), (.int ((f0.toUInt32 >>> ((8 : Int32) &&& 31).toUInt32).toInt32)), (.int (1 : Int32)), (.ref b187), (.ref b187)] _
          refine XS.iand X188.here hx rfl (hb hby at_68) rfl ?_
          show SS p e below T188 m 69 #[.val (.int p0), .val (.int f0), .val (.int m0), .val (.int k), .val (.ref oNOT_A_CATALOG), .unset, .unset, .unset, .unset, .unset, .unset, .unset] [(.int (((f0.toUInt32 >>> ((8 : Int32) &&& 31).toUInt32).toInt32) &&& (255 : Int32))), (.int (1 : Int32)), (.ref b187), (.ref b187)] _
          refine XS.i2c X188.here hx rfl (hb hby at_69) rfl ?_
          show SS p e below T188 m 70 #[.val (.int p0), .val (.int f0), .val (.int m0), .val (.int k), .val (.ref oNOT_A_CATALOG), .unset, .unset, .unset, .unset, .unset, .unset, .unset] [(.int ((((f0.toUInt32 >>> ((8 : Int32) &&& 31).toUInt32).toInt32) &&& (255 : Int32)).toUInt32.toUInt16.toUInt32.toInt32)), (.int (1 : Int32)), (.ref b187), (.ref b187)] _
          refine st189 _ ?_
          show SS p e below T189 m 71 #[.val (.int p0), .val (.int f0), .val (.int m0), .val (.int k), .val (.ref oNOT_A_CATALOG), .unset, .unset, .unset, .unset, .unset, .unset, .unset] [(.ref b187)] _
          refine XS.astore X189.here hx rfl (hb hby at_71) rfl rfl (l' := #[.val (.int p0), .val (.int f0), .val (.int m0), .val (.int k), .val (.ref oNOT_A_CATALOG), .val (.ref b187), .unset, .unset, .unset, .unset, .unset, .unset]) rfl ?_
          show SS p e below T189 m 73 #[.val (.int p0), .val (.int f0), .val (.int m0), .val (.int k), .val (.ref oNOT_A_CATALOG), .val (.ref b187), .unset, .unset, .unset, .unset, .unset, .unset] [] _
          refine XS.iconst X189.here hx rfl (hb hby at_73) ?_
          show SS p e below T189 m 74 #[.val (.int p0), .val (.int f0), .val (.int m0), .val (.int k), .val (.ref oNOT_A_CATALOG), .val (.ref b187), .unset, .unset, .unset, .unset, .unset, .unset] [(.int (2 : Int32))] _
          refine st190 _ ?_
          show SS p e below T190 m 76 #[.val (.int p0), .val (.int f0), .val (.int m0), .val (.int k), .val (.ref oNOT_A_CATALOG), .val (.ref b187), .unset, .unset, .unset, .unset, .unset, .unset] [(.ref b190)] _
          refine XS.dup X190.here hx rfl (hb hby at_76) rfl rfl ?_
          show SS p e below T190 m 77 #[.val (.int p0), .val (.int f0), .val (.int m0), .val (.int k), .val (.ref oNOT_A_CATALOG), .val (.ref b187), .unset, .unset, .unset, .unset, .unset, .unset] [(.ref b190), (.ref b190)] _
          refine XS.iconst X190.here hx rfl (hb hby at_77) ?_
          show SS p e below T190 m 78 #[.val (.int p0), .val (.int f0), .val (.int m0), .val (.int k), .val (.ref oNOT_A_CATALOG), .val (.ref b187), .unset, .unset, .unset, .unset, .unset, .unset] [(.int (0 : Int32)), (.ref b190), (.ref b190)] _
          refine XS.iloadN X190.here hx rfl (hb hby at_78) rfl ?_
          show SS p e below T190 m 79 #[.val (.int p0), .val (.int f0), .val (.int m0), .val (.int k), .val (.ref oNOT_A_CATALOG), .val (.ref b187), .unset, .unset, .unset, .unset, .unset, .unset] [(.int m0), (.int (0 : Int32)), (.ref b190), (.ref b190)] _
          refine XS.sipush X190.here hx rfl (hb hby at_79) ?_
          show SS p e below T190 m 82 #[.val (.int p0), .val (.int f0), .val (.int m0), .val (.int k), .val (.ref oNOT_A_CATALOG), .val (.ref b187), .unset, .unset, .unset, .unset, .unset, .unset] [(.int (255 : Int32)), (.int m0), (.int (0 : Int32)), (.ref b190), (.ref b190)] _
          refine XS.iand X190.here hx rfl (hb hby at_82) rfl ?_
          show SS p e below T190 m 83 #[.val (.int p0), .val (.int f0), .val (.int m0), .val (.int k), .val (.ref oNOT_A_CATALOG), .val (.ref b187), .unset, .unset, .unset, .unset, .unset, .unset] [(.int (m0 &&& (255 : Int32))), (.int (0 : Int32)), (.ref b190), (.ref b190)] _
          refine XS.i2c X190.here hx rfl (hb hby at_83) rfl ?_
          show SS p e below T190 m 84 #[.val (.int p0), .val (.int f0), .val (.int m0), .val (.int k), .val (.ref oNOT_A_CATALOG), .val (.ref b187), .unset, .unset, .unset, .unset, .unset, .unset] [(.int ((m0 &&& (255 : Int32)).toUInt32.toUInt16.toUInt32.toInt32)), (.int (0 : Int32)), (.ref b190), (.ref b190)] _
          refine st191 _ ?_
          show SS p e below T191 m 85 #[.val (.int p0), .val (.int f0), .val (.int m0), .val (.int k), .val (.ref oNOT_A_CATALOG), .val (.ref b187), .unset, .unset, .unset, .unset, .unset, .unset] [(.ref b190)] _
          refine XS.dup X191.here hx rfl (hb hby at_85) rfl rfl ?_
          show SS p e below T191 m 86 #[.val (.int p0), .val (.int f0), .val (.int m0), .val (.int k), .val (.ref oNOT_A_CATALOG), .val (.ref b187), .unset, .unset, .unset, .unset, .unset, .unset] [(.ref b190), (.ref b190)] _
          refine XS.iconst X191.here hx rfl (hb hby at_86) ?_
          show SS p e below T191 m 87 #[.val (.int p0), .val (.int f0), .val (.int m0), .val (.int k), .val (.ref oNOT_A_CATALOG), .val (.ref b187), .unset, .unset, .unset, .unset, .unset, .unset] [(.int (1 : Int32)), (.ref b190), (.ref b190)] _
          refine XS.iloadN X191.here hx rfl (hb hby at_87) rfl ?_
          show SS p e below T191 m 88 #[.val (.int p0), .val (.int f0), .val (.int m0), .val (.int k), .val (.ref oNOT_A_CATALOG), .val (.ref b187), .unset, .unset, .unset, .unset, .unset, .unset] [(.int m0), (.int (1 : Int32)), (.ref b190), (.ref b190)] _
          refine XS.bipush X191.here hx rfl (hb hby at_88) ?_
          show SS p e below T191 m 90 #[.val (.int p0), .val (.int f0), .val (.int m0), .val (.int k), .val (.ref oNOT_A_CATALOG), .val (.ref b187), .unset, .unset, .unset, .unset, .unset, .unset] [(.int (8 : Int32)), (.int m0), (.int (1 : Int32)), (.ref b190), (.ref b190)] _
          refine XS.iushr X191.here hx rfl (hb hby at_90) rfl ?_
          show SS p e below T191 m 91 #[.val (.int p0), .val (.int f0), .val (.int m0), .val (.int k), .val (.ref oNOT_A_CATALOG), .val (.ref b187), .unset, .unset, .unset, .unset, .unset, .unset] [(.int ((m0.toUInt32 >>> ((8 : Int32) &&& 31).toUInt32).toInt32)), (.int (1 : Int32)), (.ref b190), (.ref b190)] _
          refine XS.sipush X191.here hx rfl (hb hby at_91) ?_
          show SS p e below T191 m 94 #[.val (.int p0), .val (.int f0), .val (.int m0), .val (.int k), .val (.ref oNOT_A_CATALOG), .val (.ref b187), .unset, .unset, .unset, .unset, .unset, .unset] [(.int (255 : Int32)), (.int ((m0.toUInt32 >>> ((8 : Int32) &&& 31).toUInt32).toInt32)), (.int (1 : Int32)), (.ref b190), (.ref b190)] _
          refine XS.iand X191.here hx rfl (hb hby at_94) rfl ?_
          show SS p e below T191 m 95 #[.val (.int p0), .val (.int f0), .val (.int m0), .val (.int k), .val (.ref oNOT_A_CATALOG), .val (.ref b187), .unset, .unset, .unset, .unset, .unset, .unset] [(.int (((m0.toUInt32 >>> ((8 : Int32) &&& 31).toUInt32).toInt32) &&& (255 : Int32))), (.int (1 : Int32)), (.ref b190), (.ref b190)] _
          refine XS.i2c X191.here hx rfl (hb hby at_95) rfl ?_
          show SS p e below T191 m 96 #[.val (.int p0), .val (.int f0), .val (.int m0), .val (.int k), .val (.ref oNOT_A_CATALOG), .val (.ref b187), .unset, .unset, .unset, .unset, .unset, .unset] [(.int ((((m0.toUInt32 >>> ((8 : Int32) &&& 31).toUInt32).toInt32) &&& (255 : Int32)).toUInt32.toUInt16.toUInt32.toInt32)), (.int (1 : Int32)), (.ref b190), (.ref b190)] _
          refine st192 _ ?_
          show SS p e below T192 m 97 #[.val (.int p0), .val (.int f0), .val (.int m0), .val (.int k), .val (.ref oNOT_A_CATALOG), .val (.ref b187), .unset, .unset, .unset, .unset, .unset, .unset] [(.ref b190)] _
          refine XS.astore X192.here hx rfl (hb hby at_97) rfl rfl (l' := #[.val (.int p0), .val (.int f0), .val (.int m0), .val (.int k), .val (.ref oNOT_A_CATALOG), .val (.ref b187), .val (.ref b190), .unset, .unset, .unset, .unset, .unset]) rfl ?_
          show SS p e below T192 m 99 #[.val (.int p0), .val (.int f0), .val (.int m0), .val (.int k), .val (.ref oNOT_A_CATALOG), .val (.ref b187), .val (.ref b190), .unset, .unset, .unset, .unset, .unset] [] _
          refine st193 _ ?_
          show SS p e below T193 m 102 #[.val (.int p0), .val (.int f0), .val (.int m0), .val (.int k), .val (.ref oNOT_A_CATALOG), .val (.ref b187), .val (.ref b190), .unset, .unset, .unset, .unset, .unset] [(.ref b193)] _
          refine XS.dup X193.here hx rfl (hb hby at_102) rfl rfl ?_
          show SS p e below T193 m 103 #[.val (.int p0), .val (.int f0), .val (.int m0), .val (.int k), .val (.ref oNOT_A_CATALOG), .val (.ref b187), .val (.ref b190), .unset, .unset, .unset, .unset, .unset] [(.ref b193), (.ref b193)] _
          refine XS.aload X193.here hx rfl (hb hby at_103) rfl rfl ?_
          show SS p e below T193 m 105 #[.val (.int p0), .val (.int f0), .val (.int m0), .val (.int k), .val (.ref oNOT_A_CATALOG), .val (.ref b187), .val (.ref b190), .unset, .unset, .unset, .unset, .unset] [(.ref b187), (.ref b193), (.ref b193)] _
          refine st196.trans ?_
          show SS p e below T196 m 108 #[.val (.int p0), .val (.int f0), .val (.int m0), .val (.int k), .val (.ref oNOT_A_CATALOG), .val (.ref b187), .val (.ref b190), .unset, .unset, .unset, .unset, .unset] [(.ref b193)] _
          refine XS.astore X196.here hx rfl (hb hby at_108) rfl rfl (l' := #[.val (.int p0), .val (.int f0), .val (.int m0), .val (.int k), .val (.ref oNOT_A_CATALOG), .val (.ref b187), .val (.ref b190), .val (.ref b193), .unset, .unset, .unset, .unset]) rfl ?_
          show SS p e below T196 m 110 #[.val (.int p0), .val (.int f0), .val (.int m0), .val (.int k), .val (.ref oNOT_A_CATALOG), .val (.ref b187), .val (.ref b190), .val (.ref b193), .unset, .unset, .unset, .unset] [] _
          refine st199 _ ?_
          show SS p e below T199 m 113 #[.val (.int p0), .val (.int f0), .val (.int m0), .val (.int k), .val (.ref oNOT_A_CATALOG), .val (.ref b187), .val (.ref b190), .val (.ref b193), .unset, .unset, .unset, .unset] [(.ref b199)] _
          refine XS.dup X199.here hx rfl (hb hby at_113) rfl rfl ?_
          show SS p e below T199 m 114 #[.val (.int p0), .val (.int f0), .val (.int m0), .val (.int k), .val (.ref oNOT_A_CATALOG), .val (.ref b187), .val (.ref b190), .val (.ref b193), .unset, .unset, .unset, .unset] [(.ref b199), (.ref b199)] _
          refine XS.aload X199.here hx rfl (hb hby at_114) rfl rfl ?_
          show SS p e below T199 m 116 #[.val (.int p0), .val (.int f0), .val (.int m0), .val (.int k), .val (.ref oNOT_A_CATALOG), .val (.ref b187), .val (.ref b190), .val (.ref b193), .unset, .unset, .unset, .unset] [(.ref b190), (.ref b199), (.ref b199)] _
          refine st202.trans ?_
          show SS p e below T202 m 119 #[.val (.int p0), .val (.int f0), .val (.int m0), .val (.int k), .val (.ref oNOT_A_CATALOG), .val (.ref b187), .val (.ref b190), .val (.ref b193), .unset, .unset, .unset, .unset] [(.ref b199)] _
          refine XS.astore X202.here hx rfl (hb hby at_119) rfl rfl (l' := #[.val (.int p0), .val (.int f0), .val (.int m0), .val (.int k), .val (.ref oNOT_A_CATALOG), .val (.ref b187), .val (.ref b190), .val (.ref b193), .val (.ref b199), .unset, .unset, .unset]) rfl ?_
          show SS p e below T202 m 121 #[.val (.int p0), .val (.int f0), .val (.int m0), .val (.int k), .val (.ref oNOT_A_CATALOG), .val (.ref b187), .val (.ref b190), .val (.ref b193), .val (.ref b199), .unset, .unset, .unset] [] _
          refine st205 _ ?_
          show SS p e below T205 m 124 #[.val (.int p0), .val (.int f0), .val (.int m0), .val (.int k), .val (.ref oNOT_A_CATALOG), .val (.ref b187), .val (.ref b190), .val (.ref b193), .val (.ref b199), .unset, .unset, .unset] [(.ref b205)] _
          refine XS.dup X205.here hx rfl (hb hby at_124) rfl rfl ?_
          show SS p e below T205 m 125 #[.val (.int p0), .val (.int f0), .val (.int m0), .val (.int k), .val (.ref oNOT_A_CATALOG), .val (.ref b187), .val (.ref b190), .val (.ref b193), .val (.ref b199), .unset, .unset, .unset] [(.ref b205), (.ref b205)] _
          refine XS.aload X205.here hx rfl (hb hby at_125) rfl rfl ?_
          show SS p e below T205 m 127 #[.val (.int p0), .val (.int f0), .val (.int m0), .val (.int k), .val (.ref oNOT_A_CATALOG), .val (.ref b187), .val (.ref b190), .val (.ref b193), .val (.ref b199), .unset, .unset, .unset] [(.ref b193), (.ref b205), (.ref b205)] _
          refine XS.aload X205.here hx rfl (hb hby at_127) rfl rfl ?_
          show SS p e below T205 m 129 #[.val (.int p0), .val (.int f0), .val (.int m0), .val (.int k), .val (.ref oNOT_A_CATALOG), .val (.ref b187), .val (.ref b190), .val (.ref b193), .val (.ref b199), .unset, .unset, .unset] [(.ref oNOT_A_CATALOG), (.ref b193), (.ref b205), (.ref b205)] _
          refine XS.aload X205.here hx rfl (hb hby at_129) rfl rfl ?_
          show SS p e below T205 m 131 #[.val (.int p0), .val (.int f0), .val (.int m0), .val (.int k), .val (.ref oNOT_A_CATALOG), .val (.ref b187), .val (.ref b190), .val (.ref b193), .val (.ref b199), .unset, .unset, .unset] [(.ref b199), (.ref oNOT_A_CATALOG), (.ref b193), (.ref b205), (.ref b205)] _
          refine st207.trans ?_
          show SS p e below T207 m 134 #[.val (.int p0), .val (.int f0), .val (.int m0), .val (.int k), .val (.ref oNOT_A_CATALOG), .val (.ref b187), .val (.ref b190), .val (.ref b193), .val (.ref b199), .unset, .unset, .unset] [(.ref b205)] _
          refine XS.astore X207.here hx rfl (hb hby at_134) rfl rfl (l' := #[.val (.int p0), .val (.int f0), .val (.int m0), .val (.int k), .val (.ref oNOT_A_CATALOG), .val (.ref b187), .val (.ref b190), .val (.ref b193), .val (.ref b199), .val (.ref b205), .unset, .unset]) rfl ?_
          show SS p e below T207 m 136 #[.val (.int p0), .val (.int f0), .val (.int m0), .val (.int k), .val (.ref oNOT_A_CATALOG), .val (.ref b187), .val (.ref b190), .val (.ref b193), .val (.ref b199), .val (.ref b205), .unset, .unset] [] _
          refine XS.aload X207.here hx rfl (hb hby at_136) rfl rfl ?_
          show SS p e below T207 m 138 #[.val (.int p0), .val (.int f0), .val (.int m0), .val (.int k), .val (.ref oNOT_A_CATALOG), .val (.ref b187), .val (.ref b190), .val (.ref b193), .val (.ref b199), .val (.ref b205), .unset, .unset] [(.ref b205)] _
          refine st209.trans ?_
          show SS p e below T209 m 141 #[.val (.int p0), .val (.int f0), .val (.int m0), .val (.int k), .val (.ref oNOT_A_CATALOG), .val (.ref b187), .val (.ref b190), .val (.ref b193), .val (.ref b199), .val (.ref b205), .unset, .unset] [(.int (if oNOT_A_CATALOG = oNO_FILE then (66 : Int32) else (65 : Int32)))] _
          refine XS.istore X209.here hx rfl (hb hby at_141) rfl (l' := #[.val (.int p0), .val (.int f0), .val (.int m0), .val (.int k), .val (.ref oNOT_A_CATALOG), .val (.ref b187), .val (.ref b190), .val (.ref b193), .val (.ref b199), .val (.ref b205), .val (.int (if oNOT_A_CATALOG = oNO_FILE then (66 : Int32) else (65 : Int32))), .unset]) rfl ?_
          show SS p e below T209 m 143 #[.val (.int p0), .val (.int f0), .val (.int m0), .val (.int k), .val (.ref oNOT_A_CATALOG), .val (.ref b187), .val (.ref b190), .val (.ref b193), .val (.ref b199), .val (.ref b205), .val (.int (if oNOT_A_CATALOG = oNO_FILE then (66 : Int32) else (65 : Int32))), .unset] [] _
          refine XS.iloadN X209.here hx rfl (hb hby at_143) rfl ?_
          show SS p e below T209 m 144 #[.val (.int p0), .val (.int f0), .val (.int m0), .val (.int k), .val (.ref oNOT_A_CATALOG), .val (.ref b187), .val (.ref b190), .val (.ref b193), .val (.ref b199), .val (.ref b205), .val (.int (if oNOT_A_CATALOG = oNO_FILE then (66 : Int32) else (65 : Int32))), .unset] [(.int k)] _
          refine XS.ifYes X209.here hx rfl (pc0 := 144) (pc' := 154) rfl (hb hby at_144) rfl ((if0 _ _).trans (feq hc102).2) (by decide) (by decide) ?_
          show SS p e below T209 m 154 #[.val (.int p0), .val (.int f0), .val (.int m0), .val (.int k), .val (.ref oNOT_A_CATALOG), .val (.ref b187), .val (.ref b190), .val (.ref b193), .val (.ref b199), .val (.ref b205), .val (.int (if oNOT_A_CATALOG = oNO_FILE then (66 : Int32) else (65 : Int32))), .unset] [] _
          refine XS.bipush X209.here hx rfl (hb hby at_154) ?_
          show SS p e below T209 m 156 #[.val (.int p0), .val (.int f0), .val (.int m0), .val (.int k), .val (.ref oNOT_A_CATALOG), .val (.ref b187), .val (.ref b190), .val (.ref b193), .val (.ref b199), .val (.ref b205), .val (.int (if oNOT_A_CATALOG = oNO_FILE then (66 : Int32) else (65 : Int32))), .unset] [(.int (65 : Int32))] _
          refine XS.istore X209.here hx rfl (hb hby at_156) rfl (l' := #[.val (.int p0), .val (.int f0), .val (.int m0), .val (.int k), .val (.ref oNOT_A_CATALOG), .val (.ref b187), .val (.ref b190), .val (.ref b193), .val (.ref b199), .val (.ref b205), .val (.int (if oNOT_A_CATALOG = oNO_FILE then (66 : Int32) else (65 : Int32))), .val (.int (65 : Int32))]) rfl ?_
          show SS p e below T209 m 158 #[.val (.int p0), .val (.int f0), .val (.int m0), .val (.int k), .val (.ref oNOT_A_CATALOG), .val (.ref b187), .val (.ref b190), .val (.ref b193), .val (.ref b199), .val (.ref b205), .val (.int (if oNOT_A_CATALOG = oNO_FILE then (66 : Int32) else (65 : Int32))), .val (.int (65 : Int32))] [] _
          refine XS.iload X209.here hx rfl (hb hby at_158) rfl ?_
          show SS p e below T209 m 160 #[.val (.int p0), .val (.int f0), .val (.int m0), .val (.int k), .val (.ref oNOT_A_CATALOG), .val (.ref b187), .val (.ref b190), .val (.ref b193), .val (.ref b199), .val (.ref b205), .val (.int (if oNOT_A_CATALOG = oNO_FILE then (66 : Int32) else (65 : Int32))), .val (.int (65 : Int32))] [(.int (if oNOT_A_CATALOG = oNO_FILE then (66 : Int32) else (65 : Int32)))] _
          refine XS.iload X209.here hx rfl (hb hby at_160) rfl ?_
          show SS p e below T209 m 162 #[.val (.int p0), .val (.int f0), .val (.int m0), .val (.int k), .val (.ref oNOT_A_CATALOG), .val (.ref b187), .val (.ref b190), .val (.ref b193), .val (.ref b199), .val (.ref b205), .val (.int (if oNOT_A_CATALOG = oNO_FILE then (66 : Int32) else (65 : Int32))), .val (.int (65 : Int32))] [(.int (65 : Int32)), (.int (if oNOT_A_CATALOG = oNO_FILE then (66 : Int32) else (65 : Int32)))] _
          refine XS.icmpNo X209.here hx rfl (hb hby at_162) rfl (teq (if_neg (Fld.ne F_NOT_A_CATALOG F_NO_FILE (by decide)))).2 ?_
          show SS p e below T209 m 165 #[.val (.int p0), .val (.int f0), .val (.int m0), .val (.int k), .val (.ref oNOT_A_CATALOG), .val (.ref b187), .val (.ref b190), .val (.ref b193), .val (.ref b199), .val (.ref b205), .val (.int (if oNOT_A_CATALOG = oNO_FILE then (66 : Int32) else (65 : Int32))), .val (.int (65 : Int32))] [] _
          refine XS.iconst X209.here hx rfl (hb hby at_165) ?_
          show SS p e below T209 m 166 #[.val (.int p0), .val (.int f0), .val (.int m0), .val (.int k), .val (.ref oNOT_A_CATALOG), .val (.ref b187), .val (.ref b190), .val (.ref b193), .val (.ref b199), .val (.ref b205), .val (.int (if oNOT_A_CATALOG = oNO_FILE then (66 : Int32) else (65 : Int32))), .val (.int (65 : Int32))] [(.int (1 : Int32))] _
          refine XS.goto X209.here hx rfl (pc0 := 166) (pc' := 170) rfl (hb hby at_166) (by decide) (by decide) ?_
          show SS p e below T209 m 170 #[.val (.int p0), .val (.int f0), .val (.int m0), .val (.int k), .val (.ref oNOT_A_CATALOG), .val (.ref b187), .val (.ref b190), .val (.ref b193), .val (.ref b199), .val (.ref b205), .val (.int (if oNOT_A_CATALOG = oNO_FILE then (66 : Int32) else (65 : Int32))), .val (.int (65 : Int32))] [(.int (1 : Int32))] _
          exact kt
        obtain ⟨fs, hr, hrun, hended, hW, hsame⟩ := X209.leave (v := some (.int (nar .boolean (1 : Int32)))) (fun h => by rw [Bd.returns] at h; cases h)
        refine ⟨_, _, W210 _ (retN X209 hx (t := .boolean) Bd.returns (by simp) (hb hby at_170) hr), hrun, hended, _, _, rfl, ?_, ⟨_, rfl⟩, hW, hsame.mono (by decide) (by decide)⟩
        show Q_law Z p0 f0 m0 oNO_FILE oNOT_AN_ONTOLOGY oMISSING_IMPORT oNOT_A_CATALOG cS uv sv h0 n0 _ T209.heap _
        rw [eq209]
        exact ⟨rfl, N209, (Keep.trans (Keep.trans (Keep.trans (Keep.trans (Keep.trans (Keep.trans (Keep.trans (Keep.trans (Keep.trans (Keep.trans (Keep.trans (Keep.trans (Keep.refl h0 []) K187 all0) K188 (allS (Or.inr (Nat.le_of_eq g187.symm)) all0)) K189 (allS (Or.inr (Nat.le_of_eq g187.symm)) all0)) K190 all0) K191 (allS (Or.inr (Nat.le_trans (Nat.le_trans (Nat.le_trans K187.1 K188.1) K189.1) (Nat.le_of_eq g190.symm))) all0)) K192 (allS (Or.inr (Nat.le_trans (Nat.le_trans (Nat.le_trans K187.1 K188.1) K189.1) (Nat.le_of_eq g190.symm))) all0)) K193 all0) K196 (allS (Or.inr (Nat.le_trans (Nat.le_trans (Nat.le_trans (Nat.le_trans (Nat.le_trans (Nat.le_trans K187.1 K188.1) K189.1) K190.1) K191.1) K192.1) (Nat.le_of_eq g193.symm))) all0)) K199 all0) K202 (allS (Or.inr (Nat.le_trans (Nat.le_trans (Nat.le_trans (Nat.le_trans (Nat.le_trans (Nat.le_trans (Nat.le_trans (Nat.le_trans K187.1 K188.1) K189.1) K190.1) K191.1) K192.1) K193.1) K196.1) (Nat.le_of_eq g199.symm))) all0)) K205 all0) K207 (allS (Or.inr (Nat.le_trans (Nat.le_trans (Nat.le_trans (Nat.le_trans (Nat.le_trans (Nat.le_trans (Nat.le_trans (Nat.le_trans (Nat.le_trans (Nat.le_trans K187.1 K188.1) K189.1) K190.1) K191.1) K192.1) K193.1) K196.1) K199.1) K202.1) (Nat.le_of_eq g205.symm))) all0))⟩
theorem own_eqint {args : Array Value} {s : State} {t : Term} {n : Int32} (h : (Jvm.Cond.eq t (Jvm.Term.int n)).value args s none s [] = some true) : t.eval args s none [] s = some (.int n) := by
  simp only [Cond.value, Term.eval] at h
  cases ht : t.eval args s none [] s with
  | none => simp [ht] at h
  | some x => cases x <;> simp [ht] at h ⊢; exact h
theorem own_eqlong {args : Array Value} {s : State} {t : Term} {n : Int64} (h : (Jvm.Cond.eq t (Jvm.Term.long n)).value args s none s [] = some true) : t.eval args s none [] s = some (.long n) := by
  simp only [Cond.value, Term.eval] at h
  cases ht : t.eval args s none [] s with
  | none => simp [ht] at h
  | some x => cases x <;> simp [ht] at h ⊢; exact h
theorem own_neint {args : Array Value} {s : State} {t : Term} {n x : Int32} (h : (Jvm.Cond.not (Jvm.Cond.eq t (Jvm.Term.int n))).value args s none s [] = some true) (e : t.eval args s none [] s = some (.int x)) : ¬ (x = n) := by
  simpa [Cond.value, Term.eval, e] using h
theorem own_eqref {args : Array Value} {s : State} {t u : Term} {b : Addr} (h : (Jvm.Cond.eq t u).value args s none s [] = some true) (hu : u.eval args s none [] s = some (.ref b)) : t.eval args s none [] s = some (.ref b) := by
  simp only [Cond.value, hu] at h
  cases ht : t.eval args s none [] s with
  | none => simp [ht] at h
  | some x => cases x <;> simp [ht] at h ⊢; exact h
theorem own_arrlen {args : Array Value} {s : State} {t : Term} {a : Addr} {cl : Cell} {ty : FieldType} {z : Int32} (ev : t.eval args s none [] s = some (.ref a)) (A : Arr s s.heap a cl ty) (h : (Term.length t).eval args s none [] s = some (.int z)) : cl.slots.size < 2 ^ 31 ∧ cl.slots.size.toInt32 = z := by
  have e := Arr.fin (U := s) (Vm.Alike.refl _) A
  simp only [Term.eval, ev, Option.bind_eq_bind, Option.bind_some, e] at h
  by_cases q : cl.slots.size < 2 ^ 31
  · simp [q] at h; exact ⟨q, h⟩
  · simp [q] at h
set_option maxRecDepth 65536 in
set_option maxHeartbeats 40000000 in
theorem comes_1 {Post : Tables → Env → Array Value → State → Outcome → State → Prop} (hpost : ∀ tb e args s v u, (limb_1_1.after args s (.returned v) u = true ∧ limb_1_2.after args s (.returned v) u = true ∧ True) → FrameEnd s (.returned v) u (Jvm.fieldLocs frame_1_writes args s ++ Jvm.arrayLocs frame_1_arrays args s ++ Jvm.staticLocs frame_1_statics s) 24 5632 → Post tb e args s (.returned v) u) :
    ArmFor flags0 classFile x code maxLocals ret World_1 tables_1 room_1 Calls_1 rest_1 Pre_1 Post := by
  intro l hfl _ _ p e ha hc hk s m args below hf hA hF happ hP
  obtain ⟨hcalls, hrest, hpre⟩ := hP
  obtain ⟨-, -, -, hnamed, -, -, -, hat⟩ := (Spec.applies_iff hf).mp happ
  obtain ⟨hg, hn⟩ := and_e (Cond.before_iff.mp (show (Jvm.Cond.and given_1 narrow_1).before args s = true from hpre))
  obtain ⟨g1, g2⟩ := and_e hg
  obtain ⟨g3, g4⟩ := and_e g2
  obtain ⟨g5, g6⟩ := and_e g4
  obtain ⟨g7, g8⟩ := and_e hn
  obtain ⟨g9, g10⟩ := and_e g8
  obtain ⟨g11, g12⟩ := and_e g10
  obtain ⟨g13, g14⟩ := and_e g12
  obtain ⟨g15, g16⟩ := and_e g14
  obtain ⟨g17, g18⟩ := and_e g16
  obtain ⟨g19, g20⟩ := and_e g18
  obtain ⟨w0, w1, w2, rfl⟩ : ∃ w0 w1 w2 : Value, args = #[w0, w1, w2] := by
    have hs : args.size = 3 := by simpa [Cond.value, given_1] using g1
    obtain ⟨L⟩ := args
    match L, hs with
    | [w0, w1, w2], _ => exact ⟨w0, w1, w2, rfl⟩
  have hw := fun d (hd : d ∈ tables_1) => atoms_spec (ws := Jvm.Cond.code x code maxLocals ret :: tables_1) hat d (List.mem_cons_of_mem _ hd)
  have hfit : Fit s := fun {y c} hc i hi => by
    obtain ⟨ha, rfl⟩ := Array.getElem?_eq_some_iff.mp hc
    have q := List.all_eq_true.mp ((Array.all_eq_true_iff_forall_mem.mp hF) _ (Array.getElem_mem ha)) i (List.mem_range.mpr hi)
    simpa [Array.getElem?_eq_getElem hi] using q
  obtain ⟨hsets, hown0⟩ := atoms_of _ (rest_1_c_eq ▸ (show rest_1_c.before _ s = true from hrest))
  obtain ⟨i0, ei0⟩ := is_v g3
  obtain rfl : w0 = (.int i0) := Option.some.inj ei0
  obtain ⟨i1, ei1⟩ := is_v g5
  obtain rfl : w1 = (.int i1) := Option.some.inj ei1
  obtain ⟨i2, ei2⟩ := is_v g6
  obtain rfl : w2 = (.int i2) := Option.some.inj ei2
  obtain ⟨A_cS, e21⟩ := is_v (Cond.before_iff.mp (hsets _ (List.mem_of_getElem? (i := 1) rfl)))
  have B22 : Sta s s.heap "java/lang/String" "COMPACT_STRINGS" "Z" (.int A_cS) := Sta.start e21 (Or.inl (hsets _ (List.mem_of_getElem? (i := 0) rfl)))
  have B23 : ¬ (A_cS = (0 : Int32)) := own_neint (Cond.before_iff.mp (hsets _ (List.mem_of_getElem? (i := 2) rfl))) e21
  have B24 : l.stackTraces = true := (by unfold Jvm.Launch.stackTraces; rw [hfl]; decide)
  obtain ⟨A_uv, e25, e25'⟩ := isR_v (Cond.before_iff.mp (hsets _ (List.mem_of_getElem? (i := 16) rfl)))
  have B26 : Sta s s.heap "java/lang/Throwable" "UNASSIGNED_STACK" "[Ljava/lang/StackTraceElement;" A_uv := Sta.start e25 (Or.inl (hsets _ (List.mem_of_getElem? (i := 15) rfl)))
  have B27 : A_uv.isRef = true := e25'
  obtain ⟨A_sv, e28, e28'⟩ := isR_v (Cond.before_iff.mp (hsets _ (List.mem_of_getElem? (i := 21) rfl)))
  have B29 : Sta s s.heap "java/lang/Throwable" "SUPPRESSED_SENTINEL" "Ljava/util/List;" A_sv := Sta.start e28 (Or.inl (hsets _ (List.mem_of_getElem? (i := 20) rfl)))
  have B30 : A_sv.isRef = true := e28'
  obtain ⟨A_oNO_FILE, e31⟩ := exa_v g7
  have B32 : Sta s s.heap "axiomend/ontology/OntologyReadException$Problem" "NO_FILE" "Laxiomend/ontology/OntologyReadException$Problem;" (.ref A_oNO_FILE) := Sta.start e31 (Or.inr ⟨(w1 hw), (w2 hw)⟩)
  have B33 : Exa s s.heap A_oNO_FILE "axiomend/ontology/OntologyReadException$Problem" := Exa.start e31 g7
  have B34 : Fld s s.heap A_oNO_FILE "java/lang/Enum" "ordinal" "I" (.int (0 : Int32)) := Fld.start ((fld_at e31).symm.trans (own_eqint g13))
  obtain ⟨A_oNOT_AN_ONTOLOGY, e35⟩ := exa_v g9
  have B36 : Sta s s.heap "axiomend/ontology/OntologyReadException$Problem" "NOT_AN_ONTOLOGY" "Laxiomend/ontology/OntologyReadException$Problem;" (.ref A_oNOT_AN_ONTOLOGY) := Sta.start e35 (Or.inr ⟨(w1 hw), (w98 hw)⟩)
  have B37 : Exa s s.heap A_oNOT_AN_ONTOLOGY "axiomend/ontology/OntologyReadException$Problem" := Exa.start e35 g9
  have B38 : Fld s s.heap A_oNOT_AN_ONTOLOGY "java/lang/Enum" "ordinal" "I" (.int (1 : Int32)) := Fld.start ((fld_at e35).symm.trans (own_eqint g11))
  obtain ⟨A_oMISSING_IMPORT, e39⟩ := exa_v g19
  have B40 : Sta s s.heap "axiomend/ontology/OntologyReadException$Problem" "MISSING_IMPORT" "Laxiomend/ontology/OntologyReadException$Problem;" (.ref A_oMISSING_IMPORT) := Sta.start e39 (Or.inr ⟨(w1 hw), (w102 hw)⟩)
  have B41 : Exa s s.heap A_oMISSING_IMPORT "axiomend/ontology/OntologyReadException$Problem" := Exa.start e39 g19
  have B42 : Fld s s.heap A_oMISSING_IMPORT "java/lang/Enum" "ordinal" "I" (.int (2 : Int32)) := Fld.start ((fld_at e39).symm.trans (own_eqint g20))
  obtain ⟨A_oNOT_A_CATALOG, e43⟩ := exa_v g15
  have B44 : Sta s s.heap "axiomend/ontology/OntologyReadException$Problem" "NOT_A_CATALOG" "Laxiomend/ontology/OntologyReadException$Problem;" (.ref A_oNOT_A_CATALOG) := Sta.start e43 (Or.inr ⟨(w1 hw), (w100 hw)⟩)
  have B45 : Exa s s.heap A_oNOT_A_CATALOG "axiomend/ontology/OntologyReadException$Problem" := Exa.start e43 g15
  have B46 : Fld s s.heap A_oNOT_A_CATALOG "java/lang/Enum" "ordinal" "I" (.int (3 : Int32)) := Fld.start ((fld_at e43).symm.trans (own_eqint g17))
  obtain ⟨n, o, h1, h2, h3, _, L, rfl, ⟨rfl, N, _⟩, hq⟩ := rm_law l s _ hw tables_1 i0 i1 i2 A_oNO_FILE A_oNOT_AN_ONTOLOGY A_oMISSING_IMPORT A_oNOT_A_CATALOG A_cS A_uv A_sv s.heap s.heap.size (Nat.le_refl _) (Old.start s) B22 B23 B24 B26 B27 B29 B30 B32 B33 B34 B36 B37 B38 B40 B41 B42 B44 B45 B46 p e ha hc hk s m _ below hf ((Spec.applies_iff_loose hf).mp happ).1 ⟨rfl, State.Warmed39.refl s, rfl⟩ ⟨hcalls.1, hcalls.2.1⟩
  refine ⟨n, _, h1, h2, h3, hpost _ _ _ _ _ _ ⟨Cond.after_iff.mpr rfl, Cond.after_iff.mpr (eq_i res_at (Term.int_eval (1)) rfl), trivial⟩ ⟨hq.1, hq.2.1, (hq.2.2.sift fun y hy => Or.inr (N y hy)).mono (by decide) (by decide)⟩⟩
theorem main_1_1 : Claimed_1_1 := comes_1 fun _ _ _ _ _ _ h hF => ⟨h.1, hF⟩
theorem main_1_2 : Claimed_1_2 := comes_1 fun _ _ _ _ _ _ h hF => ⟨h.2.1, hF⟩

end Jvm.Pilot.@@N@@
namespace Jvm.Pilot.@@N@@
open Jvm Jvm.ClassFile Sem Op Lib Jvm.Free Jvm.Stand Jvm.Pilot.@@N@@.Jvm.D
/-! MADE BY PROGRAM (witnessworld.py) out of the Statement's table words and the real class files: 35 classes; the members and pool entries that the words name. The judged class is class 1, her method 1. -/
namespace start1
open Jvm.ClassFile
def u (s : String) : CpInfo := .utf8 (stringToUtf16 s)
/-- a pool by its gaps: so many unusable entries, then the entry; so many at the end -/
def gap : Nat → List CpInfo → List CpInfo
  | 0, r => r
  | n + 1, r => .unusable :: gap n r
def poolList (es : List (Nat × CpInfo)) (last : Nat) : List CpInfo := es.foldr (fun e r => gap e.1 (e.2 :: r)) (gap last [])
def pool (es : List (Nat × CpInfo)) (last : Nat) : Array CpInfo := ⟨poolList es last⟩
def fileOf (pool : Array CpInfo) (this : Nat) (attrs : Array Attribute := #[]) (ms : Array MethodInfo := #[]) (fl : Nat := 33) (sup : Nat := 0) (ifs : Array Nat := #[]) (fds : Array FieldInfo := #[]) : ClassFile where
  minorVersion := 0
  majorVersion := 65
  constantPool := pool
  accessFlags := fl
  thisClass := this
  superClass := sup
  interfaces := ifs
  fields := fds
  methods := ms
  attributes := attrs
def plain (name : String) (sup : Option ClassId) : Class where
  name := name
  kind := .ordinary
  loader := none
  accessFlags := 33
  super := sup
  interfaces := #[]
  cf := none
  fields := #[]
  methods := #[]
  instanceTypes := #[]
  staticTypes := #[]
  resolved := #[]
  callSites := []
  init := .initialized
  statics := none
  mirror := none

def pool0 : Array CpInfo := pool [(5, u "<init>"), (0, u "()V"), (1, .class_ 10), (1, u "java/lang/Object")] 113

def k0c0 : Code := { maxStack := 0, maxLocals := 1, code := object_method_1_code, exceptionTable := #[], attributes := #[] }
def k0m0 : Method := { name := "<init>", desc := "()V", sig := { parameters := [], returnType := none }, accessFlags := 1, code := some k0c0 }
/-- java/lang/Object -/
def k0 : Class := { plain "java/lang/Object" none with
  accessFlags := 33
  interfaces := #[]
  cf := some (fileOf pool0 8 #[] #[{ accessFlags := 1, nameIndex := 5, descriptorIndex := 6, attributes := #[] }] 33 0 #[] #[])
  fields := #[]
  methods := #[k0m0]
  instanceTypes := #[]
  staticTypes := #[]
  resolved := Array.replicate 124 none
  statics := none }

def pool1 : Array CpInfo := pool [(2, .class_ 4), (1, u "java/lang/Object"), (0, u "<init>"), (0, u "()V"), (0, .fieldref 8 9), (0, .class_ 10), (0, .nameAndType 11 12), (0, u "axiomend/ontology/OntologyReadException$Problem"), (0, u "NO_FILE"), (0, u "Laxiomend/ontology/OntologyReadException$Problem;"), (0, .fieldref 8 14), (0, .nameAndType 15 12), (0, u "NOT_AN_ONTOLOGY"), (0, .fieldref 8 17), (0, .nameAndType 18 12), (0, u "MISSING_IMPORT"), (0, .fieldref 8 20), (0, .nameAndType 21 12), (0, u "NOT_A_CATALOG"), (0, .class_ 23), (0, u "java/lang/String"), (0, .methodref 22 25), (0, .nameAndType 5 26), (0, u "([C)V"), (0, .class_ 28), (0, u "axiomend/ontology/OntologyReadException"), (0, .methodref 27 30), (0, .nameAndType 5 31), (0, u "(Ljava/lang/String;Laxiomend/ontology/OntologyReadException$Problem;Ljava/lang/String;)V"), (0, .methodref 27 33), (0, .nameAndType 34 35), (0, u "exitStatus"), (0, u "()I"), (0, .class_ 37), (0, u "axiomend/ontology/OntologyReadExceptionExitStatusPinLaw"), (2, u "law"), (0, u "(III)Z")] 7

def k1m0 : Method := { name := "<init>", desc := "()V", sig := { parameters := [], returnType := none }, accessFlags := 2, code := none }
def k1c1 : Code := { maxStack := 5, maxLocals := 12, code := code, exceptionTable := #[], attributes := #[] }
def k1m1 : Method := { name := "law", desc := "(III)Z", sig := { parameters := [.int, .int, .int], returnType := some .boolean }, accessFlags := 9, code := some k1c1 }
/-- axiomend/ontology/OntologyReadExceptionExitStatusPinLaw -/
def k1 : Class := { plain "axiomend/ontology/OntologyReadExceptionExitStatusPinLaw" (some 0) with
  accessFlags := 49
  interfaces := #[]
  cf := some (fileOf pool1 36 #[] #[{ accessFlags := 2, nameIndex := 5, descriptorIndex := 6, attributes := #[] }, { accessFlags := 9, nameIndex := 40, descriptorIndex := 41, attributes := #[] }] 49 2 #[] #[])
  fields := #[]
  methods := #[k1m0, k1m1]
  instanceTypes := #[]
  staticTypes := #[]
  resolved := Array.replicate 49 none
  statics := none }

def pool2 : Array CpInfo := pool [(1, .class_ 2), (0, u "java/lang/constant/Constable"), (0, .class_ 4), (0, u "java/lang/Object")] 6

/-- java/lang/constant/Constable -/
def k2 : Class := { plain "java/lang/constant/Constable" (some 0) with
  accessFlags := 1537
  interfaces := #[]
  cf := some (fileOf pool2 1 #[] #[] 1537 3 #[] #[])
  fields := #[]
  methods := #[]
  instanceTypes := #[]
  staticTypes := #[]
  resolved := Array.replicate 11 none
  statics := none }

def pool3 : Array CpInfo := pool [(1, .class_ 2), (0, u "java/lang/Comparable"), (0, .class_ 4), (0, u "java/lang/Object")] 7

/-- java/lang/Comparable -/
def k3 : Class := { plain "java/lang/Comparable" (some 0) with
  accessFlags := 1537
  interfaces := #[]
  cf := some (fileOf pool3 1 #[] #[] 1537 3 #[] #[])
  fields := #[]
  methods := #[]
  instanceTypes := #[]
  staticTypes := #[]
  resolved := Array.replicate 12 none
  statics := none }

def pool4 : Array CpInfo := pool [(1, .class_ 2), (0, u "java/io/Serializable"), (0, .class_ 4), (0, u "java/lang/Object")] 2

/-- java/io/Serializable -/
def k4 : Class := { plain "java/io/Serializable" (some 0) with
  accessFlags := 1537
  interfaces := #[]
  cf := some (fileOf pool4 1 #[] #[] 1537 3 #[] #[])
  fields := #[]
  methods := #[]
  instanceTypes := #[]
  staticTypes := #[]
  resolved := Array.replicate 7 none
  statics := none }

def pool5 : Array CpInfo := pool [(2, .class_ 4), (1, u "java/lang/Enum"), (0, u "name"), (0, u "Ljava/lang/String;"), (2, u "ordinal"), (0, u "I"), (1, .class_ 14), (1, u "java/lang/Object"), (4, u "hash"), (86, .class_ 108), (1, u "java/lang/Enum$EnumDesc"), (2, .class_ 112), (0, u "java/lang/constant/Constable"), (0, .class_ 114), (0, u "java/lang/Comparable"), (0, .class_ 116), (0, u "java/io/Serializable")] 87

/-- java/lang/Enum -/
def k5 : Class := { plain "java/lang/Enum" (some 0) with
  accessFlags := 1057
  interfaces := #[2, 3, 4]
  cf := some (fileOf pool5 2 #[.nestMembers #[106]] #[] 1057 12 #[111, 113, 115] #[{ accessFlags := 18, nameIndex := 5, descriptorIndex := 6, attributes := #[] }, { accessFlags := 18, nameIndex := 9, descriptorIndex := 10, attributes := #[] }, { accessFlags := 2, nameIndex := 19, descriptorIndex := 10, attributes := #[] }])
  fields := #[{ name := "name", type := (.object "java/lang/String"), accessFlags := 18, slot := 0, constantValue := 0 }, { name := "ordinal", type := .int, accessFlags := 18, slot := 1, constantValue := 0 }, { name := "hash", type := .int, accessFlags := 2, slot := 2, constantValue := 0 }]
  methods := #[]
  instanceTypes := #[(.object "java/lang/String"), .int, .int]
  staticTypes := #[]
  resolved := Array.replicate 204 none
  statics := none }

def pool6 : Array CpInfo := pool [(1, .class_ 2), (0, u "axiomend/ontology/OntologyReadException$Problem"), (2, u "NO_FILE"), (0, u "Laxiomend/ontology/OntologyReadException$Problem;"), (2, u "NOT_AN_ONTOLOGY"), (2, u "MISSING_IMPORT"), (2, u "NOT_A_CATALOG"), (2, u "$VALUES"), (0, u "[Laxiomend/ontology/OntologyReadException$Problem;"), (6, .class_ 28), (1, u "java/lang/Enum"), (27, .class_ 57), (0, u "axiomend/ontology/OntologyReadException")] 2

/-- axiomend/ontology/OntologyReadException$Problem -/
def k6 : Class := { plain "axiomend/ontology/OntologyReadException$Problem" (some 5) with
  accessFlags := 16433
  interfaces := #[]
  cf := some (fileOf pool6 1 #[.nestHost 56] #[] 16433 26 #[] #[{ accessFlags := 16409, nameIndex := 5, descriptorIndex := 6, attributes := #[] }, { accessFlags := 16409, nameIndex := 9, descriptorIndex := 6, attributes := #[] }, { accessFlags := 16409, nameIndex := 12, descriptorIndex := 6, attributes := #[] }, { accessFlags := 16409, nameIndex := 15, descriptorIndex := 6, attributes := #[] }, { accessFlags := 4122, nameIndex := 18, descriptorIndex := 19, attributes := #[] }])
  fields := #[{ name := "NO_FILE", type := (.object "axiomend/ontology/OntologyReadException$Problem"), accessFlags := 16409, slot := 0, constantValue := 0 }, { name := "NOT_AN_ONTOLOGY", type := (.object "axiomend/ontology/OntologyReadException$Problem"), accessFlags := 16409, slot := 1, constantValue := 0 }, { name := "MISSING_IMPORT", type := (.object "axiomend/ontology/OntologyReadException$Problem"), accessFlags := 16409, slot := 2, constantValue := 0 }, { name := "NOT_A_CATALOG", type := (.object "axiomend/ontology/OntologyReadException$Problem"), accessFlags := 16409, slot := 3, constantValue := 0 }, { name := "$VALUES", type := (.array (.object "axiomend/ontology/OntologyReadException$Problem")), accessFlags := 4122, slot := 4, constantValue := 0 }]
  methods := #[]
  instanceTypes := #[(.object "java/lang/String"), .int, .int]
  staticTypes := #[(.object "axiomend/ontology/OntologyReadException$Problem"), (.object "axiomend/ontology/OntologyReadException$Problem"), (.object "axiomend/ontology/OntologyReadException$Problem"), (.object "axiomend/ontology/OntologyReadException$Problem"), (.array (.object "axiomend/ontology/OntologyReadException$Problem"))]
  resolved := Array.replicate 60 none
  statics := some 0 }

def pool7 : Array CpInfo := pool [(2, .class_ 4), (1, u "java/lang/CharSequence"), (42, .class_ 48), (0, u "java/lang/CharSequence$1CodePointIterator"), (10, .class_ 60), (0, u "java/lang/CharSequence$1CharIterator"), (5, .class_ 67), (0, u "java/lang/Object")] 63

/-- java/lang/CharSequence -/
def k7 : Class := { plain "java/lang/CharSequence" (some 0) with
  accessFlags := 1537
  interfaces := #[]
  cf := some (fileOf pool7 2 #[.nestMembers #[47, 59]] #[] 1537 66 #[] #[])
  fields := #[]
  methods := #[]
  instanceTypes := #[]
  staticTypes := #[]
  resolved := Array.replicate 131 none
  statics := none }

def pool8 : Array CpInfo := pool [(1, .class_ 2), (0, u "java/lang/constant/ConstantDesc"), (0, .class_ 4), (0, u "java/lang/Object")] 32

/-- java/lang/constant/ConstantDesc -/
def k8 : Class := { plain "java/lang/constant/ConstantDesc" (some 0) with
  accessFlags := 1537
  interfaces := #[]
  cf := some (fileOf pool8 1 #[] #[] 1537 3 #[] #[])
  fields := #[]
  methods := #[]
  instanceTypes := #[]
  staticTypes := #[]
  resolved := Array.replicate 37 none
  statics := none }

def pool9 : Array CpInfo := pool [(1, .methodref 2 3), (0, .class_ 4), (0, .nameAndType 5 6), (0, u "java/lang/Object"), (0, u "<init>"), (0, u "()V"), (2, .fieldref 10 11), (0, .class_ 12), (0, .nameAndType 13 14), (0, u "java/lang/String"), (0, u "value"), (0, u "[B"), (0, .fieldref 10 16), (0, .nameAndType 17 18), (0, u "coder"), (0, u "B"), (2, u "hash"), (0, u "I"), (2, u "hashIsZero"), (0, u "Z"), (0, .methodref 10 28), (0, .nameAndType 5 29), (0, u "([CIILjava/lang/Void;)V"), (8, .fieldref 10 39), (0, .nameAndType 40 26), (0, u "COMPACT_STRINGS"), (1, .class_ 44), (1, u "java/lang/StringUTF16"), (0, u "compress"), (1, .methodref 42 48), (0, .nameAndType 49 50), (0, u "coderFromArrayLen"), (0, u "([BI)B"), (126, .methodref 42 178), (0, .nameAndType 45 179), (0, u "([CII)[B"), (395, .class_ 576), (0, u "java/lang/CharSequence"), (22, u "CASE_INSENSITIVE_ORDER"), (0, u "Ljava/util/Comparator;"), (409, u "([C)V"), (90, u "serialPersistentFields"), (0, u "[Ljava/io/ObjectStreamField;"), (0, .class_ 1104), (0, u "java/lang/String$CaseInsensitiveComparator"), (1, .class_ 1107), (0, u "java/io/Serializable"), (0, .class_ 1109), (0, u "java/lang/Comparable"), (0, .class_ 1111), (0, u "java/lang/constant/Constable"), (0, .class_ 1113), (0, u "java/lang/constant/ConstantDesc"), (2, u "serialVersionUID"), (0, u "J"), (3, u "REPL"), (0, u "C"), (2, u "LATIN1"), (1, u "UTF16")] 323

def k9m0 : Method := { name := "<init>", desc := "()V", sig := { parameters := [], returnType := none }, accessFlags := 1, code := none }
def k9c1 : Code := { maxStack := 5, maxLocals := 2, code := jdk_42_method_3_code, exceptionTable := #[], attributes := #[] }
def k9m1 : Method := { name := "<init>", desc := "([C)V", sig := { parameters := [(.array .char)], returnType := none }, accessFlags := 1, code := some k9c1 }
def k9c2 : Code := { maxStack := 4, maxLocals := 6, code := jdk_42_method_149_code, exceptionTable := #[], attributes := #[] }
def k9m2 : Method := { name := "<init>", desc := "([CIILjava/lang/Void;)V", sig := { parameters := [(.array .char), .int, .int, (.object "java/lang/Void")], returnType := none }, accessFlags := 2, code := some k9c2 }
/-- java/lang/String -/
def k9 : Class := { plain "java/lang/String" (some 0) with
  accessFlags := 49
  interfaces := #[4, 3, 7, 2, 8]
  cf := some (fileOf pool9 10 #[.nestMembers #[1103]] #[{ accessFlags := 1, nameIndex := 5, descriptorIndex := 6, attributes := #[] }, { accessFlags := 1, nameIndex := 5, descriptorIndex := 1010, attributes := #[] }, { accessFlags := 2, nameIndex := 5, descriptorIndex := 29, attributes := #[] }] 49 2 #[1106, 1108, 575, 1110, 1112] #[{ accessFlags := 18, nameIndex := 13, descriptorIndex := 14, attributes := #[] }, { accessFlags := 18, nameIndex := 17, descriptorIndex := 18, attributes := #[] }, { accessFlags := 2, nameIndex := 21, descriptorIndex := 22, attributes := #[] }, { accessFlags := 2, nameIndex := 25, descriptorIndex := 26, attributes := #[] }, { accessFlags := 26, nameIndex := 1116, descriptorIndex := 1117, attributes := #[] }, { accessFlags := 24, nameIndex := 40, descriptorIndex := 26, attributes := #[] }, { accessFlags := 26, nameIndex := 1101, descriptorIndex := 1102, attributes := #[] }, { accessFlags := 26, nameIndex := 1121, descriptorIndex := 1122, attributes := #[] }, { accessFlags := 25, nameIndex := 599, descriptorIndex := 600, attributes := #[] }, { accessFlags := 24, nameIndex := 1125, descriptorIndex := 18, attributes := #[] }, { accessFlags := 24, nameIndex := 1127, descriptorIndex := 18, attributes := #[] }])
  fields := #[{ name := "value", type := (.array .byte), accessFlags := 18, slot := 0, constantValue := 0 }, { name := "coder", type := .byte, accessFlags := 18, slot := 1, constantValue := 0 }, { name := "hash", type := .int, accessFlags := 2, slot := 2, constantValue := 0 }, { name := "hashIsZero", type := .boolean, accessFlags := 2, slot := 3, constantValue := 0 }, { name := "serialVersionUID", type := .long, accessFlags := 26, slot := 0, constantValue := 0 }, { name := "COMPACT_STRINGS", type := .boolean, accessFlags := 24, slot := 1, constantValue := 0 }, { name := "serialPersistentFields", type := (.array (.object "java/io/ObjectStreamField")), accessFlags := 26, slot := 2, constantValue := 0 }, { name := "REPL", type := .char, accessFlags := 26, slot := 3, constantValue := 0 }, { name := "CASE_INSENSITIVE_ORDER", type := (.object "java/util/Comparator"), accessFlags := 25, slot := 4, constantValue := 0 }, { name := "LATIN1", type := .byte, accessFlags := 24, slot := 5, constantValue := 0 }, { name := "UTF16", type := .byte, accessFlags := 24, slot := 6, constantValue := 0 }]
  methods := #[k9m0, k9m1, k9m2]
  instanceTypes := #[(.array .byte), .byte, .int, .boolean]
  staticTypes := #[.long, .boolean, (.array (.object "java/io/ObjectStreamField")), .char, (.object "java/util/Comparator"), .byte, .byte]
  resolved := Array.replicate 1451 none
  statics := some 1 }

def pool10 : Array CpInfo := pool [(6, .class_ 8), (1, u "java/lang/Object"), (0, u "<init>"), (0, u "()V"), (1, .class_ 14), (1, u "java/lang/StringUTF16"), (31, u "$assertionsDisabled"), (0, u "Z"), (13, u "HI_BYTE_SHIFT"), (0, u "I"), (2, u "LO_BYTE_SHIFT"), (49, .methodref 12 116), (0, .nameAndType 117 118), (0, u "compress"), (0, u "([CI[BII)I"), (3, u "([CII)[B"), (138, u "coderFromArrayLen"), (0, u "([BI)B"), (106, .class_ 371), (1, u "java/lang/StringUTF16$LinesSpliterator"), (58, u "MAX_LENGTH"), (196, .class_ 628), (0, u "java/lang/StringUTF16$CodePointsSpliterator"), (0, .class_ 630), (0, u "java/lang/StringUTF16$CharsSpliterator")] 4

def k10m0 : Method := { name := "<init>", desc := "()V", sig := { parameters := [], returnType := none }, accessFlags := 0, code := none }
def k10c1 : Code := { maxStack := 2, maxLocals := 2, code := jdk_52_method_15_code, exceptionTable := #[], attributes := #[] }
def k10m1 : Method := { name := "coderFromArrayLen", desc := "([BI)B", sig := { parameters := [(.array .byte), .int], returnType := some .byte }, accessFlags := 8, code := some k10c1 }
def k10c2 : Code := { maxStack := 5, maxLocals := 6, code := jdk_52_method_16_code, exceptionTable := #[], attributes := #[] }
def k10m2 : Method := { name := "compress", desc := "([CII)[B", sig := { parameters := [(.array .char), .int, .int], returnType := some (.array .byte) }, accessFlags := 9, code := some k10c2 }
def k10c3 : Code := { maxStack := 3, maxLocals := 7, code := jdk_52_method_21_code, exceptionTable := #[], attributes := #[] }
def k10m3 : Method := { name := "compress", desc := "([CI[BII)I", sig := { parameters := [(.array .char), .int, (.array .byte), .int, .int], returnType := some .int }, accessFlags := 9, code := some k10c3 }
/-- java/lang/StringUTF16 -/
def k10 : Class := { plain "java/lang/StringUTF16" (some 0) with
  accessFlags := 48
  interfaces := #[]
  cf := some (fileOf pool10 12 #[.nestMembers #[627, 629, 369]] #[{ accessFlags := 0, nameIndex := 9, descriptorIndex := 10, attributes := #[] }, { accessFlags := 8, nameIndex := 261, descriptorIndex := 262, attributes := #[] }, { accessFlags := 9, nameIndex := 117, descriptorIndex := 122, attributes := #[] }, { accessFlags := 9, nameIndex := 117, descriptorIndex := 118, attributes := #[] }] 48 6 #[] #[{ accessFlags := 26, nameIndex := 61, descriptorIndex := 62, attributes := #[] }, { accessFlags := 26, nameIndex := 65, descriptorIndex := 62, attributes := #[] }, { accessFlags := 24, nameIndex := 430, descriptorIndex := 62, attributes := #[] }, { accessFlags := 4120, nameIndex := 46, descriptorIndex := 47, attributes := #[] }])
  fields := #[{ name := "HI_BYTE_SHIFT", type := .int, accessFlags := 26, slot := 0, constantValue := 0 }, { name := "LO_BYTE_SHIFT", type := .int, accessFlags := 26, slot := 1, constantValue := 0 }, { name := "MAX_LENGTH", type := .int, accessFlags := 24, slot := 2, constantValue := 0 }, { name := "$assertionsDisabled", type := .boolean, accessFlags := 4120, slot := 3, constantValue := 0 }]
  methods := #[k10m0, k10m1, k10m2, k10m3]
  instanceTypes := #[]
  staticTypes := #[.int, .int, .int, .boolean]
  resolved := Array.replicate 635 none
  statics := none }

def pool11 : Array CpInfo := pool [(1, .methodref 2 3), (0, .class_ 4), (0, .nameAndType 5 6), (0, u "java/lang/Object"), (0, u "<init>"), (0, u "()V"), (0, .fieldref 8 9), (0, .class_ 10), (0, .nameAndType 11 12), (0, u "java/lang/Throwable"), (0, u "cause"), (0, u "Ljava/lang/Throwable;"), (0, .fieldref 8 14), (0, .nameAndType 15 16), (0, u "UNASSIGNED_STACK"), (0, u "[Ljava/lang/StackTraceElement;"), (0, .fieldref 8 18), (0, .nameAndType 19 16), (0, u "stackTrace"), (0, .fieldref 8 21), (0, .nameAndType 22 23), (0, u "SUPPRESSED_SENTINEL"), (0, u "Ljava/util/List;"), (0, .fieldref 8 25), (0, .nameAndType 26 23), (0, u "suppressedExceptions"), (0, .methodref 8 28), (0, .nameAndType 29 30), (0, u "fillInStackTrace"), (0, u "()Ljava/lang/Throwable;"), (0, .fieldref 8 32), (0, .nameAndType 33 34), (0, u "detailMessage"), (0, u "Ljava/lang/String;"), (58, .class_ 94), (0, u "java/lang/Throwable$WrappedPrintStream"), (6, .class_ 103), (1, u "java/lang/Throwable$PrintStreamOrWriter"), (61, u "$assertionsDisabled"), (0, u "Z"), (26, .class_ 194), (0, u "java/lang/Throwable$WrappedPrintWriter"), (3, .fieldref 8 199), (0, .nameAndType 200 201), (0, u "backtrace"), (0, u "Ljava/lang/Object;"), (0, .methodref 8 203), (0, .nameAndType 29 204), (0, u "(I)Ljava/lang/Throwable;"), (6, u "depth"), (0, u "I"), (10, u "(Ljava/lang/String;)V"), (45, .class_ 271), (1, u "java/lang/Throwable$SentinelHolder"), (32, u "EMPTY_THROWABLE_ARRAY"), (0, u "[Ljava/lang/Throwable;"), (12, .class_ 319), (0, u "java/io/Serializable"), (0, u "serialVersionUID"), (0, u "J"), (5, u "NULL_CAUSE_MESSAGE"), (0, u "SELF_SUPPRESSION_MESSAGE"), (0, u "CAUSE_CAPTION"), (0, u "SUPPRESSED_CAPTION")] 73

def k11c0 : Code := { maxStack := 2, maxLocals := 1, code := jdk_78_method_1_code, exceptionTable := #[], attributes := #[] }
def k11m0 : Method := { name := "<init>", desc := "()V", sig := { parameters := [], returnType := none }, accessFlags := 1, code := some k11c0 }
def k11c1 : Code := { maxStack := 2, maxLocals := 2, code := jdk_78_method_2_code, exceptionTable := #[], attributes := #[] }
def k11m1 : Method := { name := "<init>", desc := "(Ljava/lang/String;)V", sig := { parameters := [(.object "java/lang/String")], returnType := none }, accessFlags := 1, code := some k11c1 }
def k11c2 : Code := { maxStack := 2, maxLocals := 1, code := ⟨#[0x2a, 0xb4, 0x00, 0x11, 0xc7, 0x00, 0x0a, 0x2a, 0xb4, 0x00, 0xc6, 0xc6, 0x00, 0x10, 0x2a, 0x03, 0xb6, 0x00, 0xca, 0x57, 0x2a, 0xb2, 0x00, 0x0d, 0xb5, 0x00, 0x11, 0x2a, 0xb0]⟩, exceptionTable := #[], attributes := #[] }
def k11m2 : Method := { name := "fillInStackTrace", desc := "()Ljava/lang/Throwable;", sig := { parameters := [], returnType := some (.object "java/lang/Throwable") }, accessFlags := 33, code := some k11c2 }
def k11m3 : Method := { name := "fillInStackTrace", desc := "(I)Ljava/lang/Throwable;", sig := { parameters := [.int], returnType := some (.object "java/lang/Throwable") }, accessFlags := 258, code := none }
/-- java/lang/Throwable -/
def k11 : Class := { plain "java/lang/Throwable" (some 0) with
  accessFlags := 33
  interfaces := #[4]
  cf := some (fileOf pool11 8 #[.nestMembers #[193, 93, 101, 269]] #[{ accessFlags := 1, nameIndex := 5, descriptorIndex := 6, attributes := #[] }, { accessFlags := 1, nameIndex := 5, descriptorIndex := 223, attributes := #[] }, { accessFlags := 33, nameIndex := 29, descriptorIndex := 30, attributes := #[] }, { accessFlags := 258, nameIndex := 29, descriptorIndex := 204, attributes := #[] }] 33 2 #[318] #[{ accessFlags := 26, nameIndex := 320, descriptorIndex := 321, attributes := #[] }, { accessFlags := 130, nameIndex := 200, descriptorIndex := 201, attributes := #[] }, { accessFlags := 2, nameIndex := 33, descriptorIndex := 34, attributes := #[] }, { accessFlags := 26, nameIndex := 15, descriptorIndex := 16, attributes := #[] }, { accessFlags := 2, nameIndex := 11, descriptorIndex := 12, attributes := #[] }, { accessFlags := 2, nameIndex := 19, descriptorIndex := 16, attributes := #[] }, { accessFlags := 130, nameIndex := 211, descriptorIndex := 212, attributes := #[] }, { accessFlags := 26, nameIndex := 22, descriptorIndex := 23, attributes := #[] }, { accessFlags := 2, nameIndex := 26, descriptorIndex := 23, attributes := #[] }, { accessFlags := 26, nameIndex := 327, descriptorIndex := 34, attributes := #[] }, { accessFlags := 26, nameIndex := 328, descriptorIndex := 34, attributes := #[] }, { accessFlags := 26, nameIndex := 329, descriptorIndex := 34, attributes := #[] }, { accessFlags := 26, nameIndex := 330, descriptorIndex := 34, attributes := #[] }, { accessFlags := 26, nameIndex := 304, descriptorIndex := 305, attributes := #[] }, { accessFlags := 4120, nameIndex := 165, descriptorIndex := 166, attributes := #[] }])
  fields := #[{ name := "serialVersionUID", type := .long, accessFlags := 26, slot := 0, constantValue := 0 }, { name := "backtrace", type := (.object "java/lang/Object"), accessFlags := 130, slot := 0, constantValue := 0 }, { name := "detailMessage", type := (.object "java/lang/String"), accessFlags := 2, slot := 1, constantValue := 0 }, { name := "UNASSIGNED_STACK", type := (.array (.object "java/lang/StackTraceElement")), accessFlags := 26, slot := 1, constantValue := 0 }, { name := "cause", type := (.object "java/lang/Throwable"), accessFlags := 2, slot := 2, constantValue := 0 }, { name := "stackTrace", type := (.array (.object "java/lang/StackTraceElement")), accessFlags := 2, slot := 3, constantValue := 0 }, { name := "depth", type := .int, accessFlags := 130, slot := 4, constantValue := 0 }, { name := "SUPPRESSED_SENTINEL", type := (.object "java/util/List"), accessFlags := 26, slot := 2, constantValue := 0 }, { name := "suppressedExceptions", type := (.object "java/util/List"), accessFlags := 2, slot := 5, constantValue := 0 }, { name := "NULL_CAUSE_MESSAGE", type := (.object "java/lang/String"), accessFlags := 26, slot := 3, constantValue := 0 }, { name := "SELF_SUPPRESSION_MESSAGE", type := (.object "java/lang/String"), accessFlags := 26, slot := 4, constantValue := 0 }, { name := "CAUSE_CAPTION", type := (.object "java/lang/String"), accessFlags := 26, slot := 5, constantValue := 0 }, { name := "SUPPRESSED_CAPTION", type := (.object "java/lang/String"), accessFlags := 26, slot := 6, constantValue := 0 }, { name := "EMPTY_THROWABLE_ARRAY", type := (.array (.object "java/lang/Throwable")), accessFlags := 26, slot := 7, constantValue := 0 }, { name := "$assertionsDisabled", type := .boolean, accessFlags := 4120, slot := 8, constantValue := 0 }]
  methods := #[k11m0, k11m1, k11m2, k11m3]
  instanceTypes := #[(.object "java/lang/Object"), (.object "java/lang/String"), (.object "java/lang/Throwable"), (.array (.object "java/lang/StackTraceElement")), .int, (.object "java/util/List")]
  staticTypes := #[.long, (.array (.object "java/lang/StackTraceElement")), (.object "java/util/List"), (.object "java/lang/String"), (.object "java/lang/String"), (.object "java/lang/String"), (.object "java/lang/String"), (.array (.object "java/lang/Throwable")), .boolean]
  resolved := Array.replicate 404 none
  statics := some 2 }

def pool12 : Array CpInfo := pool [(2, .class_ 4), (1, u "java/lang/Throwable"), (0, u "<init>"), (0, u "()V"), (0, .methodref 2 8), (0, .nameAndType 5 9), (0, u "(Ljava/lang/String;)V"), (9, .class_ 20), (0, u "java/lang/Exception"), (0, u "serialVersionUID"), (0, u "J")] 17

def k12m0 : Method := { name := "<init>", desc := "()V", sig := { parameters := [], returnType := none }, accessFlags := 1, code := none }
def k12c1 : Code := { maxStack := 2, maxLocals := 2, code := jdk_59_method_2_code, exceptionTable := #[], attributes := #[] }
def k12m1 : Method := { name := "<init>", desc := "(Ljava/lang/String;)V", sig := { parameters := [(.object "java/lang/String")], returnType := none }, accessFlags := 1, code := some k12c1 }
/-- java/lang/Exception -/
def k12 : Class := { plain "java/lang/Exception" (some 11) with
  accessFlags := 33
  interfaces := #[]
  cf := some (fileOf pool12 19 #[] #[{ accessFlags := 1, nameIndex := 5, descriptorIndex := 6, attributes := #[] }, { accessFlags := 1, nameIndex := 5, descriptorIndex := 9, attributes := #[] }] 33 2 #[] #[{ accessFlags := 24, nameIndex := 21, descriptorIndex := 22, attributes := #[] }])
  fields := #[{ name := "serialVersionUID", type := .long, accessFlags := 24, slot := 0, constantValue := 0 }]
  methods := #[k12m0, k12m1]
  instanceTypes := #[(.object "java/lang/Object"), (.object "java/lang/String"), (.object "java/lang/Throwable"), (.array (.object "java/lang/StackTraceElement")), .int, (.object "java/util/List")]
  staticTypes := #[.long]
  resolved := Array.replicate 40 none
  statics := none }

def pool13 : Array CpInfo := pool [(1, .methodref 2 3), (0, .class_ 4), (0, .nameAndType 5 6), (0, u "java/lang/Exception"), (0, u "<init>"), (0, u "(Ljava/lang/String;)V"), (0, .fieldref 8 9), (0, .class_ 10), (0, .nameAndType 11 12), (0, u "axiomend/ontology/OntologyReadException"), (0, u "file"), (0, u "Ljava/lang/String;"), (0, .fieldref 8 14), (0, .nameAndType 15 16), (0, u "problem"), (0, u "Laxiomend/ontology/OntologyReadException$Problem;"), (0, .fieldref 18 19), (0, .class_ 20), (0, .nameAndType 21 16), (0, u "axiomend/ontology/OntologyReadException$Problem"), (0, u "NO_FILE"), (2, u "serialVersionUID"), (0, u "J"), (3, u "(Ljava/lang/String;Laxiomend/ontology/OntologyReadException$Problem;Ljava/lang/String;)V"), (4, u "exitStatus"), (0, u "()I")] 6

def k13c0 : Code := { maxStack := 2, maxLocals := 4, code := prog_67_method_1_code, exceptionTable := #[], attributes := #[] }
def k13m0 : Method := { name := "<init>", desc := "(Ljava/lang/String;Laxiomend/ontology/OntologyReadException$Problem;Ljava/lang/String;)V", sig := { parameters := [(.object "java/lang/String"), (.object "axiomend/ontology/OntologyReadException$Problem"), (.object "java/lang/String")], returnType := none }, accessFlags := 1, code := some k13c0 }
def k13c1 : Code := { maxStack := 2, maxLocals := 1, code := prog_67_method_4_code, exceptionTable := #[], attributes := #[] }
def k13m1 : Method := { name := "exitStatus", desc := "()I", sig := { parameters := [], returnType := some .int }, accessFlags := 1, code := some k13c1 }
/-- axiomend/ontology/OntologyReadException -/
def k13 : Class := { plain "axiomend/ontology/OntologyReadException" (some 12) with
  accessFlags := 49
  interfaces := #[]
  cf := some (fileOf pool13 8 #[.nestMembers #[18]] #[{ accessFlags := 1, nameIndex := 5, descriptorIndex := 29, attributes := #[] }, { accessFlags := 1, nameIndex := 34, descriptorIndex := 35, attributes := #[] }] 49 2 #[] #[{ accessFlags := 26, nameIndex := 24, descriptorIndex := 25, attributes := #[] }, { accessFlags := 18, nameIndex := 11, descriptorIndex := 12, attributes := #[] }, { accessFlags := 18, nameIndex := 15, descriptorIndex := 16, attributes := #[] }])
  fields := #[{ name := "serialVersionUID", type := .long, accessFlags := 26, slot := 0, constantValue := 0 }, { name := "file", type := (.object "java/lang/String"), accessFlags := 18, slot := 6, constantValue := 0 }, { name := "problem", type := (.object "axiomend/ontology/OntologyReadException$Problem"), accessFlags := 18, slot := 7, constantValue := 0 }]
  methods := #[k13m0, k13m1]
  instanceTypes := #[(.object "java/lang/Object"), (.object "java/lang/String"), (.object "java/lang/Throwable"), (.array (.object "java/lang/StackTraceElement")), .int, (.object "java/util/List"), (.object "java/lang/String"), (.object "axiomend/ontology/OntologyReadException$Problem")]
  staticTypes := #[.long]
  resolved := Array.replicate 42 none
  statics := none }

def pool14 : Array CpInfo := pool [(4, .class_ 6), (1, u "java/lang/Object"), (0, u "<init>"), (0, u "()V"), (5, .class_ 16), (1, u "java/lang/StringLatin1"), (104, u "$assertionsDisabled"), (0, u "Z"), (98, .class_ 223), (1, u "java/lang/StringLatin1$LinesSpliterator"), (166, .class_ 391), (0, u "java/lang/StringLatin1$CharsSpliterator")] 3

def k14m0 : Method := { name := "<init>", desc := "()V", sig := { parameters := [], returnType := none }, accessFlags := 0, code := none }
/-- java/lang/StringLatin1 -/
def k14 : Class := { plain "java/lang/StringLatin1" (some 0) with
  accessFlags := 48
  interfaces := #[]
  cf := some (fileOf pool14 14 #[.nestMembers #[390, 221]] #[{ accessFlags := 0, nameIndex := 7, descriptorIndex := 8, attributes := #[] }] 48 4 #[] #[{ accessFlags := 4120, nameIndex := 121, descriptorIndex := 122, attributes := #[] }])
  fields := #[{ name := "$assertionsDisabled", type := .boolean, accessFlags := 4120, slot := 0, constantValue := 0 }]
  methods := #[k14m0]
  instanceTypes := #[]
  staticTypes := #[.boolean]
  resolved := Array.replicate 395 none
  statics := none }

def pool15 : Array CpInfo := pool [(2, .class_ 4), (1, u "java/lang/Object"), (0, u "<init>"), (0, u "()V"), (17, .class_ 26), (1, u "jdk/internal/util/Preconditions"), (28, .class_ 56), (0, u "jdk/internal/util/Preconditions$4"), (57, .class_ 115), (0, u "jdk/internal/util/Preconditions$1"), (7, u "SIOOBE_FORMATTER"), (0, u "Ljava/util/function/BiFunction;"), (0, .class_ 126), (0, u "jdk/internal/util/Preconditions$2"), (3, u "AIOOBE_FORMATTER"), (0, .class_ 132), (0, u "jdk/internal/util/Preconditions$3"), (3, u "IOOBE_FORMATTER")] 57

def k15m0 : Method := { name := "<init>", desc := "()V", sig := { parameters := [], returnType := none }, accessFlags := 1, code := none }
/-- jdk/internal/util/Preconditions -/
def k15 : Class := { plain "jdk/internal/util/Preconditions" (some 0) with
  accessFlags := 33
  interfaces := #[]
  cf := some (fileOf pool15 24 #[.nestMembers #[55, 131, 125, 114]] #[{ accessFlags := 1, nameIndex := 5, descriptorIndex := 6, attributes := #[] }] 33 2 #[] #[{ accessFlags := 25, nameIndex := 123, descriptorIndex := 124, attributes := #[] }, { accessFlags := 25, nameIndex := 130, descriptorIndex := 124, attributes := #[] }, { accessFlags := 25, nameIndex := 136, descriptorIndex := 124, attributes := #[] }])
  fields := #[{ name := "SIOOBE_FORMATTER", type := (.object "java/util/function/BiFunction"), accessFlags := 25, slot := 0, constantValue := 0 }, { name := "AIOOBE_FORMATTER", type := (.object "java/util/function/BiFunction"), accessFlags := 25, slot := 1, constantValue := 0 }, { name := "IOOBE_FORMATTER", type := (.object "java/util/function/BiFunction"), accessFlags := 25, slot := 2, constantValue := 0 }]
  methods := #[k15m0]
  instanceTypes := #[]
  staticTypes := #[(.object "java/util/function/BiFunction"), (.object "java/util/function/BiFunction"), (.object "java/util/function/BiFunction")]
  resolved := Array.replicate 194 none
  statics := some 3 }

def pool16 : Array CpInfo := pool [(9, u "<init>"), (6, .class_ 18), (1, u "java/lang/Object"), (0, u "()V"), (1, .class_ 23), (1, u "jdk/internal/util/ArraysSupport"), (0, u "LOG2_ARRAY_LONG_INDEX_SCALE"), (0, u "I"), (2, u "U"), (0, u "Ljdk/internal/misc/Unsafe;"), (8, u "BIG_ENDIAN"), (0, u "Z"), (8, u "LOG2_BYTE_BIT_SIZE"), (4, u "LOG2_ARRAY_INT_INDEX_SCALE"), (54, u "JLA"), (0, u "Ljdk/internal/access/JavaLangAccess;"), (11, u "LOG2_ARRAY_BOOLEAN_INDEX_SCALE"), (9, u "LOG2_ARRAY_BYTE_INDEX_SCALE"), (5, u "LOG2_ARRAY_CHAR_INDEX_SCALE"), (5, u "LOG2_ARRAY_SHORT_INDEX_SCALE"), (18, u "LOG2_ARRAY_FLOAT_INDEX_SCALE"), (24, u "LOG2_ARRAY_DOUBLE_INDEX_SCALE"), (89, u "T_BOOLEAN"), (2, u "T_CHAR"), (1, u "T_FLOAT"), (1, u "T_DOUBLE"), (1, u "T_BYTE"), (1, u "T_SHORT"), (1, u "T_INT"), (1, u "T_LONG"), (1, u "SOFT_MAX_ARRAY_LENGTH")] 83

def k16m0 : Method := { name := "<init>", desc := "()V", sig := { parameters := [], returnType := none }, accessFlags := 2, code := none }
/-- jdk/internal/util/ArraysSupport -/
def k16 : Class := { plain "jdk/internal/util/ArraysSupport" (some 0) with
  accessFlags := 33
  interfaces := #[]
  cf := some (fileOf pool16 21 #[] #[{ accessFlags := 2, nameIndex := 9, descriptorIndex := 19, attributes := #[] }] 33 16 #[] #[{ accessFlags := 24, nameIndex := 28, descriptorIndex := 29, attributes := #[] }, { accessFlags := 26, nameIndex := 38, descriptorIndex := 39, attributes := #[] }, { accessFlags := 25, nameIndex := 121, descriptorIndex := 25, attributes := #[] }, { accessFlags := 25, nameIndex := 131, descriptorIndex := 25, attributes := #[] }, { accessFlags := 25, nameIndex := 137, descriptorIndex := 25, attributes := #[] }, { accessFlags := 25, nameIndex := 143, descriptorIndex := 25, attributes := #[] }, { accessFlags := 25, nameIndex := 53, descriptorIndex := 25, attributes := #[] }, { accessFlags := 25, nameIndex := 24, descriptorIndex := 25, attributes := #[] }, { accessFlags := 25, nameIndex := 162, descriptorIndex := 25, attributes := #[] }, { accessFlags := 25, nameIndex := 187, descriptorIndex := 25, attributes := #[] }, { accessFlags := 26, nameIndex := 48, descriptorIndex := 25, attributes := #[] }, { accessFlags := 25, nameIndex := 277, descriptorIndex := 25, attributes := #[] }, { accessFlags := 25, nameIndex := 280, descriptorIndex := 25, attributes := #[] }, { accessFlags := 25, nameIndex := 282, descriptorIndex := 25, attributes := #[] }, { accessFlags := 25, nameIndex := 284, descriptorIndex := 25, attributes := #[] }, { accessFlags := 25, nameIndex := 286, descriptorIndex := 25, attributes := #[] }, { accessFlags := 25, nameIndex := 288, descriptorIndex := 25, attributes := #[] }, { accessFlags := 25, nameIndex := 290, descriptorIndex := 25, attributes := #[] }, { accessFlags := 25, nameIndex := 292, descriptorIndex := 25, attributes := #[] }, { accessFlags := 26, nameIndex := 108, descriptorIndex := 109, attributes := #[] }, { accessFlags := 25, nameIndex := 294, descriptorIndex := 25, attributes := #[] }])
  fields := #[{ name := "U", type := (.object "jdk/internal/misc/Unsafe"), accessFlags := 24, slot := 0, constantValue := 0 }, { name := "BIG_ENDIAN", type := .boolean, accessFlags := 26, slot := 1, constantValue := 0 }, { name := "LOG2_ARRAY_BOOLEAN_INDEX_SCALE", type := .int, accessFlags := 25, slot := 2, constantValue := 0 }, { name := "LOG2_ARRAY_BYTE_INDEX_SCALE", type := .int, accessFlags := 25, slot := 3, constantValue := 0 }, { name := "LOG2_ARRAY_CHAR_INDEX_SCALE", type := .int, accessFlags := 25, slot := 4, constantValue := 0 }, { name := "LOG2_ARRAY_SHORT_INDEX_SCALE", type := .int, accessFlags := 25, slot := 5, constantValue := 0 }, { name := "LOG2_ARRAY_INT_INDEX_SCALE", type := .int, accessFlags := 25, slot := 6, constantValue := 0 }, { name := "LOG2_ARRAY_LONG_INDEX_SCALE", type := .int, accessFlags := 25, slot := 7, constantValue := 0 }, { name := "LOG2_ARRAY_FLOAT_INDEX_SCALE", type := .int, accessFlags := 25, slot := 8, constantValue := 0 }, { name := "LOG2_ARRAY_DOUBLE_INDEX_SCALE", type := .int, accessFlags := 25, slot := 9, constantValue := 0 }, { name := "LOG2_BYTE_BIT_SIZE", type := .int, accessFlags := 26, slot := 10, constantValue := 0 }, { name := "T_BOOLEAN", type := .int, accessFlags := 25, slot := 11, constantValue := 0 }, { name := "T_CHAR", type := .int, accessFlags := 25, slot := 12, constantValue := 0 }, { name := "T_FLOAT", type := .int, accessFlags := 25, slot := 13, constantValue := 0 }, { name := "T_DOUBLE", type := .int, accessFlags := 25, slot := 14, constantValue := 0 }, { name := "T_BYTE", type := .int, accessFlags := 25, slot := 15, constantValue := 0 }, { name := "T_SHORT", type := .int, accessFlags := 25, slot := 16, constantValue := 0 }, { name := "T_INT", type := .int, accessFlags := 25, slot := 17, constantValue := 0 }, { name := "T_LONG", type := .int, accessFlags := 25, slot := 18, constantValue := 0 }, { name := "JLA", type := (.object "jdk/internal/access/JavaLangAccess"), accessFlags := 26, slot := 19, constantValue := 0 }, { name := "SOFT_MAX_ARRAY_LENGTH", type := .int, accessFlags := 25, slot := 20, constantValue := 0 }]
  methods := #[k16m0]
  instanceTypes := #[]
  staticTypes := #[(.object "jdk/internal/misc/Unsafe"), .boolean, .int, .int, .int, .int, .int, .int, .int, .int, .int, .int, .int, .int, .int, .int, .int, .int, .int, (.object "jdk/internal/access/JavaLangAccess"), .int]
  resolved := Array.replicate 378 none
  statics := none }

def pool17 : Array CpInfo := pool [(2, .class_ 4), (1, u "java/lang/Object"), (0, u "<init>"), (0, u "()V"), (12, .class_ 20), (0, u "java/util/Collections"), (63, u "r"), (0, u "Ljava/util/Random;"), (80, .class_ 167), (0, u "java/util/Collections$UnmodifiableCollection"), (6, .class_ 175), (0, u "java/util/Collections$UnmodifiableSequencedCollection"), (6, .class_ 183), (0, u "java/util/Collections$UnmodifiableSet"), (6, .class_ 191), (0, u "java/util/Collections$UnmodifiableSequencedSet"), (6, .class_ 199), (0, u "java/util/Collections$UnmodifiableSortedSet"), (6, .class_ 207), (0, u "java/util/Collections$UnmodifiableNavigableSet"), (4, .class_ 213), (0, u "java/util/Collections$UnmodifiableList"), (1, .class_ 216), (0, u "java/util/Collections$UnmodifiableRandomAccessList"), (6, .class_ 224), (0, u "java/util/Collections$UnmodifiableMap"), (6, .class_ 232), (0, u "java/util/Collections$UnmodifiableSequencedMap"), (4, .class_ 238), (0, u "java/util/Collections$UnmodifiableSortedMap"), (6, .class_ 246), (0, u "java/util/Collections$UnmodifiableNavigableMap"), (3, .class_ 251), (0, u "java/util/Collections$SynchronizedCollection"), (4, .class_ 257), (0, u "java/util/Collections$SynchronizedSet"), (4, .class_ 263), (0, u "java/util/Collections$SynchronizedSortedSet"), (1, .class_ 266), (0, u "java/util/Collections$SynchronizedNavigableSet"), (1, .class_ 269), (0, u "java/util/Collections$SynchronizedRandomAccessList"), (1, .class_ 272), (0, u "java/util/Collections$SynchronizedList"), (5, .class_ 279), (0, u "java/util/Collections$SynchronizedMap"), (1, .class_ 282), (0, u "java/util/Collections$SynchronizedSortedMap"), (1, .class_ 285), (0, u "java/util/Collections$SynchronizedNavigableMap"), (1, .class_ 288), (0, u "java/util/Collections$CheckedCollection"), (11, .class_ 301), (0, u "java/util/Collections$CheckedQueue"), (3, .class_ 306), (0, u "java/util/Collections$CheckedSet"), (3, .class_ 311), (0, u "java/util/Collections$CheckedSortedSet"), (3, .class_ 316), (0, u "java/util/Collections$CheckedNavigableSet"), (3, .class_ 321), (0, u "java/util/Collections$CheckedRandomAccessList"), (3, .class_ 326), (0, u "java/util/Collections$CheckedList"), (1, .class_ 329), (0, u "java/util/Collections$CheckedMap"), (3, .class_ 334), (0, u "java/util/Collections$CheckedSortedMap"), (3, .class_ 339), (0, u "java/util/Collections$CheckedNavigableMap"), (4, .class_ 346), (1, u "java/util/Collections$EmptyIterator"), (3, .class_ 352), (1, u "java/util/Collections$EmptyListIterator"), (2, .class_ 357), (1, u "java/util/Collections$EmptyEnumeration"), (4, u "EMPTY_SET"), (0, u "Ljava/util/Set;"), (6, u "EMPTY_LIST"), (0, u "Ljava/util/List;"), (2, u "EMPTY_MAP"), (0, u "Ljava/util/Map;"), (4, .class_ 381), (0, u "java/util/Collections$SingletonSet"), (2, .class_ 385), (0, u "java/util/Collections$1"), (1, .class_ 388), (0, u "java/util/Collections$2"), (1, .class_ 391), (0, u "java/util/Collections$SingletonList"), (1, .class_ 394), (0, u "java/util/Collections$SingletonMap"), (22, .class_ 418), (0, u "java/util/Collections$CopiesList"), (4, .class_ 425), (1, u "java/util/Collections$ReverseComparator"), (8, .class_ 435), (0, u "java/util/Collections$ReverseComparator2"), (6, .class_ 443), (0, u "java/util/Collections$3"), (25, .class_ 470), (0, u "java/util/Collections$SetFromMap"), (2, .class_ 474), (0, u "java/util/Collections$SequencedSetFromMap"), (3, .class_ 479), (0, u "java/util/Collections$AsLIFOQueue"), (11, .class_ 492), (0, u "java/util/Collections$EmptySet"), (1, .class_ 495), (0, u "java/util/Collections$EmptyList"), (1, .class_ 498), (0, u "java/util/Collections$EmptyMap"), (1, u "BINARYSEARCH_THRESHOLD"), (0, u "I"), (2, u "REVERSE_THRESHOLD"), (1, u "SHUFFLE_THRESHOLD"), (1, u "FILL_THRESHOLD"), (1, u "ROTATE_THRESHOLD"), (1, u "COPY_THRESHOLD"), (1, u "REPLACEALL_THRESHOLD"), (1, u "INDEXOFSUBLIST_THRESHOLD"), (333, .class_ 851), (0, u "java/util/Collections$CheckedMap$CheckedEntrySet"), (0, .class_ 853), (0, u "java/util/Collections$CheckedMap$CheckedEntrySet$CheckedEntry"), (0, .class_ 855), (0, u "java/util/Collections$CheckedMap$CheckedEntrySet$1"), (0, .class_ 857), (0, u "java/util/Collections$CheckedList$1"), (0, .class_ 859), (0, u "java/util/Collections$CheckedCollection$1"), (0, .class_ 861), (0, u "java/util/Collections$UnmodifiableNavigableMap$EmptyNavigableMap"), (0, .class_ 863), (0, u "java/util/Collections$UnmodifiableMap$UnmodifiableEntrySet"), (0, .class_ 865), (0, u "java/util/Collections$UnmodifiableMap$UnmodifiableEntrySet$UnmodifiableEntry"), (0, .class_ 867), (0, u "java/util/Collections$UnmodifiableMap$UnmodifiableEntrySet$UnmodifiableEntrySetSpliterator"), (0, .class_ 869), (0, u "java/util/Collections$UnmodifiableMap$UnmodifiableEntrySet$1"), (0, .class_ 871), (0, u "java/util/Collections$UnmodifiableList$1"), (0, .class_ 873), (0, u "java/util/Collections$UnmodifiableNavigableSet$EmptyNavigableSet"), (0, .class_ 875), (0, u "java/util/Collections$UnmodifiableCollection$1")] 57

def k17m0 : Method := { name := "<init>", desc := "()V", sig := { parameters := [], returnType := none }, accessFlags := 2, code := none }
/-- java/util/Collections -/
def k17 : Class := { plain "java/util/Collections" (some 0) with
  accessFlags := 33
  interfaces := #[]
  cf := some (fileOf pool17 19 #[.nestMembers #[478, 473, 469, 434, 423, 417, 393, 390, 380, 497, 494, 491, 355, 350, 344, 338, 333, 328, 850, 852, 854, 320, 325, 856, 315, 310, 305, 300, 287, 858, 284, 281, 278, 268, 271, 265, 262, 256, 250, 245, 860, 237, 231, 223, 862, 864, 866, 868, 215, 212, 870, 206, 872, 198, 190, 182, 174, 166, 874, 442, 387, 384]] #[{ accessFlags := 2, nameIndex := 5, descriptorIndex := 6, attributes := #[] }] 33 2 #[] #[{ accessFlags := 26, nameIndex := 500, descriptorIndex := 501, attributes := #[] }, { accessFlags := 26, nameIndex := 504, descriptorIndex := 501, attributes := #[] }, { accessFlags := 26, nameIndex := 506, descriptorIndex := 501, attributes := #[] }, { accessFlags := 26, nameIndex := 508, descriptorIndex := 501, attributes := #[] }, { accessFlags := 26, nameIndex := 510, descriptorIndex := 501, attributes := #[] }, { accessFlags := 26, nameIndex := 512, descriptorIndex := 501, attributes := #[] }, { accessFlags := 26, nameIndex := 514, descriptorIndex := 501, attributes := #[] }, { accessFlags := 26, nameIndex := 516, descriptorIndex := 501, attributes := #[] }, { accessFlags := 10, nameIndex := 84, descriptorIndex := 85, attributes := #[] }, { accessFlags := 25, nameIndex := 362, descriptorIndex := 363, attributes := #[] }, { accessFlags := 25, nameIndex := 370, descriptorIndex := 371, attributes := #[] }, { accessFlags := 25, nameIndex := 374, descriptorIndex := 375, attributes := #[] }])
  fields := #[{ name := "BINARYSEARCH_THRESHOLD", type := .int, accessFlags := 26, slot := 0, constantValue := 0 }, { name := "REVERSE_THRESHOLD", type := .int, accessFlags := 26, slot := 1, constantValue := 0 }, { name := "SHUFFLE_THRESHOLD", type := .int, accessFlags := 26, slot := 2, constantValue := 0 }, { name := "FILL_THRESHOLD", type := .int, accessFlags := 26, slot := 3, constantValue := 0 }, { name := "ROTATE_THRESHOLD", type := .int, accessFlags := 26, slot := 4, constantValue := 0 }, { name := "COPY_THRESHOLD", type := .int, accessFlags := 26, slot := 5, constantValue := 0 }, { name := "REPLACEALL_THRESHOLD", type := .int, accessFlags := 26, slot := 6, constantValue := 0 }, { name := "INDEXOFSUBLIST_THRESHOLD", type := .int, accessFlags := 26, slot := 7, constantValue := 0 }, { name := "r", type := (.object "java/util/Random"), accessFlags := 10, slot := 8, constantValue := 0 }, { name := "EMPTY_SET", type := (.object "java/util/Set"), accessFlags := 25, slot := 9, constantValue := 0 }, { name := "EMPTY_LIST", type := (.object "java/util/List"), accessFlags := 25, slot := 10, constantValue := 0 }, { name := "EMPTY_MAP", type := (.object "java/util/Map"), accessFlags := 25, slot := 11, constantValue := 0 }]
  methods := #[k17m0]
  instanceTypes := #[]
  staticTypes := #[.int, .int, .int, .int, .int, .int, .int, .int, (.object "java/util/Random"), (.object "java/util/Set"), (.object "java/util/List"), (.object "java/util/Map")]
  resolved := Array.replicate 933 none
  statics := some 4 }

def pool18 : Array CpInfo := pool [(8, .class_ 10), (1, u "java/lang/Iterable"), (24, .class_ 36), (0, u "java/lang/Object")] 25

/-- java/lang/Iterable -/
def k18 : Class := { plain "java/lang/Iterable" (some 0) with
  accessFlags := 1537
  interfaces := #[]
  cf := some (fileOf pool18 8 #[] #[] 1537 35 #[] #[])
  fields := #[]
  methods := #[]
  instanceTypes := #[]
  staticTypes := #[]
  resolved := Array.replicate 62 none
  statics := none }

def pool19 : Array CpInfo := pool [(10, .class_ 12), (1, u "java/util/Collection"), (47, .class_ 61), (0, u "java/lang/Object"), (0, .class_ 63), (0, u "java/lang/Iterable")] 51

/-- java/util/Collection -/
def k19 : Class := { plain "java/util/Collection" (some 0) with
  accessFlags := 1537
  interfaces := #[18]
  cf := some (fileOf pool19 10 #[] #[] 1537 60 #[62] #[])
  fields := #[]
  methods := #[]
  instanceTypes := #[]
  staticTypes := #[]
  resolved := Array.replicate 115 none
  statics := none }

def pool20 : Array CpInfo := pool [(2, .class_ 4), (1, u "java/lang/Object"), (0, u "<init>"), (0, u "()V"), (1, .class_ 10), (1, u "java/util/AbstractCollection"), (66, .class_ 78), (0, u "java/util/Collection")] 81

def k20m0 : Method := { name := "<init>", desc := "()V", sig := { parameters := [], returnType := none }, accessFlags := 4, code := none }
/-- java/util/AbstractCollection -/
def k20 : Class := { plain "java/util/AbstractCollection" (some 0) with
  accessFlags := 1057
  interfaces := #[19]
  cf := some (fileOf pool20 8 #[] #[{ accessFlags := 4, nameIndex := 5, descriptorIndex := 6, attributes := #[] }] 1057 2 #[77] #[])
  fields := #[]
  methods := #[k20m0]
  instanceTypes := #[]
  staticTypes := #[]
  resolved := Array.replicate 160 none
  statics := none }

def pool21 : Array CpInfo := pool [(8, .class_ 10), (1, u "java/util/SequencedCollection"), (15, .class_ 27), (0, u "java/lang/Object"), (0, .class_ 29), (0, u "java/util/Collection")] 27

/-- java/util/SequencedCollection -/
def k21 : Class := { plain "java/util/SequencedCollection" (some 0) with
  accessFlags := 1537
  interfaces := #[19]
  cf := some (fileOf pool21 8 #[] #[] 1537 26 #[28] #[])
  fields := #[]
  methods := #[]
  instanceTypes := #[]
  staticTypes := #[]
  resolved := Array.replicate 57 none
  statics := none }

def pool22 : Array CpInfo := pool [(8, .class_ 10), (1, u "java/util/List"), (92, .class_ 104), (0, u "java/lang/Object"), (15, .class_ 121), (0, u "java/util/SequencedCollection")] 129

/-- java/util/List -/
def k22 : Class := { plain "java/util/List" (some 0) with
  accessFlags := 1537
  interfaces := #[21]
  cf := some (fileOf pool22 8 #[] #[] 1537 103 #[120] #[])
  fields := #[]
  methods := #[]
  instanceTypes := #[]
  staticTypes := #[]
  resolved := Array.replicate 251 none
  statics := none }

def pool23 : Array CpInfo := pool [(2, .class_ 4), (1, u "java/util/AbstractCollection"), (0, u "<init>"), (0, u "()V"), (1, .class_ 10), (1, u "java/util/AbstractList"), (0, u "modCount"), (0, u "I"), (64, .class_ 78), (0, u "java/util/AbstractList$Itr"), (3, .class_ 83), (0, u "java/util/AbstractList$ListItr"), (9, .class_ 94), (0, u "java/util/AbstractList$RandomAccessSubList"), (3, .class_ 99), (0, u "java/util/AbstractList$SubList"), (33, .class_ 134), (0, u "java/util/List"), (73, .class_ 209), (0, u "java/util/AbstractList$SubList$1"), (0, .class_ 211), (0, u "java/util/AbstractList$RandomAccessSpliterator")] 6

def k23m0 : Method := { name := "<init>", desc := "()V", sig := { parameters := [], returnType := none }, accessFlags := 4, code := none }
/-- java/util/AbstractList -/
def k23 : Class := { plain "java/util/AbstractList" (some 20) with
  accessFlags := 1057
  interfaces := #[22]
  cf := some (fileOf pool23 8 #[.nestMembers #[93, 98, 208, 210, 82, 77]] #[{ accessFlags := 4, nameIndex := 5, descriptorIndex := 6, attributes := #[] }] 1057 2 #[133] #[{ accessFlags := 132, nameIndex := 11, descriptorIndex := 12, attributes := #[] }])
  fields := #[{ name := "modCount", type := .int, accessFlags := 132, slot := 0, constantValue := 0 }]
  methods := #[k23m0]
  instanceTypes := #[.int]
  staticTypes := #[]
  resolved := Array.replicate 218 none
  statics := none }

def pool24 : Array CpInfo := pool [(1, .class_ 2), (0, u "java/util/RandomAccess"), (0, .class_ 4), (0, u "java/lang/Object")] 2

/-- java/util/RandomAccess -/
def k24 : Class := { plain "java/util/RandomAccess" (some 0) with
  accessFlags := 1537
  interfaces := #[]
  cf := some (fileOf pool24 1 #[] #[] 1537 3 #[] #[])
  fields := #[]
  methods := #[]
  instanceTypes := #[]
  staticTypes := #[]
  resolved := Array.replicate 7 none
  statics := none }

def pool25 : Array CpInfo := pool [(2, .class_ 4), (1, u "java/util/AbstractList"), (0, u "<init>"), (0, u "()V"), (1, .class_ 10), (1, u "java/util/Collections"), (54, .class_ 66), (0, u "java/util/Collections$EmptyList"), (0, .class_ 68), (0, u "java/util/RandomAccess"), (0, .class_ 70), (0, u "java/io/Serializable"), (0, u "serialVersionUID"), (0, u "J")] 77

def k25m0 : Method := { name := "<init>", desc := "()V", sig := { parameters := [], returnType := none }, accessFlags := 2, code := none }
/-- java/util/Collections$EmptyList -/
def k25 : Class := { plain "java/util/Collections$EmptyList" (some 23) with
  accessFlags := 32
  interfaces := #[24, 4]
  cf := some (fileOf pool25 65 #[.nestHost 8] #[{ accessFlags := 2, nameIndex := 5, descriptorIndex := 6, attributes := #[] }] 32 2 #[67, 69] #[{ accessFlags := 26, nameIndex := 71, descriptorIndex := 72, attributes := #[] }])
  fields := #[{ name := "serialVersionUID", type := .long, accessFlags := 26, slot := 0, constantValue := 0 }]
  methods := #[k25m0]
  instanceTypes := #[.int]
  staticTypes := #[.long]
  resolved := Array.replicate 150 none
  statics := none }

def pool26 : Array CpInfo := pool [(2, .class_ 4), (1, u "java/lang/StackTraceElement"), (0, u "<init>"), (2, .class_ 10), (1, u "java/lang/Object"), (0, u "()V"), (2, u "format"), (0, u "B"), (2, u "classLoaderName"), (0, u "Ljava/lang/String;"), (2, u "moduleName"), (2, u "moduleVersion"), (12, u "declaringClass"), (4, u "methodName"), (2, u "fileName"), (2, u "lineNumber"), (0, u "I"), (65, u "declaringClassObject"), (0, u "Ljava/lang/Class;"), (33, .class_ 153), (1, u "java/lang/StackTraceElement$HashedModules"), (17, .class_ 172), (0, u "java/io/Serializable"), (0, u "NATIVE_METHOD"), (1, u "UNKNOWN_SOURCE"), (2, u "BUILTIN_CLASS_LOADER"), (1, u "JDK_NON_UPGRADEABLE_MODULE"), (1, u "serialVersionUID"), (0, u "J")] 51

def k26m0 : Method := { name := "<init>", desc := "()V", sig := { parameters := [], returnType := none }, accessFlags := 2, code := none }
/-- java/lang/StackTraceElement -/
def k26 : Class := { plain "java/lang/StackTraceElement" (some 0) with
  accessFlags := 49
  interfaces := #[4]
  cf := some (fileOf pool26 2 #[.nestMembers #[151]] #[{ accessFlags := 2, nameIndex := 5, descriptorIndex := 11, attributes := #[] }] 49 8 #[171] #[{ accessFlags := 26, nameIndex := 173, descriptorIndex := 19, attributes := #[] }, { accessFlags := 26, nameIndex := 175, descriptorIndex := 19, attributes := #[] }, { accessFlags := 130, nameIndex := 116, descriptorIndex := 117, attributes := #[] }, { accessFlags := 2, nameIndex := 18, descriptorIndex := 19, attributes := #[] }, { accessFlags := 2, nameIndex := 22, descriptorIndex := 19, attributes := #[] }, { accessFlags := 2, nameIndex := 25, descriptorIndex := 19, attributes := #[] }, { accessFlags := 2, nameIndex := 38, descriptorIndex := 19, attributes := #[] }, { accessFlags := 2, nameIndex := 43, descriptorIndex := 19, attributes := #[] }, { accessFlags := 2, nameIndex := 46, descriptorIndex := 19, attributes := #[] }, { accessFlags := 2, nameIndex := 49, descriptorIndex := 50, attributes := #[] }, { accessFlags := 2, nameIndex := 14, descriptorIndex := 15, attributes := #[] }, { accessFlags := 26, nameIndex := 178, descriptorIndex := 15, attributes := #[] }, { accessFlags := 26, nameIndex := 180, descriptorIndex := 15, attributes := #[] }, { accessFlags := 26, nameIndex := 182, descriptorIndex := 183, attributes := #[] }])
  fields := #[{ name := "NATIVE_METHOD", type := (.object "java/lang/String"), accessFlags := 26, slot := 0, constantValue := 0 }, { name := "UNKNOWN_SOURCE", type := (.object "java/lang/String"), accessFlags := 26, slot := 1, constantValue := 0 }, { name := "declaringClassObject", type := (.object "java/lang/Class"), accessFlags := 130, slot := 0, constantValue := 0 }, { name := "classLoaderName", type := (.object "java/lang/String"), accessFlags := 2, slot := 1, constantValue := 0 }, { name := "moduleName", type := (.object "java/lang/String"), accessFlags := 2, slot := 2, constantValue := 0 }, { name := "moduleVersion", type := (.object "java/lang/String"), accessFlags := 2, slot := 3, constantValue := 0 }, { name := "declaringClass", type := (.object "java/lang/String"), accessFlags := 2, slot := 4, constantValue := 0 }, { name := "methodName", type := (.object "java/lang/String"), accessFlags := 2, slot := 5, constantValue := 0 }, { name := "fileName", type := (.object "java/lang/String"), accessFlags := 2, slot := 6, constantValue := 0 }, { name := "lineNumber", type := .int, accessFlags := 2, slot := 7, constantValue := 0 }, { name := "format", type := .byte, accessFlags := 2, slot := 8, constantValue := 0 }, { name := "BUILTIN_CLASS_LOADER", type := .byte, accessFlags := 26, slot := 2, constantValue := 0 }, { name := "JDK_NON_UPGRADEABLE_MODULE", type := .byte, accessFlags := 26, slot := 3, constantValue := 0 }, { name := "serialVersionUID", type := .long, accessFlags := 26, slot := 4, constantValue := 0 }]
  methods := #[k26m0]
  instanceTypes := #[(.object "java/lang/Class"), (.object "java/lang/String"), (.object "java/lang/String"), (.object "java/lang/String"), (.object "java/lang/String"), (.object "java/lang/String"), (.object "java/lang/String"), .int, .byte]
  staticTypes := #[(.object "java/lang/String"), (.object "java/lang/String"), .byte, .byte, .long]
  resolved := Array.replicate 235 none
  statics := none }

def pool27 : Array CpInfo := pool [(1, u "java/lang/Cloneable"), (0, .class_ 1), (0, u "java/lang/Object"), (0, .class_ 3)] 3

/-- java/lang/Cloneable -/
def k27 : Class := { plain "java/lang/Cloneable" (some 0) with
  accessFlags := 1537
  interfaces := #[]
  cf := some (fileOf pool27 2 #[] #[] 1537 4 #[] #[])
  fields := #[]
  methods := #[]
  instanceTypes := #[]
  staticTypes := #[]
  resolved := Array.replicate 8 none
  statics := none }

/-- the primitive byte -/
def k28 : Class := { plain "byte" none with kind := .primitive 'B', accessFlags := 0x411 }
/-- [B -/
def k29 : Class := { plain "[B" (some 0) with kind := .array 28 .byte, interfaces := #[27, 4], accessFlags := 1041 }

/-- the primitive char -/
def k30 : Class := { plain "char" none with kind := .primitive 'C', accessFlags := 0x411 }
/-- [C -/
def k31 : Class := { plain "[C" (some 0) with kind := .array 30 .char, interfaces := #[27, 4], accessFlags := 1041 }

/-- [Ljava/lang/Object; -/
def k32 : Class := { plain "[Ljava/lang/Object;" (some 0) with kind := .array 0 (.object "java/lang/Object"), interfaces := #[27, 4], accessFlags := 1041 }

/-- [Ljava/lang/StackTraceElement; -/
def k33 : Class := { plain "[Ljava/lang/StackTraceElement;" (some 0) with kind := .array 26 (.object "java/lang/StackTraceElement"), interfaces := #[27, 4], accessFlags := 1041 }

/-- [Ljava/lang/Throwable; -/
def k34 : Class := { plain "[Ljava/lang/Throwable;" (some 0) with kind := .array 11 (.object "java/lang/Throwable"), interfaces := #[27, 4], accessFlags := 1041 }

def heap : Heap := #[{ cls := 6, slots := #[.ref 5, .ref 6, .ref 8, .ref 7, .null], vm := .statics 6 },
  { cls := 9, slots := #[.long 0, .int 1, .null, .int 0, .null, .int 0, .int 0], vm := .statics 9 },
  { cls := 11, slots := #[.long 0, .ref 9, .ref 10, .null, .null, .null, .null, .ref 11, .int 1], vm := .statics 11 },
  { cls := 15, slots := #[.null, .null, .null], vm := .statics 15 },
  { cls := 17, slots := #[.int 0, .int 0, .int 0, .int 0, .int 0, .int 0, .int 0, .int 0, .null, .null, .ref 10, .null], vm := .statics 17 },
  { cls := 6, slots := #[.null, .int 0, .int 0], vm := .none },
  { cls := 6, slots := #[.null, .int 1, .int 0], vm := .none },
  { cls := 6, slots := #[.null, .int 3, .int 0], vm := .none },
  { cls := 6, slots := #[.null, .int 2, .int 0], vm := .none },
  { cls := 33, slots := #[], vm := .none },
  { cls := 25, slots := #[.int 0], vm := .none },
  { cls := 34, slots := #[], vm := .none }]
def classes : Array Class := #[k0, k1, k2, k3, k4, k5, k6, k7, k8, k9, k10, k11, k12, k13, k14, k15, k16, k17, k18, k19, k20, k21, k22, k23, k24, k25, k26, k27, k28, k29, k30, k31, k32, k33, k34]
def interned : List (Array UInt16 × Addr) := []
def slotsUsed : Nat := 49
def theMethod : MethodId := ⟨1, 1⟩
def args0 : Array Value := #[.int 5, .int 5, .int 5]
def aboutOver (below : List Frame) : State where
  vm := { classes := classes, interned := interned.toArray }
  heap := heap
  slotsUsed := slotsUsed
  threads := #[{ frames := .invoking theMethod args0 :: below }]
def below0 : List Frame := [.native { method := ⟨0, 0⟩, args := #[] }]
def about1 : State := aboutOver below0
def p0 : Program := .bare "" "" ""
def e0 : Env := launch0.env 0 0 0
theorem w_frames : about1.frames = Frame.invoking theMethod args0 :: below0 := rfl
set_option maxRecDepth 65536 in
theorem w_args : argsFit about1.vm theMethod args0 = true := by decide +kernel
set_option maxRecDepth 65536 in
theorem w_heap : heapFits about1 = true := by decide +kernel
set_option maxRecDepth 65536 in
theorem w_runnable : about1.curStatus? = some .runnable := by decide +kernel
set_option maxRecDepth 65536 in
theorem w_alone : about1.alone = true := by decide +kernel
set_option maxRecDepth 65536 in
theorem w_named : about1.methodNamed? x = some theMethod := by decide +kernel
set_option maxRecDepth 65536 in
theorem w_hears : about1.hears theMethod below0 = true := by decide +kernel
set_option maxRecDepth 65536 in
theorem w_ripe : about1.ripe theMethod args0 below0 = true := by decide +kernel
theorem w_running : about1.status = .running := rfl
set_option maxRecDepth 65536 in
theorem w_room : about1.hasRoom e0.platform room_1 = true :=
  launch0.hasRoom_least _ room_1 (by decide +kernel) (by decide +kernel) (by decide +kernel) (by decide +kernel) (by decide +kernel) (by decide +kernel)
theorem allAtoms_all (ts : List Jvm.Cond) (a : Array Jvm.Value) (st : Jvm.State) : (allAtoms ts).before a st = ts.all (fun c => c.before a st) := by
  induction ts with
  | nil => rfl
  | cons c t ih =>
    show (Jvm.Cond.and c (allAtoms t)).before a st = _
    rw [Jvm.Cond.before_and, ih, List.all_cons]
def words1 : List Jvm.Cond := Jvm.Cond.code x code maxLocals ret :: tables_1
/-- a 'code' word, met by the world's own term for the bytes: nothing is compared byte by byte -/
theorem code_word {y : MethodName} {bytes : ByteArray} {mx : Nat} {rt : Option FieldType} {a : Array Value} {s : State} {m : MethodId} {meth : Method} {c : Code} (h1 : s.methodNamed? y = some m) (h2 : s.vm.method? m = some meth) (h3 : meth.code = some c) (h4 : c.code = bytes)
    (h5 : (c.maxLocals == mx && c.exceptionTable.isEmpty && decide (c.maxStack ≤ mostOperands) && decide (meth.sig.returnType = rt) && !meth.locks && decide (parseMethodDescriptor y.desc = some meth.sig)) = true) : (Jvm.Cond.code y bytes mx rt).before a s = true := by
  simp only [Bool.and_eq_true, beq_iff_eq, Bool.not_eq_true', decide_eq_true_eq] at h5
  obtain ⟨⟨⟨⟨⟨g1, g2⟩, g3⟩, g4⟩, g5⟩, g6⟩ := h5
  simp [Cond.before, Cond.holds, Cond.value, h1, h2, h3, h4, g1, g2, g3, g4, g5, g6]
def isCode : Jvm.Cond → Bool
  | .code _ _ _ _ => true
  | _ => false
theorem all_split {L : List Jvm.Cond} {P : Jvm.Cond → Bool} (h1 : L.all (fun c => isCode c || P c) = true) (h2 : ∀ c ∈ L.filter isCode, P c = true) : L.all P = true := by
  refine List.all_eq_true.mpr fun c hc => ?_
  have h := List.all_eq_true.mp h1 c hc
  rcases Bool.eq_false_or_eq_true (isCode c) with hi | hi
  · exact h2 c (List.mem_filter.mpr ⟨hc, hi⟩)
  · simpa [hi] using h
set_option maxRecDepth 65536 in
theorem w_c0 : (Jvm.Cond.code x code maxLocals ret).before args0 about1 = true := code_word (m := ⟨1, 1⟩) (meth := k1m1) (c := k1c1) (by decide +kernel) rfl rfl rfl (by decide +kernel)
set_option maxRecDepth 65536 in
theorem w_c1 : (Jvm.Cond.code ({ cls := "java/lang/String", name := "<init>", desc := "([C)V" } : Jvm.MethodName) jdk_42_method_3_code (2 : Nat) (Option.none : Option Jvm.ClassFile.FieldType)).before args0 about1 = true := code_word (m := ⟨9, 1⟩) (meth := k9m1) (c := k9c1) (by decide +kernel) rfl rfl rfl (by decide +kernel)
set_option maxRecDepth 65536 in
theorem w_c2 : (Jvm.Cond.code ({ cls := "java/lang/String", name := "<init>", desc := "([CIILjava/lang/Void;)V" } : Jvm.MethodName) jdk_42_method_149_code (6 : Nat) (Option.none : Option Jvm.ClassFile.FieldType)).before args0 about1 = true := code_word (m := ⟨9, 2⟩) (meth := k9m2) (c := k9c2) (by decide +kernel) rfl rfl rfl (by decide +kernel)
set_option maxRecDepth 65536 in
theorem w_c3 : (Jvm.Cond.code ({ cls := "java/lang/Object", name := "<init>", desc := "()V" } : Jvm.MethodName) object_method_1_code (1 : Nat) (Option.none : Option Jvm.ClassFile.FieldType)).before args0 about1 = true := code_word (m := ⟨0, 0⟩) (meth := k0m0) (c := k0c0) (by decide +kernel) rfl rfl rfl (by decide +kernel)
set_option maxRecDepth 65536 in
theorem w_c4 : (Jvm.Cond.code ({ cls := "java/lang/StringUTF16", name := "compress", desc := "([CII)[B" } : Jvm.MethodName) jdk_52_method_16_code (6 : Nat) (Option.some (Jvm.ClassFile.FieldType.array Jvm.ClassFile.FieldType.byte))).before args0 about1 = true := code_word (m := ⟨10, 2⟩) (meth := k10m2) (c := k10c2) (by decide +kernel) rfl rfl rfl (by decide +kernel)
set_option maxRecDepth 65536 in
theorem w_c5 : (Jvm.Cond.code ({ cls := "java/lang/StringUTF16", name := "compress", desc := "([CI[BII)I" } : Jvm.MethodName) jdk_52_method_21_code (7 : Nat) (Option.some Jvm.ClassFile.FieldType.int)).before args0 about1 = true := code_word (m := ⟨10, 3⟩) (meth := k10m3) (c := k10c3) (by decide +kernel) rfl rfl rfl (by decide +kernel)
set_option maxRecDepth 65536 in
theorem w_c6 : (Jvm.Cond.code ({ cls := "java/lang/StringUTF16", name := "coderFromArrayLen", desc := "([BI)B" } : Jvm.MethodName) jdk_52_method_15_code (2 : Nat) (Option.some Jvm.ClassFile.FieldType.byte)).before args0 about1 = true := code_word (m := ⟨10, 1⟩) (meth := k10m1) (c := k10c1) (by decide +kernel) rfl rfl rfl (by decide +kernel)
set_option maxRecDepth 65536 in
theorem w_c7 : (Jvm.Cond.code ({ cls := "axiomend/ontology/OntologyReadException", name := "<init>", desc := "(Ljava/lang/String;Laxiomend/ontology/OntologyReadException$Problem;Ljava/lang/String;)V" } : Jvm.MethodName) prog_67_method_1_code (4 : Nat) (Option.none : Option Jvm.ClassFile.FieldType)).before args0 about1 = true := code_word (m := ⟨13, 0⟩) (meth := k13m0) (c := k13c0) (by decide +kernel) rfl rfl rfl (by decide +kernel)
set_option maxRecDepth 65536 in
theorem w_c8 : (Jvm.Cond.code ({ cls := "java/lang/Exception", name := "<init>", desc := "(Ljava/lang/String;)V" } : Jvm.MethodName) jdk_59_method_2_code (2 : Nat) (Option.none : Option Jvm.ClassFile.FieldType)).before args0 about1 = true := code_word (m := ⟨12, 1⟩) (meth := k12m1) (c := k12c1) (by decide +kernel) rfl rfl rfl (by decide +kernel)
set_option maxRecDepth 65536 in
theorem w_c9 : (Jvm.Cond.code ({ cls := "java/lang/Throwable", name := "<init>", desc := "(Ljava/lang/String;)V" } : Jvm.MethodName) jdk_78_method_2_code (2 : Nat) (Option.none : Option Jvm.ClassFile.FieldType)).before args0 about1 = true := code_word (m := ⟨11, 1⟩) (meth := k11m1) (c := k11c1) (by decide +kernel) rfl rfl rfl (by decide +kernel)
set_option maxRecDepth 65536 in
theorem w_c10 : (Jvm.Cond.code ({ cls := "java/lang/Throwable", name := "<init>", desc := "()V" } : Jvm.MethodName) jdk_78_method_1_code (1 : Nat) (Option.none : Option Jvm.ClassFile.FieldType)).before args0 about1 = true := code_word (m := ⟨11, 0⟩) (meth := k11m0) (c := k11c0) (by decide +kernel) rfl rfl rfl (by decide +kernel)
set_option maxRecDepth 65536 in
theorem w_c11 : (Jvm.Cond.code ({ cls := "axiomend/ontology/OntologyReadException", name := "exitStatus", desc := "()I" } : Jvm.MethodName) prog_67_method_4_code (1 : Nat) (Option.some Jvm.ClassFile.FieldType.int)).before args0 about1 = true := code_word (m := ⟨13, 1⟩) (meth := k13m1) (c := k13c1) (by decide +kernel) rfl rfl rfl (by decide +kernel)
def codes1 : List Jvm.Cond := [Jvm.Cond.code x code maxLocals ret, Jvm.Cond.code ({ cls := "java/lang/String", name := "<init>", desc := "([C)V" } : Jvm.MethodName) jdk_42_method_3_code (2 : Nat) (Option.none : Option Jvm.ClassFile.FieldType), Jvm.Cond.code ({ cls := "java/lang/String", name := "<init>", desc := "([CIILjava/lang/Void;)V" } : Jvm.MethodName) jdk_42_method_149_code (6 : Nat) (Option.none : Option Jvm.ClassFile.FieldType), Jvm.Cond.code ({ cls := "java/lang/Object", name := "<init>", desc := "()V" } : Jvm.MethodName) object_method_1_code (1 : Nat) (Option.none : Option Jvm.ClassFile.FieldType), Jvm.Cond.code ({ cls := "java/lang/StringUTF16", name := "compress", desc := "([CII)[B" } : Jvm.MethodName) jdk_52_method_16_code (6 : Nat) (Option.some (Jvm.ClassFile.FieldType.array Jvm.ClassFile.FieldType.byte)), Jvm.Cond.code ({ cls := "java/lang/StringUTF16", name := "compress", desc := "([CI[BII)I" } : Jvm.MethodName) jdk_52_method_21_code (7 : Nat) (Option.some Jvm.ClassFile.FieldType.int), Jvm.Cond.code ({ cls := "java/lang/StringUTF16", name := "coderFromArrayLen", desc := "([BI)B" } : Jvm.MethodName) jdk_52_method_15_code (2 : Nat) (Option.some Jvm.ClassFile.FieldType.byte), Jvm.Cond.code ({ cls := "axiomend/ontology/OntologyReadException", name := "<init>", desc := "(Ljava/lang/String;Laxiomend/ontology/OntologyReadException$Problem;Ljava/lang/String;)V" } : Jvm.MethodName) prog_67_method_1_code (4 : Nat) (Option.none : Option Jvm.ClassFile.FieldType), Jvm.Cond.code ({ cls := "java/lang/Exception", name := "<init>", desc := "(Ljava/lang/String;)V" } : Jvm.MethodName) jdk_59_method_2_code (2 : Nat) (Option.none : Option Jvm.ClassFile.FieldType), Jvm.Cond.code ({ cls := "java/lang/Throwable", name := "<init>", desc := "(Ljava/lang/String;)V" } : Jvm.MethodName) jdk_78_method_2_code (2 : Nat) (Option.none : Option Jvm.ClassFile.FieldType), Jvm.Cond.code ({ cls := "java/lang/Throwable", name := "<init>", desc := "()V" } : Jvm.MethodName) jdk_78_method_1_code (1 : Nat) (Option.none : Option Jvm.ClassFile.FieldType), Jvm.Cond.code ({ cls := "axiomend/ontology/OntologyReadException", name := "exitStatus", desc := "()I" } : Jvm.MethodName) prog_67_method_4_code (1 : Nat) (Option.some Jvm.ClassFile.FieldType.int)]
set_option maxRecDepth 65536 in
theorem codes_eq : words1.filter isCode = codes1 := rfl
theorem w_codes : ∀ c ∈ words1.filter isCode, c.before args0 about1 = true := by
  rw [codes_eq]
  intro c hc
  simp only [codes1, List.mem_cons, List.not_mem_nil, or_false] at hc
  rcases hc with rfl | rfl | rfl | rfl | rfl | rfl | rfl | rfl | rfl | rfl | rfl | rfl
  · exact w_c0
  · exact w_c1
  · exact w_c2
  · exact w_c3
  · exact w_c4
  · exact w_c5
  · exact w_c6
  · exact w_c7
  · exact w_c8
  · exact w_c9
  · exact w_c10
  · exact w_c11
set_option maxRecDepth 65536 in
theorem w_t1 : (words1.take 24).all (fun c => isCode c || c.before args0 about1) = true := by decide +kernel
set_option maxRecDepth 65536 in
theorem w_t2 : ((words1.drop 24).take 24).all (fun c => isCode c || c.before args0 about1) = true := by decide +kernel
set_option maxRecDepth 65536 in
theorem w_t3 : (((words1.drop 24).drop 24).take 24).all (fun c => isCode c || c.before args0 about1) = true := by decide +kernel
set_option maxRecDepth 65536 in
theorem w_t4 : ((((words1.drop 24).drop 24).drop 24).take 24).all (fun c => isCode c || c.before args0 about1) = true := by decide +kernel
set_option maxRecDepth 65536 in
theorem w_t5 : ((((words1.drop 24).drop 24).drop 24).drop 24).all (fun c => isCode c || c.before args0 about1) = true := by decide +kernel
theorem w_tables : (allAtoms (Jvm.Cond.code x code maxLocals ret :: tables_1)).before args0 about1 = true := by
  rw [allAtoms_all]
  show words1.all (fun c => c.before args0 about1) = true
  refine all_split ?_ w_codes
  rw [← List.take_append_drop 24 words1, List.all_append, w_t1, ← List.take_append_drop 24 (words1.drop 24), List.all_append, w_t2, ← List.take_append_drop 24 ((words1.drop 24).drop 24), List.all_append, w_t3, ← List.take_append_drop 24 (((words1.drop 24).drop 24).drop 24), List.all_append, w_t4, w_t5]
  rfl
set_option maxRecDepth 65536 in
theorem w_rest : rest_1_c.before args0 about1 = true := by decide +kernel
set_option maxRecDepth 65536 in
theorem w_case : (Jvm.Cond.and given_1 narrow_1).before args0 about1 = true := by decide +kernel
theorem w_applies : (headSpec (Jvm.Cond.code x code maxLocals ret :: tables_1) room_1).applies x e0.platform about1 = true :=
  (Spec.applies_iff w_frames).mpr ⟨w_running, w_runnable, w_alone, w_named, w_hears, w_ripe, w_room, w_tables⟩
theorem atStart : AtStart classFile x code maxLocals ret World_1 tables_1 room_1 Calls_1 rest_1 Pre_1 launch0 p0 e0 about1 theMethod args0 below0 :=
  ⟨lists_1, trivial, launch0.admits_env _ _ _, launch0.least_env, fairChoices_fair.cas, fairChoices_fair.clock, w_frames, w_args, w_heap, w_applies, ⟨(by decide +kernel : framesKnown about1 = true), ⟨(by decide +kernel : tablesKnown about1 = true), trivial⟩⟩, w_rest, w_case⟩
end start1
theorem witness_1 : WitnessClaimed_1 := ⟨start1.p0, start1.e0, start1.about1, start1.theMethod, start1.args0, start1.below0, start1.atStart⟩
end Jvm.Pilot.@@N@@
