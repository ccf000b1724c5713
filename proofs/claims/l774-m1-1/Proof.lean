import JvmDerived
import JvmDerived.Pilot.@@N@@Statement
import JvmDerived.Pilot.@@N@@Code
set_option linter.unusedVariables false
set_option linter.unusedSimpArgs false
namespace Jvm.RoadKit
open Sem ClassFile Op Lib Jvm.Stand Jvm.Free Jvm.LawKit
section New
variable {p : Program} {l : Launch} {e : Env} {R : Room} {s : State} {m : MethodId} {args : Array Value} {below : List Frame} {meth : Method} {c : Code} {T : State} {locs : List Loc} {cells slots : Nat}
theorem retI (X : Stand p l e R s m args below meth c T locs cells slots) (hx : p.tables.exec = Jvm.exec) {pc : Nat} {Ls : Array Slot} {z : Int32} {rest : List Value} (hret : meth.sig.returnType = some .int) (hd : decode c.code pc = .ok (.ireturn, 1)) {fs : List Frame}
    (hl : ∀ (f : JFrame) (acts : List Action), f.method = m → f.locked = none → f.entered = [] → (doReturn e (T.setTop f) acts (some (.int z))).1 = T.setFrames fs) : Steps p.tables e below (T.setTop (mkF m pc Ls (.int z :: rest))) (T.setFrames fs) := by
  have hm' : T.vm.method? m = some meth := X.method'
  have hn : narrow .int (.int z) = .int z := rfl
  show Steps p.tables e below (T.setTop { method := m, pc := pc, locals := Ls, stack := _ :: rest, locked := none }) _
  jvm_step X.here [X.here.top, hx, hd, hm', hret, hn]
  first | (intro acts; rw [hl _ acts rfl rfl rfl]) | rw [hl _ _ rfl rfl rfl]
  exact Steps.refl _
theorem own_retJ (X : Stand p l e R s m args below meth c T locs cells slots) (hx : p.tables.exec = Jvm.exec) {pc : Nat} {Ls : Array Slot} {z : Int64} {rest : List Value} (hret : meth.sig.returnType = some .long) (hd : decode c.code pc = .ok (.lreturn, 1)) {fs : List Frame}
    (hl : ∀ (f : JFrame) (acts : List Action), f.method = m → f.locked = none → f.entered = [] → (doReturn e (T.setTop f) acts (some (.long z))).1 = T.setFrames fs) : Steps p.tables e below (T.setTop (mkF m pc Ls (.long z :: rest))) (T.setFrames fs) := by
  have hm' : T.vm.method? m = some meth := X.method'
  have hn : narrow .long (.long z) = .long z := rfl
  show Steps p.tables e below (T.setTop { method := m, pc := pc, locals := Ls, stack := _ :: rest, locked := none }) _
  jvm_step X.here [X.here.top, hx, hd, hm', hret, hn]
  first | (intro acts; rw [hl _ acts rfl rfl rfl]) | rw [hl _ _ rfl rfl rfl]
  exact Steps.refl _
theorem own_retD (X : Stand p l e R s m args below meth c T locs cells slots) (hx : p.tables.exec = Jvm.exec) {pc : Nat} {Ls : Array Slot} {z : UInt64} {rest : List Value} (hret : meth.sig.returnType = some .double) (hd : decode c.code pc = .ok (.dreturn, 1)) {fs : List Frame}
    (hl : ∀ (f : JFrame) (acts : List Action), f.method = m → f.locked = none → f.entered = [] → (doReturn e (T.setTop f) acts (some (.double z))).1 = T.setFrames fs) : Steps p.tables e below (T.setTop (mkF m pc Ls (.double z :: rest))) (T.setFrames fs) := by
  have hm' : T.vm.method? m = some meth := X.method'
  have hn : narrow .double (.double z) = .double z := rfl
  show Steps p.tables e below (T.setTop { method := m, pc := pc, locals := Ls, stack := _ :: rest, locked := none }) _
  jvm_step X.here [X.here.top, hx, hd, hm', hret, hn]
  first | (intro acts; rw [hl _ acts rfl rfl rfl]) | rw [hl _ _ rfl rfl rfl]
  exact Steps.refl _
theorem own_retR (X : Stand p l e R s m args below meth c T locs cells slots) (hx : p.tables.exec = Jvm.exec) {pc : Nat} {Ls : Array Slot} {w : Value} {t : FieldType} {rest : List Value} (hret : meth.sig.returnType = some t) (ht : t.isReference = true) (hw : w.isRef = true) (hd : decode c.code pc = .ok (.areturn, 1)) {fs : List Frame}
    (hl : ∀ (f : JFrame) (acts : List Action), f.method = m → f.locked = none → f.entered = [] → (doReturn e (T.setTop f) acts (some w)).1 = T.setFrames fs) : Steps p.tables e below (T.setTop (mkF m pc Ls (w :: rest))) (T.setFrames fs) := by
  have hm' : T.vm.method? m = some meth := X.method'
  rcases ref_cases hw with rfl | ⟨a, rfl⟩
  all_goals
    show Steps p.tables e below (T.setTop { method := m, pc := pc, locals := Ls, stack := _ :: rest, locked := none }) _
    jvm_step X.here [X.here.top, hx, hd, hm', hret, ht, Value.isRef]
    first | (intro acts; rw [hl _ acts rfl rfl rfl]) | rw [hl _ _ rfl rfl rfl]
    exact Steps.refl _
end New
end Jvm.RoadKit
namespace Jvm.Pilot.@@N@@
open Jvm Jvm.ClassFile Sem Op Lib Jvm.Free Jvm.Stand Jvm.LawKit Jvm.RoadKit Bundle Jvm.Pilot.@@N@@.Jvm.D
abbrev SS (p : Program) (e : Env) (below : List Frame) (T : State) (m : MethodId) (pc : Nat) (ls : Array Slot) (st : List Value) (t : State) : Prop := Steps p.tables e below (T.setTop (mkF m pc ls st)) t
theorem own_bool {P : Prop} [Decidable P] : nar .boolean (if P then (1 : Int32) else (0 : Int32)) = if P then (1 : Int32) else (0 : Int32) := by split <;> decide
theorem w0 {a0 : Array Value} {Z : State} (hw : ∀ d ∈ tables_1, d.before a0 Z = true) : (Jvm.Cond.constant "com/example/vestline/vestline/input/TextFilesEndsLinePinLaw" (7 : Nat) (2147483647 : Int32)).before a0 Z = true := hw _ (List.mem_of_getElem? (i := 0) rfl)
theorem w1 {a0 : Array Value} {Z : State} (hw : ∀ d ∈ tables_1, d.before a0 Z = true) : (Jvm.Cond.arrayClass Jvm.ClassFile.FieldType.char).before a0 Z = true := hw _ (List.mem_of_getElem? (i := 1) rfl)
theorem w2 {a0 : Array Value} {Z : State} (hw : ∀ d ∈ tables_1, d.before a0 Z = true) : (Jvm.Cond.methodLink "com/example/vestline/vestline/input/TextFilesEndsLinePinLaw" (8 : Nat) ({ cls := "com/example/vestline/vestline/input/TextFilesEndsLinePinLaw", name := "pick", desc := "(I)C" } : Jvm.MethodName)).before a0 Z = true := hw _ (List.mem_of_getElem? (i := 2) rfl)
theorem w3 {a0 : Array Value} {Z : State} (hw : ∀ d ∈ tables_1, d.before a0 Z = true) : (Jvm.Cond.static ({ cls := "com/example/vestline/vestline/input/TextFilesEndsLinePinLaw", name := "pick", desc := "(I)C" } : Jvm.MethodName)).before a0 Z = true := hw _ (List.mem_of_getElem? (i := 3) rfl)
theorem w4 {a0 : Array Value} {Z : State} (hw : ∀ d ∈ tables_1, d.before a0 Z = true) : (Jvm.Cond.initialized "com/example/vestline/vestline/input/TextFilesEndsLinePinLaw").before a0 Z = true := hw _ (List.mem_of_getElem? (i := 4) rfl)
theorem w5 {a0 : Array Value} {Z : State} (hw : ∀ d ∈ tables_1, d.before a0 Z = true) : (Jvm.Cond.code ({ cls := "com/example/vestline/vestline/input/TextFilesEndsLinePinLaw", name := "pick", desc := "(I)C" } : Jvm.MethodName) method_2_code (2 : Nat) (Option.some Jvm.ClassFile.FieldType.char)).before a0 Z = true := hw _ (List.mem_of_getElem? (i := 5) rfl)
theorem w6 {a0 : Array Value} {Z : State} (hw : ∀ d ∈ tables_1, d.before a0 Z = true) : (Jvm.Cond.classLink "com/example/vestline/vestline/input/TextFilesEndsLinePinLaw" (14 : Nat) "java/lang/String").before a0 Z = true := hw _ (List.mem_of_getElem? (i := 6) rfl)
theorem w7 {a0 : Array Value} {Z : State} (hw : ∀ d ∈ tables_1, d.before a0 Z = true) : (Jvm.Cond.instantiable "java/lang/String" (4 : Nat)).before a0 Z = true := hw _ (List.mem_of_getElem? (i := 7) rfl)
theorem w8 {a0 : Array Value} {Z : State} (hw : ∀ d ∈ tables_1, d.before a0 Z = true) : (Jvm.Cond.initialized "java/lang/String").before a0 Z = true := hw _ (List.mem_of_getElem? (i := 8) rfl)
theorem w9 {a0 : Array Value} {Z : State} (hw : ∀ d ∈ tables_1, d.before a0 Z = true) : (Jvm.Cond.methodLink "com/example/vestline/vestline/input/TextFilesEndsLinePinLaw" (16 : Nat) ({ cls := "java/lang/String", name := "<init>", desc := "([C)V" } : Jvm.MethodName)).before a0 Z = true := hw _ (List.mem_of_getElem? (i := 9) rfl)
theorem w10 {a0 : Array Value} {Z : State} (hw : ∀ d ∈ tables_1, d.before a0 Z = true) : (Jvm.Cond.instanceMethod ({ cls := "java/lang/String", name := "<init>", desc := "([C)V" } : Jvm.MethodName)).before a0 Z = true := hw _ (List.mem_of_getElem? (i := 10) rfl)
theorem w11 {a0 : Array Value} {Z : State} (hw : ∀ d ∈ tables_1, d.before a0 Z = true) : (Jvm.Cond.code ({ cls := "java/lang/String", name := "<init>", desc := "([C)V" } : Jvm.MethodName) jdk_42_method_3_code (2 : Nat) (Option.none : Option Jvm.ClassFile.FieldType)).before a0 Z = true := hw _ (List.mem_of_getElem? (i := 11) rfl)
theorem w12 {a0 : Array Value} {Z : State} (hw : ∀ d ∈ tables_1, d.before a0 Z = true) : (Jvm.Cond.methodLink "java/lang/String" (27 : Nat) ({ cls := "java/lang/String", name := "<init>", desc := "([CIILjava/lang/Void;)V" } : Jvm.MethodName)).before a0 Z = true := hw _ (List.mem_of_getElem? (i := 12) rfl)
theorem w13 {a0 : Array Value} {Z : State} (hw : ∀ d ∈ tables_1, d.before a0 Z = true) : (Jvm.Cond.instanceMethod ({ cls := "java/lang/String", name := "<init>", desc := "([CIILjava/lang/Void;)V" } : Jvm.MethodName)).before a0 Z = true := hw _ (List.mem_of_getElem? (i := 13) rfl)
theorem w15 {a0 : Array Value} {Z : State} (hw : ∀ d ∈ tables_1, d.before a0 Z = true) : (Jvm.Cond.code ({ cls := "java/lang/String", name := "<init>", desc := "([CIILjava/lang/Void;)V" } : Jvm.MethodName) jdk_42_method_149_code (6 : Nat) (Option.none : Option Jvm.ClassFile.FieldType)).before a0 Z = true := hw _ (List.mem_of_getElem? (i := 15) rfl)
theorem w16 {a0 : Array Value} {Z : State} (hw : ∀ d ∈ tables_1, d.before a0 Z = true) : (Jvm.Cond.methodLink "java/lang/String" (1 : Nat) ({ cls := "java/lang/Object", name := "<init>", desc := "()V" } : Jvm.MethodName)).before a0 Z = true := hw _ (List.mem_of_getElem? (i := 16) rfl)
theorem w17 {a0 : Array Value} {Z : State} (hw : ∀ d ∈ tables_1, d.before a0 Z = true) : (Jvm.Cond.instanceMethod ({ cls := "java/lang/Object", name := "<init>", desc := "()V" } : Jvm.MethodName)).before a0 Z = true := hw _ (List.mem_of_getElem? (i := 17) rfl)
theorem w18 {a0 : Array Value} {Z : State} (hw : ∀ d ∈ tables_1, d.before a0 Z = true) : (Jvm.Cond.code ({ cls := "java/lang/Object", name := "<init>", desc := "()V" } : Jvm.MethodName) object_method_1_code (1 : Nat) (Option.none : Option Jvm.ClassFile.FieldType)).before a0 Z = true := hw _ (List.mem_of_getElem? (i := 18) rfl)
theorem w19 {a0 : Array Value} {Z : State} (hw : ∀ d ∈ tables_1, d.before a0 Z = true) : (Jvm.Cond.fieldLink "java/lang/String" (38 : Nat) "java/lang/String" "COMPACT_STRINGS" "Z").before a0 Z = true := hw _ (List.mem_of_getElem? (i := 19) rfl)
theorem w20 {a0 : Array Value} {Z : State} (hw : ∀ d ∈ tables_1, d.before a0 Z = true) : (Jvm.Cond.methodLink "java/lang/String" (177 : Nat) ({ cls := "java/lang/StringUTF16", name := "compress", desc := "([CII)[B" } : Jvm.MethodName)).before a0 Z = true := hw _ (List.mem_of_getElem? (i := 20) rfl)
theorem w21 {a0 : Array Value} {Z : State} (hw : ∀ d ∈ tables_1, d.before a0 Z = true) : (Jvm.Cond.static ({ cls := "java/lang/StringUTF16", name := "compress", desc := "([CII)[B" } : Jvm.MethodName)).before a0 Z = true := hw _ (List.mem_of_getElem? (i := 21) rfl)
theorem w22 {a0 : Array Value} {Z : State} (hw : ∀ d ∈ tables_1, d.before a0 Z = true) : (Jvm.Cond.initialized "java/lang/StringUTF16").before a0 Z = true := hw _ (List.mem_of_getElem? (i := 22) rfl)
theorem w23 {a0 : Array Value} {Z : State} (hw : ∀ d ∈ tables_1, d.before a0 Z = true) : (Jvm.Cond.code ({ cls := "java/lang/StringUTF16", name := "compress", desc := "([CII)[B" } : Jvm.MethodName) jdk_52_method_16_code (6 : Nat) (Option.some (Jvm.ClassFile.FieldType.array Jvm.ClassFile.FieldType.byte))).before a0 Z = true := hw _ (List.mem_of_getElem? (i := 23) rfl)
theorem w24 {a0 : Array Value} {Z : State} (hw : ∀ d ∈ tables_1, d.before a0 Z = true) : (Jvm.Cond.arrayClass Jvm.ClassFile.FieldType.byte).before a0 Z = true := hw _ (List.mem_of_getElem? (i := 24) rfl)
theorem w25 {a0 : Array Value} {Z : State} (hw : ∀ d ∈ tables_1, d.before a0 Z = true) : (Jvm.Cond.methodLink "java/lang/StringUTF16" (115 : Nat) ({ cls := "java/lang/StringUTF16", name := "compress", desc := "([CI[BII)I" } : Jvm.MethodName)).before a0 Z = true := hw _ (List.mem_of_getElem? (i := 25) rfl)
theorem w26 {a0 : Array Value} {Z : State} (hw : ∀ d ∈ tables_1, d.before a0 Z = true) : (Jvm.Cond.static ({ cls := "java/lang/StringUTF16", name := "compress", desc := "([CI[BII)I" } : Jvm.MethodName)).before a0 Z = true := hw _ (List.mem_of_getElem? (i := 26) rfl)
theorem w27 {a0 : Array Value} {Z : State} (hw : ∀ d ∈ tables_1, d.before a0 Z = true) : (Jvm.Cond.code ({ cls := "java/lang/StringUTF16", name := "compress", desc := "([CI[BII)I" } : Jvm.MethodName) jdk_52_method_21_code (7 : Nat) (Option.some Jvm.ClassFile.FieldType.int)).before a0 Z = true := hw _ (List.mem_of_getElem? (i := 27) rfl)
theorem w28 {a0 : Array Value} {Z : State} (hw : ∀ d ∈ tables_1, d.before a0 Z = true) : (Jvm.Cond.methodLink "java/lang/String" (47 : Nat) ({ cls := "java/lang/StringUTF16", name := "coderFromArrayLen", desc := "([BI)B" } : Jvm.MethodName)).before a0 Z = true := hw _ (List.mem_of_getElem? (i := 28) rfl)
theorem w29 {a0 : Array Value} {Z : State} (hw : ∀ d ∈ tables_1, d.before a0 Z = true) : (Jvm.Cond.static ({ cls := "java/lang/StringUTF16", name := "coderFromArrayLen", desc := "([BI)B" } : Jvm.MethodName)).before a0 Z = true := hw _ (List.mem_of_getElem? (i := 29) rfl)
theorem w30 {a0 : Array Value} {Z : State} (hw : ∀ d ∈ tables_1, d.before a0 Z = true) : (Jvm.Cond.code ({ cls := "java/lang/StringUTF16", name := "coderFromArrayLen", desc := "([BI)B" } : Jvm.MethodName) jdk_52_method_15_code (2 : Nat) (Option.some Jvm.ClassFile.FieldType.byte)).before a0 Z = true := hw _ (List.mem_of_getElem? (i := 30) rfl)
theorem w31 {a0 : Array Value} {Z : State} (hw : ∀ d ∈ tables_1, d.before a0 Z = true) : (Jvm.Cond.fieldLink "java/lang/String" (15 : Nat) "java/lang/String" "coder" "B").before a0 Z = true := hw _ (List.mem_of_getElem? (i := 31) rfl)
theorem w32 {a0 : Array Value} {Z : State} (hw : ∀ d ∈ tables_1, d.before a0 Z = true) : (Jvm.Cond.laysFinal "java/lang/String" "java/lang/String" "coder" "B").before a0 Z = true := hw _ (List.mem_of_getElem? (i := 32) rfl)
theorem w33 {a0 : Array Value} {Z : State} (hw : ∀ d ∈ tables_1, d.before a0 Z = true) : (Jvm.Cond.fieldLink "java/lang/String" (9 : Nat) "java/lang/String" "value" "[B").before a0 Z = true := hw _ (List.mem_of_getElem? (i := 33) rfl)
theorem w34 {a0 : Array Value} {Z : State} (hw : ∀ d ∈ tables_1, d.before a0 Z = true) : (Jvm.Cond.laysFinal "java/lang/String" "java/lang/String" "value" "[B").before a0 Z = true := hw _ (List.mem_of_getElem? (i := 34) rfl)
theorem w35 {a0 : Array Value} {Z : State} (hw : ∀ d ∈ tables_1, d.before a0 Z = true) : (Jvm.Cond.methodLink "com/example/vestline/vestline/input/TextFilesEndsLinePinLaw" (19 : Nat) ({ cls := "com/example/vestline/vestline/input/TextFiles", name := "endsLine", desc := "(Ljava/lang/String;I)Z" } : Jvm.MethodName)).before a0 Z = true := hw _ (List.mem_of_getElem? (i := 35) rfl)
theorem w36 {a0 : Array Value} {Z : State} (hw : ∀ d ∈ tables_1, d.before a0 Z = true) : (Jvm.Cond.static ({ cls := "com/example/vestline/vestline/input/TextFiles", name := "endsLine", desc := "(Ljava/lang/String;I)Z" } : Jvm.MethodName)).before a0 Z = true := hw _ (List.mem_of_getElem? (i := 36) rfl)
theorem w37 {a0 : Array Value} {Z : State} (hw : ∀ d ∈ tables_1, d.before a0 Z = true) : (Jvm.Cond.initialized "com/example/vestline/vestline/input/TextFiles").before a0 Z = true := hw _ (List.mem_of_getElem? (i := 37) rfl)
theorem w38 {a0 : Array Value} {Z : State} (hw : ∀ d ∈ tables_1, d.before a0 Z = true) : (Jvm.Cond.code ({ cls := "com/example/vestline/vestline/input/TextFiles", name := "endsLine", desc := "(Ljava/lang/String;I)Z" } : Jvm.MethodName) prog_12_method_5_code (3 : Nat) (Option.some Jvm.ClassFile.FieldType.boolean)).before a0 Z = true := hw _ (List.mem_of_getElem? (i := 38) rfl)
theorem w39 {a0 : Array Value} {Z : State} (hw : ∀ d ∈ tables_1, d.before a0 Z = true) : (Jvm.Cond.methodLink "com/example/vestline/vestline/input/TextFiles" (126 : Nat) ({ cls := "java/lang/String", name := "charAt", desc := "(I)C" } : Jvm.MethodName)).before a0 Z = true := hw _ (List.mem_of_getElem? (i := 39) rfl)
theorem w40 {a0 : Array Value} {Z : State} (hw : ∀ d ∈ tables_1, d.before a0 Z = true) : (Jvm.Cond.declares ({ cls := "java/lang/String", name := "charAt", desc := "(I)C" } : Jvm.MethodName)).before a0 Z = true := hw _ (List.mem_of_getElem? (i := 40) rfl)
theorem w41 {a0 : Array Value} {Z : State} (hw : ∀ d ∈ tables_1, d.before a0 Z = true) : (Jvm.Cond.instanceMethod ({ cls := "java/lang/String", name := "charAt", desc := "(I)C" } : Jvm.MethodName)).before a0 Z = true := hw _ (List.mem_of_getElem? (i := 41) rfl)
theorem w42 {a0 : Array Value} {Z : State} (hw : ∀ d ∈ tables_1, d.before a0 Z = true) : (Jvm.Cond.selects "java/lang/String" ({ cls := "java/lang/String", name := "charAt", desc := "(I)C" } : Jvm.MethodName) ({ cls := "java/lang/String", name := "charAt", desc := "(I)C" } : Jvm.MethodName)).before a0 Z = true := hw _ (List.mem_of_getElem? (i := 42) rfl)
theorem w43 {a0 : Array Value} {Z : State} (hw : ∀ d ∈ tables_1, d.before a0 Z = true) : (Jvm.Cond.code ({ cls := "java/lang/String", name := "charAt", desc := "(I)C" } : Jvm.MethodName) jdk_42_method_56_code (2 : Nat) (Option.some Jvm.ClassFile.FieldType.char)).before a0 Z = true := hw _ (List.mem_of_getElem? (i := 43) rfl)
theorem w44 {a0 : Array Value} {Z : State} (hw : ∀ d ∈ tables_1, d.before a0 Z = true) : (Jvm.Cond.methodLink "java/lang/String" (492 : Nat) ({ cls := "java/lang/String", name := "isLatin1", desc := "()Z" } : Jvm.MethodName)).before a0 Z = true := hw _ (List.mem_of_getElem? (i := 44) rfl)
theorem w45 {a0 : Array Value} {Z : State} (hw : ∀ d ∈ tables_1, d.before a0 Z = true) : (Jvm.Cond.declares ({ cls := "java/lang/String", name := "isLatin1", desc := "()Z" } : Jvm.MethodName)).before a0 Z = true := hw _ (List.mem_of_getElem? (i := 45) rfl)
theorem w46 {a0 : Array Value} {Z : State} (hw : ∀ d ∈ tables_1, d.before a0 Z = true) : (Jvm.Cond.instanceMethod ({ cls := "java/lang/String", name := "isLatin1", desc := "()Z" } : Jvm.MethodName)).before a0 Z = true := hw _ (List.mem_of_getElem? (i := 46) rfl)
theorem w47 {a0 : Array Value} {Z : State} (hw : ∀ d ∈ tables_1, d.before a0 Z = true) : (Jvm.Cond.selects "java/lang/String" ({ cls := "java/lang/String", name := "isLatin1", desc := "()Z" } : Jvm.MethodName) ({ cls := "java/lang/String", name := "isLatin1", desc := "()Z" } : Jvm.MethodName)).before a0 Z = true := hw _ (List.mem_of_getElem? (i := 47) rfl)
theorem w48 {a0 : Array Value} {Z : State} (hw : ∀ d ∈ tables_1, d.before a0 Z = true) : (Jvm.Cond.code ({ cls := "java/lang/String", name := "isLatin1", desc := "()Z" } : Jvm.MethodName) jdk_42_method_154_code (1 : Nat) (Option.some Jvm.ClassFile.FieldType.boolean)).before a0 Z = true := hw _ (List.mem_of_getElem? (i := 48) rfl)
theorem w49 {a0 : Array Value} {Z : State} (hw : ∀ d ∈ tables_1, d.before a0 Z = true) : (Jvm.Cond.methodLink "java/lang/String" (495 : Nat) ({ cls := "java/lang/StringLatin1", name := "charAt", desc := "([BI)C" } : Jvm.MethodName)).before a0 Z = true := hw _ (List.mem_of_getElem? (i := 49) rfl)
theorem w50 {a0 : Array Value} {Z : State} (hw : ∀ d ∈ tables_1, d.before a0 Z = true) : (Jvm.Cond.static ({ cls := "java/lang/StringLatin1", name := "charAt", desc := "([BI)C" } : Jvm.MethodName)).before a0 Z = true := hw _ (List.mem_of_getElem? (i := 50) rfl)
theorem w51 {a0 : Array Value} {Z : State} (hw : ∀ d ∈ tables_1, d.before a0 Z = true) : (Jvm.Cond.initialized "java/lang/StringLatin1").before a0 Z = true := hw _ (List.mem_of_getElem? (i := 51) rfl)
theorem w52 {a0 : Array Value} {Z : State} (hw : ∀ d ∈ tables_1, d.before a0 Z = true) : (Jvm.Cond.code ({ cls := "java/lang/StringLatin1", name := "charAt", desc := "([BI)C" } : Jvm.MethodName) jdk_43_method_2_code (2 : Nat) (Option.some Jvm.ClassFile.FieldType.char)).before a0 Z = true := hw _ (List.mem_of_getElem? (i := 52) rfl)
theorem w53 {a0 : Array Value} {Z : State} (hw : ∀ d ∈ tables_1, d.before a0 Z = true) : (Jvm.Cond.methodLink "java/lang/StringLatin1" (9 : Nat) ({ cls := "java/lang/String", name := "checkIndex", desc := "(II)V" } : Jvm.MethodName)).before a0 Z = true := hw _ (List.mem_of_getElem? (i := 53) rfl)
theorem w54 {a0 : Array Value} {Z : State} (hw : ∀ d ∈ tables_1, d.before a0 Z = true) : (Jvm.Cond.static ({ cls := "java/lang/String", name := "checkIndex", desc := "(II)V" } : Jvm.MethodName)).before a0 Z = true := hw _ (List.mem_of_getElem? (i := 54) rfl)
theorem w55 {a0 : Array Value} {Z : State} (hw : ∀ d ∈ tables_1, d.before a0 Z = true) : (Jvm.Cond.code ({ cls := "java/lang/String", name := "checkIndex", desc := "(II)V" } : Jvm.MethodName) jdk_42_method_155_code (2 : Nat) (Option.none : Option Jvm.ClassFile.FieldType)).before a0 Z = true := hw _ (List.mem_of_getElem? (i := 55) rfl)
theorem w56 {a0 : Array Value} {Z : State} (hw : ∀ d ∈ tables_1, d.before a0 Z = true) : (Jvm.Cond.fieldLink "java/lang/String" (1053 : Nat) "jdk/internal/util/Preconditions" "SIOOBE_FORMATTER" "Ljava/util/function/BiFunction;").before a0 Z = true := hw _ (List.mem_of_getElem? (i := 56) rfl)
theorem w57 {a0 : Array Value} {Z : State} (hw : ∀ d ∈ tables_1, d.before a0 Z = true) : (Jvm.Cond.initialized "jdk/internal/util/Preconditions").before a0 Z = true := hw _ (List.mem_of_getElem? (i := 57) rfl)
theorem w58 {a0 : Array Value} {Z : State} (hw : ∀ d ∈ tables_1, d.before a0 Z = true) : (Jvm.Cond.methodLink "java/lang/String" (1059 : Nat) ({ cls := "jdk/internal/util/Preconditions", name := "checkIndex", desc := "(IILjava/util/function/BiFunction;)I" } : Jvm.MethodName)).before a0 Z = true := hw _ (List.mem_of_getElem? (i := 58) rfl)
theorem w59 {a0 : Array Value} {Z : State} (hw : ∀ d ∈ tables_1, d.before a0 Z = true) : (Jvm.Cond.static ({ cls := "jdk/internal/util/Preconditions", name := "checkIndex", desc := "(IILjava/util/function/BiFunction;)I" } : Jvm.MethodName)).before a0 Z = true := hw _ (List.mem_of_getElem? (i := 59) rfl)
theorem w60 {a0 : Array Value} {Z : State} (hw : ∀ d ∈ tables_1, d.before a0 Z = true) : (Jvm.Cond.code ({ cls := "jdk/internal/util/Preconditions", name := "checkIndex", desc := "(IILjava/util/function/BiFunction;)I" } : Jvm.MethodName) jdk_41_method_11_code (3 : Nat) (Option.some Jvm.ClassFile.FieldType.int)).before a0 Z = true := hw _ (List.mem_of_getElem? (i := 60) rfl)
theorem w61 {a0 : Array Value} {Z : State} (hw : ∀ d ∈ tables_1, d.before a0 Z = true) : (Jvm.Cond.methodLink "com/example/vestline/vestline/input/TextFiles" (132 : Nat) ({ cls := "java/lang/String", name := "length", desc := "()I" } : Jvm.MethodName)).before a0 Z = true := hw _ (List.mem_of_getElem? (i := 61) rfl)
theorem w62 {a0 : Array Value} {Z : State} (hw : ∀ d ∈ tables_1, d.before a0 Z = true) : (Jvm.Cond.declares ({ cls := "java/lang/String", name := "length", desc := "()I" } : Jvm.MethodName)).before a0 Z = true := hw _ (List.mem_of_getElem? (i := 62) rfl)
theorem w63 {a0 : Array Value} {Z : State} (hw : ∀ d ∈ tables_1, d.before a0 Z = true) : (Jvm.Cond.instanceMethod ({ cls := "java/lang/String", name := "length", desc := "()I" } : Jvm.MethodName)).before a0 Z = true := hw _ (List.mem_of_getElem? (i := 63) rfl)
theorem w64 {a0 : Array Value} {Z : State} (hw : ∀ d ∈ tables_1, d.before a0 Z = true) : (Jvm.Cond.selects "java/lang/String" ({ cls := "java/lang/String", name := "length", desc := "()I" } : Jvm.MethodName) ({ cls := "java/lang/String", name := "length", desc := "()I" } : Jvm.MethodName)).before a0 Z = true := hw _ (List.mem_of_getElem? (i := 64) rfl)
theorem w65 {a0 : Array Value} {Z : State} (hw : ∀ d ∈ tables_1, d.before a0 Z = true) : (Jvm.Cond.code ({ cls := "java/lang/String", name := "length", desc := "()I" } : Jvm.MethodName) jdk_42_method_54_code (1 : Nat) (Option.some Jvm.ClassFile.FieldType.int)).before a0 Z = true := hw _ (List.mem_of_getElem? (i := 65) rfl)
theorem w66 {a0 : Array Value} {Z : State} (hw : ∀ d ∈ tables_1, d.before a0 Z = true) : (Jvm.Cond.methodLink "java/lang/String" (335 : Nat) ({ cls := "java/lang/String", name := "coder", desc := "()B" } : Jvm.MethodName)).before a0 Z = true := hw _ (List.mem_of_getElem? (i := 66) rfl)
theorem w67 {a0 : Array Value} {Z : State} (hw : ∀ d ∈ tables_1, d.before a0 Z = true) : (Jvm.Cond.declares ({ cls := "java/lang/String", name := "coder", desc := "()B" } : Jvm.MethodName)).before a0 Z = true := hw _ (List.mem_of_getElem? (i := 67) rfl)
theorem w68 {a0 : Array Value} {Z : State} (hw : ∀ d ∈ tables_1, d.before a0 Z = true) : (Jvm.Cond.instanceMethod ({ cls := "java/lang/String", name := "coder", desc := "()B" } : Jvm.MethodName)).before a0 Z = true := hw _ (List.mem_of_getElem? (i := 68) rfl)
theorem w69 {a0 : Array Value} {Z : State} (hw : ∀ d ∈ tables_1, d.before a0 Z = true) : (Jvm.Cond.selects "java/lang/String" ({ cls := "java/lang/String", name := "coder", desc := "()B" } : Jvm.MethodName) ({ cls := "java/lang/String", name := "coder", desc := "()B" } : Jvm.MethodName)).before a0 Z = true := hw _ (List.mem_of_getElem? (i := 69) rfl)
theorem w70 {a0 : Array Value} {Z : State} (hw : ∀ d ∈ tables_1, d.before a0 Z = true) : (Jvm.Cond.code ({ cls := "java/lang/String", name := "coder", desc := "()B" } : Jvm.MethodName) jdk_42_method_152_code (1 : Nat) (Option.some Jvm.ClassFile.FieldType.byte)).before a0 Z = true := hw _ (List.mem_of_getElem? (i := 70) rfl)
theorem w71 {a0 : Array Value} {Z : State} (hw : ∀ d ∈ tables_1, d.before a0 Z = true) : (Jvm.Cond.methodLink "java/lang/StringUTF16" (119 : Nat) ({ cls := "java/lang/StringUTF16", name := "toBytes", desc := "([CII)[B" } : Jvm.MethodName)).before a0 Z = true := hw _ (List.mem_of_getElem? (i := 71) rfl)
theorem w72 {a0 : Array Value} {Z : State} (hw : ∀ d ∈ tables_1, d.before a0 Z = true) : (Jvm.Cond.static ({ cls := "java/lang/StringUTF16", name := "toBytes", desc := "([CII)[B" } : Jvm.MethodName)).before a0 Z = true := hw _ (List.mem_of_getElem? (i := 72) rfl)
theorem w73 {a0 : Array Value} {Z : State} (hw : ∀ d ∈ tables_1, d.before a0 Z = true) : (Jvm.Cond.code ({ cls := "java/lang/StringUTF16", name := "toBytes", desc := "([CII)[B" } : Jvm.MethodName) jdk_52_method_14_code (5 : Nat) (Option.some (Jvm.ClassFile.FieldType.array Jvm.ClassFile.FieldType.byte))).before a0 Z = true := hw _ (List.mem_of_getElem? (i := 73) rfl)
theorem w74 {a0 : Array Value} {Z : State} (hw : ∀ d ∈ tables_1, d.before a0 Z = true) : (Jvm.Cond.methodLink "java/lang/StringUTF16" (107 : Nat) ({ cls := "java/lang/StringUTF16", name := "newBytesFor", desc := "(I)[B" } : Jvm.MethodName)).before a0 Z = true := hw _ (List.mem_of_getElem? (i := 74) rfl)
theorem w75 {a0 : Array Value} {Z : State} (hw : ∀ d ∈ tables_1, d.before a0 Z = true) : (Jvm.Cond.static ({ cls := "java/lang/StringUTF16", name := "newBytesFor", desc := "(I)[B" } : Jvm.MethodName)).before a0 Z = true := hw _ (List.mem_of_getElem? (i := 75) rfl)
theorem w76 {a0 : Array Value} {Z : State} (hw : ∀ d ∈ tables_1, d.before a0 Z = true) : (Jvm.Cond.code ({ cls := "java/lang/StringUTF16", name := "newBytesFor", desc := "(I)[B" } : Jvm.MethodName) jdk_52_method_2_code (1 : Nat) (Option.some (Jvm.ClassFile.FieldType.array Jvm.ClassFile.FieldType.byte))).before a0 Z = true := hw _ (List.mem_of_getElem? (i := 76) rfl)
theorem w77 {a0 : Array Value} {Z : State} (hw : ∀ d ∈ tables_1, d.before a0 Z = true) : (Jvm.Cond.methodLink "java/lang/StringUTF16" (11 : Nat) ({ cls := "java/lang/StringUTF16", name := "newBytesLength", desc := "(I)I" } : Jvm.MethodName)).before a0 Z = true := hw _ (List.mem_of_getElem? (i := 77) rfl)
theorem w78 {a0 : Array Value} {Z : State} (hw : ∀ d ∈ tables_1, d.before a0 Z = true) : (Jvm.Cond.static ({ cls := "java/lang/StringUTF16", name := "newBytesLength", desc := "(I)I" } : Jvm.MethodName)).before a0 Z = true := hw _ (List.mem_of_getElem? (i := 78) rfl)
theorem w79 {a0 : Array Value} {Z : State} (hw : ∀ d ∈ tables_1, d.before a0 Z = true) : (Jvm.Cond.code ({ cls := "java/lang/StringUTF16", name := "newBytesLength", desc := "(I)I" } : Jvm.MethodName) jdk_52_method_3_code (1 : Nat) (Option.some Jvm.ClassFile.FieldType.int)).before a0 Z = true := hw _ (List.mem_of_getElem? (i := 79) rfl)
theorem w80 {a0 : Array Value} {Z : State} (hw : ∀ d ∈ tables_1, d.before a0 Z = true) : (Jvm.Cond.constant "java/lang/StringUTF16" (20 : Nat) (1073741823 : Int32)).before a0 Z = true := hw _ (List.mem_of_getElem? (i := 80) rfl)
theorem w81 {a0 : Array Value} {Z : State} (hw : ∀ d ∈ tables_1, d.before a0 Z = true) : (Jvm.Cond.methodLink "java/lang/StringUTF16" (111 : Nat) ({ cls := "java/lang/StringUTF16", name := "putChar", desc := "([BII)V" } : Jvm.MethodName)).before a0 Z = true := hw _ (List.mem_of_getElem? (i := 81) rfl)
theorem w82 {a0 : Array Value} {Z : State} (hw : ∀ d ∈ tables_1, d.before a0 Z = true) : (Jvm.Cond.static ({ cls := "java/lang/StringUTF16", name := "putChar", desc := "([BII)V" } : Jvm.MethodName)).before a0 Z = true := hw _ (List.mem_of_getElem? (i := 82) rfl)
theorem w83 {a0 : Array Value} {Z : State} (hw : ∀ d ∈ tables_1, d.before a0 Z = true) : (Jvm.Cond.code ({ cls := "java/lang/StringUTF16", name := "putChar", desc := "([BII)V" } : Jvm.MethodName) jdk_52_method_4_code (3 : Nat) (Option.none : Option Jvm.ClassFile.FieldType)).before a0 Z = true := hw _ (List.mem_of_getElem? (i := 83) rfl)
theorem w84 {a0 : Array Value} {Z : State} (hw : ∀ d ∈ tables_1, d.before a0 Z = true) : (Jvm.Cond.fieldLink "java/lang/StringUTF16" (44 : Nat) "java/lang/StringUTF16" "$assertionsDisabled" "Z").before a0 Z = true := hw _ (List.mem_of_getElem? (i := 84) rfl)
theorem w85 {a0 : Array Value} {Z : State} (hw : ∀ d ∈ tables_1, d.before a0 Z = true) : (Jvm.Cond.fieldLink "java/lang/StringUTF16" (59 : Nat) "java/lang/StringUTF16" "HI_BYTE_SHIFT" "I").before a0 Z = true := hw _ (List.mem_of_getElem? (i := 85) rfl)
theorem w86 {a0 : Array Value} {Z : State} (hw : ∀ d ∈ tables_1, d.before a0 Z = true) : (Jvm.Cond.fieldLink "java/lang/StringUTF16" (63 : Nat) "java/lang/StringUTF16" "LO_BYTE_SHIFT" "I").before a0 Z = true := hw _ (List.mem_of_getElem? (i := 86) rfl)
theorem w87 {a0 : Array Value} {Z : State} (hw : ∀ d ∈ tables_1, d.before a0 Z = true) : (Jvm.Cond.methodLink "java/lang/StringUTF16" (71 : Nat) ({ cls := "java/lang/StringUTF16", name := "getChar", desc := "([BI)C" } : Jvm.MethodName)).before a0 Z = true := hw _ (List.mem_of_getElem? (i := 87) rfl)
theorem w88 {a0 : Array Value} {Z : State} (hw : ∀ d ∈ tables_1, d.before a0 Z = true) : (Jvm.Cond.static ({ cls := "java/lang/StringUTF16", name := "getChar", desc := "([BI)C" } : Jvm.MethodName)).before a0 Z = true := hw _ (List.mem_of_getElem? (i := 88) rfl)
theorem w89 {a0 : Array Value} {Z : State} (hw : ∀ d ∈ tables_1, d.before a0 Z = true) : (Jvm.Cond.code ({ cls := "java/lang/StringUTF16", name := "getChar", desc := "([BI)C" } : Jvm.MethodName) jdk_52_method_5_code (2 : Nat) (Option.some Jvm.ClassFile.FieldType.char)).before a0 Z = true := hw _ (List.mem_of_getElem? (i := 89) rfl)
theorem w90 {a0 : Array Value} {Z : State} (hw : ∀ d ∈ tables_1, d.before a0 Z = true) : (Jvm.Cond.methodLink "java/lang/String" (498 : Nat) ({ cls := "java/lang/StringUTF16", name := "charAt", desc := "([BI)C" } : Jvm.MethodName)).before a0 Z = true := hw _ (List.mem_of_getElem? (i := 90) rfl)
theorem w91 {a0 : Array Value} {Z : State} (hw : ∀ d ∈ tables_1, d.before a0 Z = true) : (Jvm.Cond.static ({ cls := "java/lang/StringUTF16", name := "charAt", desc := "([BI)C" } : Jvm.MethodName)).before a0 Z = true := hw _ (List.mem_of_getElem? (i := 91) rfl)
theorem w92 {a0 : Array Value} {Z : State} (hw : ∀ d ∈ tables_1, d.before a0 Z = true) : (Jvm.Cond.code ({ cls := "java/lang/StringUTF16", name := "charAt", desc := "([BI)C" } : Jvm.MethodName) jdk_52_method_83_code (2 : Nat) (Option.some Jvm.ClassFile.FieldType.char)).before a0 Z = true := hw _ (List.mem_of_getElem? (i := 92) rfl)
theorem w93 {a0 : Array Value} {Z : State} (hw : ∀ d ∈ tables_1, d.before a0 Z = true) : (Jvm.Cond.methodLink "java/lang/StringUTF16" (67 : Nat) ({ cls := "java/lang/StringUTF16", name := "checkIndex", desc := "(I[B)V" } : Jvm.MethodName)).before a0 Z = true := hw _ (List.mem_of_getElem? (i := 93) rfl)
theorem w94 {a0 : Array Value} {Z : State} (hw : ∀ d ∈ tables_1, d.before a0 Z = true) : (Jvm.Cond.static ({ cls := "java/lang/StringUTF16", name := "checkIndex", desc := "(I[B)V" } : Jvm.MethodName)).before a0 Z = true := hw _ (List.mem_of_getElem? (i := 94) rfl)
theorem w95 {a0 : Array Value} {Z : State} (hw : ∀ d ∈ tables_1, d.before a0 Z = true) : (Jvm.Cond.code ({ cls := "java/lang/StringUTF16", name := "checkIndex", desc := "(I[B)V" } : Jvm.MethodName) jdk_52_method_91_code (2 : Nat) (Option.none : Option Jvm.ClassFile.FieldType)).before a0 Z = true := hw _ (List.mem_of_getElem? (i := 95) rfl)
theorem w96 {a0 : Array Value} {Z : State} (hw : ∀ d ∈ tables_1, d.before a0 Z = true) : (Jvm.Cond.methodLink "java/lang/StringUTF16" (48 : Nat) ({ cls := "java/lang/StringUTF16", name := "length", desc := "([B)I" } : Jvm.MethodName)).before a0 Z = true := hw _ (List.mem_of_getElem? (i := 96) rfl)
theorem w97 {a0 : Array Value} {Z : State} (hw : ∀ d ∈ tables_1, d.before a0 Z = true) : (Jvm.Cond.static ({ cls := "java/lang/StringUTF16", name := "length", desc := "([B)I" } : Jvm.MethodName)).before a0 Z = true := hw _ (List.mem_of_getElem? (i := 97) rfl)
theorem w98 {a0 : Array Value} {Z : State} (hw : ∀ d ∈ tables_1, d.before a0 Z = true) : (Jvm.Cond.code ({ cls := "java/lang/StringUTF16", name := "length", desc := "([B)I" } : Jvm.MethodName) jdk_52_method_6_code (1 : Nat) (Option.some Jvm.ClassFile.FieldType.int)).before a0 Z = true := hw _ (List.mem_of_getElem? (i := 98) rfl)
theorem w99 {a0 : Array Value} {Z : State} (hw : ∀ d ∈ tables_1, d.before a0 Z = true) : (Jvm.Cond.methodLink "java/lang/StringUTF16" (414 : Nat) ({ cls := "java/lang/String", name := "checkIndex", desc := "(II)V" } : Jvm.MethodName)).before a0 Z = true := hw _ (List.mem_of_getElem? (i := 99) rfl)
theorem ef_pick (m : MethodId) (x0 : Int32) : entryFrame m #[(.int x0)] 2 = mkF m 0 #[.val (.int x0), .unset] [] := by first | (simp [entryFrame, mkF, argsToLocals, Value.category]; done) | rfl
theorem pn_com_example_vestline_vestline_input_TextFilesEndsLinePinLaw : plainName "com/example/vestline/vestline/input/TextFilesEndsLinePinLaw" = true := by first | (simp [plainName, overriddenIn]; done) | decide +kernel
theorem d_method_2_0 : decode method_2_code 0 = .ok (.iload_n 0, 1) := by decide +kernel
theorem d_method_2_1 : decode method_2_code 1 = .ok (.iconst 3, 1) := by decide +kernel
theorem d_method_2_2 : decode method_2_code 2 = .ok (.iand, 1) := by decide +kernel
theorem d_method_2_3 : decode method_2_code 3 = .ok (.istore_n 1, 1) := by decide +kernel
theorem d_method_2_4 : decode method_2_code 4 = .ok (.iload_n 1, 1) := by decide +kernel
theorem d_method_2_5 : decode method_2_code 5 = .ok (.ifCond .ne 6, 3) := by decide +kernel
theorem d_method_2_8 : decode method_2_code 8 = .ok (.bipush 10, 2) := by decide +kernel
theorem d_method_2_10 : decode method_2_code 10 = .ok (.ireturn, 1) := by decide +kernel
theorem d_method_2_11 : decode method_2_code 11 = .ok (.iload_n 1, 1) := by decide +kernel
theorem d_method_2_12 : decode method_2_code 12 = .ok (.iconst 1, 1) := by decide +kernel
theorem d_method_2_13 : decode method_2_code 13 = .ok (.if_icmp .ne 6, 3) := by decide +kernel
theorem d_method_2_16 : decode method_2_code 16 = .ok (.bipush 13, 2) := by decide +kernel
theorem d_method_2_18 : decode method_2_code 18 = .ok (.ireturn, 1) := by decide +kernel
theorem d_method_2_19 : decode method_2_code 19 = .ok (.iload_n 0, 1) := by decide +kernel
theorem d_method_2_20 : decode method_2_code 20 = .ok (.iconst 2, 1) := by decide +kernel
theorem d_method_2_21 : decode method_2_code 21 = .ok (.iushr, 1) := by decide +kernel
theorem d_method_2_22 : decode method_2_code 22 = .ok (.i2c, 1) := by decide +kernel
theorem d_method_2_23 : decode method_2_code 23 = .ok (.ireturn, 1) := by decide +kernel
theorem ef_pcheck (m : MethodId) (x0 : Int32) (x1 : Int32) (x2 : Value) (hx2 : x2.category = 1) : entryFrame m #[(.int x0), (.int x1), x2] 3 = mkF m 0 #[.val (.int x0), .val (.int x1), .val x2] [] := by first | (simp [entryFrame, mkF, argsToLocals, Value.category, hx2]; done) | rfl | (cases x2 <;> first | rfl | (simp [Value.category] at hx2))
theorem pn_jdk_internal_util_Preconditions : plainName "jdk/internal/util/Preconditions" = true := by first | (simp [plainName, overriddenIn]; done) | decide +kernel
theorem d_jdk_41_method_11_0 : decode jdk_41_method_11_code 0 = .ok (.iload_n 0, 1) := by decide +kernel
theorem d_jdk_41_method_11_1 : decode jdk_41_method_11_code 1 = .ok (.ifCond .lt 8, 3) := by decide +kernel
theorem d_jdk_41_method_11_4 : decode jdk_41_method_11_code 4 = .ok (.iload_n 0, 1) := by decide +kernel
theorem d_jdk_41_method_11_5 : decode jdk_41_method_11_code 5 = .ok (.iload_n 1, 1) := by decide +kernel
theorem d_jdk_41_method_11_6 : decode jdk_41_method_11_code 6 = .ok (.if_icmp .lt 10, 3) := by decide +kernel
theorem d_jdk_41_method_11_16 : decode jdk_41_method_11_code 16 = .ok (.iload_n 0, 1) := by decide +kernel
theorem d_jdk_41_method_11_17 : decode jdk_41_method_11_code 17 = .ok (.ireturn, 1) := by decide +kernel
theorem ef_scheck (m : MethodId) (x0 : Int32) (x1 : Int32) : entryFrame m #[(.int x0), (.int x1)] 2 = mkF m 0 #[.val (.int x0), .val (.int x1)] [] := by first | (simp [entryFrame, mkF, argsToLocals, Value.category]; done) | rfl
theorem pn_java_lang_String : plainName "java/lang/String" = true := by first | (simp [plainName, overriddenIn]; done) | decide +kernel
theorem d_jdk_42_method_155_0 : decode jdk_42_method_155_code 0 = .ok (.iload_n 0, 1) := by decide +kernel
theorem d_jdk_42_method_155_1 : decode jdk_42_method_155_code 1 = .ok (.iload_n 1, 1) := by decide +kernel
theorem d_jdk_42_method_155_2 : decode jdk_42_method_155_code 2 = .ok (.getstatic 1053, 3) := by decide +kernel
theorem d_jdk_42_method_155_5 : decode jdk_42_method_155_code 5 = .ok (.invokestatic 1059, 3) := by decide +kernel
theorem pd__28_IILjava_2f_util_2f_function_2f_BiFunction_3b__29_I : parseMethodDescriptor "(IILjava/util/function/BiFunction;)I" = some ⟨[.int, .int, (.object "java/util/function/BiFunction")], some .int⟩ := by decide +kernel
theorem d_jdk_42_method_155_8 : decode jdk_42_method_155_code 8 = .ok (.pop, 1) := by decide +kernel
theorem d_jdk_42_method_155_9 : decode jdk_42_method_155_code 9 = .ok (.return_, 1) := by decide +kernel
theorem ef_l1charAt (m : MethodId) (x0 : Addr) (x1 : Int32) : entryFrame m #[(.ref x0), (.int x1)] 2 = mkF m 0 #[.val (.ref x0), .val (.int x1)] [] := by first | (simp [entryFrame, mkF, argsToLocals, Value.category]; done) | rfl
theorem pn_java_lang_StringLatin1 : plainName "java/lang/StringLatin1" = true := by first | (simp [plainName, overriddenIn]; done) | decide +kernel
theorem d_jdk_43_method_2_0 : decode jdk_43_method_2_code 0 = .ok (.iload_n 1, 1) := by decide +kernel
theorem d_jdk_43_method_2_1 : decode jdk_43_method_2_code 1 = .ok (.aload_n 0, 1) := by decide +kernel
theorem d_jdk_43_method_2_2 : decode jdk_43_method_2_code 2 = .ok (.arraylength, 1) := by decide +kernel
theorem d_jdk_43_method_2_3 : decode jdk_43_method_2_code 3 = .ok (.invokestatic 9, 3) := by decide +kernel
theorem pd__28_II_29_V : parseMethodDescriptor "(II)V" = some ⟨[.int, .int], none⟩ := by decide +kernel
theorem d_jdk_43_method_2_6 : decode jdk_43_method_2_code 6 = .ok (.aload_n 0, 1) := by decide +kernel
theorem d_jdk_43_method_2_7 : decode jdk_43_method_2_code 7 = .ok (.iload_n 1, 1) := by decide +kernel
theorem d_jdk_43_method_2_8 : decode jdk_43_method_2_code 8 = .ok (.baload, 1) := by decide +kernel
theorem d_jdk_43_method_2_9 : decode jdk_43_method_2_code 9 = .ok (.sipush 255, 3) := by decide +kernel
theorem d_jdk_43_method_2_12 : decode jdk_43_method_2_code 12 = .ok (.iand, 1) := by decide +kernel
theorem d_jdk_43_method_2_13 : decode jdk_43_method_2_code 13 = .ok (.i2c, 1) := by decide +kernel
theorem d_jdk_43_method_2_14 : decode jdk_43_method_2_code 14 = .ok (.ireturn, 1) := by decide +kernel
theorem ef_u16length (m : MethodId) (x0 : Addr) : entryFrame m #[(.ref x0)] 1 = mkF m 0 #[.val (.ref x0)] [] := by first | (simp [entryFrame, mkF, argsToLocals, Value.category]; done) | rfl
theorem pn_java_lang_StringUTF16 : plainName "java/lang/StringUTF16" = true := by first | (simp [plainName, overriddenIn]; done) | decide +kernel
theorem d_jdk_52_method_6_0 : decode jdk_52_method_6_code 0 = .ok (.aload_n 0, 1) := by decide +kernel
theorem d_jdk_52_method_6_1 : decode jdk_52_method_6_code 1 = .ok (.arraylength, 1) := by decide +kernel
theorem d_jdk_52_method_6_2 : decode jdk_52_method_6_code 2 = .ok (.iconst 1, 1) := by decide +kernel
theorem d_jdk_52_method_6_3 : decode jdk_52_method_6_code 3 = .ok (.ishr, 1) := by decide +kernel
theorem d_jdk_52_method_6_4 : decode jdk_52_method_6_code 4 = .ok (.ireturn, 1) := by decide +kernel
theorem ef_u16check (m : MethodId) (x0 : Int32) (x1 : Addr) : entryFrame m #[(.int x0), (.ref x1)] 2 = mkF m 0 #[.val (.int x0), .val (.ref x1)] [] := by first | (simp [entryFrame, mkF, argsToLocals, Value.category]; done) | rfl
theorem d_jdk_52_method_91_0 : decode jdk_52_method_91_code 0 = .ok (.iload_n 0, 1) := by decide +kernel
theorem d_jdk_52_method_91_1 : decode jdk_52_method_91_code 1 = .ok (.aload_n 1, 1) := by decide +kernel
theorem d_jdk_52_method_91_2 : decode jdk_52_method_91_code 2 = .ok (.invokestatic 48, 3) := by decide +kernel
theorem pd__28__5b_B_29_I : parseMethodDescriptor "([B)I" = some ⟨[(.array .byte)], some .int⟩ := by decide +kernel
theorem d_jdk_52_method_91_5 : decode jdk_52_method_91_code 5 = .ok (.invokestatic 414, 3) := by decide +kernel
theorem d_jdk_52_method_91_8 : decode jdk_52_method_91_code 8 = .ok (.return_, 1) := by decide +kernel
theorem ef_getChar (m : MethodId) (x0 : Addr) (x1 : Int32) : entryFrame m #[(.ref x0), (.int x1)] 2 = mkF m 0 #[.val (.ref x0), .val (.int x1)] [] := by first | (simp [entryFrame, mkF, argsToLocals, Value.category]; done) | rfl
theorem d_jdk_52_method_5_0 : decode jdk_52_method_5_code 0 = .ok (.getstatic 44, 3) := by decide +kernel
theorem d_jdk_52_method_5_3 : decode jdk_52_method_5_code 3 = .ok (.ifCond .ne 25, 3) := by decide +kernel
theorem d_jdk_52_method_5_28 : decode jdk_52_method_5_code 28 = .ok (.iload_n 1, 1) := by decide +kernel
theorem d_jdk_52_method_5_29 : decode jdk_52_method_5_code 29 = .ok (.iconst 1, 1) := by decide +kernel
theorem d_jdk_52_method_5_30 : decode jdk_52_method_5_code 30 = .ok (.ishl, 1) := by decide +kernel
theorem d_jdk_52_method_5_31 : decode jdk_52_method_5_code 31 = .ok (.istore_n 1, 1) := by decide +kernel
theorem d_jdk_52_method_5_32 : decode jdk_52_method_5_code 32 = .ok (.aload_n 0, 1) := by decide +kernel
theorem d_jdk_52_method_5_33 : decode jdk_52_method_5_code 33 = .ok (.iload_n 1, 1) := by decide +kernel
theorem d_jdk_52_method_5_34 : decode jdk_52_method_5_code 34 = .ok (.iinc 1 1, 3) := by decide +kernel
theorem d_jdk_52_method_5_37 : decode jdk_52_method_5_code 37 = .ok (.baload, 1) := by decide +kernel
theorem d_jdk_52_method_5_38 : decode jdk_52_method_5_code 38 = .ok (.sipush 255, 3) := by decide +kernel
theorem d_jdk_52_method_5_41 : decode jdk_52_method_5_code 41 = .ok (.iand, 1) := by decide +kernel
theorem d_jdk_52_method_5_42 : decode jdk_52_method_5_code 42 = .ok (.getstatic 59, 3) := by decide +kernel
theorem d_jdk_52_method_5_45 : decode jdk_52_method_5_code 45 = .ok (.ishl, 1) := by decide +kernel
theorem d_jdk_52_method_5_46 : decode jdk_52_method_5_code 46 = .ok (.aload_n 0, 1) := by decide +kernel
theorem d_jdk_52_method_5_47 : decode jdk_52_method_5_code 47 = .ok (.iload_n 1, 1) := by decide +kernel
theorem d_jdk_52_method_5_48 : decode jdk_52_method_5_code 48 = .ok (.baload, 1) := by decide +kernel
theorem d_jdk_52_method_5_49 : decode jdk_52_method_5_code 49 = .ok (.sipush 255, 3) := by decide +kernel
theorem d_jdk_52_method_5_52 : decode jdk_52_method_5_code 52 = .ok (.iand, 1) := by decide +kernel
theorem d_jdk_52_method_5_53 : decode jdk_52_method_5_code 53 = .ok (.getstatic 63, 3) := by decide +kernel
theorem d_jdk_52_method_5_56 : decode jdk_52_method_5_code 56 = .ok (.ishl, 1) := by decide +kernel
theorem d_jdk_52_method_5_57 : decode jdk_52_method_5_code 57 = .ok (.ior, 1) := by decide +kernel
theorem d_jdk_52_method_5_58 : decode jdk_52_method_5_code 58 = .ok (.i2c, 1) := by decide +kernel
theorem d_jdk_52_method_5_59 : decode jdk_52_method_5_code 59 = .ok (.ireturn, 1) := by decide +kernel
theorem ef_u16charAt (m : MethodId) (x0 : Addr) (x1 : Int32) : entryFrame m #[(.ref x0), (.int x1)] 2 = mkF m 0 #[.val (.ref x0), .val (.int x1)] [] := by first | (simp [entryFrame, mkF, argsToLocals, Value.category]; done) | rfl
theorem d_jdk_52_method_83_0 : decode jdk_52_method_83_code 0 = .ok (.iload_n 1, 1) := by decide +kernel
theorem d_jdk_52_method_83_1 : decode jdk_52_method_83_code 1 = .ok (.aload_n 0, 1) := by decide +kernel
theorem d_jdk_52_method_83_2 : decode jdk_52_method_83_code 2 = .ok (.invokestatic 67, 3) := by decide +kernel
theorem pd__28_I_5b_B_29_V : parseMethodDescriptor "(I[B)V" = some ⟨[.int, (.array .byte)], none⟩ := by decide +kernel
theorem d_jdk_52_method_83_5 : decode jdk_52_method_83_code 5 = .ok (.aload_n 0, 1) := by decide +kernel
theorem d_jdk_52_method_83_6 : decode jdk_52_method_83_code 6 = .ok (.iload_n 1, 1) := by decide +kernel
theorem d_jdk_52_method_83_7 : decode jdk_52_method_83_code 7 = .ok (.invokestatic 71, 3) := by decide +kernel
theorem pd__28__5b_BI_29_C : parseMethodDescriptor "([BI)C" = some ⟨[(.array .byte), .int], some .char⟩ := by decide +kernel
theorem d_jdk_52_method_83_10 : decode jdk_52_method_83_code 10 = .ok (.ireturn, 1) := by decide +kernel
theorem ef_isLatin1 (m : MethodId) (x0 : Addr) : entryFrame m #[(.ref x0)] 1 = mkF m 0 #[.val (.ref x0)] [] := by first | (simp [entryFrame, mkF, argsToLocals, Value.category]; done) | rfl
theorem d_jdk_42_method_154_0 : decode jdk_42_method_154_code 0 = .ok (.getstatic 38, 3) := by decide +kernel
theorem d_jdk_42_method_154_3 : decode jdk_42_method_154_code 3 = .ok (.ifCond .eq 14, 3) := by decide +kernel
theorem d_jdk_42_method_154_6 : decode jdk_42_method_154_code 6 = .ok (.aload_n 0, 1) := by decide +kernel
theorem d_jdk_42_method_154_7 : decode jdk_42_method_154_code 7 = .ok (.getfield 15, 3) := by decide +kernel
theorem d_jdk_42_method_154_10 : decode jdk_42_method_154_code 10 = .ok (.ifCond .ne 7, 3) := by decide +kernel
theorem d_jdk_42_method_154_13 : decode jdk_42_method_154_code 13 = .ok (.iconst 1, 1) := by decide +kernel
theorem d_jdk_42_method_154_14 : decode jdk_42_method_154_code 14 = .ok (.goto 4, 3) := by decide +kernel
theorem d_jdk_42_method_154_17 : decode jdk_42_method_154_code 17 = .ok (.iconst 0, 1) := by decide +kernel
theorem d_jdk_42_method_154_18 : decode jdk_42_method_154_code 18 = .ok (.ireturn, 1) := by decide +kernel
theorem ef_charAt (m : MethodId) (x0 : Addr) (x1 : Int32) : entryFrame m #[(.ref x0), (.int x1)] 2 = mkF m 0 #[.val (.ref x0), .val (.int x1)] [] := by first | (simp [entryFrame, mkF, argsToLocals, Value.category]; done) | rfl
theorem d_jdk_42_method_56_0 : decode jdk_42_method_56_code 0 = .ok (.aload_n 0, 1) := by decide +kernel
theorem d_jdk_42_method_56_1 : decode jdk_42_method_56_code 1 = .ok (.invokevirtual 492, 3) := by decide +kernel
theorem pd__28__29_Z : parseMethodDescriptor "()Z" = some ⟨[], some .boolean⟩ := by decide +kernel
theorem d_jdk_42_method_56_4 : decode jdk_42_method_56_code 4 = .ok (.ifCond .eq 12, 3) := by decide +kernel
theorem d_jdk_42_method_56_7 : decode jdk_42_method_56_code 7 = .ok (.aload_n 0, 1) := by decide +kernel
theorem d_jdk_42_method_56_8 : decode jdk_42_method_56_code 8 = .ok (.getfield 9, 3) := by decide +kernel
theorem d_jdk_42_method_56_11 : decode jdk_42_method_56_code 11 = .ok (.iload_n 1, 1) := by decide +kernel
theorem d_jdk_42_method_56_12 : decode jdk_42_method_56_code 12 = .ok (.invokestatic 495, 3) := by decide +kernel
theorem d_jdk_42_method_56_15 : decode jdk_42_method_56_code 15 = .ok (.ireturn, 1) := by decide +kernel
theorem d_jdk_42_method_56_16 : decode jdk_42_method_56_code 16 = .ok (.aload_n 0, 1) := by decide +kernel
theorem d_jdk_42_method_56_17 : decode jdk_42_method_56_code 17 = .ok (.getfield 9, 3) := by decide +kernel
theorem d_jdk_42_method_56_20 : decode jdk_42_method_56_code 20 = .ok (.iload_n 1, 1) := by decide +kernel
theorem d_jdk_42_method_56_21 : decode jdk_42_method_56_code 21 = .ok (.invokestatic 498, 3) := by decide +kernel
theorem d_jdk_42_method_56_24 : decode jdk_42_method_56_code 24 = .ok (.ireturn, 1) := by decide +kernel
theorem ef_coder (m : MethodId) (x0 : Addr) : entryFrame m #[(.ref x0)] 1 = mkF m 0 #[.val (.ref x0)] [] := by first | (simp [entryFrame, mkF, argsToLocals, Value.category]; done) | rfl
theorem d_jdk_42_method_152_0 : decode jdk_42_method_152_code 0 = .ok (.getstatic 38, 3) := by decide +kernel
theorem d_jdk_42_method_152_3 : decode jdk_42_method_152_code 3 = .ok (.ifCond .eq 10, 3) := by decide +kernel
theorem d_jdk_42_method_152_6 : decode jdk_42_method_152_code 6 = .ok (.aload_n 0, 1) := by decide +kernel
theorem d_jdk_42_method_152_7 : decode jdk_42_method_152_code 7 = .ok (.getfield 15, 3) := by decide +kernel
theorem d_jdk_42_method_152_10 : decode jdk_42_method_152_code 10 = .ok (.goto 4, 3) := by decide +kernel
theorem d_jdk_42_method_152_14 : decode jdk_42_method_152_code 14 = .ok (.ireturn, 1) := by decide +kernel
theorem ef_length (m : MethodId) (x0 : Addr) : entryFrame m #[(.ref x0)] 1 = mkF m 0 #[.val (.ref x0)] [] := by first | (simp [entryFrame, mkF, argsToLocals, Value.category]; done) | rfl
theorem d_jdk_42_method_54_0 : decode jdk_42_method_54_code 0 = .ok (.aload_n 0, 1) := by decide +kernel
theorem d_jdk_42_method_54_1 : decode jdk_42_method_54_code 1 = .ok (.getfield 9, 3) := by decide +kernel
theorem d_jdk_42_method_54_4 : decode jdk_42_method_54_code 4 = .ok (.arraylength, 1) := by decide +kernel
theorem d_jdk_42_method_54_5 : decode jdk_42_method_54_code 5 = .ok (.aload_n 0, 1) := by decide +kernel
theorem d_jdk_42_method_54_6 : decode jdk_42_method_54_code 6 = .ok (.invokevirtual 335, 3) := by decide +kernel
theorem pd__28__29_B : parseMethodDescriptor "()B" = some ⟨[], some .byte⟩ := by decide +kernel
theorem d_jdk_42_method_54_9 : decode jdk_42_method_54_code 9 = .ok (.ishr, 1) := by decide +kernel
theorem d_jdk_42_method_54_10 : decode jdk_42_method_54_code 10 = .ok (.ireturn, 1) := by decide +kernel
theorem d_jdk_52_method_21_3 : decode jdk_52_method_21_code 3 = .ok (.iload 5, 2) := by decide +kernel
theorem d_jdk_52_method_21_5 : decode jdk_52_method_21_code 5 = .ok (.iload 4, 2) := by decide +kernel
theorem d_jdk_52_method_21_7 : decode jdk_52_method_21_code 7 = .ok (.if_icmp .ge 37, 3) := by decide +kernel
theorem d_jdk_52_method_21_44 : decode jdk_52_method_21_code 44 = .ok (.iload 4, 2) := by decide +kernel
theorem d_jdk_52_method_21_46 : decode jdk_52_method_21_code 46 = .ok (.ireturn, 1) := by decide +kernel
theorem d_jdk_52_method_21_10 : decode jdk_52_method_21_code 10 = .ok (.aload_n 0, 1) := by decide +kernel
theorem d_jdk_52_method_21_11 : decode jdk_52_method_21_code 11 = .ok (.iload_n 1, 1) := by decide +kernel
theorem d_jdk_52_method_21_12 : decode jdk_52_method_21_code 12 = .ok (.caload, 1) := by decide +kernel
theorem d_jdk_52_method_21_13 : decode jdk_52_method_21_code 13 = .ok (.istore 6, 2) := by decide +kernel
theorem d_jdk_52_method_21_15 : decode jdk_52_method_21_code 15 = .ok (.iload 6, 2) := by decide +kernel
theorem d_jdk_52_method_21_17 : decode jdk_52_method_21_code 17 = .ok (.sipush 255, 3) := by decide +kernel
theorem d_jdk_52_method_21_20 : decode jdk_52_method_21_code 20 = .ok (.if_icmp .le 6, 3) := by decide +kernel
theorem d_jdk_52_method_21_23 : decode jdk_52_method_21_code 23 = .ok (.iload 5, 2) := by decide +kernel
theorem d_jdk_52_method_21_25 : decode jdk_52_method_21_code 25 = .ok (.ireturn, 1) := by decide +kernel
theorem d_jdk_52_method_21_26 : decode jdk_52_method_21_code 26 = .ok (.aload_n 2, 1) := by decide +kernel
theorem d_jdk_52_method_21_27 : decode jdk_52_method_21_code 27 = .ok (.iload_n 3, 1) := by decide +kernel
theorem d_jdk_52_method_21_28 : decode jdk_52_method_21_code 28 = .ok (.iload 6, 2) := by decide +kernel
theorem d_jdk_52_method_21_30 : decode jdk_52_method_21_code 30 = .ok (.i2b, 1) := by decide +kernel
theorem d_jdk_52_method_21_31 : decode jdk_52_method_21_code 31 = .ok (.bastore, 1) := by decide +kernel
theorem d_jdk_52_method_21_32 : decode jdk_52_method_21_code 32 = .ok (.iinc 1 1, 3) := by decide +kernel
theorem d_jdk_52_method_21_35 : decode jdk_52_method_21_code 35 = .ok (.iinc 3 1, 3) := by decide +kernel
theorem d_jdk_52_method_21_38 : decode jdk_52_method_21_code 38 = .ok (.iinc 5 1, 3) := by decide +kernel
theorem d_jdk_52_method_21_41 : decode jdk_52_method_21_code 41 = .ok (.goto (-38), 3) := by decide +kernel
theorem ef_compress21 (m : MethodId) (x0 : Addr) (x1 : Int32) (x2 : Addr) (x3 : Int32) (x4 : Int32) : entryFrame m #[(.ref x0), (.int x3), (.ref x2), (.int x3), (.int x4)] 7 = mkF m 0 #[.val (.ref x0), .val (.int x3), .val (.ref x2), .val (.int x3), .val (.int x4), .unset, .unset] [] := by first | (simp [entryFrame, mkF, argsToLocals, Value.category]; done) | rfl
theorem d_jdk_52_method_21_0 : decode jdk_52_method_21_code 0 = .ok (.iconst 0, 1) := by decide +kernel
theorem d_jdk_52_method_21_1 : decode jdk_52_method_21_code 1 = .ok (.istore 5, 2) := by decide +kernel
theorem ef_coderOf (m : MethodId) (x0 : Addr) (x1 : Int32) : entryFrame m #[(.ref x0), (.int x1)] 2 = mkF m 0 #[.val (.ref x0), .val (.int x1)] [] := by first | (simp [entryFrame, mkF, argsToLocals, Value.category]; done) | rfl
theorem d_jdk_52_method_15_0 : decode jdk_52_method_15_code 0 = .ok (.iload_n 1, 1) := by decide +kernel
theorem d_jdk_52_method_15_1 : decode jdk_52_method_15_code 1 = .ok (.aload_n 0, 1) := by decide +kernel
theorem d_jdk_52_method_15_2 : decode jdk_52_method_15_code 2 = .ok (.arraylength, 1) := by decide +kernel
theorem d_jdk_52_method_15_3 : decode jdk_52_method_15_code 3 = .ok (.isub, 1) := by decide +kernel
theorem d_jdk_52_method_15_4 : decode jdk_52_method_15_code 4 = .ok (.bipush 31, 2) := by decide +kernel
theorem d_jdk_52_method_15_6 : decode jdk_52_method_15_code 6 = .ok (.iushr, 1) := by decide +kernel
theorem d_jdk_52_method_15_7 : decode jdk_52_method_15_code 7 = .ok (.i2b, 1) := by decide +kernel
theorem d_jdk_52_method_15_8 : decode jdk_52_method_15_code 8 = .ok (.ireturn, 1) := by decide +kernel
theorem ef_nbl (m : MethodId) (x0 : Int32) : entryFrame m #[(.int x0)] 1 = mkF m 0 #[.val (.int x0)] [] := by first | (simp [entryFrame, mkF, argsToLocals, Value.category]; done) | rfl
theorem d_jdk_52_method_3_0 : decode jdk_52_method_3_code 0 = .ok (.iload_n 0, 1) := by decide +kernel
theorem d_jdk_52_method_3_1 : decode jdk_52_method_3_code 1 = .ok (.ifCond .ge 11, 3) := by decide +kernel
theorem d_jdk_52_method_3_12 : decode jdk_52_method_3_code 12 = .ok (.iload_n 0, 1) := by decide +kernel
theorem d_jdk_52_method_3_13 : decode jdk_52_method_3_code 13 = .ok (.ldc 20, 2) := by decide +kernel
theorem d_jdk_52_method_3_15 : decode jdk_52_method_3_code 15 = .ok (.if_icmp .lt 40, 3) := by decide +kernel
theorem d_jdk_52_method_3_55 : decode jdk_52_method_3_code 55 = .ok (.iload_n 0, 1) := by decide +kernel
theorem d_jdk_52_method_3_56 : decode jdk_52_method_3_code 56 = .ok (.iconst 1, 1) := by decide +kernel
theorem d_jdk_52_method_3_57 : decode jdk_52_method_3_code 57 = .ok (.ishl, 1) := by decide +kernel
theorem d_jdk_52_method_3_58 : decode jdk_52_method_3_code 58 = .ok (.ireturn, 1) := by decide +kernel
theorem ef_nbf (m : MethodId) (x0 : Int32) : entryFrame m #[(.int x0)] 1 = mkF m 0 #[.val (.int x0)] [] := by first | (simp [entryFrame, mkF, argsToLocals, Value.category]; done) | rfl
theorem d_jdk_52_method_2_0 : decode jdk_52_method_2_code 0 = .ok (.iload_n 0, 1) := by decide +kernel
theorem d_jdk_52_method_2_1 : decode jdk_52_method_2_code 1 = .ok (.invokestatic 11, 3) := by decide +kernel
theorem pd__28_I_29_I : parseMethodDescriptor "(I)I" = some ⟨[.int], some .int⟩ := by decide +kernel
theorem d_jdk_52_method_2_4 : decode jdk_52_method_2_code 4 = .ok (.newarray .byte, 2) := by decide +kernel
theorem d_jdk_52_method_2_6 : decode jdk_52_method_2_code 6 = .ok (.areturn, 1) := by decide +kernel
theorem ef_putChar (m : MethodId) (x0 : Addr) (x1 : Int32) (x2 : Int32) : entryFrame m #[(.ref x0), (.int x1), (.int x2)] 3 = mkF m 0 #[.val (.ref x0), .val (.int x1), .val (.int x2)] [] := by first | (simp [entryFrame, mkF, argsToLocals, Value.category]; done) | rfl
theorem d_jdk_52_method_4_0 : decode jdk_52_method_4_code 0 = .ok (.getstatic 44, 3) := by decide +kernel
theorem d_jdk_52_method_4_3 : decode jdk_52_method_4_code 3 = .ok (.ifCond .ne 25, 3) := by decide +kernel
theorem d_jdk_52_method_4_28 : decode jdk_52_method_4_code 28 = .ok (.iload_n 1, 1) := by decide +kernel
theorem d_jdk_52_method_4_29 : decode jdk_52_method_4_code 29 = .ok (.iconst 1, 1) := by decide +kernel
theorem d_jdk_52_method_4_30 : decode jdk_52_method_4_code 30 = .ok (.ishl, 1) := by decide +kernel
theorem d_jdk_52_method_4_31 : decode jdk_52_method_4_code 31 = .ok (.istore_n 1, 1) := by decide +kernel
theorem d_jdk_52_method_4_32 : decode jdk_52_method_4_code 32 = .ok (.aload_n 0, 1) := by decide +kernel
theorem d_jdk_52_method_4_33 : decode jdk_52_method_4_code 33 = .ok (.iload_n 1, 1) := by decide +kernel
theorem d_jdk_52_method_4_34 : decode jdk_52_method_4_code 34 = .ok (.iinc 1 1, 3) := by decide +kernel
theorem d_jdk_52_method_4_37 : decode jdk_52_method_4_code 37 = .ok (.iload_n 2, 1) := by decide +kernel
theorem d_jdk_52_method_4_38 : decode jdk_52_method_4_code 38 = .ok (.getstatic 59, 3) := by decide +kernel
theorem d_jdk_52_method_4_41 : decode jdk_52_method_4_code 41 = .ok (.ishr, 1) := by decide +kernel
theorem d_jdk_52_method_4_42 : decode jdk_52_method_4_code 42 = .ok (.i2b, 1) := by decide +kernel
theorem d_jdk_52_method_4_43 : decode jdk_52_method_4_code 43 = .ok (.bastore, 1) := by decide +kernel
theorem d_jdk_52_method_4_44 : decode jdk_52_method_4_code 44 = .ok (.aload_n 0, 1) := by decide +kernel
theorem d_jdk_52_method_4_45 : decode jdk_52_method_4_code 45 = .ok (.iload_n 1, 1) := by decide +kernel
theorem d_jdk_52_method_4_46 : decode jdk_52_method_4_code 46 = .ok (.iload_n 2, 1) := by decide +kernel
theorem d_jdk_52_method_4_47 : decode jdk_52_method_4_code 47 = .ok (.getstatic 63, 3) := by decide +kernel
theorem d_jdk_52_method_4_50 : decode jdk_52_method_4_code 50 = .ok (.ishr, 1) := by decide +kernel
theorem d_jdk_52_method_4_51 : decode jdk_52_method_4_code 51 = .ok (.i2b, 1) := by decide +kernel
theorem d_jdk_52_method_4_52 : decode jdk_52_method_4_code 52 = .ok (.bastore, 1) := by decide +kernel
theorem d_jdk_52_method_4_53 : decode jdk_52_method_4_code 53 = .ok (.return_, 1) := by decide +kernel
theorem d_jdk_52_method_14_8 : decode jdk_52_method_14_code 8 = .ok (.iload 4, 2) := by decide +kernel
theorem d_jdk_52_method_14_10 : decode jdk_52_method_14_code 10 = .ok (.iload_n 2, 1) := by decide +kernel
theorem d_jdk_52_method_14_11 : decode jdk_52_method_14_code 11 = .ok (.if_icmp .ge 21, 3) := by decide +kernel
theorem d_jdk_52_method_14_14 : decode jdk_52_method_14_code 14 = .ok (.aload_n 3, 1) := by decide +kernel
theorem d_jdk_52_method_14_15 : decode jdk_52_method_14_code 15 = .ok (.iload 4, 2) := by decide +kernel
theorem d_jdk_52_method_14_17 : decode jdk_52_method_14_code 17 = .ok (.aload_n 0, 1) := by decide +kernel
theorem d_jdk_52_method_14_18 : decode jdk_52_method_14_code 18 = .ok (.iload_n 1, 1) := by decide +kernel
theorem d_jdk_52_method_14_19 : decode jdk_52_method_14_code 19 = .ok (.caload, 1) := by decide +kernel
theorem d_jdk_52_method_14_20 : decode jdk_52_method_14_code 20 = .ok (.invokestatic 111, 3) := by decide +kernel
theorem pd__28__5b_BII_29_V : parseMethodDescriptor "([BII)V" = some ⟨[(.array .byte), .int, .int], none⟩ := by decide +kernel
theorem d_jdk_52_method_14_23 : decode jdk_52_method_14_code 23 = .ok (.iinc 1 1, 3) := by decide +kernel
theorem d_jdk_52_method_14_26 : decode jdk_52_method_14_code 26 = .ok (.iinc 4 1, 3) := by decide +kernel
theorem d_jdk_52_method_14_29 : decode jdk_52_method_14_code 29 = .ok (.goto (-21), 3) := by decide +kernel
theorem ef_toBytes (m : MethodId) (x0 : Addr) (x1 : Int32) (x2 : Int32) : entryFrame m #[(.ref x0), (.int x1), (.int x2)] 5 = mkF m 0 #[.val (.ref x0), .val (.int x1), .val (.int x2), .unset, .unset] [] := by first | (simp [entryFrame, mkF, argsToLocals, Value.category]; done) | rfl
theorem d_jdk_52_method_14_0 : decode jdk_52_method_14_code 0 = .ok (.iload_n 2, 1) := by decide +kernel
theorem d_jdk_52_method_14_1 : decode jdk_52_method_14_code 1 = .ok (.invokestatic 107, 3) := by decide +kernel
theorem pd__28_I_29__5b_B : parseMethodDescriptor "(I)[B" = some ⟨[.int], some (.array .byte)⟩ := by decide +kernel
theorem d_jdk_52_method_14_4 : decode jdk_52_method_14_code 4 = .ok (.astore_n 3, 1) := by decide +kernel
theorem d_jdk_52_method_14_5 : decode jdk_52_method_14_code 5 = .ok (.iconst 0, 1) := by decide +kernel
theorem d_jdk_52_method_14_6 : decode jdk_52_method_14_code 6 = .ok (.istore 4, 2) := by decide +kernel
theorem d_jdk_52_method_14_32 : decode jdk_52_method_14_code 32 = .ok (.aload_n 3, 1) := by decide +kernel
theorem d_jdk_52_method_14_33 : decode jdk_52_method_14_code 33 = .ok (.areturn, 1) := by decide +kernel
theorem ef_compress16 (m : MethodId) (x0 : Addr) (x1 : Int32) (x2 : Int32) : entryFrame m #[(.ref x0), (.int x1), (.int x2)] 6 = mkF m 0 #[.val (.ref x0), .val (.int x1), .val (.int x2), .unset, .unset, .unset] [] := by first | (simp [entryFrame, mkF, argsToLocals, Value.category]; done) | rfl
theorem d_jdk_52_method_16_0 : decode jdk_52_method_16_code 0 = .ok (.iload_n 2, 1) := by decide +kernel
theorem d_jdk_52_method_16_1 : decode jdk_52_method_16_code 1 = .ok (.newarray .byte, 2) := by decide +kernel
theorem d_jdk_52_method_16_3 : decode jdk_52_method_16_code 3 = .ok (.astore_n 3, 1) := by decide +kernel
theorem d_jdk_52_method_16_4 : decode jdk_52_method_16_code 4 = .ok (.aload_n 0, 1) := by decide +kernel
theorem d_jdk_52_method_16_5 : decode jdk_52_method_16_code 5 = .ok (.iload_n 1, 1) := by decide +kernel
theorem d_jdk_52_method_16_6 : decode jdk_52_method_16_code 6 = .ok (.aload_n 3, 1) := by decide +kernel
theorem d_jdk_52_method_16_7 : decode jdk_52_method_16_code 7 = .ok (.iconst 0, 1) := by decide +kernel
theorem d_jdk_52_method_16_8 : decode jdk_52_method_16_code 8 = .ok (.iload_n 2, 1) := by decide +kernel
theorem d_jdk_52_method_16_9 : decode jdk_52_method_16_code 9 = .ok (.invokestatic 115, 3) := by decide +kernel
theorem pd__28__5b_CI_5b_BII_29_I : parseMethodDescriptor "([CI[BII)I" = some ⟨[(.array .char), .int, (.array .byte), .int, .int], some .int⟩ := by decide +kernel
theorem d_jdk_52_method_16_12 : decode jdk_52_method_16_code 12 = .ok (.istore 4, 2) := by decide +kernel
theorem d_jdk_52_method_16_14 : decode jdk_52_method_16_code 14 = .ok (.iload 4, 2) := by decide +kernel
theorem d_jdk_52_method_16_16 : decode jdk_52_method_16_code 16 = .ok (.iload_n 2, 1) := by decide +kernel
theorem d_jdk_52_method_16_17 : decode jdk_52_method_16_code 17 = .ok (.if_icmp .eq 40, 3) := by decide +kernel
theorem d_jdk_52_method_16_57 : decode jdk_52_method_16_code 57 = .ok (.aload_n 3, 1) := by decide +kernel
theorem d_jdk_52_method_16_58 : decode jdk_52_method_16_code 58 = .ok (.areturn, 1) := by decide +kernel
theorem d_jdk_52_method_16_20 : decode jdk_52_method_16_code 20 = .ok (.aload_n 0, 1) := by decide +kernel
theorem d_jdk_52_method_16_21 : decode jdk_52_method_16_code 21 = .ok (.iload_n 1, 1) := by decide +kernel
theorem d_jdk_52_method_16_22 : decode jdk_52_method_16_code 22 = .ok (.iload_n 2, 1) := by decide +kernel
theorem d_jdk_52_method_16_23 : decode jdk_52_method_16_code 23 = .ok (.invokestatic 119, 3) := by decide +kernel
theorem pd__28__5b_CII_29__5b_B : parseMethodDescriptor "([CII)[B" = some ⟨[(.array .char), .int, .int], some (.array .byte)⟩ := by decide +kernel
theorem d_jdk_52_method_16_26 : decode jdk_52_method_16_code 26 = .ok (.astore 5, 2) := by decide +kernel
theorem d_jdk_52_method_16_28 : decode jdk_52_method_16_code 28 = .ok (.aload 5, 2) := by decide +kernel
theorem d_jdk_52_method_16_30 : decode jdk_52_method_16_code 30 = .ok (.iload 4, 2) := by decide +kernel
theorem d_jdk_52_method_16_32 : decode jdk_52_method_16_code 32 = .ok (.invokestatic 71, 3) := by decide +kernel
theorem d_jdk_52_method_16_35 : decode jdk_52_method_16_code 35 = .ok (.sipush 255, 3) := by decide +kernel
theorem d_jdk_52_method_16_38 : decode jdk_52_method_16_code 38 = .ok (.if_icmp .gt 16, 3) := by decide +kernel
theorem d_jdk_52_method_16_54 : decode jdk_52_method_16_code 54 = .ok (.aload 5, 2) := by decide +kernel
theorem d_jdk_52_method_16_56 : decode jdk_52_method_16_code 56 = .ok (.areturn, 1) := by decide +kernel
theorem ef_sinitV (m : MethodId) (x0 : Addr) (x1 : Addr) (x2 : Int32) (x3 : Int32) : entryFrame m #[(.ref x0), (.ref x1), (.int x2), (.int x3), .null] 6 = mkF m 0 #[.val (.ref x0), .val (.ref x1), .val (.int x2), .val (.int x3), .val .null, .unset] [] := by first | (simp [entryFrame, mkF, argsToLocals, Value.category]; done) | rfl
theorem d_jdk_42_method_149_0 : decode jdk_42_method_149_code 0 = .ok (.aload_n 0, 1) := by decide +kernel
theorem d_jdk_42_method_149_1 : decode jdk_42_method_149_code 1 = .ok (.invokespecial 1, 3) := by decide +kernel
theorem d_jdk_42_method_149_4 : decode jdk_42_method_149_code 4 = .ok (.iload_n 3, 1) := by decide +kernel
theorem d_jdk_42_method_149_5 : decode jdk_42_method_149_code 5 = .ok (.ifCond .ne 22, 3) := by decide +kernel
theorem d_jdk_42_method_149_27 : decode jdk_42_method_149_code 27 = .ok (.getstatic 38, 3) := by decide +kernel
theorem d_jdk_42_method_149_30 : decode jdk_42_method_149_code 30 = .ok (.ifCond .eq 28, 3) := by decide +kernel
theorem d_jdk_42_method_149_33 : decode jdk_42_method_149_code 33 = .ok (.aload_n 1, 1) := by decide +kernel
theorem d_jdk_42_method_149_34 : decode jdk_42_method_149_code 34 = .ok (.iload_n 2, 1) := by decide +kernel
theorem d_jdk_42_method_149_35 : decode jdk_42_method_149_code 35 = .ok (.iload_n 3, 1) := by decide +kernel
theorem d_jdk_42_method_149_36 : decode jdk_42_method_149_code 36 = .ok (.invokestatic 177, 3) := by decide +kernel
theorem d_jdk_42_method_149_39 : decode jdk_42_method_149_code 39 = .ok (.astore 5, 2) := by decide +kernel
theorem d_jdk_42_method_149_41 : decode jdk_42_method_149_code 41 = .ok (.aload_n 0, 1) := by decide +kernel
theorem d_jdk_42_method_149_42 : decode jdk_42_method_149_code 42 = .ok (.aload 5, 2) := by decide +kernel
theorem d_jdk_42_method_149_44 : decode jdk_42_method_149_code 44 = .ok (.iload_n 3, 1) := by decide +kernel
theorem d_jdk_42_method_149_45 : decode jdk_42_method_149_code 45 = .ok (.invokestatic 47, 3) := by decide +kernel
theorem pd__28__5b_BI_29_B : parseMethodDescriptor "([BI)B" = some ⟨[(.array .byte), .int], some .byte⟩ := by decide +kernel
theorem d_jdk_42_method_149_48 : decode jdk_42_method_149_code 48 = .ok (.putfield 15, 3) := by decide +kernel
theorem d_jdk_42_method_149_51 : decode jdk_42_method_149_code 51 = .ok (.aload_n 0, 1) := by decide +kernel
theorem d_jdk_42_method_149_52 : decode jdk_42_method_149_code 52 = .ok (.aload 5, 2) := by decide +kernel
theorem d_jdk_42_method_149_54 : decode jdk_42_method_149_code 54 = .ok (.putfield 9, 3) := by decide +kernel
theorem d_jdk_42_method_149_57 : decode jdk_42_method_149_code 57 = .ok (.return_, 1) := by decide +kernel
theorem ef_sinit (m : MethodId) (x0 : Addr) (x1 : Addr) : entryFrame m #[(.ref x0), (.ref x1)] 2 = mkF m 0 #[.val (.ref x0), .val (.ref x1)] [] := by first | (simp [entryFrame, mkF, argsToLocals, Value.category]; done) | rfl
theorem d_jdk_42_method_3_0 : decode jdk_42_method_3_code 0 = .ok (.aload_n 0, 1) := by decide +kernel
theorem d_jdk_42_method_3_1 : decode jdk_42_method_3_code 1 = .ok (.aload_n 1, 1) := by decide +kernel
theorem d_jdk_42_method_3_2 : decode jdk_42_method_3_code 2 = .ok (.iconst 0, 1) := by decide +kernel
theorem d_jdk_42_method_3_3 : decode jdk_42_method_3_code 3 = .ok (.aload_n 1, 1) := by decide +kernel
theorem d_jdk_42_method_3_4 : decode jdk_42_method_3_code 4 = .ok (.arraylength, 1) := by decide +kernel
theorem d_jdk_42_method_3_5 : decode jdk_42_method_3_code 5 = .ok (.aconst_null, 1) := by decide +kernel
theorem d_jdk_42_method_3_6 : decode jdk_42_method_3_code 6 = .ok (.invokespecial 27, 3) := by decide +kernel
theorem pd__28__5b_CIILjava_2f_lang_2f_Void_3b__29_V : parseMethodDescriptor "([CIILjava/lang/Void;)V" = some ⟨[(.array .char), .int, .int, (.object "java/lang/Void")], none⟩ := by decide +kernel
theorem d_jdk_42_method_3_9 : decode jdk_42_method_3_code 9 = .ok (.return_, 1) := by decide +kernel
theorem ef_endsLine (m : MethodId) (x0 : Addr) (x1 : Int32) : entryFrame m #[(.ref x0), (.int x1)] 3 = mkF m 0 #[.val (.ref x0), .val (.int x1), .unset] [] := by first | (simp [entryFrame, mkF, argsToLocals, Value.category]; done) | rfl
theorem pn_com_example_vestline_vestline_input_TextFiles : plainName "com/example/vestline/vestline/input/TextFiles" = true := by first | (simp [plainName, overriddenIn]; done) | decide +kernel
theorem d_prog_12_method_5_0 : decode prog_12_method_5_code 0 = .ok (.aload_n 0, 1) := by decide +kernel
theorem d_prog_12_method_5_1 : decode prog_12_method_5_code 1 = .ok (.iload_n 1, 1) := by decide +kernel
theorem d_prog_12_method_5_2 : decode prog_12_method_5_code 2 = .ok (.invokevirtual 126, 3) := by decide +kernel
theorem pd__28_I_29_C : parseMethodDescriptor "(I)C" = some ⟨[.int], some .char⟩ := by decide +kernel
theorem d_prog_12_method_5_5 : decode prog_12_method_5_code 5 = .ok (.istore_n 2, 1) := by decide +kernel
theorem d_prog_12_method_5_6 : decode prog_12_method_5_code 6 = .ok (.iload_n 2, 1) := by decide +kernel
theorem d_prog_12_method_5_7 : decode prog_12_method_5_code 7 = .ok (.bipush 10, 2) := by decide +kernel
theorem d_prog_12_method_5_9 : decode prog_12_method_5_code 9 = .ok (.if_icmp .eq 31, 3) := by decide +kernel
theorem d_prog_12_method_5_40 : decode prog_12_method_5_code 40 = .ok (.iconst 1, 1) := by decide +kernel
theorem d_prog_12_method_5_41 : decode prog_12_method_5_code 41 = .ok (.goto 4, 3) := by decide +kernel
theorem d_prog_12_method_5_45 : decode prog_12_method_5_code 45 = .ok (.ireturn, 1) := by decide +kernel
theorem d_prog_12_method_5_12 : decode prog_12_method_5_code 12 = .ok (.iload_n 2, 1) := by decide +kernel
theorem d_prog_12_method_5_13 : decode prog_12_method_5_code 13 = .ok (.bipush 13, 2) := by decide +kernel
theorem d_prog_12_method_5_15 : decode prog_12_method_5_code 15 = .ok (.if_icmp .ne 29, 3) := by decide +kernel
theorem d_prog_12_method_5_18 : decode prog_12_method_5_code 18 = .ok (.iload_n 1, 1) := by decide +kernel
theorem d_prog_12_method_5_19 : decode prog_12_method_5_code 19 = .ok (.iconst 1, 1) := by decide +kernel
theorem d_prog_12_method_5_20 : decode prog_12_method_5_code 20 = .ok (.iadd, 1) := by decide +kernel
theorem d_prog_12_method_5_21 : decode prog_12_method_5_code 21 = .ok (.aload_n 0, 1) := by decide +kernel
theorem d_prog_12_method_5_22 : decode prog_12_method_5_code 22 = .ok (.invokevirtual 132, 3) := by decide +kernel
theorem pd__28__29_I : parseMethodDescriptor "()I" = some ⟨[], some .int⟩ := by decide +kernel
theorem d_prog_12_method_5_25 : decode prog_12_method_5_code 25 = .ok (.if_icmp .eq 15, 3) := by decide +kernel
theorem d_prog_12_method_5_28 : decode prog_12_method_5_code 28 = .ok (.aload_n 0, 1) := by decide +kernel
theorem d_prog_12_method_5_29 : decode prog_12_method_5_code 29 = .ok (.iload_n 1, 1) := by decide +kernel
theorem d_prog_12_method_5_30 : decode prog_12_method_5_code 30 = .ok (.iconst 1, 1) := by decide +kernel
theorem d_prog_12_method_5_31 : decode prog_12_method_5_code 31 = .ok (.iadd, 1) := by decide +kernel
theorem d_prog_12_method_5_32 : decode prog_12_method_5_code 32 = .ok (.invokevirtual 126, 3) := by decide +kernel
theorem d_prog_12_method_5_35 : decode prog_12_method_5_code 35 = .ok (.bipush 10, 2) := by decide +kernel
theorem d_prog_12_method_5_37 : decode prog_12_method_5_code 37 = .ok (.if_icmp .eq 7, 3) := by decide +kernel
theorem d_prog_12_method_5_44 : decode prog_12_method_5_code 44 = .ok (.iconst 0, 1) := by decide +kernel
theorem ef_law (m : MethodId) (x0 : Int32) (x1 : Int32) (x2 : Int32) (x3 : Int32) (x4 : Int32) : entryFrame m #[(.int x0), (.int x1), (.int x2), (.int x3), (.int x4)] maxLocals = mkF m 0 #[.val (.int x0), .val (.int x1), .val (.int x2), .val (.int x3), .val (.int x4), .unset, .unset, .unset, .unset, .unset, .unset, .unset, .unset] [] := by first | (simp [entryFrame, mkF, argsToLocals, Value.category, maxLocals]; done) | rfl
theorem pd__28__5b_C_29_V : parseMethodDescriptor "([C)V" = some ⟨[(.array .char)], none⟩ := by decide +kernel
theorem pd__28_Ljava_2f_lang_2f_String_3b_I_29_Z : parseMethodDescriptor "(Ljava/lang/String;I)Z" = some ⟨[(.object "java/lang/String"), .int], some .boolean⟩ := by decide +kernel
/- numbers -/
theorem own_i {n : Nat} (h : n < 2147483648) : (Int32.ofNat n).toInt = n := len_toInt h
theorem own_lt {i n : Nat} (h : i < n) (hn : n < 2147483648) : Int32.ofNat i < Int32.ofNat n := by
  rw [Int32.lt_iff_toInt_lt, own_i (Nat.lt_trans h hn), own_i hn]; omega
theorem own_nlt {i n : Nat} (h : n ≤ i) (hi : i < 2147483648) : ¬ (Int32.ofNat i < Int32.ofNat n) := by
  rw [Int32.lt_iff_toInt_lt, own_i hi, own_i (Nat.lt_of_le_of_lt h hi)]; omega
theorem own_nneg {i : Nat} (hi : i < 2147483648) : ¬ (Int32.ofNat i < (0 : Int32)) := by
  rw [Int32.lt_iff_toInt_lt, own_i hi]; have : (0 : Int32).toInt = 0 := rfl; omega
theorem own_cl {i : Nat} (hi : i < 2147483648) : (Int32.ofNat i).toNatClampNeg = i := by
  have h := own_i hi; simp only [Int32.toNatClampNeg, h]; omega
theorem own_succ (i : Nat) : Int32.ofNat i + (1 : Int32) = Int32.ofNat (i + 1) := (Int32.ofNat_add i 1).symm
theorem own_shl1 {i : Nat} (hi : 2 * i < 2147483648) : (Int32.ofNat i <<< ((1 : Int32) &&& 31)) = Int32.ofNat (2 * i) := by
  apply Int32.toInt_inj.mp
  have h := c_ishl (Int32.ofNat i) 1 1 rfl
  have r := rng32 (Int32.ofNat i <<< ((1 : Int32) &&& 31))
  rw [own_i (by omega)] at h; rw [own_i hi]; omega
theorem own_shr1 {i : Nat} (hi : 2 * i < 2147483648) : (Int32.ofNat (2 * i) >>> ((1 : Int32) &&& 31)) = Int32.ofNat i := by
  apply Int32.toInt_inj.mp
  have h := c_ishr (Int32.ofNat (2 * i)) 1 1 rfl
  rw [own_i hi] at h; rw [own_i (by omega)]; omega
theorem own_narb (x : Int32) : nar .byte (x.toInt8.toInt32) = x.toInt8.toInt32 := by simp [nar]
/- strings -/
def lat (cs : List Int32) : Bool := cs.all fun c => decide (¬ (255 : Int32) < c)
def fl : List Int32 → Nat
  | [] => 0
  | c :: r => if (255 : Int32) < c then 0 else fl r + 1
def l1 (cs : List Int32) : List Value := cs.map fun c => .int (c.toInt8.toInt32)
def u16 : List Int32 → List Value
  | [] => []
  | c :: r => .int ((c >>> ((0 : Int32) &&& 31)).toInt8.toInt32) :: .int ((c >>> ((8 : Int32) &&& 31)).toInt8.toInt32) :: u16 r
def cdr (cs : List Int32) : Int32 := if lat cs = true then 0 else 1
def blen (cs : List Int32) : Nat := if lat cs = true then cs.length else 2 * cs.length
def enc (cs : List Int32) : List Value := if lat cs = true then l1 cs else u16 cs
def OkS (cs : List Int32) : Prop := (∀ c ∈ cs, ¬ (c < (0 : Int32)) ∧ ¬ ((65535 : Int32) < c)) ∧ cs.length < 1048576
theorem lat_cons (c : Int32) (r : List Int32) : lat (c :: r) = true ↔ ¬ (255 : Int32) < c ∧ lat r = true := by simp [lat]
theorem fl_le : ∀ cs : List Int32, fl cs ≤ cs.length
  | [] => Nat.le_refl _
  | c :: r => by
    show (if (255 : Int32) < c then 0 else fl r + 1) ≤ r.length + 1
    have := fl_le r; split <;> omega
theorem fl_lat : ∀ {cs : List Int32}, lat cs = true → fl cs = cs.length
  | [], _ => rfl
  | c :: r, h => by
    obtain ⟨h1, h2⟩ := (lat_cons c r).mp h
    show (if (255 : Int32) < c then 0 else fl r + 1) = r.length + 1
    rw [if_neg h1, fl_lat h2]
theorem fl_nlat : ∀ {cs : List Int32}, ¬ lat cs = true → fl cs < cs.length ∧ (255 : Int32) < cs.getD (fl cs) 0
  | [], h => absurd rfl h
  | c :: r, h => by
    by_cases q : (255 : Int32) < c
    · have e : fl (c :: r) = 0 := if_pos q
      rw [e]; exact ⟨Nat.succ_pos _, q⟩
    · have e : fl (c :: r) = fl r + 1 := if_neg q
      have := fl_nlat (cs := r) fun z => h ((lat_cons c r).mpr ⟨q, z⟩)
      rw [e]; exact ⟨Nat.succ_lt_succ this.1, by simpa using this.2⟩
theorem fl_ne {cs : List Int32} (h : fl cs = cs.length) : lat cs = true := by
  by_cases q : lat cs = true
  · exact q
  · exact absurd h (Nat.ne_of_lt (fl_nlat q).1)
theorem fl_app : ∀ {pre : List Int32} (suf : List Int32), lat pre = true → fl (pre ++ suf) = pre.length + fl suf
  | [], suf, _ => by simp
  | c :: r, suf, h => by
    obtain ⟨h1, h2⟩ := (lat_cons c r).mp h
    show (if (255 : Int32) < c then 0 else fl (r ++ suf) + 1) = r.length + 1 + fl suf
    rw [if_neg h1, fl_app suf h2]; omega
theorem lat_snoc {pre : List Int32} {c : Int32} (h : lat pre = true) (hc : ¬ (255 : Int32) < c) : lat (pre ++ [c]) = true := by
  simp only [lat, List.all_append, Bool.and_eq_true]; exact ⟨h, by simpa using hc⟩
theorem l1_snoc (pre : List Int32) (c : Int32) : l1 pre ++ [.int (c.toInt8.toInt32)] = l1 (pre ++ [c]) := by simp [l1]
theorem u16_app : ∀ (pre suf : List Int32), u16 (pre ++ suf) = u16 pre ++ u16 suf
  | [], _ => rfl
  | c :: r, suf => by show _ :: _ :: u16 (r ++ suf) = _ :: _ :: (u16 r ++ u16 suf); rw [u16_app r suf]
theorem u16_len : ∀ cs : List Int32, (u16 cs).length = 2 * cs.length
  | [] => rfl
  | c :: r => by show (u16 r).length + 1 + 1 = 2 * (r.length + 1); rw [u16_len r]; omega
theorem l1_len (cs : List Int32) : (l1 cs).length = cs.length := by simp [l1]
theorem u16_at : ∀ (cs : List Int32) (i : Nat) (d : Value), i < cs.length → (u16 cs).getD (2 * i) d = .int ((cs.getD i 0 >>> ((0 : Int32) &&& 31)).toInt8.toInt32) ∧ (u16 cs).getD (2 * i + 1) d = .int ((cs.getD i 0 >>> ((8 : Int32) &&& 31)).toInt8.toInt32)
  | [], i, _, h => absurd h (Nat.not_lt_zero _)
  | c :: r, 0, d, _ => ⟨rfl, rfl⟩
  | c :: r, i + 1, d, h => by
    have := u16_at r i d (Nat.lt_of_succ_lt_succ h)
    exact this
theorem l1_at (cs : List Int32) (i : Nat) (d : Value) (h : i < cs.length) : (l1 cs).getD i d = .int ((cs.getD i 0).toInt8.toInt32) := by
  simp [l1, List.getD, h]
theorem ch_at (cs : List Int32) (i : Nat) (d : Value) (h : i < cs.length) : (cs.map Value.int).getD i d = .int (cs.getD i 0) := by
  simp [List.getD, h]
theorem app_at (pre r : List Int32) (c d : Int32) : (pre ++ c :: r).getD pre.length d = c := by simp [List.getD]
theorem getD_mem {cs : List Int32} {i : Nat} (h : i < cs.length) : cs.getD i 0 ∈ cs := by simp [List.getD, h]
theorem OkS.at {cs : List Int32} (h : OkS cs) {i : Nat} (hi : i < cs.length) : ¬ (cs.getD i 0 < (0 : Int32)) ∧ ¬ ((65535 : Int32) < cs.getD i 0) := h.1 _ (getD_mem hi)
theorem own_rng {c : Int32} (h1 : ¬ (c < (0 : Int32))) (h2 : ¬ ((65535 : Int32) < c)) : 0 ≤ c.toInt ∧ c.toInt ≤ 65535 := by
  rw [Int32.lt_iff_toInt_lt] at h1 h2; have a : (0 : Int32).toInt = 0 := rfl; have b : (65535 : Int32).toInt = 65535 := rfl; omega
theorem own_narc {c : Int32} (h1 : ¬ (c < (0 : Int32))) (h2 : ¬ ((65535 : Int32) < c)) : nar .char c = c := by
  apply Int32.toInt_inj.mp
  have := own_rng h1 h2; have := c_i2c c; show (c.toUInt32.toUInt16.toUInt32.toInt32).toInt = _; omega
theorem own_l1c {c : Int32} (h1 : ¬ (c < (0 : Int32))) (h2 : ¬ ((255 : Int32) < c)) : nar .char ((c.toInt8.toInt32 &&& (255 : Int32)).toUInt32.toUInt16.toUInt32.toInt32) = c := by
  apply Int32.toInt_inj.mp
  rw [Int32.lt_iff_toInt_lt] at h1 h2; have a : (0 : Int32).toInt = 0 := rfl; have b : (255 : Int32).toInt = 255 := rfl
  have q1 := c_i2b c; have q2 := c_mask c.toInt8.toInt32 255 8 (by decide) rfl
  have q3 := c_i2c (c.toInt8.toInt32 &&& 255); have q4 := c_i2c ((c.toInt8.toInt32 &&& (255 : Int32)).toUInt32.toUInt16.toUInt32.toInt32)
  show (((c.toInt8.toInt32 &&& (255 : Int32)).toUInt32.toUInt16.toUInt32.toInt32).toUInt32.toUInt16.toUInt32.toInt32).toInt = _
  omega
theorem own_u16c {c : Int32} (h1 : ¬ (c < (0 : Int32))) (h2 : ¬ ((65535 : Int32) < c)) :
    nar .char ((((((c >>> ((0 : Int32) &&& 31)).toInt8.toInt32) &&& (255 : Int32)) <<< ((0 : Int32) &&& 31)) ||| ((((c >>> ((8 : Int32) &&& 31)).toInt8.toInt32) &&& (255 : Int32)) <<< ((8 : Int32) &&& 31))).toUInt32.toUInt16.toUInt32.toInt32) = c := by
  apply Int32.toInt_inj.mp
  have r := own_rng h1 h2
  have s0 := c_ishr c 0 0 rfl; have s8 := c_ishr c 8 8 rfl
  have b0 := c_i2b (c >>> ((0 : Int32) &&& 31)); have b8 := c_i2b (c >>> ((8 : Int32) &&& 31))
  have m0 := c_mask ((c >>> ((0 : Int32) &&& 31)).toInt8.toInt32) 255 8 (by decide) rfl; have m8 := c_mask ((c >>> ((8 : Int32) &&& 31)).toInt8.toInt32) 255 8 (by decide) rfl
  generalize (c >>> ((0 : Int32) &&& 31)).toInt8.toInt32 = x at *
  generalize (c >>> ((8 : Int32) &&& 31)).toInt8.toInt32 = y at *
  have l0 := c_ishl (x &&& 255) 0 0 rfl; have l8 := c_ishl (y &&& 255) 8 8 rfl
  generalize (x &&& (255 : Int32)) = x' at *
  generalize (y &&& (255 : Int32)) = y' at *
  have r0 := rng32 (x' <<< ((0 : Int32) &&& 31)); have r8 := rng32 (y' <<< ((8 : Int32) &&& 31))
  have o := c_or' (x' <<< ((0 : Int32) &&& 31)) (y' <<< ((8 : Int32) &&& 31)) 8 (by decide) 256 rfl
  have ro := rng32 ((x' <<< ((0 : Int32) &&& 31)) ||| (y' <<< ((8 : Int32) &&& 31)))
  generalize ((x' <<< ((0 : Int32) &&& 31)) ||| (y' <<< ((8 : Int32) &&& 31))) = w at *
  have q3 := c_i2c w; have q4 := c_i2c (w.toUInt32.toUInt16.toUInt32.toInt32)
  show ((w.toUInt32.toUInt16.toUInt32.toInt32).toUInt32.toUInt16.toUInt32.toInt32).toInt = _
  have o' := o (by omega) (by omega) (by omega)
  omega
theorem own_len {cs : List Int32} (h : cs.length < 1048576) : (Int32.ofNat (blen cs) >>> (cdr cs &&& 31)) = Int32.ofNat cs.length := by
  apply Int32.toInt_inj.mp
  by_cases q : lat cs = true
  · have := c_ishr (Int32.ofNat cs.length) 0 0 rfl
    simp only [blen, cdr, if_pos q]; rw [own_i (by omega)] at *; omega
  · have := c_ishr (Int32.ofNat (2 * cs.length)) 1 1 rfl
    simp only [blen, cdr, if_neg q]; rw [own_i (by omega)] at *; rw [this]; omega
theorem own_narcdr (cs : List Int32) : nar .byte (cdr cs) = cdr cs := by by_cases q : lat cs = true <;> simp only [cdr, q] <;> decide
theorem own_cdr {cs : List Int32} (h : cs.length < 1048576) : nar .byte ((((Int32.ofNat cs.length - Int32.ofNat (blen cs)).toUInt32 >>> ((31 : Int32) &&& 31).toUInt32).toInt32).toInt8.toInt32) = cdr cs := by
  by_cases q : lat cs = true
  · simp only [blen, cdr, if_pos q, Int32.sub_self]; decide
  · have n0 := (fl_nlat q).1
    simp only [blen, cdr, if_neg q]
    have e : ((Int32.ofNat cs.length - Int32.ofNat (2 * cs.length)).toUInt32 >>> ((31 : Int32) &&& 31).toUInt32).toInt32 = 1 := by
      apply Int32.toInt_inj.mp
      have s := c_isub (Int32.ofNat cs.length) (Int32.ofNat (2 * cs.length)); have r := rng32 (Int32.ofNat cs.length - Int32.ofNat (2 * cs.length))
      rw [own_i (by omega), own_i (by omega)] at s
      rw [c_iushr _ 31 31 rfl (by decide)]; have : (1 : Int32).toInt = 1 := rfl; omega
    rw [e]; decide
theorem cdr_lat {cs : List Int32} (h : cdr cs = (0 : Int32)) : lat cs = true := by
  by_cases q : lat cs = true
  · exact q
  · simp only [cdr, if_neg q] at h; exact absurd h (by decide)
theorem cdr_nlat {cs : List Int32} (h : ¬ cdr cs = (0 : Int32)) : ¬ lat cs = true := fun q => h (by simp only [cdr, if_pos q])
theorem Arv.push {Z : State} {h h' : Heap} {a : Addr} {c : Cell} {k : ClassId} {ty : FieldType} {z j : Int32} {vs : List Value} {dv v : Value} (A : Arr Z h a c ty) (q1 : c.cls = k) (S : c.slots.size = z.toNatClampNeg) (q3 : ¬ z < 0) (H : Has c vs dv) (G : ∀ i, i < c.slots.size → fits ty (vs.getD i dv) = true) (hv : fits ty v = true) (W : Wr h h' a j.toNatClampNeg v) (hj : j.toNatClampNeg = vs.length) : Arv Z h' a k ty z (vs ++ [v]) dv := by
  have F : Arv Z h a k ty z (vs ++ List.replicate 1 dv) dv := Arv.pad ⟨c, A, q1, S, q3, H, G⟩ (pad_rep vs dv 1)
  obtain ⟨c', A', r1, r2, r3, H', G'⟩ := F
  have R := Arv.set A' r1 r2 r3 H' G' hv W vs.length hj (by simp)
  have e : (vs ++ List.replicate 1 dv).set vs.length v = vs ++ [v] := by simp
  rw [e] at R; exact R
def Str (Z : State) (h : Heap) (a t : Addr) (kb : ClassId) (cs : List Int32) : Prop := Exa Z h a "java/lang/String" ∧ Fld Z h a "java/lang/String" "value" "[B" (.ref t) ∧ Fld Z h a "java/lang/String" "coder" "B" (.int (cdr cs)) ∧ Arv Z h t kb .byte (Int32.ofNat (blen cs)) (enc cs) (.int (0 : Int32)) ∧ OkS cs
theorem Str.keep {Z : State} {h h' : Heap} {a t : Addr} {kb : ClassId} {cs : List Int32} {ws : List Addr} (S : Str Z h a t kb cs) (K : Keep h h' ws) (q1 : a ∉ ws) (q2 : t ∉ ws) : Str Z h' a t kb cs := ⟨S.1.keep K, S.2.1.keep K q1, S.2.2.1.keep K q1, S.2.2.2.1.keep K q2, S.2.2.2.2⟩
theorem Str.ext {Z : State} {h h' : Heap} {a t : Addr} {kb : ClassId} {cs : List Int32} (S : Str Z h a t kb cs) (E : Ext h h') : Str Z h' a t kb cs := ⟨S.1.ext E, S.2.1.ext E, S.2.2.1.ext E, S.2.2.2.1.ext E, S.2.2.2.2⟩
theorem Str.lt {Z : State} {h : Heap} {a t : Addr} {kb : ClassId} {cs : List Int32} (S : Str Z h a t kb cs) : a < h.size := S.1.lt
theorem Str.lt2 {Z : State} {h : Heap} {a t : Addr} {kb : ClassId} {cs : List Int32} (S : Str Z h a t kb cs) : t < h.size := S.2.2.2.1.lt
theorem enc_lat {cs : List Int32} (h : lat cs = true) : enc cs = l1 cs ∧ blen cs = cs.length ∧ cdr cs = (0 : Int32) := ⟨if_pos h, if_pos h, if_pos h⟩
theorem enc_nlat {cs : List Int32} (h : ¬ lat cs = true) : enc cs = u16 cs ∧ blen cs = 2 * cs.length ∧ cdr cs = (1 : Int32) := ⟨if_neg h, if_neg h, if_neg h⟩
theorem lat_at {cs : List Int32} (h : lat cs = true) {i : Nat} (hi : i < cs.length) : ¬ ((255 : Int32) < cs.getD i 0) := by
  have := List.all_eq_true.mp h _ (getD_mem hi); simpa using this
theorem own_fitcdr (cs : List Int32) : fits .byte (.int (cdr cs)) = true := by by_cases q : lat cs = true <;> simp only [cdr, q] <;> decide
theorem own_zero {i : Nat} (hi : i < 2147483648) (h : Int32.ofNat i = (0 : Int32)) : i = 0 := by
  have q := congrArg Int32.toInt h; rw [own_i hi] at q; have z : (0 : Int32).toInt = 0 := rfl; omega
theorem own_neq {i n : Nat} (h : i ≠ n) (hi : i < 2147483648) (hn : n < 2147483648) : ¬ (Int32.ofNat i = Int32.ofNat n) := fun q => by
  have q := congrArg Int32.toInt q; rw [own_i hi, own_i hn] at q; omega
theorem own_sub {i n : Nat} (h : i ≤ n) (hn : n < 2147483648) : Int32.ofNat n - Int32.ofNat i = Int32.ofNat (n - i) := by
  apply Int32.toInt_inj.mp
  have s := c_isub (Int32.ofNat n) (Int32.ofNat i); have r := rng32 (Int32.ofNat n - Int32.ofNat i)
  rw [own_i hn, own_i (by omega)] at s; rw [own_i (by omega)]; omega
theorem own_min {i n : Nat} (h : i ≤ n) (hn : n < 2147483648) : (if Int32.ofNat i < Int32.ofNat n then Int32.ofNat i else Int32.ofNat n) = Int32.ofNat i := by
  by_cases q : i < n
  · rw [if_pos (own_lt q hn)]
  · rw [if_neg (own_nlt (by omega) (by omega))]; congr 1; omega
theorem own_or3 {i n N : Nat} (hi : i < 2147483648) (hn : n < 2147483648) (hN : N < 2147483648) : ¬ ((Int32.ofNat N ||| Int32.ofNat i) ||| Int32.ofNat n < (0 : Int32)) := by
  rw [Int32.lt_iff_toInt_lt]
  have a := (c_orS (Int32.ofNat N) (Int32.ofNat i)).1 (by rw [own_i hN]; omega) (by rw [own_i hi]; omega)
  have b := (c_orS (Int32.ofNat N ||| Int32.ofNat i) (Int32.ofNat n)).1 a (by rw [own_i hn]; omega)
  have z : (0 : Int32).toInt = 0 := rfl; omega
theorem own_slice (vs : List Value) (f n : Nat) (d : Value) (h : f + n ≤ vs.length) : (vs.drop f).take n = (List.range n).map fun i => vs.getD (f + i) d := by
  apply List.ext_getElem
  · simp; omega
  · intro i h1 h2
    simp at h1
    simp [List.getD, List.getElem?_eq_getElem (show f + i < vs.length by omega)]
theorem own_fill (us : List Value) (n : Nat) (h : us.length = n) : (List.replicate n (.int (0 : Int32)) : List Value).take 0 ++ us ++ (List.replicate n (.int (0 : Int32))).drop (0 + n) = us := by simp
theorem own_okdt {cs : List Int32} {bg n : Nat} (h : OkS cs) : OkS ((cs.drop bg).take n) := ⟨fun c hc => h.1 c (List.mem_of_mem_drop (List.mem_of_mem_take hc)), by have := h.2; simp; omega⟩
theorem own_dt {cs : List Int32} {bg n i : Nat} (h : bg + n ≤ cs.length) (hd : ((cs.drop bg).take n).length = n) (hi : i < ((cs.drop bg).take n).length) : ((cs.drop bg).take n).getD i 0 = cs.getD (bg + i) 0 := by
  rw [hd] at hi; simp [List.getD, List.getElem?_take, List.getElem?_drop, hi]
theorem l1_dt (cs : List Int32) (bg n : Nat) : ((l1 cs).drop bg).take n = l1 ((cs.drop bg).take n) := by simp [l1, List.map_take, List.map_drop]
theorem own_u16s (cs : List Int32) (bg n : Nat) : ((u16 cs).drop (2 * bg)).take (2 * n) = u16 ((cs.drop bg).take n) := by
  induction bg generalizing cs with
  | zero =>
    simp only [Nat.mul_zero, List.drop_zero]
    induction n generalizing cs with
    | zero => simp [u16]
    | succ n ih => cases cs with
      | nil => simp [u16]
      | cons c r => rw [show 2 * (n + 1) = 2 * n + 1 + 1 from by omega]; simp only [u16, List.take_succ_cons]; rw [ih]
  | succ b ih => cases cs with
    | nil => simp [u16]
    | cons c r => rw [show 2 * (b + 1) = 2 * b + 1 + 1 from by omega]; simp only [u16, List.drop_succ_cons]; exact ih r
theorem lat_dt {cs : List Int32} {bg n : Nat} (h : lat cs = true) : lat ((cs.drop bg).take n) = true := List.all_eq_true.mpr fun c hc => List.all_eq_true.mp h c (List.mem_of_mem_drop (List.mem_of_mem_take hc))
theorem own_mkL {Z : State} {h : Heap} {a t : Addr} {kb : ClassId} {cs : List Int32} {bg n : Nat} (hl : lat cs = true) (ok : OkS cs) (hn : bg + n ≤ cs.length) (E : Exa Z h a "java/lang/String") (V : Fld Z h a "java/lang/String" "value" "[B" (.ref t)) (C : Fld Z h a "java/lang/String" "coder" "B" (.int (0 : Int32))) (A : Arv Z h t kb .byte (Int32.ofNat (bg + n - bg)) (((l1 cs).drop bg).take (bg + n - bg)) (.int (0 : Int32))) : Str Z h a t kb ((cs.drop bg).take n) := by
  obtain ⟨e1, e2, e3⟩ := enc_lat (lat_dt (bg := bg) (n := n) hl)
  rw [show bg + n - bg = n from by omega, l1_dt] at A
  refine ⟨E, V, by rw [e3]; exact C, ?_, own_okdt ok⟩
  rw [e1, e2, show ((cs.drop bg).take n).length = n from by simp; omega]; exact A
def pk (x : Int32) : Int32 := if (x &&& (3 : Int32)) = (0 : Int32) then 10 else if (x &&& (3 : Int32)) = (1 : Int32) then 13 else ((x.toUInt32 >>> ((2 : Int32) &&& 31).toUInt32).toInt32).toUInt32.toUInt16.toUInt32.toInt32
theorem own_narcc (y : Int32) : nar .char (y.toUInt32.toUInt16.toUInt32.toInt32) = y.toUInt32.toUInt16.toUInt32.toInt32 := by
  have k := c_i2c y; have a : (0 : Int32).toInt = 0 := rfl; have b : (65535 : Int32).toInt = 65535 := rfl
  exact own_narc (by rw [Int32.lt_iff_toInt_lt]; omega) (by rw [Int32.lt_iff_toInt_lt]; omega)
theorem pk_rng (x : Int32) : ¬ (pk x < (0 : Int32)) ∧ ¬ ((65535 : Int32) < pk x) := by
  unfold pk; split
  · decide
  · split
    · decide
    · have := c_i2c ((x.toUInt32 >>> ((2 : Int32) &&& 31).toUInt32).toInt32)
      have a : (0 : Int32).toInt = 0 := rfl; have b : (65535 : Int32).toInt = 65535 := rfl
      rw [Int32.lt_iff_toInt_lt, Int32.lt_iff_toInt_lt]; omega
theorem own_narpk (x : Int32) : nar .char (pk x) = pk x := own_narc (pk_rng x).1 (pk_rng x).2
theorem ok_pk (l : List Int32) (h : l.length < 1048576) : OkS (l.map pk) := ⟨fun c hc => by obtain ⟨x, -, rfl⟩ := List.mem_map.mp hc; exact pk_rng x, by simpa using h⟩
def el (cs : List Int32) (i : Nat) : Int32 := if cs.getD i 0 = (10 : Int32) then 1 else if cs.getD i 0 = (13 : Int32) then (if i + 1 = cs.length then 1 else if cs.getD (i + 1) 0 = (10 : Int32) then 0 else 1) else 0
theorem own_r3 (x : Int32) : (x &&& (2147483647 : Int32)) % (3 : Int32) = 0 ∨ (x &&& (2147483647 : Int32)) % (3 : Int32) = 1 ∨ (x &&& (2147483647 : Int32)) % (3 : Int32) = 2 := by
  have h1 := c_and x 2147483647 (by decide); have h2 := (c_irem (x &&& 2147483647) 3 3 rfl).1 h1.1
  have a : (0 : Int32).toInt = 0 := rfl; have b : (1 : Int32).toInt = 1 := rfl; have c : (2 : Int32).toInt = 2 := rfl
  simp only [← Int32.toInt_inj]; omega
theorem own_r2 (x : Int32) : (x &&& (2147483647 : Int32)) % (2 : Int32) = 0 ∨ (x &&& (2147483647 : Int32)) % (2 : Int32) = 1 := by
  have h1 := c_and x 2147483647 (by decide); have h2 := (c_irem (x &&& 2147483647) 2 2 rfl).1 h1.1
  have a : (0 : Int32).toInt = 0 := rfl; have b : (1 : Int32).toInt = 1 := rfl
  simp only [← Int32.toInt_inj]; omega
theorem own_r1 (x : Int32) : (x &&& (2147483647 : Int32)) % (1 : Int32) = 0 := by
  have h1 := c_and x 2147483647 (by decide); have h2 := (c_irem (x &&& 2147483647) 1 1 rfl).1 h1.1
  have a : (0 : Int32).toInt = 0 := rfl
  simp only [← Int32.toInt_inj]; omega
def Q_pick (Z : State) (xx : Int32) (h0 : Heap) (n0 : Nat) (vQ_ : Option Value) (hQ_ : Heap) (LQ_ : List Loc) : Prop := vQ_ = some (.int (pk xx)) ∧ Fr n0 LQ_ ∧ hQ_ = h0
set_option maxRecDepth 65536 in
set_option maxHeartbeats 40000000 in
theorem rm_pick (l : Launch) (Z : State) (a0 : Array Value) (hw : ∀ d ∈ tables_1, d.before a0 Z = true) (ws : List Jvm.Cond) (xx : Int32) (h0 : Heap) (n0 : Nat) (Z0 : n0 ≤ h0.size)  :
    MetFree l (⟨"com/example/vestline/vestline/input/TextFilesEndsLinePinLaw", "pick", "(I)C"⟩ : MethodName) (head1 (Jvm.Cond.code (⟨"com/example/vestline/vestline/input/TextFilesEndsLinePinLaw", "pick", "(I)C"⟩ : MethodName) method_2_code 2 (some .char) :: ws) ({ frames := 0, cells := 0, slots := 0, locals := 0 } : Room)) (fun aQ_ UQ => aQ_ = #[(.int xx)] ∧ Z.Warmed39 UQ.vm ∧ UQ.heap = h0) (fun _ _ _ _ _ => True) (fun _ UQ oQ UQ' => ∃ vQ_ LQ_, oQ = .returned vQ_ ∧ Q_pick Z xx h0 n0 vQ_ UQ'.heap LQ_ ∧ FrameEnd UQ oQ UQ' LQ_ ({ frames := 0, cells := 0, slots := 0, locals := 0 } : Room).cells ({ frames := 0, cells := 0, slots := 0, locals := 0 } : Room).slots) := by
  refine MetFree.of_bodySF (plainFor_of_name pn_com_example_vestline_vestline_input_TextFilesEndsLinePinLaw) hisR ?_
  intro p e s m args below meth cO s₁ Bd hml0 hP hK
  obtain ⟨rfl, hZ, hh⟩ := hP
  have hx := Bd.exec
  have hby := Bd.bytes
  have hml : cO.maxLocals = 2 := hml0
  have hown : s.vm.findClass "com/example/vestline/vestline/input/TextFilesEndsLinePinLaw" = some m.cls := findClass_of_methodNamed Bd.named
  have hnm := (name_of_methodNamed Bd.named Bd.method).1
  have X0 : Stand p l e ({ frames := 0, cells := 0, slots := 0, locals := 0 } : Room) s m #[(.int xx)] below meth cO s₁ [] 0 0 := Stand.of_body Bd
  have e0 : s₁.heap = h0 := by rw [← hh, Bd.state]; rfl
  have N0 := Fr.nil n0
  have W0 : ∀ zQ, SS p e below s₁ m 0 #[.val (.int xx), .unset] [] zQ → Steps p.tables e below (s₁.setTop (entryFrame m #[(.int xx)] 2)) zQ := fun tt kt => castTop (ef_pick m xx) kt
  have W101 : ∀ zQ, SS p e below s₁ m 5 #[.val (.int xx), .val (.int (xx &&& (3 : Int32)))] [(.int (xx &&& (3 : Int32)))] zQ → Steps p.tables e below (s₁.setTop (entryFrame m #[(.int xx)] 2)) zQ := by
    intro tt kt
    refine W0 tt ?_
    refine XS.iloadN X0.here hx rfl (hb hby d_method_2_0) rfl ?_
    show SS p e below s₁ m 1 #[.val (.int xx), .unset] [(.int xx)] _
    refine XS.iconst X0.here hx rfl (hb hby d_method_2_1) ?_
    show SS p e below s₁ m 2 #[.val (.int xx), .unset] [(.int (3 : Int32)), (.int xx)] _
    refine XS.iand X0.here hx rfl (hb hby d_method_2_2) rfl ?_
    show SS p e below s₁ m 3 #[.val (.int xx), .unset] [(.int (xx &&& (3 : Int32)))] _
    refine XS.istoreN X0.here hx rfl (hb hby d_method_2_3) rfl (l' := #[.val (.int xx), .val (.int (xx &&& (3 : Int32)))]) rfl ?_
    show SS p e below s₁ m 4 #[.val (.int xx), .val (.int (xx &&& (3 : Int32)))] [] _
    refine XS.iloadN X0.here hx rfl (hb hby d_method_2_4) rfl ?_
    show SS p e below s₁ m 5 #[.val (.int xx), .val (.int (xx &&& (3 : Int32)))] [(.int (xx &&& (3 : Int32)))] _
    exact kt
  by_cases hc102 : (xx &&& (3 : Int32)) = (0 : Int32)
  ·
    have W103 : ∀ zQ, SS p e below s₁ m 10 #[.val (.int xx), .val (.int (xx &&& (3 : Int32)))] [(.int (10 : Int32))] zQ → Steps p.tables e below (s₁.setTop (entryFrame m #[(.int xx)] 2)) zQ := by
      intro tt kt
      refine W101 tt ?_
      refine XS.ifNo X0.here hx rfl (hb hby d_method_2_5) rfl ((if0 _ _).trans (teq hc102).2) ?_
      show SS p e below s₁ m 8 #[.val (.int xx), .val (.int (xx &&& (3 : Int32)))] [] _
      refine XS.bipush X0.here hx rfl (hb hby d_method_2_8) ?_
      show SS p e below s₁ m 10 #[.val (.int xx), .val (.int (xx &&& (3 : Int32)))] [(.int (10 : Int32))] _
      exact kt
    obtain ⟨fs, hr, hrun, hended, hW, hsame⟩ := X0.leave (v := some (.int (nar .char (10 : Int32)))) (fun h => by rw [Bd.returns] at h; cases h)
    refine ⟨_, _, W103 _ (retN X0 hx (t := .char) Bd.returns (by simp) (hb hby d_method_2_10) hr), hrun, hended, _, _, rfl, ?_, ⟨_, rfl⟩, hW, hsame.mono (by decide) (by decide)⟩
    show Q_pick Z xx h0 n0 _ s₁.heap _
    rw [e0]
    exact ⟨(congrArg (fun q => some (Value.int q)) (by simp only [pk, if_pos hc102]; first | done | decide)), N0, rfl⟩
  ·
    have W104 : ∀ zQ, SS p e below s₁ m 13 #[.val (.int xx), .val (.int (xx &&& (3 : Int32)))] [(.int (1 : Int32)), (.int (xx &&& (3 : Int32)))] zQ → Steps p.tables e below (s₁.setTop (entryFrame m #[(.int xx)] 2)) zQ := by
      intro tt kt
      refine W101 tt ?_
      refine XS.ifYes X0.here hx rfl (pc0 := 5) (pc' := 11) rfl (hb hby d_method_2_5) rfl ((if0 _ _).trans (feq hc102).2) (by decide) (by decide) ?_
      show SS p e below s₁ m 11 #[.val (.int xx), .val (.int (xx &&& (3 : Int32)))] [] _
      refine XS.iloadN X0.here hx rfl (hb hby d_method_2_11) rfl ?_
      show SS p e below s₁ m 12 #[.val (.int xx), .val (.int (xx &&& (3 : Int32)))] [(.int (xx &&& (3 : Int32)))] _
      refine XS.iconst X0.here hx rfl (hb hby d_method_2_12) ?_
      show SS p e below s₁ m 13 #[.val (.int xx), .val (.int (xx &&& (3 : Int32)))] [(.int (1 : Int32)), (.int (xx &&& (3 : Int32)))] _
      exact kt
    by_cases hc105 : (xx &&& (3 : Int32)) = (1 : Int32)
    ·
      have W106 : ∀ zQ, SS p e below s₁ m 18 #[.val (.int xx), .val (.int (xx &&& (3 : Int32)))] [(.int (13 : Int32))] zQ → Steps p.tables e below (s₁.setTop (entryFrame m #[(.int xx)] 2)) zQ := by
        intro tt kt
        refine W104 tt ?_
        refine XS.icmpNo X0.here hx rfl (hb hby d_method_2_13) rfl (teq hc105).2 ?_
        show SS p e below s₁ m 16 #[.val (.int xx), .val (.int (xx &&& (3 : Int32)))] [] _
        refine XS.bipush X0.here hx rfl (hb hby d_method_2_16) ?_
        show SS p e below s₁ m 18 #[.val (.int xx), .val (.int (xx &&& (3 : Int32)))] [(.int (13 : Int32))] _
        exact kt
      obtain ⟨fs, hr, hrun, hended, hW, hsame⟩ := X0.leave (v := some (.int (nar .char (13 : Int32)))) (fun h => by rw [Bd.returns] at h; cases h)
      refine ⟨_, _, W106 _ (retN X0 hx (t := .char) Bd.returns (by simp) (hb hby d_method_2_18) hr), hrun, hended, _, _, rfl, ?_, ⟨_, rfl⟩, hW, hsame.mono (by decide) (by decide)⟩
      show Q_pick Z xx h0 n0 _ s₁.heap _
      rw [e0]
      exact ⟨(congrArg (fun q => some (Value.int q)) (by simp only [pk, if_neg hc102, if_pos hc105]; first | done | decide)), N0, rfl⟩
    ·
      have W107 : ∀ zQ, SS p e below s₁ m 23 #[.val (.int xx), .val (.int (xx &&& (3 : Int32)))] [(.int (((xx.toUInt32 >>> ((2 : Int32) &&& 31).toUInt32).toInt32).toUInt32.toUInt16.toUInt32.toInt32))] zQ → Steps p.tables e below (s₁.setTop (entryFrame m #[(.int xx)] 2)) zQ := by
        intro tt kt
        refine W104 tt ?_
        refine XS.icmpYes X0.here hx rfl (pc0 := 13) (pc' := 19) rfl (hb hby d_method_2_13) rfl (feq hc105).2 (by decide) (by decide) ?_
        show SS p e below s₁ m 19 #[.val (.int xx), .val (.int (xx &&& (3 : Int32)))] [] _
        refine XS.iloadN X0.here hx rfl (hb hby d_method_2_19) rfl ?_
        show SS p e below s₁ m 20 #[.val (.int xx), .val (.int (xx &&& (3 : Int32)))] [(.int xx)] _
        refine XS.iconst X0.here hx rfl (hb hby d_method_2_20) ?_
        show SS p e below s₁ m 21 #[.val (.int xx), .val (.int (xx &&& (3 : Int32)))] [(.int (2 : Int32)), (.int xx)] _
        refine XS.iushr X0.here hx rfl (hb hby d_method_2_21) rfl ?_
        show SS p e below s₁ m 22 #[.val (.int xx), .val (.int (xx &&& (3 : Int32)))] [(.int ((xx.toUInt32 >>> ((2 : Int32) &&& 31).toUInt32).toInt32))] _
        refine XS.i2c X0.here hx rfl (hb hby d_method_2_22) rfl ?_
        show SS p e below s₁ m 23 #[.val (.int xx), .val (.int (xx &&& (3 : Int32)))] [(.int (((xx.toUInt32 >>> ((2 : Int32) &&& 31).toUInt32).toInt32).toUInt32.toUInt16.toUInt32.toInt32))] _
        exact kt
      obtain ⟨fs, hr, hrun, hended, hW, hsame⟩ := X0.leave (v := some (.int (nar .char (((xx.toUInt32 >>> ((2 : Int32) &&& 31).toUInt32).toInt32).toUInt32.toUInt16.toUInt32.toInt32)))) (fun h => by rw [Bd.returns] at h; cases h)
      refine ⟨_, _, W107 _ (retN X0 hx (t := .char) Bd.returns (by simp) (hb hby d_method_2_23) hr), hrun, hended, _, _, rfl, ?_, ⟨_, rfl⟩, hW, hsame.mono (by decide) (by decide)⟩
      show Q_pick Z xx h0 n0 _ s₁.heap _
      rw [e0]
      exact ⟨(congrArg (fun q => some (Value.int q)) (by simp only [pk, if_neg hc102, if_neg hc105]; first | done | exact own_narcc _)), N0, rfl⟩
def Q_pcheck (Z : State) (j : Int32) (z : Int32) (fm : Value) (h0 : Heap) (n0 : Nat) (vQ_ : Option Value) (hQ_ : Heap) (LQ_ : List Loc) : Prop := vQ_ = some (.int j) ∧ Fr n0 LQ_ ∧ hQ_ = h0
set_option maxRecDepth 65536 in
set_option maxHeartbeats 40000000 in
theorem rm_pcheck (l : Launch) (Z : State) (a0 : Array Value) (hw : ∀ d ∈ tables_1, d.before a0 Z = true) (ws : List Jvm.Cond) (j : Int32) (z : Int32) (fm : Value) (h0 : Heap) (n0 : Nat) (Z0 : n0 ≤ h0.size) (hfm : fm.isRef = true) (hj0 : ¬ (j < (0 : Int32))) (hj1 : j < z) :
    MetFree l (⟨"jdk/internal/util/Preconditions", "checkIndex", "(IILjava/util/function/BiFunction;)I"⟩ : MethodName) (head1 (Jvm.Cond.code (⟨"jdk/internal/util/Preconditions", "checkIndex", "(IILjava/util/function/BiFunction;)I"⟩ : MethodName) jdk_41_method_11_code 3 (some .int) :: ws) ({ frames := 0, cells := 0, slots := 0, locals := 0 } : Room)) (fun aQ_ UQ => aQ_ = #[(.int j), (.int z), fm] ∧ Z.Warmed39 UQ.vm ∧ UQ.heap = h0) (fun _ _ _ _ _ => True) (fun _ UQ oQ UQ' => ∃ vQ_ LQ_, oQ = .returned vQ_ ∧ Q_pcheck Z j z fm h0 n0 vQ_ UQ'.heap LQ_ ∧ FrameEnd UQ oQ UQ' LQ_ ({ frames := 0, cells := 0, slots := 0, locals := 0 } : Room).cells ({ frames := 0, cells := 0, slots := 0, locals := 0 } : Room).slots) := by
  refine MetFree.of_bodySF (plainFor_of_name pn_jdk_internal_util_Preconditions) hisR ?_
  intro p e s m args below meth cO s₁ Bd hml0 hP hK
  obtain ⟨rfl, hZ, hh⟩ := hP
  have hx := Bd.exec
  have hby := Bd.bytes
  have hml : cO.maxLocals = 3 := hml0
  have hown : s.vm.findClass "jdk/internal/util/Preconditions" = some m.cls := findClass_of_methodNamed Bd.named
  have hnm := (name_of_methodNamed Bd.named Bd.method).1
  have X0 : Stand p l e ({ frames := 0, cells := 0, slots := 0, locals := 0 } : Room) s m #[(.int j), (.int z), fm] below meth cO s₁ [] 0 0 := Stand.of_body Bd
  have e0 : s₁.heap = h0 := by rw [← hh, Bd.state]; rfl
  have N0 := Fr.nil n0
  have W0 : ∀ zQ, SS p e below s₁ m 0 #[.val (.int j), .val (.int z), .val fm] [] zQ → Steps p.tables e below (s₁.setTop (entryFrame m #[(.int j), (.int z), fm] 3)) zQ := fun tt kt => castTop (ef_pcheck m j z fm (XT.cat1 hfm)) kt
  have W101 : ∀ zQ, SS p e below s₁ m 17 #[.val (.int j), .val (.int z), .val fm] [(.int j)] zQ → Steps p.tables e below (s₁.setTop (entryFrame m #[(.int j), (.int z), fm] 3)) zQ := by
    intro tt kt
    refine W0 tt ?_
    refine XS.iloadN X0.here hx rfl (hb hby d_jdk_41_method_11_0) rfl ?_
    show SS p e below s₁ m 1 #[.val (.int j), .val (.int z), .val fm] [(.int j)] _
    refine XS.ifNo X0.here hx rfl (hb hby d_jdk_41_method_11_1) rfl ((if0 _ _).trans (flt hj0).1) ?_
    show SS p e below s₁ m 4 #[.val (.int j), .val (.int z), .val fm] [] _
    refine XS.iloadN X0.here hx rfl (hb hby d_jdk_41_method_11_4) rfl ?_
    show SS p e below s₁ m 5 #[.val (.int j), .val (.int z), .val fm] [(.int j)] _
    refine XS.iloadN X0.here hx rfl (hb hby d_jdk_41_method_11_5) rfl ?_
    show SS p e below s₁ m 6 #[.val (.int j), .val (.int z), .val fm] [(.int z), (.int j)] _
    refine XS.icmpYes X0.here hx rfl (pc0 := 6) (pc' := 16) rfl (hb hby d_jdk_41_method_11_6) rfl (tlt hj1).1 (by decide) (by decide) ?_
    show SS p e below s₁ m 16 #[.val (.int j), .val (.int z), .val fm] [] _
    refine XS.iloadN X0.here hx rfl (hb hby d_jdk_41_method_11_16) rfl ?_
    show SS p e below s₁ m 17 #[.val (.int j), .val (.int z), .val fm] [(.int j)] _
    exact kt
  obtain ⟨fs, hr, hrun, hended, hW, hsame⟩ := X0.leave (v := some (.int j)) (fun h => by rw [Bd.returns] at h; cases h)
  refine ⟨_, _, W101 _ (retI X0 hx Bd.returns (hb hby d_jdk_41_method_11_17) hr), hrun, hended, _, _, rfl, ?_, ⟨_, rfl⟩, hW, hsame.mono (by decide) (by decide)⟩
  show Q_pcheck Z j z fm h0 n0 _ s₁.heap _
  rw [e0]
  exact ⟨rfl, N0, rfl⟩
def Q_scheck (Z : State) (j : Int32) (z : Int32) (fm : Value) (h0 : Heap) (n0 : Nat) (vQ_ : Option Value) (hQ_ : Heap) (LQ_ : List Loc) : Prop := vQ_ = none ∧ Fr n0 LQ_ ∧ hQ_ = h0
set_option maxRecDepth 65536 in
set_option maxHeartbeats 40000000 in
theorem rm_scheck (l : Launch) (Z : State) (a0 : Array Value) (hw : ∀ d ∈ tables_1, d.before a0 Z = true) (ws : List Jvm.Cond) (j : Int32) (z : Int32) (fm : Value) (h0 : Heap) (n0 : Nat) (Z0 : n0 ≤ h0.size) (O0 : Old Z n0 h0) (S_fm : Sta Z Z.heap "jdk/internal/util/Preconditions" "SIOOBE_FORMATTER" "Ljava/util/function/BiFunction;" fm) (hfm : fm.isRef = true) (hj0 : ¬ (j < (0 : Int32))) (hj1 : j < z) :
    MetFree l (⟨"java/lang/String", "checkIndex", "(II)V"⟩ : MethodName) (head1 (Jvm.Cond.code (⟨"java/lang/String", "checkIndex", "(II)V"⟩ : MethodName) jdk_42_method_155_code 2 none :: ws) ({ frames := 1, cells := 0, slots := 0, locals := 14 } : Room)) (fun aQ_ UQ => aQ_ = #[(.int j), (.int z)] ∧ Z.Warmed39 UQ.vm ∧ UQ.heap = h0) (fun _ _ _ _ _ => True) (fun _ UQ oQ UQ' => ∃ vQ_ LQ_, oQ = .returned vQ_ ∧ Q_scheck Z j z fm h0 n0 vQ_ UQ'.heap LQ_ ∧ FrameEnd UQ oQ UQ' LQ_ ({ frames := 1, cells := 0, slots := 0, locals := 14 } : Room).cells ({ frames := 1, cells := 0, slots := 0, locals := 14 } : Room).slots) := by
  refine MetFree.of_bodySF (plainFor_of_name pn_java_lang_String) hisR ?_
  intro p e s m args below meth cO s₁ Bd hml0 hP hK
  obtain ⟨rfl, hZ, hh⟩ := hP
  have hx := Bd.exec
  have hby := Bd.bytes
  have hml : cO.maxLocals = 2 := hml0
  have hown : s.vm.findClass "java/lang/String" = some m.cls := findClass_of_methodNamed Bd.named
  have hnm := (name_of_methodNamed Bd.named Bd.method).1
  have X0 : Stand p l e ({ frames := 1, cells := 0, slots := 0, locals := 14 } : Room) s m #[(.int j), (.int z)] below meth cO s₁ [] 0 0 := Stand.of_body Bd
  have e0 : s₁.heap = h0 := by rw [← hh, Bd.state]; rfl
  have N0 := Fr.nil n0
  have W0 : ∀ zQ, SS p e below s₁ m 0 #[.val (.int j), .val (.int z)] [] zQ → Steps p.tables e below (s₁.setTop (entryFrame m #[(.int j), (.int z)] 2)) zQ := fun tt kt => castTop (ef_scheck m j z) kt
  have F102 : Sta Z h0 "jdk/internal/util/Preconditions" "SIOOBE_FORMATTER" "Ljava/util/function/BiFunction;" fm := S_fm.ext O0.2
  obtain ⟨T101, X101, e101, st101⟩ := getS2 X0 hx hZ hown (host := "") (Or.inl (w56 hw)) Via.refl e0 F102 (g := (mkF m 2 #[.val (.int j), .val (.int z)] [(.int z), (.int j)])) rfl (hb hby d_jdk_42_method_155_2)
  obtain ⟨_, _, ⟨T103, L103, k103, n103⟩, -, X103, ⟨Lc103, hQ103, l103, y103, z103⟩, st103⟩ := Jvm.LawKit.callS X101 hx (y := (⟨"jdk/internal/util/Preconditions", "checkIndex", "(IILjava/util/function/BiFunction;)I"⟩ : MethodName)) hown (mvT hZ (w58 hw)) (mvT hZ (w59 hw)) (mvT hZ (w57 hw)) (mvT hZ (w60 hw)) (by decide) (backOf (W := 0) (rm_pcheck l Z a0 hw [] j z fm h0 n0 Z0 hfm hj0 hj1) hZ (w60 hw) (w57 hw) (by decide) (by decide)) (g := (mkF m 5 #[.val (.int j), .val (.int z)] [fm, (.int z), (.int j)])) rfl (by rw [hml]; rfl) (argsL := [(.int j), (.int z), fm]) (rest := []) (lenOf pd__28_IILjava_2f_util_2f_function_2f_BiFunction_3b__29_I rfl) rfl (by show 2 * 0 + _ ≤ _; exact Nat.le_of_eq rfl) (hb hby d_jdk_42_method_155_5) (fun _ _ => ⟨rfl, e101, (Nat.le_of_ble_eq_true rfl), (Nat.le_of_ble_eq_true rfl)⟩)
  dsimp only [Pt.U, Pt.locs, Pt.cells, Pt.slots] at X103 l103 y103 z103 st103 hQ103
  subst l103 y103 z103
  obtain ⟨rfl, Nq103, eq103⟩ := hQ103
  have N103 := Fr.app N0 Nq103
  have W104 : ∀ zQ, SS p e below T103 m 9 #[.val (.int j), .val (.int z)] [] zQ → Steps p.tables e below (s₁.setTop (entryFrame m #[(.int j), (.int z)] 2)) zQ := by
    intro tt kt
    refine W0 tt ?_
    refine XS.iloadN X0.here hx rfl (hb hby d_jdk_42_method_155_0) rfl ?_
    show SS p e below s₁ m 1 #[.val (.int j), .val (.int z)] [(.int j)] _
    refine XS.iloadN X0.here hx rfl (hb hby d_jdk_42_method_155_1) rfl ?_
    show SS p e below s₁ m 2 #[.val (.int j), .val (.int z)] [(.int z), (.int j)] _
    refine st101 _ ?_
    show SS p e below T101 m 5 #[.val (.int j), .val (.int z)] [fm, (.int z), (.int j)] _
    refine st103 _ ?_
    show SS p e below T103 m 8 #[.val (.int j), .val (.int z)] [(.int j)] _
    refine XS.pop X103.here hx rfl (hb hby d_jdk_42_method_155_8) rfl rfl ?_
    show SS p e below T103 m 9 #[.val (.int j), .val (.int z)] [] _
    exact kt
  obtain ⟨fs, hr, hrun, hended, hW, hsame⟩ := X103.leave (v := none) (fun _ => rfl)
  refine ⟨_, _, W104 _ (X103.returnOut hx Bd.returns (hb hby d_jdk_42_method_155_9) hr), hrun, hended, _, _, rfl, ?_, ⟨_, rfl⟩, hW, hsame.mono (by decide) (by decide)⟩
  show Q_scheck Z j z fm h0 n0 _ T103.heap _
  rw [eq103]
  exact ⟨rfl, N103, rfl⟩
def Q_l1charAt (Z : State) (t : Addr) (i : Nat) (kb : ClassId) (cs : List Int32) (fm : Value) (h0 : Heap) (n0 : Nat) (vQ_ : Option Value) (hQ_ : Heap) (LQ_ : List Loc) : Prop := vQ_ = some (.int (cs.getD i 0)) ∧ Fr n0 LQ_ ∧ hQ_ = h0
set_option maxRecDepth 65536 in
set_option maxHeartbeats 40000000 in
theorem rm_l1charAt (l : Launch) (Z : State) (a0 : Array Value) (hw : ∀ d ∈ tables_1, d.before a0 Z = true) (ws : List Jvm.Cond) (t : Addr) (i : Nat) (kb : ClassId) (cs : List Int32) (fm : Value) (h0 : Heap) (n0 : Nat) (Z0 : n0 ≤ h0.size) (O0 : Old Z n0 h0) (S_fm : Sta Z Z.heap "jdk/internal/util/Preconditions" "SIOOBE_FORMATTER" "Ljava/util/function/BiFunction;" fm) (hfm : fm.isRef = true) (A1 : Arv Z h0 t kb .byte (Int32.ofNat cs.length) (l1 cs) (.int (0 : Int32))) (hi : i < cs.length) (ok : OkS cs) (hl : lat cs = true) :
    MetFree l (⟨"java/lang/StringLatin1", "charAt", "([BI)C"⟩ : MethodName) (head1 (Jvm.Cond.code (⟨"java/lang/StringLatin1", "charAt", "([BI)C"⟩ : MethodName) jdk_43_method_2_code 2 (some .char) :: ws) ({ frames := 2, cells := 0, slots := 0, locals := 27 } : Room)) (fun aQ_ UQ => aQ_ = #[(.ref t), (.int (Int32.ofNat i))] ∧ Z.Warmed39 UQ.vm ∧ UQ.heap = h0) (fun _ _ _ _ _ => True) (fun _ UQ oQ UQ' => ∃ vQ_ LQ_, oQ = .returned vQ_ ∧ Q_l1charAt Z t i kb cs fm h0 n0 vQ_ UQ'.heap LQ_ ∧ FrameEnd UQ oQ UQ' LQ_ ({ frames := 2, cells := 0, slots := 0, locals := 27 } : Room).cells ({ frames := 2, cells := 0, slots := 0, locals := 27 } : Room).slots) := by
  refine MetFree.of_bodySF (plainFor_of_name pn_java_lang_StringLatin1) hisR ?_
  intro p e s m args below meth cO s₁ Bd hml0 hP hK
  obtain ⟨rfl, hZ, hh⟩ := hP
  have hx := Bd.exec
  have hby := Bd.bytes
  have hml : cO.maxLocals = 2 := hml0
  have hown : s.vm.findClass "java/lang/StringLatin1" = some m.cls := findClass_of_methodNamed Bd.named
  have hnm := (name_of_methodNamed Bd.named Bd.method).1
  have X0 : Stand p l e ({ frames := 2, cells := 0, slots := 0, locals := 27 } : Room) s m #[(.ref t), (.int (Int32.ofNat i))] below meth cO s₁ [] 0 0 := Stand.of_body Bd
  have e0 : s₁.heap = h0 := by rw [← hh, Bd.state]; rfl
  have N0 := Fr.nil n0
  have W0 : ∀ zQ, SS p e below s₁ m 0 #[.val (.ref t), .val (.int (Int32.ofNat i))] [] zQ → Steps p.tables e below (s₁.setTop (entryFrame m #[(.ref t), (.int (Int32.ofNat i))] 2)) zQ := fun tt kt => castTop (ef_l1charAt m t (Int32.ofNat i)) kt
  obtain ⟨cl101, Ar101, -, S101, M101, -, -⟩ := id A1
  obtain ⟨_, _, ⟨T102, L102, k102, n102⟩, -, X102, ⟨Lc102, hQ102, l102, y102, z102⟩, st102⟩ := Jvm.LawKit.callS X0 hx (y := (⟨"java/lang/String", "checkIndex", "(II)V"⟩ : MethodName)) hown (mvT hZ (w53 hw)) (mvT hZ (w54 hw)) (mvT hZ (w8 hw)) (mvT hZ (w55 hw)) (by decide) (backOf (W := 0) (rm_scheck l Z a0 hw [] (Int32.ofNat i) (Int32.ofNat cs.length) fm h0 n0 Z0 O0 S_fm hfm (own_nneg (Nat.lt_trans hi (Nat.lt_trans ok.2 (by decide)))) (own_lt hi (Nat.lt_trans ok.2 (by decide)))) hZ (w55 hw) (w8 hw) (by decide) (by decide)) (g := (mkF m 3 #[.val (.ref t), .val (.int (Int32.ofNat i))] [(.int (Int32.ofNat cs.length)), (.int (Int32.ofNat i))])) rfl (by rw [hml]; rfl) (argsL := [(.int (Int32.ofNat i)), (.int (Int32.ofNat cs.length))]) (rest := []) (lenOf pd__28_II_29_V rfl) rfl (by show 2 * 0 + _ ≤ _; exact Nat.le_of_eq rfl) (hb hby d_jdk_43_method_2_3) (fun _ _ => ⟨rfl, e0, (Nat.le_of_ble_eq_true rfl), (Nat.le_of_ble_eq_true rfl)⟩)
  dsimp only [Pt.U, Pt.locs, Pt.cells, Pt.slots] at X102 l102 y102 z102 st102 hQ102
  subst l102 y102 z102
  obtain ⟨rfl, Nq102, eq102⟩ := hQ102
  have N102 := Fr.app N0 Nq102
  obtain ⟨cl103, Ar103, q103, S103, M103, H103, F103g⟩ := id A1
  have hin103 : ¬ ((Int32.ofNat i) < 0 ∨ cl103.slots.size ≤ ((Int32.ofNat i)).toNatClampNeg) := inb_of S103 ⟨own_nneg (Nat.lt_trans hi (Nat.lt_trans ok.2 (by decide))), own_lt hi (Nat.lt_trans ok.2 (by decide))⟩
  have hat103 : cl103.slots[((Int32.ofNat i)).toNatClampNeg]? = some (.int ((cs.getD i 0).toInt8.toInt32)) := Has.at H103 hin103 (by rw [own_cl (Nat.lt_trans hi (Nat.lt_trans ok.2 (by decide)))]; exact l1_at cs i _ hi)
  have W104 : ∀ zQ, SS p e below T102 m 14 #[.val (.ref t), .val (.int (Int32.ofNat i))] [(.int ((((cs.getD i 0).toInt8.toInt32) &&& (255 : Int32)).toUInt32.toUInt16.toUInt32.toInt32))] zQ → Steps p.tables e below (s₁.setTop (entryFrame m #[(.ref t), (.int (Int32.ofNat i))] 2)) zQ := by
    intro tt kt
    refine W0 tt ?_
    refine XS.iloadN X0.here hx rfl (hb hby d_jdk_43_method_2_0) rfl ?_
    show SS p e below s₁ m 1 #[.val (.ref t), .val (.int (Int32.ofNat i))] [(.int (Int32.ofNat i))] _
    refine XS.aloadN X0.here hx rfl (hb hby d_jdk_43_method_2_1) rfl rfl ?_
    show SS p e below s₁ m 2 #[.val (.ref t), .val (.int (Int32.ofNat i))] [(.ref t), (.int (Int32.ofNat i))] _
    refine X0.arraylength hx (by first | exact Ar101.1 | (rw [e0]; exact Ar101.1)) (State.isArrayOf_alike hZ.alike Ar101.2.1) (g := (mkF m 2 #[.val (.ref t), .val (.int (Int32.ofNat i))] [(.ref t), (.int (Int32.ofNat i))])) rfl rfl (hb hby d_jdk_43_method_2_2) _ ?_
    rw [len_of S101 M101]
    show SS p e below s₁ m 3 #[.val (.ref t), .val (.int (Int32.ofNat i))] [(.int (Int32.ofNat cs.length)), (.int (Int32.ofNat i))] _
    refine st102 _ ?_
    show SS p e below T102 m 6 #[.val (.ref t), .val (.int (Int32.ofNat i))] [] _
    refine XS.aloadN X102.here hx rfl (hb hby d_jdk_43_method_2_6) rfl rfl ?_
    show SS p e below T102 m 7 #[.val (.ref t), .val (.int (Int32.ofNat i))] [(.ref t)] _
    refine XS.iloadN X102.here hx rfl (hb hby d_jdk_43_method_2_7) rfl ?_
    show SS p e below T102 m 8 #[.val (.ref t), .val (.int (Int32.ofNat i))] [(.int (Int32.ofNat i)), (.ref t)] _
    refine X102.baloadBytes hx (j := (Int32.ofNat i)) (v := (.int ((cs.getD i 0).toInt8.toInt32))) (by first | exact Ar103.1 | (rw [eq102]; exact Ar103.1)) (State.isArrayOf_alike hZ.alike Ar103.2.1) Ar103.2.2 hin103 hat103 (g := (mkF m 8 #[.val (.ref t), .val (.int (Int32.ofNat i))] [(.int (Int32.ofNat i)), (.ref t)])) rfl rfl (hb hby d_jdk_43_method_2_8) _ ?_
    show SS p e below T102 m 9 #[.val (.ref t), .val (.int (Int32.ofNat i))] [(.int ((cs.getD i 0).toInt8.toInt32))] _
    refine XS.sipush X102.here hx rfl (hb hby d_jdk_43_method_2_9) ?_
    show SS p e below T102 m 12 #[.val (.ref t), .val (.int (Int32.ofNat i))] [(.int (255 : Int32)), (.int ((cs.getD i 0).toInt8.toInt32))] _
    refine XS.iand X102.here hx rfl (hb hby d_jdk_43_method_2_12) rfl ?_
    show SS p e below T102 m 13 #[.val (.ref t), .val (.int (Int32.ofNat i))] [(.int (((cs.getD i 0).toInt8.toInt32) &&& (255 : Int32)))] _
    refine XS.i2c X102.here hx rfl (hb hby d_jdk_43_method_2_13) rfl ?_
    show SS p e below T102 m 14 #[.val (.ref t), .val (.int (Int32.ofNat i))] [(.int ((((cs.getD i 0).toInt8.toInt32) &&& (255 : Int32)).toUInt32.toUInt16.toUInt32.toInt32))] _
    exact kt
  obtain ⟨fs, hr, hrun, hended, hW, hsame⟩ := X102.leave (v := some (.int (nar .char ((((cs.getD i 0).toInt8.toInt32) &&& (255 : Int32)).toUInt32.toUInt16.toUInt32.toInt32)))) (fun h => by rw [Bd.returns] at h; cases h)
  refine ⟨_, _, W104 _ (retN X102 hx (t := .char) Bd.returns (by simp) (hb hby d_jdk_43_method_2_14) hr), hrun, hended, _, _, rfl, ?_, ⟨_, rfl⟩, hW, hsame.mono (by decide) (by decide)⟩
  show Q_l1charAt Z t i kb cs fm h0 n0 _ T102.heap _
  rw [eq102]
  exact ⟨(congrArg (fun q => some (Value.int q)) (own_l1c (ok.at hi).1 (lat_at hl hi))), N102, rfl⟩
def Q_u16length (Z : State) (t : Addr) (N : Nat) (kb : ClassId) (vs : List Value) (h0 : Heap) (n0 : Nat) (vQ_ : Option Value) (hQ_ : Heap) (LQ_ : List Loc) : Prop := vQ_ = some (.int (Int32.ofNat N)) ∧ Fr n0 LQ_ ∧ hQ_ = h0
set_option maxRecDepth 65536 in
set_option maxHeartbeats 40000000 in
theorem rm_u16length (l : Launch) (Z : State) (a0 : Array Value) (hw : ∀ d ∈ tables_1, d.before a0 Z = true) (ws : List Jvm.Cond) (t : Addr) (N : Nat) (kb : ClassId) (vs : List Value) (h0 : Heap) (n0 : Nat) (Z0 : n0 ≤ h0.size) (A1 : Arv Z h0 t kb .byte (Int32.ofNat (2 * N)) vs (.int (0 : Int32))) (hN : 2 * N < 2147483648) :
    MetFree l (⟨"java/lang/StringUTF16", "length", "([B)I"⟩ : MethodName) (head1 (Jvm.Cond.code (⟨"java/lang/StringUTF16", "length", "([B)I"⟩ : MethodName) jdk_52_method_6_code 1 (some .int) :: ws) ({ frames := 0, cells := 0, slots := 0, locals := 0 } : Room)) (fun aQ_ UQ => aQ_ = #[(.ref t)] ∧ Z.Warmed39 UQ.vm ∧ UQ.heap = h0) (fun _ _ _ _ _ => True) (fun _ UQ oQ UQ' => ∃ vQ_ LQ_, oQ = .returned vQ_ ∧ Q_u16length Z t N kb vs h0 n0 vQ_ UQ'.heap LQ_ ∧ FrameEnd UQ oQ UQ' LQ_ ({ frames := 0, cells := 0, slots := 0, locals := 0 } : Room).cells ({ frames := 0, cells := 0, slots := 0, locals := 0 } : Room).slots) := by
  refine MetFree.of_bodySF (plainFor_of_name pn_java_lang_StringUTF16) hisR ?_
  intro p e s m args below meth cO s₁ Bd hml0 hP hK
  obtain ⟨rfl, hZ, hh⟩ := hP
  have hx := Bd.exec
  have hby := Bd.bytes
  have hml : cO.maxLocals = 1 := hml0
  have hown : s.vm.findClass "java/lang/StringUTF16" = some m.cls := findClass_of_methodNamed Bd.named
  have hnm := (name_of_methodNamed Bd.named Bd.method).1
  have X0 : Stand p l e ({ frames := 0, cells := 0, slots := 0, locals := 0 } : Room) s m #[(.ref t)] below meth cO s₁ [] 0 0 := Stand.of_body Bd
  have e0 : s₁.heap = h0 := by rw [← hh, Bd.state]; rfl
  have N0 := Fr.nil n0
  have W0 : ∀ zQ, SS p e below s₁ m 0 #[.val (.ref t)] [] zQ → Steps p.tables e below (s₁.setTop (entryFrame m #[(.ref t)] 1)) zQ := fun tt kt => castTop (ef_u16length m t) kt
  obtain ⟨cl101, Ar101, -, S101, M101, -, -⟩ := id A1
  have W102 : ∀ zQ, SS p e below s₁ m 4 #[.val (.ref t)] [(.int (Int32.ofNat N))] zQ → Steps p.tables e below (s₁.setTop (entryFrame m #[(.ref t)] 1)) zQ := by
    intro tt kt
    refine W0 tt ?_
    refine XS.aloadN X0.here hx rfl (hb hby d_jdk_52_method_6_0) rfl rfl ?_
    show SS p e below s₁ m 1 #[.val (.ref t)] [(.ref t)] _
    refine X0.arraylength hx (by first | exact Ar101.1 | (rw [e0]; exact Ar101.1)) (State.isArrayOf_alike hZ.alike Ar101.2.1) (g := (mkF m 1 #[.val (.ref t)] [(.ref t)])) rfl rfl (hb hby d_jdk_52_method_6_1) _ ?_
    rw [len_of S101 M101]
    show SS p e below s₁ m 2 #[.val (.ref t)] [(.int (Int32.ofNat (2 * N)))] _
    refine XS.iconst X0.here hx rfl (hb hby d_jdk_52_method_6_2) ?_
    show SS p e below s₁ m 3 #[.val (.ref t)] [(.int (1 : Int32)), (.int (Int32.ofNat (2 * N)))] _
    refine XS.ishr X0.here hx rfl (hb hby d_jdk_52_method_6_3) rfl ?_
    show SS p e below s₁ m 4 #[.val (.ref t)] [(.int ((Int32.ofNat (2 * N)) >>> ((1 : Int32) &&& 31)))] _
    rw [show ((Int32.ofNat (2 * N)) >>> ((1 : Int32) &&& 31)) = (Int32.ofNat N) from own_shr1 hN]
    show SS p e below s₁ m 4 #[.val (.ref t)] [(.int (Int32.ofNat N))] _
    exact kt
  obtain ⟨fs, hr, hrun, hended, hW, hsame⟩ := X0.leave (v := some (.int (Int32.ofNat N))) (fun h => by rw [Bd.returns] at h; cases h)
  refine ⟨_, _, W102 _ (retI X0 hx Bd.returns (hb hby d_jdk_52_method_6_4) hr), hrun, hended, _, _, rfl, ?_, ⟨_, rfl⟩, hW, hsame.mono (by decide) (by decide)⟩
  show Q_u16length Z t N kb vs h0 n0 _ s₁.heap _
  rw [e0]
  exact ⟨rfl, N0, rfl⟩
def Q_u16check (Z : State) (t : Addr) (i : Nat) (N : Nat) (kb : ClassId) (vs : List Value) (fm : Value) (h0 : Heap) (n0 : Nat) (vQ_ : Option Value) (hQ_ : Heap) (LQ_ : List Loc) : Prop := vQ_ = none ∧ Fr n0 LQ_ ∧ hQ_ = h0
set_option maxRecDepth 65536 in
set_option maxHeartbeats 40000000 in
theorem rm_u16check (l : Launch) (Z : State) (a0 : Array Value) (hw : ∀ d ∈ tables_1, d.before a0 Z = true) (ws : List Jvm.Cond) (t : Addr) (i : Nat) (N : Nat) (kb : ClassId) (vs : List Value) (fm : Value) (h0 : Heap) (n0 : Nat) (Z0 : n0 ≤ h0.size) (O0 : Old Z n0 h0) (S_fm : Sta Z Z.heap "jdk/internal/util/Preconditions" "SIOOBE_FORMATTER" "Ljava/util/function/BiFunction;" fm) (hfm : fm.isRef = true) (A1 : Arv Z h0 t kb .byte (Int32.ofNat (2 * N)) vs (.int (0 : Int32))) (hN : 2 * N < 2147483648) (hi : i < N) :
    MetFree l (⟨"java/lang/StringUTF16", "checkIndex", "(I[B)V"⟩ : MethodName) (head1 (Jvm.Cond.code (⟨"java/lang/StringUTF16", "checkIndex", "(I[B)V"⟩ : MethodName) jdk_52_method_91_code 2 none :: ws) ({ frames := 2, cells := 0, slots := 0, locals := 27 } : Room)) (fun aQ_ UQ => aQ_ = #[(.int (Int32.ofNat i)), (.ref t)] ∧ Z.Warmed39 UQ.vm ∧ UQ.heap = h0) (fun _ _ _ _ _ => True) (fun _ UQ oQ UQ' => ∃ vQ_ LQ_, oQ = .returned vQ_ ∧ Q_u16check Z t i N kb vs fm h0 n0 vQ_ UQ'.heap LQ_ ∧ FrameEnd UQ oQ UQ' LQ_ ({ frames := 2, cells := 0, slots := 0, locals := 27 } : Room).cells ({ frames := 2, cells := 0, slots := 0, locals := 27 } : Room).slots) := by
  refine MetFree.of_bodySF (plainFor_of_name pn_java_lang_StringUTF16) hisR ?_
  intro p e s m args below meth cO s₁ Bd hml0 hP hK
  obtain ⟨rfl, hZ, hh⟩ := hP
  have hx := Bd.exec
  have hby := Bd.bytes
  have hml : cO.maxLocals = 2 := hml0
  have hown : s.vm.findClass "java/lang/StringUTF16" = some m.cls := findClass_of_methodNamed Bd.named
  have hnm := (name_of_methodNamed Bd.named Bd.method).1
  have X0 : Stand p l e ({ frames := 2, cells := 0, slots := 0, locals := 27 } : Room) s m #[(.int (Int32.ofNat i)), (.ref t)] below meth cO s₁ [] 0 0 := Stand.of_body Bd
  have e0 : s₁.heap = h0 := by rw [← hh, Bd.state]; rfl
  have N0 := Fr.nil n0
  have W0 : ∀ zQ, SS p e below s₁ m 0 #[.val (.int (Int32.ofNat i)), .val (.ref t)] [] zQ → Steps p.tables e below (s₁.setTop (entryFrame m #[(.int (Int32.ofNat i)), (.ref t)] 2)) zQ := fun tt kt => castTop (ef_u16check m (Int32.ofNat i) t) kt
  obtain ⟨_, _, ⟨T101, L101, k101, n101⟩, -, X101, ⟨Lc101, hQ101, l101, y101, z101⟩, st101⟩ := Jvm.LawKit.callS X0 hx (y := (⟨"java/lang/StringUTF16", "length", "([B)I"⟩ : MethodName)) hown (mvT hZ (w96 hw)) (mvT hZ (w97 hw)) (mvT hZ (w22 hw)) (mvT hZ (w98 hw)) (by decide) (backOf (W := 1) (rm_u16length l Z a0 hw [] t N kb vs h0 n0 Z0 A1 hN) hZ (w98 hw) (w22 hw) (by decide) (by decide)) (g := (mkF m 2 #[.val (.int (Int32.ofNat i)), .val (.ref t)] [(.ref t), (.int (Int32.ofNat i))])) rfl (by rw [hml]; rfl) (argsL := [(.ref t)]) (rest := [(.int (Int32.ofNat i))]) (lenOf pd__28__5b_B_29_I rfl) rfl (by show 2 * 0 + _ ≤ _; exact Nat.le_of_eq rfl) (hb hby d_jdk_52_method_91_2) (fun _ _ => ⟨rfl, e0, (Nat.le_of_ble_eq_true rfl), (Nat.le_of_ble_eq_true rfl)⟩)
  dsimp only [Pt.U, Pt.locs, Pt.cells, Pt.slots] at X101 l101 y101 z101 st101 hQ101
  subst l101 y101 z101
  obtain ⟨rfl, Nq101, eq101⟩ := hQ101
  have N101 := Fr.app N0 Nq101
  obtain ⟨_, _, ⟨T102, L102, k102, n102⟩, -, X102, ⟨Lc102, hQ102, l102, y102, z102⟩, st102⟩ := Jvm.LawKit.callS X101 hx (y := (⟨"java/lang/String", "checkIndex", "(II)V"⟩ : MethodName)) hown (mvT hZ (w99 hw)) (mvT hZ (w54 hw)) (mvT hZ (w8 hw)) (mvT hZ (w55 hw)) (by decide) (backOf (W := 0) (rm_scheck l Z a0 hw [] (Int32.ofNat i) (Int32.ofNat N) fm h0 n0 Z0 O0 S_fm hfm (own_nneg (by omega)) (own_lt hi (by omega))) hZ (w55 hw) (w8 hw) (by decide) (by decide)) (g := (mkF m 5 #[.val (.int (Int32.ofNat i)), .val (.ref t)] [(.int (Int32.ofNat N)), (.int (Int32.ofNat i))])) rfl (by rw [hml]; rfl) (argsL := [(.int (Int32.ofNat i)), (.int (Int32.ofNat N))]) (rest := []) (lenOf pd__28_II_29_V rfl) rfl (by show 2 * 0 + _ ≤ _; exact Nat.le_of_eq rfl) (hb hby d_jdk_52_method_91_5) (fun _ _ => ⟨rfl, eq101, (Nat.le_of_ble_eq_true rfl), (Nat.le_of_ble_eq_true rfl)⟩)
  dsimp only [Pt.U, Pt.locs, Pt.cells, Pt.slots] at X102 l102 y102 z102 st102 hQ102
  subst l102 y102 z102
  obtain ⟨rfl, Nq102, eq102⟩ := hQ102
  have N102 := Fr.app N101 Nq102
  have W103 : ∀ zQ, SS p e below T102 m 8 #[.val (.int (Int32.ofNat i)), .val (.ref t)] [] zQ → Steps p.tables e below (s₁.setTop (entryFrame m #[(.int (Int32.ofNat i)), (.ref t)] 2)) zQ := by
    intro tt kt
    refine W0 tt ?_
    refine XS.iloadN X0.here hx rfl (hb hby d_jdk_52_method_91_0) rfl ?_
    show SS p e below s₁ m 1 #[.val (.int (Int32.ofNat i)), .val (.ref t)] [(.int (Int32.ofNat i))] _
    refine XS.aloadN X0.here hx rfl (hb hby d_jdk_52_method_91_1) rfl rfl ?_
    show SS p e below s₁ m 2 #[.val (.int (Int32.ofNat i)), .val (.ref t)] [(.ref t), (.int (Int32.ofNat i))] _
    refine st101 _ ?_
    show SS p e below T101 m 5 #[.val (.int (Int32.ofNat i)), .val (.ref t)] [(.int (Int32.ofNat N)), (.int (Int32.ofNat i))] _
    refine st102 _ ?_
    show SS p e below T102 m 8 #[.val (.int (Int32.ofNat i)), .val (.ref t)] [] _
    exact kt
  obtain ⟨fs, hr, hrun, hended, hW, hsame⟩ := X102.leave (v := none) (fun _ => rfl)
  refine ⟨_, _, W103 _ (X102.returnOut hx Bd.returns (hb hby d_jdk_52_method_91_8) hr), hrun, hended, _, _, rfl, ?_, ⟨_, rfl⟩, hW, hsame.mono (by decide) (by decide)⟩
  show Q_u16check Z t i N kb vs fm h0 n0 _ T102.heap _
  rw [eq102]
  exact ⟨rfl, N102, rfl⟩
def Q_getChar (Z : State) (t : Addr) (i : Nat) (kb : ClassId) (cs : List Int32) (h0 : Heap) (n0 : Nat) (vQ_ : Option Value) (hQ_ : Heap) (LQ_ : List Loc) : Prop := vQ_ = some (.int (cs.getD i 0)) ∧ Fr n0 LQ_ ∧ hQ_ = h0
set_option maxRecDepth 65536 in
set_option maxHeartbeats 40000000 in
theorem rm_getChar (l : Launch) (Z : State) (a0 : Array Value) (hw : ∀ d ∈ tables_1, d.before a0 Z = true) (ws : List Jvm.Cond) (t : Addr) (i : Nat) (kb : ClassId) (cs : List Int32) (h0 : Heap) (n0 : Nat) (Z0 : n0 ≤ h0.size) (O0 : Old Z n0 h0) (S_ad : Sta Z Z.heap "java/lang/StringUTF16" "$assertionsDisabled" "Z" (.int (1 : Int32))) (S_hi : Sta Z Z.heap "java/lang/StringUTF16" "HI_BYTE_SHIFT" "I" (.int (0 : Int32))) (S_lo : Sta Z Z.heap "java/lang/StringUTF16" "LO_BYTE_SHIFT" "I" (.int (8 : Int32))) (A1 : Arv Z h0 t kb .byte (Int32.ofNat (2 * cs.length)) (u16 cs) (.int (0 : Int32))) (hi : i < cs.length) (ok : OkS cs) :
    MetFree l (⟨"java/lang/StringUTF16", "getChar", "([BI)C"⟩ : MethodName) (head1 (Jvm.Cond.code (⟨"java/lang/StringUTF16", "getChar", "([BI)C"⟩ : MethodName) jdk_52_method_5_code 2 (some .char) :: ws) ({ frames := 0, cells := 0, slots := 0, locals := 0 } : Room)) (fun aQ_ UQ => aQ_ = #[(.ref t), (.int (Int32.ofNat i))] ∧ Z.Warmed39 UQ.vm ∧ UQ.heap = h0) (fun _ _ _ _ _ => True) (fun _ UQ oQ UQ' => ∃ vQ_ LQ_, oQ = .returned vQ_ ∧ Q_getChar Z t i kb cs h0 n0 vQ_ UQ'.heap LQ_ ∧ FrameEnd UQ oQ UQ' LQ_ ({ frames := 0, cells := 0, slots := 0, locals := 0 } : Room).cells ({ frames := 0, cells := 0, slots := 0, locals := 0 } : Room).slots) := by
  refine MetFree.of_bodySF (plainFor_of_name pn_java_lang_StringUTF16) hisR ?_
  intro p e s m args below meth cO s₁ Bd hml0 hP hK
  obtain ⟨rfl, hZ, hh⟩ := hP
  have hx := Bd.exec
  have hby := Bd.bytes
  have hml : cO.maxLocals = 2 := hml0
  have hown : s.vm.findClass "java/lang/StringUTF16" = some m.cls := findClass_of_methodNamed Bd.named
  have hnm := (name_of_methodNamed Bd.named Bd.method).1
  have X0 : Stand p l e ({ frames := 0, cells := 0, slots := 0, locals := 0 } : Room) s m #[(.ref t), (.int (Int32.ofNat i))] below meth cO s₁ [] 0 0 := Stand.of_body Bd
  have e0 : s₁.heap = h0 := by rw [← hh, Bd.state]; rfl
  have N0 := Fr.nil n0
  have W0 : ∀ zQ, SS p e below s₁ m 0 #[.val (.ref t), .val (.int (Int32.ofNat i))] [] zQ → Steps p.tables e below (s₁.setTop (entryFrame m #[(.ref t), (.int (Int32.ofNat i))] 2)) zQ := fun tt kt => castTop (ef_getChar m t (Int32.ofNat i)) kt
  have hn : cs.length < 1048576 := ok.2
  have F102 : Sta Z h0 "java/lang/StringUTF16" "$assertionsDisabled" "Z" (.int (1 : Int32)) := S_ad.ext O0.2
  obtain ⟨T101, X101, e101, st101⟩ := getS2 X0 hx hZ hown (host := "") (Or.inl (w84 hw)) Via.refl e0 F102 (g := (mkF m 0 #[.val (.ref t), .val (.int (Int32.ofNat i))] [])) rfl (hb hby d_jdk_52_method_5_0)
  obtain ⟨cl103, Ar103, q103, S103, M103, H103, F103g⟩ := id A1
  have hin103 : ¬ ((Int32.ofNat (2 * i)) < 0 ∨ cl103.slots.size ≤ ((Int32.ofNat (2 * i))).toNatClampNeg) := inb_of S103 ⟨own_nneg (by omega), own_lt (by omega) (by omega)⟩
  have hat103 : cl103.slots[((Int32.ofNat (2 * i))).toNatClampNeg]? = some (.int ((cs.getD i 0 >>> ((0 : Int32) &&& 31)).toInt8.toInt32)) := Has.at H103 hin103 (by rw [own_cl (by omega)]; exact (u16_at cs i _ hi).1)
  have F105 : Sta Z h0 "java/lang/StringUTF16" "HI_BYTE_SHIFT" "I" (.int (0 : Int32)) := S_hi.ext O0.2
  obtain ⟨T104, X104, e104, st104⟩ := getS2 X101 hx hZ hown (host := "") (Or.inl (w85 hw)) Via.refl e101 F105 (g := (mkF m 42 #[.val (.ref t), .val (.int (Int32.ofNat (2 * i + 1)))] [(.int (((cs.getD i 0 >>> ((0 : Int32) &&& 31)).toInt8.toInt32) &&& (255 : Int32)))])) rfl (hb hby d_jdk_52_method_5_42)
  obtain ⟨cl106, Ar106, q106, S106, M106, H106, F106g⟩ := id A1
  have hin106 : ¬ ((Int32.ofNat (2 * i + 1)) < 0 ∨ cl106.slots.size ≤ ((Int32.ofNat (2 * i + 1))).toNatClampNeg) := inb_of S106 ⟨own_nneg (by omega), own_lt (by omega) (by omega)⟩
  have hat106 : cl106.slots[((Int32.ofNat (2 * i + 1))).toNatClampNeg]? = some (.int ((cs.getD i 0 >>> ((8 : Int32) &&& 31)).toInt8.toInt32)) := Has.at H106 hin106 (by rw [own_cl (by omega)]; exact (u16_at cs i _ hi).2)
  have F108 : Sta Z h0 "java/lang/StringUTF16" "LO_BYTE_SHIFT" "I" (.int (8 : Int32)) := S_lo.ext O0.2
  obtain ⟨T107, X107, e107, st107⟩ := getS2 X104 hx hZ hown (host := "") (Or.inl (w86 hw)) Via.refl e104 F108 (g := (mkF m 53 #[.val (.ref t), .val (.int (Int32.ofNat (2 * i + 1)))] [(.int (((cs.getD i 0 >>> ((8 : Int32) &&& 31)).toInt8.toInt32) &&& (255 : Int32))), (.int ((((cs.getD i 0 >>> ((0 : Int32) &&& 31)).toInt8.toInt32) &&& (255 : Int32)) <<< ((0 : Int32) &&& 31)))])) rfl (hb hby d_jdk_52_method_5_53)
  have W109 : ∀ zQ, SS p e below T107 m 59 #[.val (.ref t), .val (.int (Int32.ofNat (2 * i + 1)))] [(.int ((((((cs.getD i 0 >>> ((0 : Int32) &&& 31)).toInt8.toInt32) &&& (255 : Int32)) <<< ((0 : Int32) &&& 31)) ||| ((((cs.getD i 0 >>> ((8 : Int32) &&& 31)).toInt8.toInt32) &&& (255 : Int32)) <<< ((8 : Int32) &&& 31))).toUInt32.toUInt16.toUInt32.toInt32))] zQ → Steps p.tables e below (s₁.setTop (entryFrame m #[(.ref t), (.int (Int32.ofNat i))] 2)) zQ := by
    intro tt kt
    refine W0 tt ?_
    refine st101 _ ?_
    show SS p e below T101 m 3 #[.val (.ref t), .val (.int (Int32.ofNat i))] [(.int (1 : Int32))] _
    refine XS.ifYes X101.here hx rfl (pc0 := 3) (pc' := 28) rfl (hb hby d_jdk_52_method_5_3) rfl ((if0 _ _).trans (feq (by decide)).2) (by decide) (by decide) ?_
    show SS p e below T101 m 28 #[.val (.ref t), .val (.int (Int32.ofNat i))] [] _
    refine XS.iloadN X101.here hx rfl (hb hby d_jdk_52_method_5_28) rfl ?_
    show SS p e below T101 m 29 #[.val (.ref t), .val (.int (Int32.ofNat i))] [(.int (Int32.ofNat i))] _
    refine XS.iconst X101.here hx rfl (hb hby d_jdk_52_method_5_29) ?_
    show SS p e below T101 m 30 #[.val (.ref t), .val (.int (Int32.ofNat i))] [(.int (1 : Int32)), (.int (Int32.ofNat i))] _
    refine XS.ishl X101.here hx rfl (hb hby d_jdk_52_method_5_30) rfl ?_
    show SS p e below T101 m 31 #[.val (.ref t), .val (.int (Int32.ofNat i))] [(.int ((Int32.ofNat i) <<< ((1 : Int32) &&& 31)))] _
    rw [show ((Int32.ofNat i) <<< ((1 : Int32) &&& 31)) = (Int32.ofNat (2 * i)) from own_shl1 (by omega)]
    show SS p e below T101 m 31 #[.val (.ref t), .val (.int (Int32.ofNat i))] [(.int (Int32.ofNat (2 * i)))] _
    refine XS.istoreN X101.here hx rfl (hb hby d_jdk_52_method_5_31) rfl (l' := #[.val (.ref t), .val (.int (Int32.ofNat (2 * i)))]) rfl ?_
    show SS p e below T101 m 32 #[.val (.ref t), .val (.int (Int32.ofNat (2 * i)))] [] _
    refine XS.aloadN X101.here hx rfl (hb hby d_jdk_52_method_5_32) rfl rfl ?_
    show SS p e below T101 m 33 #[.val (.ref t), .val (.int (Int32.ofNat (2 * i)))] [(.ref t)] _
    refine XS.iloadN X101.here hx rfl (hb hby d_jdk_52_method_5_33) rfl ?_
    show SS p e below T101 m 34 #[.val (.ref t), .val (.int (Int32.ofNat (2 * i)))] [(.int (Int32.ofNat (2 * i))), (.ref t)] _
    refine XS.iinc X101.here hx rfl (hb hby d_jdk_52_method_5_34) rfl (l' := #[.val (.ref t), .val (.int ((Int32.ofNat (2 * i)) + (1 : Int32)))]) rfl ?_
    show SS p e below T101 m 37 #[.val (.ref t), .val (.int ((Int32.ofNat (2 * i)) + (1 : Int32)))] [(.int (Int32.ofNat (2 * i))), (.ref t)] _
    rw [show ((Int32.ofNat (2 * i)) + (1 : Int32)) = (Int32.ofNat (2 * i + 1)) from own_succ _]
    show SS p e below T101 m 37 #[.val (.ref t), .val (.int (Int32.ofNat (2 * i + 1)))] [(.int (Int32.ofNat (2 * i))), (.ref t)] _
    refine X101.baloadBytes hx (j := (Int32.ofNat (2 * i))) (v := (.int ((cs.getD i 0 >>> ((0 : Int32) &&& 31)).toInt8.toInt32))) (by first | exact Ar103.1 | (rw [e101]; exact Ar103.1)) (State.isArrayOf_alike hZ.alike Ar103.2.1) Ar103.2.2 hin103 hat103 (g := (mkF m 37 #[.val (.ref t), .val (.int (Int32.ofNat (2 * i + 1)))] [(.int (Int32.ofNat (2 * i))), (.ref t)])) rfl rfl (hb hby d_jdk_52_method_5_37) _ ?_
    show SS p e below T101 m 38 #[.val (.ref t), .val (.int (Int32.ofNat (2 * i + 1)))] [(.int ((cs.getD i 0 >>> ((0 : Int32) &&& 31)).toInt8.toInt32))] _
    refine XS.sipush X101.here hx rfl (hb hby d_jdk_52_method_5_38) ?_
    show SS p e below T101 m 41 #[.val (.ref t), .val (.int (Int32.ofNat (2 * i + 1)))] [(.int (255 : Int32)), (.int ((cs.getD i 0 >>> ((0 : Int32) &&& 31)).toInt8.toInt32))] _
    refine XS.iand X101.here hx rfl (hb hby d_jdk_52_method_5_41) rfl ?_
    show SS p e below T101 m 42 #[.val (.ref t), .val (.int (Int32.ofNat (2 * i + 1)))] [(.int (((cs.getD i 0 >>> ((0 : Int32) &&& 31)).toInt8.toInt32) &&& (255 : Int32)))] _
    refine st104 _ ?_
    show SS p e below T104 m 45 #[.val (.ref t), .val (.int (Int32.ofNat (2 * i + 1)))] [(.int (0 : Int32)), (.int (((cs.getD i 0 >>> ((0 : Int32) &&& 31)).toInt8.toInt32) &&& (255 : Int32)))] _
    refine XS.ishl X104.here hx rfl (hb hby d_jdk_52_method_5_45) rfl ?_
    show SS p e below T104 m 46 #[.val (.ref t), .val (.int (Int32.ofNat (2 * i + 1)))] [(.int ((((cs.getD i 0 >>> ((0 : Int32) &&& 31)).toInt8.toInt32) &&& (255 : Int32)) <<< ((0 : Int32) &&& 31)))] _
    refine XS.aloadN X104.here hx rfl (hb hby d_jdk_52_method_5_46) rfl rfl ?_
    show SS p e below T104 m 47 #[.val (.ref t), .val (.int (Int32.ofNat (2 * i + 1)))] [(.ref t), (.int ((((cs.getD i 0 >>> ((0 : Int32) &&& 31)).toInt8.toInt32) &&& (255 : Int32)) <<< ((0 : Int32) &&& 31)))] _
    refine XS.iloadN X104.here hx rfl (hb hby d_jdk_52_method_5_47) rfl ?_
    show SS p e below T104 m 48 #[.val (.ref t), .val (.int (Int32.ofNat (2 * i + 1)))] [(.int (Int32.ofNat (2 * i + 1))), (.ref t), (.int ((((cs.getD i 0 >>> ((0 : Int32) &&& 31)).toInt8.toInt32) &&& (255 : Int32)) <<< ((0 : Int32) &&& 31)))] _
    refine X104.baloadBytes hx (j := (Int32.ofNat (2 * i + 1))) (v := (.int ((cs.getD i 0 >>> ((8 : Int32) &&& 31)).toInt8.toInt32))) (by first | exact Ar106.1 | (rw [e104]; exact Ar106.1)) (State.isArrayOf_alike hZ.alike Ar106.2.1) Ar106.2.2 hin106 hat106 (g := (mkF m 48 #[.val (.ref t), .val (.int (Int32.ofNat (2 * i + 1)))] [(.int (Int32.ofNat (2 * i + 1))), (.ref t), (.int ((((cs.getD i 0 >>> ((0 : Int32) &&& 31)).toInt8.toInt32) &&& (255 : Int32)) <<< ((0 : Int32) &&& 31)))])) rfl rfl (hb hby d_jdk_52_method_5_48) _ ?_
    show SS p e below T104 m 49 #[.val (.ref t), .val (.int (Int32.ofNat (2 * i + 1)))] [(.int ((cs.getD i 0 >>> ((8 : Int32) &&& 31)).toInt8.toInt32)), (.int ((((cs.getD i 0 >>> ((0 : Int32) &&& 31)).toInt8.toInt32) &&& (255 : Int32)) <<< ((0 : Int32) &&& 31)))] _
    refine XS.sipush X104.here hx rfl (hb hby d_jdk_52_method_5_49) ?_
    show SS p e below T104 m 52 #[.val (.ref t), .val (.int (Int32.ofNat (2 * i + 1)))] [(.int (255 : Int32)), (.int ((cs.getD i 0 >>> ((8 : Int32) &&& 31)).toInt8.toInt32)), (.int ((((cs.getD i 0 >>> ((0 : Int32) &&& 31)).toInt8.toInt32) &&& (255 : Int32)) <<< ((0 : Int32) &&& 31)))] _
    refine XS.iand X104.here hx rfl (hb hby d_jdk_52_method_5_52) rfl ?_
    show SS p e below T104 m 53 #[.val (.ref t), .val (.int (Int32.ofNat (2 * i + 1)))] [(.int (((cs.getD i 0 >>> ((8 : Int32) &&& 31)).toInt8.toInt32) &&& (255 : Int32))), (.int ((((cs.getD i 0 >>> ((0 : Int32) &&& 31)).toInt8.toInt32) &&& (255 : Int32)) <<< ((0 : Int32) &&& 31)))] _
    refine st107 _ ?_
    show SS p e below T107 m 56 #[.val (.ref t), .val (.int (Int32.ofNat (2 * i + 1)))] [(.int (8 : Int32)), (.int (((cs.getD i 0 >>> ((8 : Int32) &&& 31)).toInt8.toInt32) &&& (255 : Int32))), (.int ((((cs.getD i 0 >>> ((0 : Int32) &&& 31)).toInt8.toInt32) &&& (255 : Int32)) <<< ((0 : Int32) &&& 31)))] _
    refine XS.ishl X107.here hx rfl (hb hby d_jdk_52_method_5_56) rfl ?_
    show SS p e below T107 m 57 #[.val (.ref t), .val (.int (Int32.ofNat (2 * i + 1)))] [(.int ((((cs.getD i 0 >>> ((8 : Int32) &&& 31)).toInt8.toInt32) &&& (255 : Int32)) <<< ((8 : Int32) &&& 31))), (.int ((((cs.getD i 0 >>> ((0 : Int32) &&& 31)).toInt8.toInt32) &&& (255 : Int32)) <<< ((0 : Int32) &&& 31)))] _
    refine XS.ior X107.here hx rfl (hb hby d_jdk_52_method_5_57) rfl ?_
    show SS p e below T107 m 58 #[.val (.ref t), .val (.int (Int32.ofNat (2 * i + 1)))] [(.int (((((cs.getD i 0 >>> ((0 : Int32) &&& 31)).toInt8.toInt32) &&& (255 : Int32)) <<< ((0 : Int32) &&& 31)) ||| ((((cs.getD i 0 >>> ((8 : Int32) &&& 31)).toInt8.toInt32) &&& (255 : Int32)) <<< ((8 : Int32) &&& 31))))] _
    refine XS.i2c X107.here hx rfl (hb hby d_jdk_52_method_5_58) rfl ?_
    show SS p e below T107 m 59 #[.val (.ref t), .val (.int (Int32.ofNat (2 * i + 1)))] [(.int ((((((cs.getD i 0 >>> ((0 : Int32) &&& 31)).toInt8.toInt32) &&& (255 : Int32)) <<< ((0 : Int32) &&& 31)) ||| ((((cs.getD i 0 >>> ((8 : Int32) &&& 31)).toInt8.toInt32) &&& (255 : Int32)) <<< ((8 : Int32) &&& 31))).toUInt32.toUInt16.toUInt32.toInt32))] _
    exact kt
  obtain ⟨fs, hr, hrun, hended, hW, hsame⟩ := X107.leave (v := some (.int (nar .char ((((((cs.getD i 0 >>> ((0 : Int32) &&& 31)).toInt8.toInt32) &&& (255 : Int32)) <<< ((0 : Int32) &&& 31)) ||| ((((cs.getD i 0 >>> ((8 : Int32) &&& 31)).toInt8.toInt32) &&& (255 : Int32)) <<< ((8 : Int32) &&& 31))).toUInt32.toUInt16.toUInt32.toInt32)))) (fun h => by rw [Bd.returns] at h; cases h)
  refine ⟨_, _, W109 _ (retN X107 hx (t := .char) Bd.returns (by simp) (hb hby d_jdk_52_method_5_59) hr), hrun, hended, _, _, rfl, ?_, ⟨_, rfl⟩, hW, hsame.mono (by decide) (by decide)⟩
  show Q_getChar Z t i kb cs h0 n0 _ T107.heap _
  rw [e107]
  exact ⟨(congrArg (fun q => some (Value.int q)) (own_u16c (ok.at hi).1 (ok.at hi).2)), N0, rfl⟩
def Q_u16charAt (Z : State) (t : Addr) (i : Nat) (kb : ClassId) (cs : List Int32) (fm : Value) (h0 : Heap) (n0 : Nat) (vQ_ : Option Value) (hQ_ : Heap) (LQ_ : List Loc) : Prop := vQ_ = some (.int (cs.getD i 0)) ∧ Fr n0 LQ_ ∧ hQ_ = h0
set_option maxRecDepth 65536 in
set_option maxHeartbeats 40000000 in
theorem rm_u16charAt (l : Launch) (Z : State) (a0 : Array Value) (hw : ∀ d ∈ tables_1, d.before a0 Z = true) (ws : List Jvm.Cond) (t : Addr) (i : Nat) (kb : ClassId) (cs : List Int32) (fm : Value) (h0 : Heap) (n0 : Nat) (Z0 : n0 ≤ h0.size) (O0 : Old Z n0 h0) (S_fm : Sta Z Z.heap "jdk/internal/util/Preconditions" "SIOOBE_FORMATTER" "Ljava/util/function/BiFunction;" fm) (hfm : fm.isRef = true) (S_ad : Sta Z Z.heap "java/lang/StringUTF16" "$assertionsDisabled" "Z" (.int (1 : Int32))) (S_hi : Sta Z Z.heap "java/lang/StringUTF16" "HI_BYTE_SHIFT" "I" (.int (0 : Int32))) (S_lo : Sta Z Z.heap "java/lang/StringUTF16" "LO_BYTE_SHIFT" "I" (.int (8 : Int32))) (A1 : Arv Z h0 t kb .byte (Int32.ofNat (2 * cs.length)) (u16 cs) (.int (0 : Int32))) (hi : i < cs.length) (ok : OkS cs) :
    MetFree l (⟨"java/lang/StringUTF16", "charAt", "([BI)C"⟩ : MethodName) (head1 (Jvm.Cond.code (⟨"java/lang/StringUTF16", "charAt", "([BI)C"⟩ : MethodName) jdk_52_method_83_code 2 (some .char) :: ws) ({ frames := 3, cells := 0, slots := 0, locals := 40 } : Room)) (fun aQ_ UQ => aQ_ = #[(.ref t), (.int (Int32.ofNat i))] ∧ Z.Warmed39 UQ.vm ∧ UQ.heap = h0) (fun _ _ _ _ _ => True) (fun _ UQ oQ UQ' => ∃ vQ_ LQ_, oQ = .returned vQ_ ∧ Q_u16charAt Z t i kb cs fm h0 n0 vQ_ UQ'.heap LQ_ ∧ FrameEnd UQ oQ UQ' LQ_ ({ frames := 3, cells := 0, slots := 0, locals := 40 } : Room).cells ({ frames := 3, cells := 0, slots := 0, locals := 40 } : Room).slots) := by
  refine MetFree.of_bodySF (plainFor_of_name pn_java_lang_StringUTF16) hisR ?_
  intro p e s m args below meth cO s₁ Bd hml0 hP hK
  obtain ⟨rfl, hZ, hh⟩ := hP
  have hx := Bd.exec
  have hby := Bd.bytes
  have hml : cO.maxLocals = 2 := hml0
  have hown : s.vm.findClass "java/lang/StringUTF16" = some m.cls := findClass_of_methodNamed Bd.named
  have hnm := (name_of_methodNamed Bd.named Bd.method).1
  have X0 : Stand p l e ({ frames := 3, cells := 0, slots := 0, locals := 40 } : Room) s m #[(.ref t), (.int (Int32.ofNat i))] below meth cO s₁ [] 0 0 := Stand.of_body Bd
  have e0 : s₁.heap = h0 := by rw [← hh, Bd.state]; rfl
  have N0 := Fr.nil n0
  have W0 : ∀ zQ, SS p e below s₁ m 0 #[.val (.ref t), .val (.int (Int32.ofNat i))] [] zQ → Steps p.tables e below (s₁.setTop (entryFrame m #[(.ref t), (.int (Int32.ofNat i))] 2)) zQ := fun tt kt => castTop (ef_u16charAt m t (Int32.ofNat i)) kt
  have hn : cs.length < 1048576 := ok.2
  obtain ⟨_, _, ⟨T101, L101, k101, n101⟩, -, X101, ⟨Lc101, hQ101, l101, y101, z101⟩, st101⟩ := Jvm.LawKit.callS X0 hx (y := (⟨"java/lang/StringUTF16", "checkIndex", "(I[B)V"⟩ : MethodName)) hown (mvT hZ (w93 hw)) (mvT hZ (w94 hw)) (mvT hZ (w22 hw)) (mvT hZ (w95 hw)) (by decide) (backOf (W := 0) (rm_u16check l Z a0 hw [] t i cs.length kb (u16 cs) fm h0 n0 Z0 O0 S_fm hfm A1 (by omega) hi) hZ (w95 hw) (w22 hw) (by decide) (by decide)) (g := (mkF m 2 #[.val (.ref t), .val (.int (Int32.ofNat i))] [(.ref t), (.int (Int32.ofNat i))])) rfl (by rw [hml]; rfl) (argsL := [(.int (Int32.ofNat i)), (.ref t)]) (rest := []) (lenOf pd__28_I_5b_B_29_V rfl) rfl (by show 2 * 0 + _ ≤ _; exact Nat.le_of_eq rfl) (hb hby d_jdk_52_method_83_2) (fun _ _ => ⟨rfl, e0, (Nat.le_of_ble_eq_true rfl), (Nat.le_of_ble_eq_true rfl)⟩)
  dsimp only [Pt.U, Pt.locs, Pt.cells, Pt.slots] at X101 l101 y101 z101 st101 hQ101
  subst l101 y101 z101
  obtain ⟨rfl, Nq101, eq101⟩ := hQ101
  have N101 := Fr.app N0 Nq101
  obtain ⟨_, _, ⟨T102, L102, k102, n102⟩, -, X102, ⟨Lc102, hQ102, l102, y102, z102⟩, st102⟩ := Jvm.LawKit.callS X101 hx (y := (⟨"java/lang/StringUTF16", "getChar", "([BI)C"⟩ : MethodName)) hown (mvT hZ (w87 hw)) (mvT hZ (w88 hw)) (mvT hZ (w22 hw)) (mvT hZ (w89 hw)) (by decide) (backOf (W := 0) (rm_getChar l Z a0 hw [] t i kb cs h0 n0 Z0 O0 S_ad S_hi S_lo A1 hi ok) hZ (w89 hw) (w22 hw) (by decide) (by decide)) (g := (mkF m 7 #[.val (.ref t), .val (.int (Int32.ofNat i))] [(.int (Int32.ofNat i)), (.ref t)])) rfl (by rw [hml]; rfl) (argsL := [(.ref t), (.int (Int32.ofNat i))]) (rest := []) (lenOf pd__28__5b_BI_29_C rfl) rfl (by show 2 * 0 + _ ≤ _; exact Nat.le_of_eq rfl) (hb hby d_jdk_52_method_83_7) (fun _ _ => ⟨rfl, eq101, (Nat.le_of_ble_eq_true rfl), (Nat.le_of_ble_eq_true rfl)⟩)
  dsimp only [Pt.U, Pt.locs, Pt.cells, Pt.slots] at X102 l102 y102 z102 st102 hQ102
  subst l102 y102 z102
  obtain ⟨rfl, Nq102, eq102⟩ := hQ102
  have N102 := Fr.app N101 Nq102
  have W103 : ∀ zQ, SS p e below T102 m 10 #[.val (.ref t), .val (.int (Int32.ofNat i))] [(.int (cs.getD i 0))] zQ → Steps p.tables e below (s₁.setTop (entryFrame m #[(.ref t), (.int (Int32.ofNat i))] 2)) zQ := by
    intro tt kt
    refine W0 tt ?_
    refine XS.iloadN X0.here hx rfl (hb hby d_jdk_52_method_83_0) rfl ?_
    show SS p e below s₁ m 1 #[.val (.ref t), .val (.int (Int32.ofNat i))] [(.int (Int32.ofNat i))] _
    refine XS.aloadN X0.here hx rfl (hb hby d_jdk_52_method_83_1) rfl rfl ?_
    show SS p e below s₁ m 2 #[.val (.ref t), .val (.int (Int32.ofNat i))] [(.ref t), (.int (Int32.ofNat i))] _
    refine st101 _ ?_
    show SS p e below T101 m 5 #[.val (.ref t), .val (.int (Int32.ofNat i))] [] _
    refine XS.aloadN X101.here hx rfl (hb hby d_jdk_52_method_83_5) rfl rfl ?_
    show SS p e below T101 m 6 #[.val (.ref t), .val (.int (Int32.ofNat i))] [(.ref t)] _
    refine XS.iloadN X101.here hx rfl (hb hby d_jdk_52_method_83_6) rfl ?_
    show SS p e below T101 m 7 #[.val (.ref t), .val (.int (Int32.ofNat i))] [(.int (Int32.ofNat i)), (.ref t)] _
    refine st102 _ ?_
    show SS p e below T102 m 10 #[.val (.ref t), .val (.int (Int32.ofNat i))] [(.int (cs.getD i 0))] _
    exact kt
  obtain ⟨fs, hr, hrun, hended, hW, hsame⟩ := X102.leave (v := some (.int (nar .char (cs.getD i 0)))) (fun h => by rw [Bd.returns] at h; cases h)
  refine ⟨_, _, W103 _ (retN X102 hx (t := .char) Bd.returns (by simp) (hb hby d_jdk_52_method_83_10) hr), hrun, hended, _, _, rfl, ?_, ⟨_, rfl⟩, hW, hsame.mono (by decide) (by decide)⟩
  show Q_u16charAt Z t i kb cs fm h0 n0 _ T102.heap _
  rw [eq102]
  exact ⟨(congrArg (fun q => some (Value.int q)) (own_narc (ok.at hi).1 (ok.at hi).2)), N102, rfl⟩
def Q_isLatin1 (Z : State) (a : Addr) (w : Int32) (cS : Int32) (h0 : Heap) (n0 : Nat) (vQ_ : Option Value) (hQ_ : Heap) (LQ_ : List Loc) : Prop := vQ_ = some (.int (if w = (0 : Int32) then (1 : Int32) else (0 : Int32))) ∧ Fr n0 LQ_ ∧ hQ_ = h0
set_option maxRecDepth 65536 in
set_option maxHeartbeats 40000000 in
theorem rm_isLatin1 (l : Launch) (Z : State) (a0 : Array Value) (hw : ∀ d ∈ tables_1, d.before a0 Z = true) (ws : List Jvm.Cond) (a : Addr) (w : Int32) (cS : Int32) (h0 : Heap) (n0 : Nat) (Z0 : n0 ≤ h0.size) (O0 : Old Z n0 h0) (S_cs : Sta Z Z.heap "java/lang/String" "COMPACT_STRINGS" "Z" (.int cS)) (hcS : ¬ (cS = (0 : Int32))) (F1 : Fld Z h0 a "java/lang/String" "coder" "B" (.int w)) :
    MetFree l (⟨"java/lang/String", "isLatin1", "()Z"⟩ : MethodName) (head1 (Jvm.Cond.code (⟨"java/lang/String", "isLatin1", "()Z"⟩ : MethodName) jdk_42_method_154_code 1 (some .boolean) :: ws) ({ frames := 0, cells := 0, slots := 0, locals := 0 } : Room)) (fun aQ_ UQ => aQ_ = #[(.ref a)] ∧ Z.Warmed39 UQ.vm ∧ UQ.heap = h0) (fun _ _ _ _ _ => True) (fun _ UQ oQ UQ' => ∃ vQ_ LQ_, oQ = .returned vQ_ ∧ Q_isLatin1 Z a w cS h0 n0 vQ_ UQ'.heap LQ_ ∧ FrameEnd UQ oQ UQ' LQ_ ({ frames := 0, cells := 0, slots := 0, locals := 0 } : Room).cells ({ frames := 0, cells := 0, slots := 0, locals := 0 } : Room).slots) := by
  refine MetFree.of_bodySF (plainFor_of_name pn_java_lang_String) hisR ?_
  intro p e s m args below meth cO s₁ Bd hml0 hP hK
  obtain ⟨rfl, hZ, hh⟩ := hP
  have hx := Bd.exec
  have hby := Bd.bytes
  have hml : cO.maxLocals = 1 := hml0
  have hown : s.vm.findClass "java/lang/String" = some m.cls := findClass_of_methodNamed Bd.named
  have hnm := (name_of_methodNamed Bd.named Bd.method).1
  have X0 : Stand p l e ({ frames := 0, cells := 0, slots := 0, locals := 0 } : Room) s m #[(.ref a)] below meth cO s₁ [] 0 0 := Stand.of_body Bd
  have e0 : s₁.heap = h0 := by rw [← hh, Bd.state]; rfl
  have N0 := Fr.nil n0
  have W0 : ∀ zQ, SS p e below s₁ m 0 #[.val (.ref a)] [] zQ → Steps p.tables e below (s₁.setTop (entryFrame m #[(.ref a)] 1)) zQ := fun tt kt => castTop (ef_isLatin1 m a) kt
  have F102 : Sta Z h0 "java/lang/String" "COMPACT_STRINGS" "Z" (.int cS) := S_cs.ext O0.2
  obtain ⟨T101, X101, e101, st101⟩ := getS2 X0 hx hZ hown (host := "") (Or.inl (w19 hw)) Via.refl e0 F102 (g := (mkF m 0 #[.val (.ref a)] [])) rfl (hb hby d_jdk_42_method_154_0)
  obtain ⟨T103, X103, e103, st103⟩ := getF X101 hx hZ hown (host := "") (Or.inl (w31 hw)) Via.refl e101 F1 (g := (mkF m 7 #[.val (.ref a)] [(.ref a)])) rfl rfl (hb hby d_jdk_42_method_154_7)
  have W104 : ∀ zQ, SS p e below T103 m 10 #[.val (.ref a)] [(.int w)] zQ → Steps p.tables e below (s₁.setTop (entryFrame m #[(.ref a)] 1)) zQ := by
    intro tt kt
    refine W0 tt ?_
    refine st101 _ ?_
    show SS p e below T101 m 3 #[.val (.ref a)] [(.int cS)] _
    refine XS.ifNo X101.here hx rfl (hb hby d_jdk_42_method_154_3) rfl ((if0 _ _).trans (feq hcS).1) ?_
    show SS p e below T101 m 6 #[.val (.ref a)] [] _
    refine XS.aloadN X101.here hx rfl (hb hby d_jdk_42_method_154_6) rfl rfl ?_
    show SS p e below T101 m 7 #[.val (.ref a)] [(.ref a)] _
    refine st103 _ ?_
    show SS p e below T103 m 10 #[.val (.ref a)] [(.int w)] _
    exact kt
  have W106 : ∀ zQ, SS p e below T103 m 18 #[.val (.ref a)] [(.int (if w = (0 : Int32) then (1 : Int32) else (0 : Int32)))] zQ → Steps p.tables e below (s₁.setTop (entryFrame m #[(.ref a)] 1)) zQ := by
    intro tt kt
    refine W104 tt ?_
    by_cases hj105 : w = (0 : Int32)
    ·
      refine XS.ifNo X103.here hx rfl (hb hby d_jdk_42_method_154_10) rfl ((if0 _ _).trans (teq hj105).2) ?_
      show SS p e below T103 m 13 #[.val (.ref a)] [] _
      refine XS.iconst X103.here hx rfl (hb hby d_jdk_42_method_154_13) ?_
      show SS p e below T103 m 14 #[.val (.ref a)] [(.int (1 : Int32))] _
      refine XS.goto X103.here hx rfl (pc0 := 14) (pc' := 18) rfl (hb hby d_jdk_42_method_154_14) (by decide) (by decide) ?_
      show SS p e below T103 m 18 #[.val (.ref a)] [(.int (1 : Int32))] _
      exact castTop (by first | rfl | simp only [if_pos hj105]) kt
    ·
      refine XS.ifYes X103.here hx rfl (pc0 := 10) (pc' := 17) rfl (hb hby d_jdk_42_method_154_10) rfl ((if0 _ _).trans (feq hj105).2) (by decide) (by decide) ?_
      show SS p e below T103 m 17 #[.val (.ref a)] [] _
      refine XS.iconst X103.here hx rfl (hb hby d_jdk_42_method_154_17) ?_
      show SS p e below T103 m 18 #[.val (.ref a)] [(.int (0 : Int32))] _
      exact castTop (by first | rfl | simp only [if_neg hj105]) kt
  obtain ⟨fs, hr, hrun, hended, hW, hsame⟩ := X103.leave (v := some (.int (nar .boolean (if w = (0 : Int32) then (1 : Int32) else (0 : Int32))))) (fun h => by rw [Bd.returns] at h; cases h)
  refine ⟨_, _, W106 _ (retN X103 hx (t := .boolean) Bd.returns (by simp) (hb hby d_jdk_42_method_154_18) hr), hrun, hended, _, _, rfl, ?_, ⟨_, rfl⟩, hW, hsame.mono (by decide) (by decide)⟩
  show Q_isLatin1 Z a w cS h0 n0 _ T103.heap _
  rw [e103]
  exact ⟨(congrArg (fun q => some (Value.int q)) own_bool), N0, rfl⟩
def Q_charAt (Z : State) (a : Addr) (i : Nat) (t : Addr) (kb : ClassId) (cs : List Int32) (cS : Int32) (fm : Value) (h0 : Heap) (n0 : Nat) (vQ_ : Option Value) (hQ_ : Heap) (LQ_ : List Loc) : Prop := vQ_ = some (.int (cs.getD i 0)) ∧ Fr n0 LQ_ ∧ hQ_ = h0
set_option maxRecDepth 65536 in
set_option maxHeartbeats 40000000 in
theorem rm_charAt (l : Launch) (Z : State) (a0 : Array Value) (hw : ∀ d ∈ tables_1, d.before a0 Z = true) (ws : List Jvm.Cond) (a : Addr) (i : Nat) (t : Addr) (kb : ClassId) (cs : List Int32) (cS : Int32) (fm : Value) (h0 : Heap) (n0 : Nat) (Z0 : n0 ≤ h0.size) (O0 : Old Z n0 h0) (S_cs : Sta Z Z.heap "java/lang/String" "COMPACT_STRINGS" "Z" (.int cS)) (hcS : ¬ (cS = (0 : Int32))) (S_fm : Sta Z Z.heap "jdk/internal/util/Preconditions" "SIOOBE_FORMATTER" "Ljava/util/function/BiFunction;" fm) (hfm : fm.isRef = true) (S_ad : Sta Z Z.heap "java/lang/StringUTF16" "$assertionsDisabled" "Z" (.int (1 : Int32))) (S_hi : Sta Z Z.heap "java/lang/StringUTF16" "HI_BYTE_SHIFT" "I" (.int (0 : Int32))) (S_lo : Sta Z Z.heap "java/lang/StringUTF16" "LO_BYTE_SHIFT" "I" (.int (8 : Int32))) (hS : Str Z h0 a t kb cs) (hi : i < cs.length) :
    MetFree l (⟨"java/lang/String", "charAt", "(I)C"⟩ : MethodName) (head1 (Jvm.Cond.code (⟨"java/lang/String", "charAt", "(I)C"⟩ : MethodName) jdk_42_method_56_code 2 (some .char) :: ws) ({ frames := 4, cells := 0, slots := 0, locals := 53 } : Room)) (fun aQ_ UQ => aQ_ = #[(.ref a), (.int (Int32.ofNat i))] ∧ Z.Warmed39 UQ.vm ∧ UQ.heap = h0) (fun _ _ _ _ _ => True) (fun _ UQ oQ UQ' => ∃ vQ_ LQ_, oQ = .returned vQ_ ∧ Q_charAt Z a i t kb cs cS fm h0 n0 vQ_ UQ'.heap LQ_ ∧ FrameEnd UQ oQ UQ' LQ_ ({ frames := 4, cells := 0, slots := 0, locals := 53 } : Room).cells ({ frames := 4, cells := 0, slots := 0, locals := 53 } : Room).slots) := by
  refine MetFree.of_bodySF (plainFor_of_name pn_java_lang_String) hisR ?_
  intro p e s m args below meth cO s₁ Bd hml0 hP hK
  obtain ⟨rfl, hZ, hh⟩ := hP
  have hx := Bd.exec
  have hby := Bd.bytes
  have hml : cO.maxLocals = 2 := hml0
  have hown : s.vm.findClass "java/lang/String" = some m.cls := findClass_of_methodNamed Bd.named
  have hnm := (name_of_methodNamed Bd.named Bd.method).1
  have X0 : Stand p l e ({ frames := 4, cells := 0, slots := 0, locals := 53 } : Room) s m #[(.ref a), (.int (Int32.ofNat i))] below meth cO s₁ [] 0 0 := Stand.of_body Bd
  have e0 : s₁.heap = h0 := by rw [← hh, Bd.state]; rfl
  have N0 := Fr.nil n0
  have W0 : ∀ zQ, SS p e below s₁ m 0 #[.val (.ref a), .val (.int (Int32.ofNat i))] [] zQ → Steps p.tables e below (s₁.setTop (entryFrame m #[(.ref a), (.int (Int32.ofNat i))] 2)) zQ := fun tt kt => castTop (ef_charAt m a (Int32.ofNat i)) kt
  obtain ⟨hE, hV, hC, hA, ok⟩ := hS
  obtain ⟨cq101, kq101, q101a, q101b, q101c⟩ := isOf hZ e0 hE
  obtain ⟨_, _, ⟨T101, L101, k101, n101⟩, -, X101, ⟨Lc101, hQ101, l101, y101, z101⟩, st101⟩ := X0.virtualBack hx (y := (⟨"java/lang/String", "isLatin1", "()Z"⟩ : MethodName)) (z := (⟨"java/lang/String", "isLatin1", "()Z"⟩ : MethodName)) hown (mvT hZ (w44 hw)) (mvT hZ (w45 hw)) (notFace_of_selects (args := #[]) (mvT hZ (w47 hw))) (mvT hZ (w47 hw)) (mvT hZ (w46 hw)) (by decide) (backOf (W := 0) (rm_isLatin1 l Z a0 hw [] a (cdr cs) cS h0 n0 Z0 O0 S_cs hcS hC) hZ (w48 hw) (w8 hw) (by decide) (by decide)) q101a q101c (g := (mkF m 1 #[.val (.ref a), .val (.int (Int32.ofNat i))] [(.ref a)])) rfl (by rw [hml]; rfl) (Steps.refl _) (argsL := []) (rest := []) (lenOf pd__28__29_Z rfl) rfl (by show 2 * 0 + _ ≤ _; exact Nat.le_of_eq rfl) (hb hby d_jdk_42_method_56_1) (fun _ _ => ⟨rfl, e0, (Nat.le_of_ble_eq_true rfl), (Nat.le_of_ble_eq_true rfl)⟩)
  dsimp only [Pt.U, Pt.locs, Pt.cells, Pt.slots] at X101 l101 y101 z101 st101 hQ101
  subst l101 y101 z101
  obtain ⟨rfl, Nq101, eq101⟩ := hQ101
  have N101 := Fr.app N0 Nq101
  have W102 : ∀ zQ, SS p e below T101 m 4 #[.val (.ref a), .val (.int (Int32.ofNat i))] [(.int (if (cdr cs) = (0 : Int32) then (1 : Int32) else (0 : Int32)))] zQ → Steps p.tables e below (s₁.setTop (entryFrame m #[(.ref a), (.int (Int32.ofNat i))] 2)) zQ := by
    intro tt kt
    refine W0 tt ?_
    refine XS.aloadN X0.here hx rfl (hb hby d_jdk_42_method_56_0) rfl rfl ?_
    show SS p e below s₁ m 1 #[.val (.ref a), .val (.int (Int32.ofNat i))] [(.ref a)] _
    refine st101.trans ?_
    show SS p e below T101 m 4 #[.val (.ref a), .val (.int (Int32.ofNat i))] [(.int (if (cdr cs) = (0 : Int32) then (1 : Int32) else (0 : Int32)))] _
    exact kt
  by_cases hc103 : (cdr cs) = (0 : Int32)
  ·
    have hl := cdr_lat hc103
    have hA104 : Arv Z h0 t kb .byte (Int32.ofNat cs.length) (l1 cs) (.int (0 : Int32)) := by have q := enc_lat hl; rw [← q.1, ← q.2.1]; exact hA
    obtain ⟨T105, X105, e105, st105⟩ := getF X101 hx hZ hown (host := "") (Or.inl (w33 hw)) Via.refl eq101 hV (g := (mkF m 8 #[.val (.ref a), .val (.int (Int32.ofNat i))] [(.ref a)])) rfl rfl (hb hby d_jdk_42_method_56_8)
    obtain ⟨_, _, ⟨T106, L106, k106, n106⟩, -, X106, ⟨Lc106, hQ106, l106, y106, z106⟩, st106⟩ := Jvm.LawKit.callS X105 hx (y := (⟨"java/lang/StringLatin1", "charAt", "([BI)C"⟩ : MethodName)) hown (mvT hZ (w49 hw)) (mvT hZ (w50 hw)) (mvT hZ (w51 hw)) (mvT hZ (w52 hw)) (by decide) (backOf (W := 0) (rm_l1charAt l Z a0 hw [] t i kb cs fm h0 n0 Z0 O0 S_fm hfm hA104 hi ok hl) hZ (w52 hw) (w51 hw) (by decide) (by decide)) (g := (mkF m 12 #[.val (.ref a), .val (.int (Int32.ofNat i))] [(.int (Int32.ofNat i)), (.ref t)])) rfl (by rw [hml]; rfl) (argsL := [(.ref t), (.int (Int32.ofNat i))]) (rest := []) (lenOf pd__28__5b_BI_29_C rfl) rfl (by show 2 * 0 + _ ≤ _; exact Nat.le_of_eq rfl) (hb hby d_jdk_42_method_56_12) (fun _ _ => ⟨rfl, e105, (Nat.le_of_ble_eq_true rfl), (Nat.le_of_ble_eq_true rfl)⟩)
    dsimp only [Pt.U, Pt.locs, Pt.cells, Pt.slots] at X106 l106 y106 z106 st106 hQ106
    subst l106 y106 z106
    obtain ⟨rfl, Nq106, eq106⟩ := hQ106
    have N106 := Fr.app N101 Nq106
    have W107 : ∀ zQ, SS p e below T106 m 15 #[.val (.ref a), .val (.int (Int32.ofNat i))] [(.int (cs.getD i 0))] zQ → Steps p.tables e below (s₁.setTop (entryFrame m #[(.ref a), (.int (Int32.ofNat i))] 2)) zQ := by
      intro tt kt
      refine W102 tt ?_
      rw [show (if (cdr cs) = (0 : Int32) then (1 : Int32) else (0 : Int32)) = (1 : Int32) from if_pos hc103]
      show SS p e below T101 m 4 #[.val (.ref a), .val (.int (Int32.ofNat i))] [(.int (1 : Int32))] _
      refine XS.ifNo X101.here hx rfl (hb hby d_jdk_42_method_56_4) rfl ((if0 _ _).trans (feq (by decide)).1) ?_
      show SS p e below T101 m 7 #[.val (.ref a), .val (.int (Int32.ofNat i))] [] _
      refine XS.aloadN X101.here hx rfl (hb hby d_jdk_42_method_56_7) rfl rfl ?_
      show SS p e below T101 m 8 #[.val (.ref a), .val (.int (Int32.ofNat i))] [(.ref a)] _
      refine st105 _ ?_
      show SS p e below T105 m 11 #[.val (.ref a), .val (.int (Int32.ofNat i))] [(.ref t)] _
      refine XS.iloadN X105.here hx rfl (hb hby d_jdk_42_method_56_11) rfl ?_
      show SS p e below T105 m 12 #[.val (.ref a), .val (.int (Int32.ofNat i))] [(.int (Int32.ofNat i)), (.ref t)] _
      refine st106 _ ?_
      show SS p e below T106 m 15 #[.val (.ref a), .val (.int (Int32.ofNat i))] [(.int (cs.getD i 0))] _
      exact kt
    obtain ⟨fs, hr, hrun, hended, hW, hsame⟩ := X106.leave (v := some (.int (nar .char (cs.getD i 0)))) (fun h => by rw [Bd.returns] at h; cases h)
    refine ⟨_, _, W107 _ (retN X106 hx (t := .char) Bd.returns (by simp) (hb hby d_jdk_42_method_56_15) hr), hrun, hended, _, _, rfl, ?_, ⟨_, rfl⟩, hW, hsame.mono (by decide) (by decide)⟩
    show Q_charAt Z a i t kb cs cS fm h0 n0 _ T106.heap _
    rw [eq106]
    exact ⟨(congrArg (fun q => some (Value.int q)) (own_narc (ok.at hi).1 (ok.at hi).2)), N106, rfl⟩
  ·
    have hl := cdr_nlat hc103
    have hA108 : Arv Z h0 t kb .byte (Int32.ofNat (2 * cs.length)) (u16 cs) (.int (0 : Int32)) := by have q := enc_nlat hl; rw [← q.1, ← q.2.1]; exact hA
    obtain ⟨T109, X109, e109, st109⟩ := getF X101 hx hZ hown (host := "") (Or.inl (w33 hw)) Via.refl eq101 hV (g := (mkF m 17 #[.val (.ref a), .val (.int (Int32.ofNat i))] [(.ref a)])) rfl rfl (hb hby d_jdk_42_method_56_17)
    obtain ⟨_, _, ⟨T110, L110, k110, n110⟩, -, X110, ⟨Lc110, hQ110, l110, y110, z110⟩, st110⟩ := Jvm.LawKit.callS X109 hx (y := (⟨"java/lang/StringUTF16", "charAt", "([BI)C"⟩ : MethodName)) hown (mvT hZ (w90 hw)) (mvT hZ (w91 hw)) (mvT hZ (w22 hw)) (mvT hZ (w92 hw)) (by decide) (backOf (W := 0) (rm_u16charAt l Z a0 hw [] t i kb cs fm h0 n0 Z0 O0 S_fm hfm S_ad S_hi S_lo hA108 hi ok) hZ (w92 hw) (w22 hw) (by decide) (by decide)) (g := (mkF m 21 #[.val (.ref a), .val (.int (Int32.ofNat i))] [(.int (Int32.ofNat i)), (.ref t)])) rfl (by rw [hml]; rfl) (argsL := [(.ref t), (.int (Int32.ofNat i))]) (rest := []) (lenOf pd__28__5b_BI_29_C rfl) rfl (by show 2 * 0 + _ ≤ _; exact Nat.le_of_eq rfl) (hb hby d_jdk_42_method_56_21) (fun _ _ => ⟨rfl, e109, (Nat.le_of_ble_eq_true rfl), (Nat.le_of_ble_eq_true rfl)⟩)
    dsimp only [Pt.U, Pt.locs, Pt.cells, Pt.slots] at X110 l110 y110 z110 st110 hQ110
    subst l110 y110 z110
    obtain ⟨rfl, Nq110, eq110⟩ := hQ110
    have N110 := Fr.app N101 Nq110
    have W111 : ∀ zQ, SS p e below T110 m 24 #[.val (.ref a), .val (.int (Int32.ofNat i))] [(.int (cs.getD i 0))] zQ → Steps p.tables e below (s₁.setTop (entryFrame m #[(.ref a), (.int (Int32.ofNat i))] 2)) zQ := by
      intro tt kt
      refine W102 tt ?_
      rw [show (if (cdr cs) = (0 : Int32) then (1 : Int32) else (0 : Int32)) = (0 : Int32) from if_neg hc103]
      show SS p e below T101 m 4 #[.val (.ref a), .val (.int (Int32.ofNat i))] [(.int (0 : Int32))] _
      refine XS.ifYes X101.here hx rfl (pc0 := 4) (pc' := 16) rfl (hb hby d_jdk_42_method_56_4) rfl ((if0 _ _).trans (teq (by decide)).1) (by decide) (by decide) ?_
      show SS p e below T101 m 16 #[.val (.ref a), .val (.int (Int32.ofNat i))] [] _
      refine XS.aloadN X101.here hx rfl (hb hby d_jdk_42_method_56_16) rfl rfl ?_
      show SS p e below T101 m 17 #[.val (.ref a), .val (.int (Int32.ofNat i))] [(.ref a)] _
      refine st109 _ ?_
      show SS p e below T109 m 20 #[.val (.ref a), .val (.int (Int32.ofNat i))] [(.ref t)] _
      refine XS.iloadN X109.here hx rfl (hb hby d_jdk_42_method_56_20) rfl ?_
      show SS p e below T109 m 21 #[.val (.ref a), .val (.int (Int32.ofNat i))] [(.int (Int32.ofNat i)), (.ref t)] _
      refine st110 _ ?_
      show SS p e below T110 m 24 #[.val (.ref a), .val (.int (Int32.ofNat i))] [(.int (cs.getD i 0))] _
      exact kt
    obtain ⟨fs, hr, hrun, hended, hW, hsame⟩ := X110.leave (v := some (.int (nar .char (cs.getD i 0)))) (fun h => by rw [Bd.returns] at h; cases h)
    refine ⟨_, _, W111 _ (retN X110 hx (t := .char) Bd.returns (by simp) (hb hby d_jdk_42_method_56_24) hr), hrun, hended, _, _, rfl, ?_, ⟨_, rfl⟩, hW, hsame.mono (by decide) (by decide)⟩
    show Q_charAt Z a i t kb cs cS fm h0 n0 _ T110.heap _
    rw [eq110]
    exact ⟨(congrArg (fun q => some (Value.int q)) (own_narc (ok.at hi).1 (ok.at hi).2)), N110, rfl⟩
def Q_coder (Z : State) (a : Addr) (w : Int32) (cS : Int32) (h0 : Heap) (n0 : Nat) (vQ_ : Option Value) (hQ_ : Heap) (LQ_ : List Loc) : Prop := vQ_ = some (.int w) ∧ Fr n0 LQ_ ∧ hQ_ = h0
set_option maxRecDepth 65536 in
set_option maxHeartbeats 40000000 in
theorem rm_coder (l : Launch) (Z : State) (a0 : Array Value) (hw : ∀ d ∈ tables_1, d.before a0 Z = true) (ws : List Jvm.Cond) (a : Addr) (w : Int32) (cS : Int32) (h0 : Heap) (n0 : Nat) (Z0 : n0 ≤ h0.size) (O0 : Old Z n0 h0) (S_cs : Sta Z Z.heap "java/lang/String" "COMPACT_STRINGS" "Z" (.int cS)) (hcS : ¬ (cS = (0 : Int32))) (F1 : Fld Z h0 a "java/lang/String" "coder" "B" (.int w)) (hw8 : nar .byte w = w) :
    MetFree l (⟨"java/lang/String", "coder", "()B"⟩ : MethodName) (head1 (Jvm.Cond.code (⟨"java/lang/String", "coder", "()B"⟩ : MethodName) jdk_42_method_152_code 1 (some .byte) :: ws) ({ frames := 0, cells := 0, slots := 0, locals := 0 } : Room)) (fun aQ_ UQ => aQ_ = #[(.ref a)] ∧ Z.Warmed39 UQ.vm ∧ UQ.heap = h0) (fun _ _ _ _ _ => True) (fun _ UQ oQ UQ' => ∃ vQ_ LQ_, oQ = .returned vQ_ ∧ Q_coder Z a w cS h0 n0 vQ_ UQ'.heap LQ_ ∧ FrameEnd UQ oQ UQ' LQ_ ({ frames := 0, cells := 0, slots := 0, locals := 0 } : Room).cells ({ frames := 0, cells := 0, slots := 0, locals := 0 } : Room).slots) := by
  refine MetFree.of_bodySF (plainFor_of_name pn_java_lang_String) hisR ?_
  intro p e s m args below meth cO s₁ Bd hml0 hP hK
  obtain ⟨rfl, hZ, hh⟩ := hP
  have hx := Bd.exec
  have hby := Bd.bytes
  have hml : cO.maxLocals = 1 := hml0
  have hown : s.vm.findClass "java/lang/String" = some m.cls := findClass_of_methodNamed Bd.named
  have hnm := (name_of_methodNamed Bd.named Bd.method).1
  have X0 : Stand p l e ({ frames := 0, cells := 0, slots := 0, locals := 0 } : Room) s m #[(.ref a)] below meth cO s₁ [] 0 0 := Stand.of_body Bd
  have e0 : s₁.heap = h0 := by rw [← hh, Bd.state]; rfl
  have N0 := Fr.nil n0
  have W0 : ∀ zQ, SS p e below s₁ m 0 #[.val (.ref a)] [] zQ → Steps p.tables e below (s₁.setTop (entryFrame m #[(.ref a)] 1)) zQ := fun tt kt => castTop (ef_coder m a) kt
  have F102 : Sta Z h0 "java/lang/String" "COMPACT_STRINGS" "Z" (.int cS) := S_cs.ext O0.2
  obtain ⟨T101, X101, e101, st101⟩ := getS2 X0 hx hZ hown (host := "") (Or.inl (w19 hw)) Via.refl e0 F102 (g := (mkF m 0 #[.val (.ref a)] [])) rfl (hb hby d_jdk_42_method_152_0)
  obtain ⟨T103, X103, e103, st103⟩ := getF X101 hx hZ hown (host := "") (Or.inl (w31 hw)) Via.refl e101 F1 (g := (mkF m 7 #[.val (.ref a)] [(.ref a)])) rfl rfl (hb hby d_jdk_42_method_152_7)
  have W104 : ∀ zQ, SS p e below T103 m 14 #[.val (.ref a)] [(.int w)] zQ → Steps p.tables e below (s₁.setTop (entryFrame m #[(.ref a)] 1)) zQ := by
    intro tt kt
    refine W0 tt ?_
    refine st101 _ ?_
    show SS p e below T101 m 3 #[.val (.ref a)] [(.int cS)] _
    refine XS.ifNo X101.here hx rfl (hb hby d_jdk_42_method_152_3) rfl ((if0 _ _).trans (feq hcS).1) ?_
    show SS p e below T101 m 6 #[.val (.ref a)] [] _
    refine XS.aloadN X101.here hx rfl (hb hby d_jdk_42_method_152_6) rfl rfl ?_
    show SS p e below T101 m 7 #[.val (.ref a)] [(.ref a)] _
    refine st103 _ ?_
    show SS p e below T103 m 10 #[.val (.ref a)] [(.int w)] _
    refine XS.goto X103.here hx rfl (pc0 := 10) (pc' := 14) rfl (hb hby d_jdk_42_method_152_10) (by decide) (by decide) ?_
    show SS p e below T103 m 14 #[.val (.ref a)] [(.int w)] _
    exact kt
  obtain ⟨fs, hr, hrun, hended, hW, hsame⟩ := X103.leave (v := some (.int (nar .byte w))) (fun h => by rw [Bd.returns] at h; cases h)
  refine ⟨_, _, W104 _ (retN X103 hx (t := .byte) Bd.returns (by simp) (hb hby d_jdk_42_method_152_14) hr), hrun, hended, _, _, rfl, ?_, ⟨_, rfl⟩, hW, hsame.mono (by decide) (by decide)⟩
  show Q_coder Z a w cS h0 n0 _ T103.heap _
  rw [e103]
  exact ⟨(congrArg (fun q => some (Value.int q)) hw8), N0, rfl⟩
def Q_length (Z : State) (a : Addr) (t : Addr) (kb : ClassId) (cs : List Int32) (cS : Int32) (h0 : Heap) (n0 : Nat) (vQ_ : Option Value) (hQ_ : Heap) (LQ_ : List Loc) : Prop := vQ_ = some (.int (Int32.ofNat cs.length)) ∧ Fr n0 LQ_ ∧ hQ_ = h0
set_option maxRecDepth 65536 in
set_option maxHeartbeats 40000000 in
theorem rm_length (l : Launch) (Z : State) (a0 : Array Value) (hw : ∀ d ∈ tables_1, d.before a0 Z = true) (ws : List Jvm.Cond) (a : Addr) (t : Addr) (kb : ClassId) (cs : List Int32) (cS : Int32) (h0 : Heap) (n0 : Nat) (Z0 : n0 ≤ h0.size) (O0 : Old Z n0 h0) (S_cs : Sta Z Z.heap "java/lang/String" "COMPACT_STRINGS" "Z" (.int cS)) (hcS : ¬ (cS = (0 : Int32))) (hS : Str Z h0 a t kb cs) :
    MetFree l (⟨"java/lang/String", "length", "()I"⟩ : MethodName) (head1 (Jvm.Cond.code (⟨"java/lang/String", "length", "()I"⟩ : MethodName) jdk_42_method_54_code 1 (some .int) :: ws) ({ frames := 1, cells := 0, slots := 0, locals := 13 } : Room)) (fun aQ_ UQ => aQ_ = #[(.ref a)] ∧ Z.Warmed39 UQ.vm ∧ UQ.heap = h0) (fun _ _ _ _ _ => True) (fun _ UQ oQ UQ' => ∃ vQ_ LQ_, oQ = .returned vQ_ ∧ Q_length Z a t kb cs cS h0 n0 vQ_ UQ'.heap LQ_ ∧ FrameEnd UQ oQ UQ' LQ_ ({ frames := 1, cells := 0, slots := 0, locals := 13 } : Room).cells ({ frames := 1, cells := 0, slots := 0, locals := 13 } : Room).slots) := by
  refine MetFree.of_bodySF (plainFor_of_name pn_java_lang_String) hisR ?_
  intro p e s m args below meth cO s₁ Bd hml0 hP hK
  obtain ⟨rfl, hZ, hh⟩ := hP
  have hx := Bd.exec
  have hby := Bd.bytes
  have hml : cO.maxLocals = 1 := hml0
  have hown : s.vm.findClass "java/lang/String" = some m.cls := findClass_of_methodNamed Bd.named
  have hnm := (name_of_methodNamed Bd.named Bd.method).1
  have X0 : Stand p l e ({ frames := 1, cells := 0, slots := 0, locals := 13 } : Room) s m #[(.ref a)] below meth cO s₁ [] 0 0 := Stand.of_body Bd
  have e0 : s₁.heap = h0 := by rw [← hh, Bd.state]; rfl
  have N0 := Fr.nil n0
  have W0 : ∀ zQ, SS p e below s₁ m 0 #[.val (.ref a)] [] zQ → Steps p.tables e below (s₁.setTop (entryFrame m #[(.ref a)] 1)) zQ := fun tt kt => castTop (ef_length m a) kt
  obtain ⟨hE, hV, hC, hA, ok⟩ := hS
  obtain ⟨T101, X101, e101, st101⟩ := getF X0 hx hZ hown (host := "") (Or.inl (w33 hw)) Via.refl e0 hV (g := (mkF m 1 #[.val (.ref a)] [(.ref a)])) rfl rfl (hb hby d_jdk_42_method_54_1)
  obtain ⟨cl102, Ar102, -, S102, M102, -, -⟩ := id hA
  obtain ⟨cq103, kq103, q103a, q103b, q103c⟩ := isOf hZ e101 hE
  obtain ⟨_, _, ⟨T103, L103, k103, n103⟩, -, X103, ⟨Lc103, hQ103, l103, y103, z103⟩, st103⟩ := X101.virtualBack hx (y := (⟨"java/lang/String", "coder", "()B"⟩ : MethodName)) (z := (⟨"java/lang/String", "coder", "()B"⟩ : MethodName)) hown (mvT hZ (w66 hw)) (mvT hZ (w67 hw)) (notFace_of_selects (args := #[]) (mvT hZ (w69 hw))) (mvT hZ (w69 hw)) (mvT hZ (w68 hw)) (by decide) (backOf (W := 1) (rm_coder l Z a0 hw [] a (cdr cs) cS h0 n0 Z0 O0 S_cs hcS hC (own_narcdr cs)) hZ (w70 hw) (w8 hw) (by decide) (by decide)) q103a q103c (g := (mkF m 6 #[.val (.ref a)] [(.ref a), (.int (Int32.ofNat (blen cs)))])) rfl (by rw [hml]; rfl) (Steps.refl _) (argsL := []) (rest := [(.int (Int32.ofNat (blen cs)))]) (lenOf pd__28__29_B rfl) rfl (by show 2 * 0 + _ ≤ _; exact Nat.le_of_eq rfl) (hb hby d_jdk_42_method_54_6) (fun _ _ => ⟨rfl, e101, (Nat.le_of_ble_eq_true rfl), (Nat.le_of_ble_eq_true rfl)⟩)
  dsimp only [Pt.U, Pt.locs, Pt.cells, Pt.slots] at X103 l103 y103 z103 st103 hQ103
  subst l103 y103 z103
  obtain ⟨rfl, Nq103, eq103⟩ := hQ103
  have N103 := Fr.app N0 Nq103
  have W104 : ∀ zQ, SS p e below T103 m 10 #[.val (.ref a)] [(.int (Int32.ofNat cs.length))] zQ → Steps p.tables e below (s₁.setTop (entryFrame m #[(.ref a)] 1)) zQ := by
    intro tt kt
    refine W0 tt ?_
    refine XS.aloadN X0.here hx rfl (hb hby d_jdk_42_method_54_0) rfl rfl ?_
    show SS p e below s₁ m 1 #[.val (.ref a)] [(.ref a)] _
    refine st101 _ ?_
    show SS p e below T101 m 4 #[.val (.ref a)] [(.ref t)] _
    refine X101.arraylength hx (by first | exact Ar102.1 | (rw [e101]; exact Ar102.1)) (State.isArrayOf_alike hZ.alike Ar102.2.1) (g := (mkF m 4 #[.val (.ref a)] [(.ref t)])) rfl rfl (hb hby d_jdk_42_method_54_4) _ ?_
    rw [len_of S102 M102]
    show SS p e below T101 m 5 #[.val (.ref a)] [(.int (Int32.ofNat (blen cs)))] _
    refine XS.aloadN X101.here hx rfl (hb hby d_jdk_42_method_54_5) rfl rfl ?_
    show SS p e below T101 m 6 #[.val (.ref a)] [(.ref a), (.int (Int32.ofNat (blen cs)))] _
    refine st103.trans ?_
    show SS p e below T103 m 9 #[.val (.ref a)] [(.int (cdr cs)), (.int (Int32.ofNat (blen cs)))] _
    refine XS.ishr X103.here hx rfl (hb hby d_jdk_42_method_54_9) rfl ?_
    show SS p e below T103 m 10 #[.val (.ref a)] [(.int ((Int32.ofNat (blen cs)) >>> ((cdr cs) &&& 31)))] _
    rw [show ((Int32.ofNat (blen cs)) >>> ((cdr cs) &&& 31)) = (Int32.ofNat cs.length) from own_len ok.2]
    show SS p e below T103 m 10 #[.val (.ref a)] [(.int (Int32.ofNat cs.length))] _
    exact kt
  obtain ⟨fs, hr, hrun, hended, hW, hsame⟩ := X103.leave (v := some (.int (Int32.ofNat cs.length))) (fun h => by rw [Bd.returns] at h; cases h)
  refine ⟨_, _, W104 _ (retI X103 hx Bd.returns (hb hby d_jdk_42_method_54_10) hr), hrun, hended, _, _, rfl, ?_, ⟨_, rfl⟩, hW, hsame.mono (by decide) (by decide)⟩
  show Q_length Z a t kb cs cS h0 n0 _ T103.heap _
  rw [eq103]
  exact ⟨rfl, N103, rfl⟩
set_option maxRecDepth 65536 in
set_option maxHeartbeats 40000000 in
theorem lp_compr {p : Program} {l : Launch} {e : Env} {R : Room} {s : State} {m : MethodId} {args : Array Value} {below : List Frame} {meth : Method} {cO : Code} {cells slots : Nat} {Z : State} {a0 : Array Value} (hx : p.tables.exec = Jvm.exec) (hZ : Z.Warmed39 s.vm) (hw : ∀ d ∈ tables_1, d.before a0 Z = true) (hby : cO.code = jdk_52_method_21_code) (hml : cO.maxLocals = 7) (hown : s.vm.findClass "java/lang/StringUTF16" = some m.cls) (hRf : 0 ≤ R.frames) (hRl : 0 ≤ R.locals) (hRc : cells ≤ R.cells) (hRs : slots ≤ R.slots) (hret : meth.sig.returnType = some .int) (src : Addr) (dst : Addr) (kc : ClassId) (kb : ClassId) (cs : List Int32) (n0 : Nat) (hne : src ≠ dst) (hg : n0 ≤ dst) (ok : OkS cs) :
    ∀ suf : List Int32, ∀ (pre : List Int32) (s6 : Slot) (T0 : State) (L0 : List Loc) (h0 : Heap) (X0 : Stand p l e R s m args below meth cO T0 L0 cells slots) (e0 : T0.heap = h0) (N0 : Fr n0 L0) (Z0 : n0 ≤ h0.size) (Vs : Arv Z h0 src kc .char (Int32.ofNat cs.length) (cs.map Value.int) (.int (0 : Int32))) (Vd : Arv Z h0 dst kb .byte (Int32.ofNat cs.length) (l1 pre) (.int (0 : Int32))) (hl : lat pre = true) (h6 : One s6) (hk : cs = pre ++ suf), ∃ (T' : State) (L' : List Loc) (h' : Heap), Stand p l e R s m args below meth cO T' L' cells slots ∧ T'.heap = h' ∧ Fr n0 L' ∧ Keep h0 h' [dst] ∧ Arv Z h' dst kb .byte (Int32.ofNat cs.length) (l1 (cs.take (fl cs))) (.int (0 : Int32)) ∧ ∀ fs, (∀ (f : JFrame) (acts : List Action), f.method = m → f.locked = none → f.entered = [] → (doReturn e (T'.setTop f) acts (some (.int (Int32.ofNat (fl cs))))).1 = T'.setFrames fs) → SS p e below T0 m 3 #[.val (.ref src), .val (.int (Int32.ofNat pre.length)), .val (.ref dst), .val (.int (Int32.ofNat pre.length)), .val (.int (Int32.ofNat cs.length)), .val (.int (Int32.ofNat pre.length)), s6] [] (T'.setFrames fs) := by
  intro suf
  induction suf with
  | nil =>
    intro pre s6 T0 L0 h0 X0 e0 N0 Z0 Vs Vd hl h6 hk
    have W0 : ∀ zQ, SS p e below T0 m 3 #[.val (.ref src), .val (.int (Int32.ofNat pre.length)), .val (.ref dst), .val (.int (Int32.ofNat pre.length)), .val (.int (Int32.ofNat cs.length)), .val (.int (Int32.ofNat pre.length)), s6] [] zQ → Steps p.tables e below (T0.setTop (mkF m 3 #[.val (.ref src), .val (.int (Int32.ofNat pre.length)), .val (.ref dst), .val (.int (Int32.ofNat pre.length)), .val (.int (Int32.ofNat cs.length)), .val (.int (Int32.ofNat pre.length)), s6] [])) zQ := fun tt kt => kt
    have hn : cs.length < 1048576 := ok.2
    have hfl : fl cs = pre.length := by rw [hk, fl_app _ hl]; rfl
    have hlen : cs.length = pre.length := by rw [hk]; simp
    have W101 : ∀ zQ, SS p e below T0 m 46 #[.val (.ref src), .val (.int (Int32.ofNat pre.length)), .val (.ref dst), .val (.int (Int32.ofNat pre.length)), .val (.int (Int32.ofNat cs.length)), .val (.int (Int32.ofNat pre.length)), s6] [(.int (Int32.ofNat cs.length))] zQ → Steps p.tables e below (T0.setTop (mkF m 3 #[.val (.ref src), .val (.int (Int32.ofNat pre.length)), .val (.ref dst), .val (.int (Int32.ofNat pre.length)), .val (.int (Int32.ofNat cs.length)), .val (.int (Int32.ofNat pre.length)), s6] [])) zQ := by
      intro tt kt
      refine W0 tt ?_
      refine XS.iload X0.here hx rfl (hb hby d_jdk_52_method_21_3) rfl ?_
      show SS p e below T0 m 5 #[.val (.ref src), .val (.int (Int32.ofNat pre.length)), .val (.ref dst), .val (.int (Int32.ofNat pre.length)), .val (.int (Int32.ofNat cs.length)), .val (.int (Int32.ofNat pre.length)), s6] [(.int (Int32.ofNat pre.length))] _
      refine XS.iload X0.here hx rfl (hb hby d_jdk_52_method_21_5) rfl ?_
      show SS p e below T0 m 7 #[.val (.ref src), .val (.int (Int32.ofNat pre.length)), .val (.ref dst), .val (.int (Int32.ofNat pre.length)), .val (.int (Int32.ofNat cs.length)), .val (.int (Int32.ofNat pre.length)), s6] [(.int (Int32.ofNat cs.length)), (.int (Int32.ofNat pre.length))] _
      refine XS.icmpYes X0.here hx rfl (pc0 := 7) (pc' := 44) rfl (hb hby d_jdk_52_method_21_7) rfl (flt (own_nlt (by omega) (by omega))).2.1 (by decide) (by decide) ?_
      show SS p e below T0 m 44 #[.val (.ref src), .val (.int (Int32.ofNat pre.length)), .val (.ref dst), .val (.int (Int32.ofNat pre.length)), .val (.int (Int32.ofNat cs.length)), .val (.int (Int32.ofNat pre.length)), s6] [] _
      refine XS.iload X0.here hx rfl (hb hby d_jdk_52_method_21_44) rfl ?_
      show SS p e below T0 m 46 #[.val (.ref src), .val (.int (Int32.ofNat pre.length)), .val (.ref dst), .val (.int (Int32.ofNat pre.length)), .val (.int (Int32.ofNat cs.length)), .val (.int (Int32.ofNat pre.length)), s6] [(.int (Int32.ofNat cs.length))] _
      exact kt
    have hR102 : Arv Z h0 dst kb .byte (Int32.ofNat cs.length) (l1 (cs.take (fl cs))) (.int (0 : Int32)) := by rw [show cs.take (fl cs) = pre from by rw [hfl, hk]; exact List.take_left]; exact Vd
    exact ⟨T0, _, h0, X0, e0, N0, (Keep.refl h0 [dst]), hR102, fun fs hr => W101 _ (retI X0 hx hret (hb hby d_jdk_52_method_21_46) (by rw [show (Value.int (Int32.ofNat cs.length)) = (Value.int (Int32.ofNat (fl cs))) from (by rw [hfl, hlen])]; exact hr))⟩
  | cons cc r ih =>
    intro pre s6 T0 L0 h0 X0 e0 N0 Z0 Vs Vd hl h6 hk
    have W0 : ∀ zQ, SS p e below T0 m 3 #[.val (.ref src), .val (.int (Int32.ofNat pre.length)), .val (.ref dst), .val (.int (Int32.ofNat pre.length)), .val (.int (Int32.ofNat cs.length)), .val (.int (Int32.ofNat pre.length)), s6] [] zQ → Steps p.tables e below (T0.setTop (mkF m 3 #[.val (.ref src), .val (.int (Int32.ofNat pre.length)), .val (.ref dst), .val (.int (Int32.ofNat pre.length)), .val (.int (Int32.ofNat cs.length)), .val (.int (Int32.ofNat pre.length)), s6] [])) zQ := fun tt kt => kt
    have hn : cs.length < 1048576 := ok.2
    have hlt : pre.length < cs.length := by rw [hk]; simp
    have hcc : cs.getD pre.length 0 = cc := by rw [hk]; exact app_at pre r cc 0
    obtain ⟨cl103, Ar103, q103, S103, M103, H103, F103g⟩ := id Vs
    have hin103 : ¬ ((Int32.ofNat pre.length) < 0 ∨ cl103.slots.size ≤ ((Int32.ofNat pre.length)).toNatClampNeg) := inb_of S103 ⟨own_nneg (by omega), own_lt hlt (by omega)⟩
    have hat103 : cl103.slots[((Int32.ofNat pre.length)).toNatClampNeg]? = some (.int cc) := Has.at H103 hin103 (by rw [own_cl (by omega), ch_at _ _ _ hlt, hcc])
    have W104 : ∀ zQ, SS p e below T0 m 20 #[.val (.ref src), .val (.int (Int32.ofNat pre.length)), .val (.ref dst), .val (.int (Int32.ofNat pre.length)), .val (.int (Int32.ofNat cs.length)), .val (.int (Int32.ofNat pre.length)), .val (.int cc)] [(.int (255 : Int32)), (.int cc)] zQ → Steps p.tables e below (T0.setTop (mkF m 3 #[.val (.ref src), .val (.int (Int32.ofNat pre.length)), .val (.ref dst), .val (.int (Int32.ofNat pre.length)), .val (.int (Int32.ofNat cs.length)), .val (.int (Int32.ofNat pre.length)), s6] [])) zQ := by
      intro tt kt
      refine W0 tt ?_
      refine XS.iload X0.here hx rfl (hb hby d_jdk_52_method_21_3) rfl ?_
      show SS p e below T0 m 5 #[.val (.ref src), .val (.int (Int32.ofNat pre.length)), .val (.ref dst), .val (.int (Int32.ofNat pre.length)), .val (.int (Int32.ofNat cs.length)), .val (.int (Int32.ofNat pre.length)), s6] [(.int (Int32.ofNat pre.length))] _
      refine XS.iload X0.here hx rfl (hb hby d_jdk_52_method_21_5) rfl ?_
      show SS p e below T0 m 7 #[.val (.ref src), .val (.int (Int32.ofNat pre.length)), .val (.ref dst), .val (.int (Int32.ofNat pre.length)), .val (.int (Int32.ofNat cs.length)), .val (.int (Int32.ofNat pre.length)), s6] [(.int (Int32.ofNat cs.length)), (.int (Int32.ofNat pre.length))] _
      refine XS.icmpNo X0.here hx rfl (hb hby d_jdk_52_method_21_7) rfl (tlt (own_lt hlt (by omega))).2.1 ?_
      show SS p e below T0 m 10 #[.val (.ref src), .val (.int (Int32.ofNat pre.length)), .val (.ref dst), .val (.int (Int32.ofNat pre.length)), .val (.int (Int32.ofNat cs.length)), .val (.int (Int32.ofNat pre.length)), s6] [] _
      refine XS.aloadN X0.here hx rfl (hb hby d_jdk_52_method_21_10) rfl rfl ?_
      show SS p e below T0 m 11 #[.val (.ref src), .val (.int (Int32.ofNat pre.length)), .val (.ref dst), .val (.int (Int32.ofNat pre.length)), .val (.int (Int32.ofNat cs.length)), .val (.int (Int32.ofNat pre.length)), s6] [(.ref src)] _
      refine XS.iloadN X0.here hx rfl (hb hby d_jdk_52_method_21_11) rfl ?_
      show SS p e below T0 m 12 #[.val (.ref src), .val (.int (Int32.ofNat pre.length)), .val (.ref dst), .val (.int (Int32.ofNat pre.length)), .val (.int (Int32.ofNat cs.length)), .val (.int (Int32.ofNat pre.length)), s6] [(.int (Int32.ofNat pre.length)), (.ref src)] _
      refine X0.caload hx (j := (Int32.ofNat pre.length)) (v := (.int cc)) (by first | exact Ar103.1 | (rw [e0]; exact Ar103.1)) (State.isArrayOf_alike hZ.alike Ar103.2.1) Ar103.2.2 hin103 hat103 (g := (mkF m 12 #[.val (.ref src), .val (.int (Int32.ofNat pre.length)), .val (.ref dst), .val (.int (Int32.ofNat pre.length)), .val (.int (Int32.ofNat cs.length)), .val (.int (Int32.ofNat pre.length)), s6] [(.int (Int32.ofNat pre.length)), (.ref src)])) rfl rfl (hb hby d_jdk_52_method_21_12) _ ?_
      show SS p e below T0 m 13 #[.val (.ref src), .val (.int (Int32.ofNat pre.length)), .val (.ref dst), .val (.int (Int32.ofNat pre.length)), .val (.int (Int32.ofNat cs.length)), .val (.int (Int32.ofNat pre.length)), s6] [(.int cc)] _
      refine XS.istore X0.here hx rfl (hb hby d_jdk_52_method_21_13) rfl (l' := #[.val (.ref src), .val (.int (Int32.ofNat pre.length)), .val (.ref dst), .val (.int (Int32.ofNat pre.length)), .val (.int (Int32.ofNat cs.length)), .val (.int (Int32.ofNat pre.length)), .val (.int cc)]) (XS.store1 (o := s6) rfl h6 rfl) ?_
      show SS p e below T0 m 15 #[.val (.ref src), .val (.int (Int32.ofNat pre.length)), .val (.ref dst), .val (.int (Int32.ofNat pre.length)), .val (.int (Int32.ofNat cs.length)), .val (.int (Int32.ofNat pre.length)), .val (.int cc)] [] _
      refine XS.iload X0.here hx rfl (hb hby d_jdk_52_method_21_15) rfl ?_
      show SS p e below T0 m 17 #[.val (.ref src), .val (.int (Int32.ofNat pre.length)), .val (.ref dst), .val (.int (Int32.ofNat pre.length)), .val (.int (Int32.ofNat cs.length)), .val (.int (Int32.ofNat pre.length)), .val (.int cc)] [(.int cc)] _
      refine XS.sipush X0.here hx rfl (hb hby d_jdk_52_method_21_17) ?_
      show SS p e below T0 m 20 #[.val (.ref src), .val (.int (Int32.ofNat pre.length)), .val (.ref dst), .val (.int (Int32.ofNat pre.length)), .val (.int (Int32.ofNat cs.length)), .val (.int (Int32.ofNat pre.length)), .val (.int cc)] [(.int (255 : Int32)), (.int cc)] _
      exact kt
    by_cases hc105 : (255 : Int32) < cc
    ·
      have hfl : fl cs = pre.length := by rw [hk, fl_app _ hl]; show _ + (if (255 : Int32) < cc then 0 else fl r + 1) = _; rw [if_pos hc105]; rfl
      have W106 : ∀ zQ, SS p e below T0 m 25 #[.val (.ref src), .val (.int (Int32.ofNat pre.length)), .val (.ref dst), .val (.int (Int32.ofNat pre.length)), .val (.int (Int32.ofNat cs.length)), .val (.int (Int32.ofNat pre.length)), .val (.int cc)] [(.int (Int32.ofNat pre.length))] zQ → Steps p.tables e below (T0.setTop (mkF m 3 #[.val (.ref src), .val (.int (Int32.ofNat pre.length)), .val (.ref dst), .val (.int (Int32.ofNat pre.length)), .val (.int (Int32.ofNat cs.length)), .val (.int (Int32.ofNat pre.length)), s6] [])) zQ := by
        intro tt kt
        refine W104 tt ?_
        refine XS.icmpNo X0.here hx rfl (hb hby d_jdk_52_method_21_20) rfl (tlt hc105).2.2.2 ?_
        show SS p e below T0 m 23 #[.val (.ref src), .val (.int (Int32.ofNat pre.length)), .val (.ref dst), .val (.int (Int32.ofNat pre.length)), .val (.int (Int32.ofNat cs.length)), .val (.int (Int32.ofNat pre.length)), .val (.int cc)] [] _
        refine XS.iload X0.here hx rfl (hb hby d_jdk_52_method_21_23) rfl ?_
        show SS p e below T0 m 25 #[.val (.ref src), .val (.int (Int32.ofNat pre.length)), .val (.ref dst), .val (.int (Int32.ofNat pre.length)), .val (.int (Int32.ofNat cs.length)), .val (.int (Int32.ofNat pre.length)), .val (.int cc)] [(.int (Int32.ofNat pre.length))] _
        exact kt
      have hR107 : Arv Z h0 dst kb .byte (Int32.ofNat cs.length) (l1 (cs.take (fl cs))) (.int (0 : Int32)) := by rw [show cs.take (fl cs) = pre from by rw [hfl, hk]; exact List.take_left]; exact Vd
      exact ⟨T0, _, h0, X0, e0, N0, (Keep.refl h0 [dst]), hR107, fun fs hr => W106 _ (retI X0 hx hret (hb hby d_jdk_52_method_21_25) (by rw [show (Value.int (Int32.ofNat pre.length)) = (Value.int (Int32.ofNat (fl cs))) from (by rw [hfl])]; exact hr))⟩
    ·
      obtain ⟨cl108, Ar108, q108, S108, M108, H108, F108g⟩ := id Vd
      have hin108 : ¬ ((Int32.ofNat pre.length) < 0 ∨ cl108.slots.size ≤ ((Int32.ofNat pre.length)).toNatClampNeg) := inb_of S108 ⟨own_nneg (by omega), own_lt hlt (by omega)⟩
      obtain ⟨T108, h108, X108, e108, Wr108, st108⟩ := stB X0 hx hZ e0 Ar108 (j := (Int32.ofNat pre.length)) hin108 (g := (mkF m 31 #[.val (.ref src), .val (.int (Int32.ofNat pre.length)), .val (.ref dst), .val (.int (Int32.ofNat pre.length)), .val (.int (Int32.ofNat cs.length)), .val (.int (Int32.ofNat pre.length)), .val (.int cc)] [(.int (cc.toInt8.toInt32)), (.int (Int32.ofNat pre.length)), (.ref dst)])) rfl rfl (hb hby d_jdk_52_method_21_31)
      have G108 : Arv Z h108 dst kb .byte (Int32.ofNat cs.length) ((l1 pre) ++ [(.int (nar .byte (cc.toInt8.toInt32)))]) (.int (0 : Int32)) := Arv.push Ar108 q108 S108 M108 H108 F108g (fits_nar_byte _) Wr108 (by rw [own_cl (by omega), l1_len])
      have K108 := Keep.of_wr Wr108
      have N108 := Fr.snoc X108 N0 hg
      have J108 : Arv Z h108 dst kb .byte (Int32.ofNat cs.length) (l1 (pre ++ [cc])) (.int (0 : Int32)) := by rw [← l1_snoc, ← own_narb]; exact G108
      have W109 : ∀ zQ, SS p e below T108 m 3 #[.val (.ref src), .val (.int (Int32.ofNat (pre ++ [cc]).length)), .val (.ref dst), .val (.int (Int32.ofNat (pre ++ [cc]).length)), .val (.int (Int32.ofNat cs.length)), .val (.int (Int32.ofNat (pre ++ [cc]).length)), .val (.int cc)] [] zQ → Steps p.tables e below (T0.setTop (mkF m 3 #[.val (.ref src), .val (.int (Int32.ofNat pre.length)), .val (.ref dst), .val (.int (Int32.ofNat pre.length)), .val (.int (Int32.ofNat cs.length)), .val (.int (Int32.ofNat pre.length)), s6] [])) zQ := by
        intro tt kt
        refine W104 tt ?_
        refine XS.icmpYes X0.here hx rfl (pc0 := 20) (pc' := 26) rfl (hb hby d_jdk_52_method_21_20) rfl (flt hc105).2.2.2 (by decide) (by decide) ?_
        show SS p e below T0 m 26 #[.val (.ref src), .val (.int (Int32.ofNat pre.length)), .val (.ref dst), .val (.int (Int32.ofNat pre.length)), .val (.int (Int32.ofNat cs.length)), .val (.int (Int32.ofNat pre.length)), .val (.int cc)] [] _
        refine XS.aloadN X0.here hx rfl (hb hby d_jdk_52_method_21_26) rfl rfl ?_
        show SS p e below T0 m 27 #[.val (.ref src), .val (.int (Int32.ofNat pre.length)), .val (.ref dst), .val (.int (Int32.ofNat pre.length)), .val (.int (Int32.ofNat cs.length)), .val (.int (Int32.ofNat pre.length)), .val (.int cc)] [(.ref dst)] _
        refine XS.iloadN X0.here hx rfl (hb hby d_jdk_52_method_21_27) rfl ?_
        show SS p e below T0 m 28 #[.val (.ref src), .val (.int (Int32.ofNat pre.length)), .val (.ref dst), .val (.int (Int32.ofNat pre.length)), .val (.int (Int32.ofNat cs.length)), .val (.int (Int32.ofNat pre.length)), .val (.int cc)] [(.int (Int32.ofNat pre.length)), (.ref dst)] _
        refine XS.iload X0.here hx rfl (hb hby d_jdk_52_method_21_28) rfl ?_
        show SS p e below T0 m 30 #[.val (.ref src), .val (.int (Int32.ofNat pre.length)), .val (.ref dst), .val (.int (Int32.ofNat pre.length)), .val (.int (Int32.ofNat cs.length)), .val (.int (Int32.ofNat pre.length)), .val (.int cc)] [(.int cc), (.int (Int32.ofNat pre.length)), (.ref dst)] _
        refine XS.i2b X0.here hx rfl (hb hby d_jdk_52_method_21_30) rfl ?_
        show SS p e below T0 m 31 #[.val (.ref src), .val (.int (Int32.ofNat pre.length)), .val (.ref dst), .val (.int (Int32.ofNat pre.length)), .val (.int (Int32.ofNat cs.length)), .val (.int (Int32.ofNat pre.length)), .val (.int cc)] [(.int (cc.toInt8.toInt32)), (.int (Int32.ofNat pre.length)), (.ref dst)] _
        refine st108 _ ?_
        show SS p e below T108 m 32 #[.val (.ref src), .val (.int (Int32.ofNat pre.length)), .val (.ref dst), .val (.int (Int32.ofNat pre.length)), .val (.int (Int32.ofNat cs.length)), .val (.int (Int32.ofNat pre.length)), .val (.int cc)] [] _
        refine XS.iinc X108.here hx rfl (hb hby d_jdk_52_method_21_32) rfl (l' := #[.val (.ref src), .val (.int ((Int32.ofNat pre.length) + (1 : Int32))), .val (.ref dst), .val (.int (Int32.ofNat pre.length)), .val (.int (Int32.ofNat cs.length)), .val (.int (Int32.ofNat pre.length)), .val (.int cc)]) rfl ?_
        show SS p e below T108 m 35 #[.val (.ref src), .val (.int ((Int32.ofNat pre.length) + (1 : Int32))), .val (.ref dst), .val (.int (Int32.ofNat pre.length)), .val (.int (Int32.ofNat cs.length)), .val (.int (Int32.ofNat pre.length)), .val (.int cc)] [] _
        refine XS.iinc X108.here hx rfl (hb hby d_jdk_52_method_21_35) rfl (l' := #[.val (.ref src), .val (.int ((Int32.ofNat pre.length) + (1 : Int32))), .val (.ref dst), .val (.int ((Int32.ofNat pre.length) + (1 : Int32))), .val (.int (Int32.ofNat cs.length)), .val (.int (Int32.ofNat pre.length)), .val (.int cc)]) rfl ?_
        show SS p e below T108 m 38 #[.val (.ref src), .val (.int ((Int32.ofNat pre.length) + (1 : Int32))), .val (.ref dst), .val (.int ((Int32.ofNat pre.length) + (1 : Int32))), .val (.int (Int32.ofNat cs.length)), .val (.int (Int32.ofNat pre.length)), .val (.int cc)] [] _
        refine XS.iinc X108.here hx rfl (hb hby d_jdk_52_method_21_38) rfl (l' := #[.val (.ref src), .val (.int ((Int32.ofNat pre.length) + (1 : Int32))), .val (.ref dst), .val (.int ((Int32.ofNat pre.length) + (1 : Int32))), .val (.int (Int32.ofNat cs.length)), .val (.int ((Int32.ofNat pre.length) + (1 : Int32))), .val (.int cc)]) rfl ?_
        show SS p e below T108 m 41 #[.val (.ref src), .val (.int ((Int32.ofNat pre.length) + (1 : Int32))), .val (.ref dst), .val (.int ((Int32.ofNat pre.length) + (1 : Int32))), .val (.int (Int32.ofNat cs.length)), .val (.int ((Int32.ofNat pre.length) + (1 : Int32))), .val (.int cc)] [] _
        rw [show ((Int32.ofNat pre.length) + (1 : Int32)) = (Int32.ofNat (pre ++ [cc]).length) from (by rw [own_succ]; simp)]
        show SS p e below T108 m 41 #[.val (.ref src), .val (.int (Int32.ofNat (pre ++ [cc]).length)), .val (.ref dst), .val (.int (Int32.ofNat (pre ++ [cc]).length)), .val (.int (Int32.ofNat cs.length)), .val (.int (Int32.ofNat (pre ++ [cc]).length)), .val (.int cc)] [] _
        refine XS.goto X108.here hx rfl (pc0 := 41) (pc' := 3) rfl (hb hby d_jdk_52_method_21_41) (by decide) (by decide) ?_
        show SS p e below T108 m 3 #[.val (.ref src), .val (.int (Int32.ofNat (pre ++ [cc]).length)), .val (.ref dst), .val (.int (Int32.ofNat (pre ++ [cc]).length)), .val (.int (Int32.ofNat cs.length)), .val (.int (Int32.ofNat (pre ++ [cc]).length)), .val (.int cc)] [] _
        exact kt
      have F111 : Arv Z h108 src kc .char (Int32.ofNat cs.length) (cs.map Value.int) (.int (0 : Int32)) := (Vs.keep K108 (ninS hne nin0))
      obtain ⟨T110, L110, h110, X110, e110, N110, K110, P110_0, st110⟩ := ih (pre ++ [cc]) (.val (.int cc)) T108 _ h108 X108 e108 N108 (Nat.le_trans Z0 K108.1) F111 J108 (lat_snoc hl hc105) (One.val rfl) (by rw [hk]; simp)
      exact ⟨T110, L110, h110, X110, e110, N110, (Keep.trans (Keep.trans (Keep.refl h0 [dst]) K108 (allS (Or.inl (List.mem_of_getElem? (i := 0) rfl)) all0)) K110 (allS (Or.inl (List.mem_of_getElem? (i := 0) rfl)) all0)), P110_0, fun tt kt => W109 _ (st110 _ kt)⟩
def Q_compress21 (Z : State) (src : Addr) (dst : Addr) (kc : ClassId) (kb : ClassId) (cs : List Int32) (h0 : Heap) (n0 : Nat) (vQ_ : Option Value) (hQ_ : Heap) (LQ_ : List Loc) : Prop := vQ_ = some (.int (Int32.ofNat (fl cs))) ∧ Fr n0 LQ_ ∧ Keep h0 hQ_ [dst] ∧ Arv Z hQ_ dst kb .byte (Int32.ofNat cs.length) (l1 (cs.take (fl cs))) (.int (0 : Int32))
set_option maxRecDepth 65536 in
set_option maxHeartbeats 40000000 in
theorem rm_compress21 (l : Launch) (Z : State) (a0 : Array Value) (hw : ∀ d ∈ tables_1, d.before a0 Z = true) (ws : List Jvm.Cond) (src : Addr) (dst : Addr) (kc : ClassId) (kb : ClassId) (cs : List Int32) (h0 : Heap) (n0 : Nat) (Z0 : n0 ≤ h0.size) (Vs : Arv Z h0 src kc .char (Int32.ofNat cs.length) (cs.map Value.int) (.int (0 : Int32))) (Vd : Arv Z h0 dst kb .byte (Int32.ofNat cs.length) [] (.int (0 : Int32))) (hne : src ≠ dst) (hg : n0 ≤ dst) (ok : OkS cs) :
    MetFree l (⟨"java/lang/StringUTF16", "compress", "([CI[BII)I"⟩ : MethodName) (head1 (Jvm.Cond.code (⟨"java/lang/StringUTF16", "compress", "([CI[BII)I"⟩ : MethodName) jdk_52_method_21_code 7 (some .int) :: ws) ({ frames := 0, cells := 0, slots := 0, locals := 0 } : Room)) (fun aQ_ UQ => aQ_ = #[(.ref src), (.int (0 : Int32)), (.ref dst), (.int (0 : Int32)), (.int (Int32.ofNat cs.length))] ∧ Z.Warmed39 UQ.vm ∧ UQ.heap = h0) (fun _ _ _ _ _ => True) (fun _ UQ oQ UQ' => ∃ vQ_ LQ_, oQ = .returned vQ_ ∧ Q_compress21 Z src dst kc kb cs h0 n0 vQ_ UQ'.heap LQ_ ∧ FrameEnd UQ oQ UQ' LQ_ ({ frames := 0, cells := 0, slots := 0, locals := 0 } : Room).cells ({ frames := 0, cells := 0, slots := 0, locals := 0 } : Room).slots) := by
  refine MetFree.of_bodySF (plainFor_of_name pn_java_lang_StringUTF16) hisR ?_
  intro p e s m args below meth cO s₁ Bd hml0 hP hK
  obtain ⟨rfl, hZ, hh⟩ := hP
  have hx := Bd.exec
  have hby := Bd.bytes
  have hml : cO.maxLocals = 7 := hml0
  have hown : s.vm.findClass "java/lang/StringUTF16" = some m.cls := findClass_of_methodNamed Bd.named
  have hnm := (name_of_methodNamed Bd.named Bd.method).1
  have X0 : Stand p l e ({ frames := 0, cells := 0, slots := 0, locals := 0 } : Room) s m #[(.ref src), (.int (0 : Int32)), (.ref dst), (.int (0 : Int32)), (.int (Int32.ofNat cs.length))] below meth cO s₁ [] 0 0 := Stand.of_body Bd
  have e0 : s₁.heap = h0 := by rw [← hh, Bd.state]; rfl
  have N0 := Fr.nil n0
  have W0 : ∀ zQ, SS p e below s₁ m 0 #[.val (.ref src), .val (.int (0 : Int32)), .val (.ref dst), .val (.int (0 : Int32)), .val (.int (Int32.ofNat cs.length)), .unset, .unset] [] zQ → Steps p.tables e below (s₁.setTop (entryFrame m #[(.ref src), (.int (0 : Int32)), (.ref dst), (.int (0 : Int32)), (.int (Int32.ofNat cs.length))] 7)) zQ := fun tt kt => castTop (ef_compress21 m src (0 : Int32) dst (0 : Int32) (Int32.ofNat cs.length)) kt
  have W101 : ∀ zQ, SS p e below s₁ m 3 #[.val (.ref src), .val (.int (0 : Int32)), .val (.ref dst), .val (.int (0 : Int32)), .val (.int (Int32.ofNat cs.length)), .val (.int (0 : Int32)), .unset] [] zQ → Steps p.tables e below (s₁.setTop (entryFrame m #[(.ref src), (.int (0 : Int32)), (.ref dst), (.int (0 : Int32)), (.int (Int32.ofNat cs.length))] 7)) zQ := by
    intro tt kt
    refine W0 tt ?_
    refine XS.iconst X0.here hx rfl (hb hby d_jdk_52_method_21_0) ?_
    show SS p e below s₁ m 1 #[.val (.ref src), .val (.int (0 : Int32)), .val (.ref dst), .val (.int (0 : Int32)), .val (.int (Int32.ofNat cs.length)), .unset, .unset] [(.int (0 : Int32))] _
    refine XS.istore X0.here hx rfl (hb hby d_jdk_52_method_21_1) rfl (l' := #[.val (.ref src), .val (.int (0 : Int32)), .val (.ref dst), .val (.int (0 : Int32)), .val (.int (Int32.ofNat cs.length)), .val (.int (0 : Int32)), .unset]) rfl ?_
    show SS p e below s₁ m 3 #[.val (.ref src), .val (.int (0 : Int32)), .val (.ref dst), .val (.int (0 : Int32)), .val (.int (Int32.ofNat cs.length)), .val (.int (0 : Int32)), .unset] [] _
    exact kt
  obtain ⟨T102, L102, h102, X102, e102, Nl102, K102, P102_0, st102⟩ := lp_compr hx hZ hw hby hml hown (by decide) (by decide) (by decide) (by decide) Bd.returns src dst kc kb cs n0 hne hg ok cs [] .unset s₁ _ h0 X0 e0 N0 Z0 Vs Vd rfl One.u rfl
  obtain ⟨fs, hr, hrun, hended, hW, hsame⟩ := X102.leave (v := some (.int (Int32.ofNat (fl cs)))) (fun h => by rw [Bd.returns] at h; cases h)
  refine ⟨_, _, W101 _ (st102 _ hr), hrun, hended, _, _, rfl, ?_, ⟨_, rfl⟩, hW, hsame.mono (by decide) (by decide)⟩
  show Q_compress21 Z src dst kc kb cs h0 n0 _ T102.heap _
  rw [e102]
  exact ⟨rfl, Nl102, (Keep.trans (Keep.refl h0 [dst]) K102 (allS (Or.inl (List.mem_of_getElem? (i := 0) rfl)) all0)), P102_0⟩
def Q_coderOf (Z : State) (t : Addr) (kb : ClassId) (vs : List Value) (cs : List Int32) (h0 : Heap) (n0 : Nat) (vQ_ : Option Value) (hQ_ : Heap) (LQ_ : List Loc) : Prop := vQ_ = some (.int (cdr cs)) ∧ Fr n0 LQ_ ∧ hQ_ = h0
set_option maxRecDepth 65536 in
set_option maxHeartbeats 40000000 in
theorem rm_coderOf (l : Launch) (Z : State) (a0 : Array Value) (hw : ∀ d ∈ tables_1, d.before a0 Z = true) (ws : List Jvm.Cond) (t : Addr) (kb : ClassId) (vs : List Value) (cs : List Int32) (h0 : Heap) (n0 : Nat) (Z0 : n0 ≤ h0.size) (A1 : Arv Z h0 t kb .byte (Int32.ofNat (blen cs)) vs (.int (0 : Int32))) (ok : OkS cs) :
    MetFree l (⟨"java/lang/StringUTF16", "coderFromArrayLen", "([BI)B"⟩ : MethodName) (head1 (Jvm.Cond.code (⟨"java/lang/StringUTF16", "coderFromArrayLen", "([BI)B"⟩ : MethodName) jdk_52_method_15_code 2 (some .byte) :: ws) ({ frames := 0, cells := 0, slots := 0, locals := 0 } : Room)) (fun aQ_ UQ => aQ_ = #[(.ref t), (.int (Int32.ofNat cs.length))] ∧ Z.Warmed39 UQ.vm ∧ UQ.heap = h0) (fun _ _ _ _ _ => True) (fun _ UQ oQ UQ' => ∃ vQ_ LQ_, oQ = .returned vQ_ ∧ Q_coderOf Z t kb vs cs h0 n0 vQ_ UQ'.heap LQ_ ∧ FrameEnd UQ oQ UQ' LQ_ ({ frames := 0, cells := 0, slots := 0, locals := 0 } : Room).cells ({ frames := 0, cells := 0, slots := 0, locals := 0 } : Room).slots) := by
  refine MetFree.of_bodySF (plainFor_of_name pn_java_lang_StringUTF16) hisR ?_
  intro p e s m args below meth cO s₁ Bd hml0 hP hK
  obtain ⟨rfl, hZ, hh⟩ := hP
  have hx := Bd.exec
  have hby := Bd.bytes
  have hml : cO.maxLocals = 2 := hml0
  have hown : s.vm.findClass "java/lang/StringUTF16" = some m.cls := findClass_of_methodNamed Bd.named
  have hnm := (name_of_methodNamed Bd.named Bd.method).1
  have X0 : Stand p l e ({ frames := 0, cells := 0, slots := 0, locals := 0 } : Room) s m #[(.ref t), (.int (Int32.ofNat cs.length))] below meth cO s₁ [] 0 0 := Stand.of_body Bd
  have e0 : s₁.heap = h0 := by rw [← hh, Bd.state]; rfl
  have N0 := Fr.nil n0
  have W0 : ∀ zQ, SS p e below s₁ m 0 #[.val (.ref t), .val (.int (Int32.ofNat cs.length))] [] zQ → Steps p.tables e below (s₁.setTop (entryFrame m #[(.ref t), (.int (Int32.ofNat cs.length))] 2)) zQ := fun tt kt => castTop (ef_coderOf m t (Int32.ofNat cs.length)) kt
  obtain ⟨cl101, Ar101, -, S101, M101, -, -⟩ := id A1
  have W102 : ∀ zQ, SS p e below s₁ m 8 #[.val (.ref t), .val (.int (Int32.ofNat cs.length))] [(.int (((((Int32.ofNat cs.length) - (Int32.ofNat (blen cs))).toUInt32 >>> ((31 : Int32) &&& 31).toUInt32).toInt32).toInt8.toInt32))] zQ → Steps p.tables e below (s₁.setTop (entryFrame m #[(.ref t), (.int (Int32.ofNat cs.length))] 2)) zQ := by
    intro tt kt
    refine W0 tt ?_
    refine XS.iloadN X0.here hx rfl (hb hby d_jdk_52_method_15_0) rfl ?_
    show SS p e below s₁ m 1 #[.val (.ref t), .val (.int (Int32.ofNat cs.length))] [(.int (Int32.ofNat cs.length))] _
    refine XS.aloadN X0.here hx rfl (hb hby d_jdk_52_method_15_1) rfl rfl ?_
    show SS p e below s₁ m 2 #[.val (.ref t), .val (.int (Int32.ofNat cs.length))] [(.ref t), (.int (Int32.ofNat cs.length))] _
    refine X0.arraylength hx (by first | exact Ar101.1 | (rw [e0]; exact Ar101.1)) (State.isArrayOf_alike hZ.alike Ar101.2.1) (g := (mkF m 2 #[.val (.ref t), .val (.int (Int32.ofNat cs.length))] [(.ref t), (.int (Int32.ofNat cs.length))])) rfl rfl (hb hby d_jdk_52_method_15_2) _ ?_
    rw [len_of S101 M101]
    show SS p e below s₁ m 3 #[.val (.ref t), .val (.int (Int32.ofNat cs.length))] [(.int (Int32.ofNat (blen cs))), (.int (Int32.ofNat cs.length))] _
    refine XS.isub X0.here hx rfl (hb hby d_jdk_52_method_15_3) rfl ?_
    show SS p e below s₁ m 4 #[.val (.ref t), .val (.int (Int32.ofNat cs.length))] [(.int ((Int32.ofNat cs.length) - (Int32.ofNat (blen cs))))] _
    refine XS.bipush X0.here hx rfl (hb hby d_jdk_52_method_15_4) ?_
    show SS p e below s₁ m 6 #[.val (.ref t), .val (.int (Int32.ofNat cs.length))] [(.int (31 : Int32)), (.int ((Int32.ofNat cs.length) - (Int32.ofNat (blen cs))))] _
    refine XS.iushr X0.here hx rfl (hb hby d_jdk_52_method_15_6) rfl ?_
    show SS p e below s₁ m 7 #[.val (.ref t), .val (.int (Int32.ofNat cs.length))] [(.int ((((Int32.ofNat cs.length) - (Int32.ofNat (blen cs))).toUInt32 >>> ((31 : Int32) &&& 31).toUInt32).toInt32))] _
    refine XS.i2b X0.here hx rfl (hb hby d_jdk_52_method_15_7) rfl ?_
    show SS p e below s₁ m 8 #[.val (.ref t), .val (.int (Int32.ofNat cs.length))] [(.int (((((Int32.ofNat cs.length) - (Int32.ofNat (blen cs))).toUInt32 >>> ((31 : Int32) &&& 31).toUInt32).toInt32).toInt8.toInt32))] _
    exact kt
  obtain ⟨fs, hr, hrun, hended, hW, hsame⟩ := X0.leave (v := some (.int (nar .byte (((((Int32.ofNat cs.length) - (Int32.ofNat (blen cs))).toUInt32 >>> ((31 : Int32) &&& 31).toUInt32).toInt32).toInt8.toInt32)))) (fun h => by rw [Bd.returns] at h; cases h)
  refine ⟨_, _, W102 _ (retN X0 hx (t := .byte) Bd.returns (by simp) (hb hby d_jdk_52_method_15_8) hr), hrun, hended, _, _, rfl, ?_, ⟨_, rfl⟩, hW, hsame.mono (by decide) (by decide)⟩
  show Q_coderOf Z t kb vs cs h0 n0 _ s₁.heap _
  rw [e0]
  exact ⟨(congrArg (fun q => some (Value.int q)) (own_cdr ok.2)), N0, rfl⟩
def Q_nbl (Z : State) (N : Nat) (h0 : Heap) (n0 : Nat) (vQ_ : Option Value) (hQ_ : Heap) (LQ_ : List Loc) : Prop := vQ_ = some (.int (Int32.ofNat (2 * N))) ∧ Fr n0 LQ_ ∧ hQ_ = h0
set_option maxRecDepth 65536 in
set_option maxHeartbeats 40000000 in
theorem rm_nbl (l : Launch) (Z : State) (a0 : Array Value) (hw : ∀ d ∈ tables_1, d.before a0 Z = true) (ws : List Jvm.Cond) (N : Nat) (h0 : Heap) (n0 : Nat) (Z0 : n0 ≤ h0.size) (hN : 2 * N < 2147483646) :
    MetFree l (⟨"java/lang/StringUTF16", "newBytesLength", "(I)I"⟩ : MethodName) (head1 (Jvm.Cond.code (⟨"java/lang/StringUTF16", "newBytesLength", "(I)I"⟩ : MethodName) jdk_52_method_3_code 1 (some .int) :: ws) ({ frames := 0, cells := 0, slots := 0, locals := 0 } : Room)) (fun aQ_ UQ => aQ_ = #[(.int (Int32.ofNat N))] ∧ Z.Warmed39 UQ.vm ∧ UQ.heap = h0) (fun _ _ _ _ _ => True) (fun _ UQ oQ UQ' => ∃ vQ_ LQ_, oQ = .returned vQ_ ∧ Q_nbl Z N h0 n0 vQ_ UQ'.heap LQ_ ∧ FrameEnd UQ oQ UQ' LQ_ ({ frames := 0, cells := 0, slots := 0, locals := 0 } : Room).cells ({ frames := 0, cells := 0, slots := 0, locals := 0 } : Room).slots) := by
  refine MetFree.of_bodySF (plainFor_of_name pn_java_lang_StringUTF16) hisR ?_
  intro p e s m args below meth cO s₁ Bd hml0 hP hK
  obtain ⟨rfl, hZ, hh⟩ := hP
  have hx := Bd.exec
  have hby := Bd.bytes
  have hml : cO.maxLocals = 1 := hml0
  have hown : s.vm.findClass "java/lang/StringUTF16" = some m.cls := findClass_of_methodNamed Bd.named
  have hnm := (name_of_methodNamed Bd.named Bd.method).1
  have X0 : Stand p l e ({ frames := 0, cells := 0, slots := 0, locals := 0 } : Room) s m #[(.int (Int32.ofNat N))] below meth cO s₁ [] 0 0 := Stand.of_body Bd
  have e0 : s₁.heap = h0 := by rw [← hh, Bd.state]; rfl
  have N0 := Fr.nil n0
  have W0 : ∀ zQ, SS p e below s₁ m 0 #[.val (.int (Int32.ofNat N))] [] zQ → Steps p.tables e below (s₁.setTop (entryFrame m #[(.int (Int32.ofNat N))] 1)) zQ := fun tt kt => castTop (ef_nbl m (Int32.ofNat N)) kt
  have W101 : ∀ zQ, SS p e below s₁ m 58 #[.val (.int (Int32.ofNat N))] [(.int (Int32.ofNat (2 * N)))] zQ → Steps p.tables e below (s₁.setTop (entryFrame m #[(.int (Int32.ofNat N))] 1)) zQ := by
    intro tt kt
    refine W0 tt ?_
    refine XS.iloadN X0.here hx rfl (hb hby d_jdk_52_method_3_0) rfl ?_
    show SS p e below s₁ m 1 #[.val (.int (Int32.ofNat N))] [(.int (Int32.ofNat N))] _
    refine XS.ifYes X0.here hx rfl (pc0 := 1) (pc' := 12) rfl (hb hby d_jdk_52_method_3_1) rfl ((if0 _ _).trans (flt (own_nneg (by omega))).2.1) (by decide) (by decide) ?_
    show SS p e below s₁ m 12 #[.val (.int (Int32.ofNat N))] [] _
    refine XS.iloadN X0.here hx rfl (hb hby d_jdk_52_method_3_12) rfl ?_
    show SS p e below s₁ m 13 #[.val (.int (Int32.ofNat N))] [(.int (Int32.ofNat N))] _
    refine X0.ldcInt hx hown (mvT hZ (w80 hw)) (g := (mkF m 13 #[.val (.int (Int32.ofNat N))] [(.int (Int32.ofNat N))])) rfl (hb hby d_jdk_52_method_3_13) _ ?_
    show SS p e below s₁ m 15 #[.val (.int (Int32.ofNat N))] [(.int (1073741823 : Int32)), (.int (Int32.ofNat N))] _
    refine XS.icmpYes X0.here hx rfl (pc0 := 15) (pc' := 55) rfl (hb hby d_jdk_52_method_3_15) rfl (tlt (own_lt (n := 1073741823) (by omega) (by decide))).1 (by decide) (by decide) ?_
    show SS p e below s₁ m 55 #[.val (.int (Int32.ofNat N))] [] _
    refine XS.iloadN X0.here hx rfl (hb hby d_jdk_52_method_3_55) rfl ?_
    show SS p e below s₁ m 56 #[.val (.int (Int32.ofNat N))] [(.int (Int32.ofNat N))] _
    refine XS.iconst X0.here hx rfl (hb hby d_jdk_52_method_3_56) ?_
    show SS p e below s₁ m 57 #[.val (.int (Int32.ofNat N))] [(.int (1 : Int32)), (.int (Int32.ofNat N))] _
    refine XS.ishl X0.here hx rfl (hb hby d_jdk_52_method_3_57) rfl ?_
    show SS p e below s₁ m 58 #[.val (.int (Int32.ofNat N))] [(.int ((Int32.ofNat N) <<< ((1 : Int32) &&& 31)))] _
    rw [show ((Int32.ofNat N) <<< ((1 : Int32) &&& 31)) = (Int32.ofNat (2 * N)) from own_shl1 (by omega)]
    show SS p e below s₁ m 58 #[.val (.int (Int32.ofNat N))] [(.int (Int32.ofNat (2 * N)))] _
    exact kt
  obtain ⟨fs, hr, hrun, hended, hW, hsame⟩ := X0.leave (v := some (.int (Int32.ofNat (2 * N)))) (fun h => by rw [Bd.returns] at h; cases h)
  refine ⟨_, _, W101 _ (retI X0 hx Bd.returns (hb hby d_jdk_52_method_3_58) hr), hrun, hended, _, _, rfl, ?_, ⟨_, rfl⟩, hW, hsame.mono (by decide) (by decide)⟩
  show Q_nbl Z N h0 n0 _ s₁.heap _
  rw [e0]
  exact ⟨rfl, N0, rfl⟩
def Q_nbf (Z : State) (N : Nat) (h0 : Heap) (n0 : Nat) (vQ_ : Option Value) (hQ_ : Heap) (LQ_ : List Loc) : Prop := ∃ t : Addr, ∃ kb : ClassId, vQ_ = some (.ref t) ∧ Fr n0 LQ_ ∧ Keep h0 hQ_ [] ∧ h0.size ≤ t ∧ Arv Z hQ_ t kb .byte (Int32.ofNat (2 * N)) [] (.int (0 : Int32))
set_option maxRecDepth 65536 in
set_option maxHeartbeats 40000000 in
theorem rm_nbf (l : Launch) (Z : State) (a0 : Array Value) (hw : ∀ d ∈ tables_1, d.before a0 Z = true) (ws : List Jvm.Cond) (N : Nat) (h0 : Heap) (n0 : Nat) (Z0 : n0 ≤ h0.size) (hN : 2 * N ≤ 8) :
    MetFree l (⟨"java/lang/StringUTF16", "newBytesFor", "(I)[B"⟩ : MethodName) (head1 (Jvm.Cond.code (⟨"java/lang/StringUTF16", "newBytesFor", "(I)[B"⟩ : MethodName) jdk_52_method_2_code 1 (some (.array .byte)) :: ws) ({ frames := 1, cells := 1, slots := 8, locals := 12 } : Room)) (fun aQ_ UQ => aQ_ = #[(.int (Int32.ofNat N))] ∧ Z.Warmed39 UQ.vm ∧ UQ.heap = h0) (fun _ _ _ _ _ => True) (fun _ UQ oQ UQ' => ∃ vQ_ LQ_, oQ = .returned vQ_ ∧ Q_nbf Z N h0 n0 vQ_ UQ'.heap LQ_ ∧ FrameEnd UQ oQ UQ' LQ_ ({ frames := 1, cells := 1, slots := 8, locals := 12 } : Room).cells ({ frames := 1, cells := 1, slots := 8, locals := 12 } : Room).slots) := by
  refine MetFree.of_bodySF (plainFor_of_name pn_java_lang_StringUTF16) hisR ?_
  intro p e s m args below meth cO s₁ Bd hml0 hP hK
  obtain ⟨rfl, hZ, hh⟩ := hP
  have hx := Bd.exec
  have hby := Bd.bytes
  have hml : cO.maxLocals = 1 := hml0
  have hown : s.vm.findClass "java/lang/StringUTF16" = some m.cls := findClass_of_methodNamed Bd.named
  have hnm := (name_of_methodNamed Bd.named Bd.method).1
  have X0 : Stand p l e ({ frames := 1, cells := 1, slots := 8, locals := 12 } : Room) s m #[(.int (Int32.ofNat N))] below meth cO s₁ [] 0 0 := Stand.of_body Bd
  have e0 : s₁.heap = h0 := by rw [← hh, Bd.state]; rfl
  have N0 := Fr.nil n0
  have W0 : ∀ zQ, SS p e below s₁ m 0 #[.val (.int (Int32.ofNat N))] [] zQ → Steps p.tables e below (s₁.setTop (entryFrame m #[(.int (Int32.ofNat N))] 1)) zQ := fun tt kt => castTop (ef_nbf m (Int32.ofNat N)) kt
  obtain ⟨_, _, ⟨T101, L101, k101, n101⟩, -, X101, ⟨Lc101, hQ101, l101, y101, z101⟩, st101⟩ := Jvm.LawKit.callS X0 hx (y := (⟨"java/lang/StringUTF16", "newBytesLength", "(I)I"⟩ : MethodName)) hown (mvT hZ (w77 hw)) (mvT hZ (w78 hw)) (mvT hZ (w22 hw)) (mvT hZ (w79 hw)) (by decide) (backOf (W := 0) (rm_nbl l Z a0 hw [] N h0 n0 Z0 (by omega)) hZ (w79 hw) (w22 hw) (by decide) (by decide)) (g := (mkF m 1 #[.val (.int (Int32.ofNat N))] [(.int (Int32.ofNat N))])) rfl (by rw [hml]; rfl) (argsL := [(.int (Int32.ofNat N))]) (rest := []) (lenOf pd__28_I_29_I rfl) rfl (by show 2 * 0 + _ ≤ _; exact Nat.le_of_eq rfl) (hb hby d_jdk_52_method_2_1) (fun _ _ => ⟨rfl, e0, (Nat.le_of_ble_eq_true rfl), (Nat.le_of_ble_eq_true rfl)⟩)
  dsimp only [Pt.U, Pt.locs, Pt.cells, Pt.slots] at X101 l101 y101 z101 st101 hQ101
  subst l101 y101 z101
  obtain ⟨rfl, Nq101, eq101⟩ := hQ101
  have N101 := Fr.app N0 Nq101
  obtain ⟨T102, h102, k102, X102, e102, E102, A102, st102⟩ := newP X101 hx hZ (aty := .byte) (w24 hw) eq101 (g := (mkF m 4 #[.val (.int (Int32.ofNat N))] [(.int (Int32.ofNat (2 * N)))])) rfl (hb hby d_jdk_52_method_2_4) (n := (Int32.ofNat (2 * N))) rfl (own_nneg (by omega)) (cap := 8) (by rw [own_cl (by omega)]; exact hN) (by decide) (by decide) (by decide)
  obtain ⟨b102, g102⟩ : ∃ z, z = h0.size := ⟨_, rfl⟩
  rw [← g102] at A102 st102
  have K102 := (Keep.refl h0 []).ext E102
  have G102 : Arv Z h102 b102 k102 .byte (Int32.ofNat (2 * N)) [] (.int (0 : Int32)) := Arv.new A102 (own_nneg (by omega))
  have W103 : ∀ zQ, SS p e below T102 m 6 #[.val (.int (Int32.ofNat N))] [(.ref b102)] zQ → Steps p.tables e below (s₁.setTop (entryFrame m #[(.int (Int32.ofNat N))] 1)) zQ := by
    intro tt kt
    refine W0 tt ?_
    refine XS.iloadN X0.here hx rfl (hb hby d_jdk_52_method_2_0) rfl ?_
    show SS p e below s₁ m 1 #[.val (.int (Int32.ofNat N))] [(.int (Int32.ofNat N))] _
    refine st101 _ ?_
    show SS p e below T101 m 4 #[.val (.int (Int32.ofNat N))] [(.int (Int32.ofNat (2 * N)))] _
    refine st102 _ ?_
    show SS p e below T102 m 6 #[.val (.int (Int32.ofNat N))] [(.ref b102)] _
    exact kt
  obtain ⟨fs, hr, hrun, hended, hW, hsame⟩ := X102.leave (v := some (.ref b102)) (fun h => by rw [Bd.returns] at h; cases h)
  refine ⟨_, _, W103 _ (own_retR X102 hx Bd.returns rfl rfl (hb hby d_jdk_52_method_2_6) hr), hrun, hended, _, _, rfl, ?_, ⟨_, rfl⟩, hW, hsame.mono (by decide) (by decide)⟩
  show Q_nbf Z N h0 n0 _ T102.heap _
  rw [e102]
  exact ⟨b102, k102, rfl, N101, (Keep.trans (Keep.refl h0 []) K102 all0), (Nat.le_of_eq g102.symm), G102⟩
def Q_putChar (Z : State) (t : Addr) (c : Int32) (i : Nat) (N : Nat) (kb : ClassId) (vs : List Value) (h0 : Heap) (n0 : Nat) (vQ_ : Option Value) (hQ_ : Heap) (LQ_ : List Loc) : Prop := vQ_ = none ∧ Fr n0 LQ_ ∧ Keep h0 hQ_ [t] ∧ Arv Z hQ_ t kb .byte (Int32.ofNat (2 * N)) (vs ++ [.int ((c >>> ((0 : Int32) &&& 31)).toInt8.toInt32), .int ((c >>> ((8 : Int32) &&& 31)).toInt8.toInt32)]) (.int (0 : Int32))
set_option maxRecDepth 65536 in
set_option maxHeartbeats 40000000 in
theorem rm_putChar (l : Launch) (Z : State) (a0 : Array Value) (hw : ∀ d ∈ tables_1, d.before a0 Z = true) (ws : List Jvm.Cond) (t : Addr) (c : Int32) (i : Nat) (N : Nat) (kb : ClassId) (vs : List Value) (h0 : Heap) (n0 : Nat) (Z0 : n0 ≤ h0.size) (O0 : Old Z n0 h0) (S_ad : Sta Z Z.heap "java/lang/StringUTF16" "$assertionsDisabled" "Z" (.int (1 : Int32))) (S_hi : Sta Z Z.heap "java/lang/StringUTF16" "HI_BYTE_SHIFT" "I" (.int (0 : Int32))) (S_lo : Sta Z Z.heap "java/lang/StringUTF16" "LO_BYTE_SHIFT" "I" (.int (8 : Int32))) (A1 : Arv Z h0 t kb .byte (Int32.ofNat (2 * N)) vs (.int (0 : Int32))) (hvs : vs.length = 2 * i) (hi : i < N) (hN : 2 * N < 2147483646) (hg : n0 ≤ t) :
    MetFree l (⟨"java/lang/StringUTF16", "putChar", "([BII)V"⟩ : MethodName) (head1 (Jvm.Cond.code (⟨"java/lang/StringUTF16", "putChar", "([BII)V"⟩ : MethodName) jdk_52_method_4_code 3 none :: ws) ({ frames := 0, cells := 0, slots := 0, locals := 0 } : Room)) (fun aQ_ UQ => aQ_ = #[(.ref t), (.int (Int32.ofNat i)), (.int c)] ∧ Z.Warmed39 UQ.vm ∧ UQ.heap = h0) (fun _ _ _ _ _ => True) (fun _ UQ oQ UQ' => ∃ vQ_ LQ_, oQ = .returned vQ_ ∧ Q_putChar Z t c i N kb vs h0 n0 vQ_ UQ'.heap LQ_ ∧ FrameEnd UQ oQ UQ' LQ_ ({ frames := 0, cells := 0, slots := 0, locals := 0 } : Room).cells ({ frames := 0, cells := 0, slots := 0, locals := 0 } : Room).slots) := by
  refine MetFree.of_bodySF (plainFor_of_name pn_java_lang_StringUTF16) hisR ?_
  intro p e s m args below meth cO s₁ Bd hml0 hP hK
  obtain ⟨rfl, hZ, hh⟩ := hP
  have hx := Bd.exec
  have hby := Bd.bytes
  have hml : cO.maxLocals = 3 := hml0
  have hown : s.vm.findClass "java/lang/StringUTF16" = some m.cls := findClass_of_methodNamed Bd.named
  have hnm := (name_of_methodNamed Bd.named Bd.method).1
  have X0 : Stand p l e ({ frames := 0, cells := 0, slots := 0, locals := 0 } : Room) s m #[(.ref t), (.int (Int32.ofNat i)), (.int c)] below meth cO s₁ [] 0 0 := Stand.of_body Bd
  have e0 : s₁.heap = h0 := by rw [← hh, Bd.state]; rfl
  have N0 := Fr.nil n0
  have W0 : ∀ zQ, SS p e below s₁ m 0 #[.val (.ref t), .val (.int (Int32.ofNat i)), .val (.int c)] [] zQ → Steps p.tables e below (s₁.setTop (entryFrame m #[(.ref t), (.int (Int32.ofNat i)), (.int c)] 3)) zQ := fun tt kt => castTop (ef_putChar m t (Int32.ofNat i) c) kt
  have F102 : Sta Z h0 "java/lang/StringUTF16" "$assertionsDisabled" "Z" (.int (1 : Int32)) := S_ad.ext O0.2
  obtain ⟨T101, X101, e101, st101⟩ := getS2 X0 hx hZ hown (host := "") (Or.inl (w84 hw)) Via.refl e0 F102 (g := (mkF m 0 #[.val (.ref t), .val (.int (Int32.ofNat i)), .val (.int c)] [])) rfl (hb hby d_jdk_52_method_4_0)
  have F104 : Sta Z h0 "java/lang/StringUTF16" "HI_BYTE_SHIFT" "I" (.int (0 : Int32)) := S_hi.ext O0.2
  obtain ⟨T103, X103, e103, st103⟩ := getS2 X101 hx hZ hown (host := "") (Or.inl (w85 hw)) Via.refl e101 F104 (g := (mkF m 38 #[.val (.ref t), .val (.int (Int32.ofNat (2 * i + 1))), .val (.int c)] [(.int c), (.int (Int32.ofNat (2 * i))), (.ref t)])) rfl (hb hby d_jdk_52_method_4_38)
  obtain ⟨cl105, Ar105, q105, S105, M105, H105, F105g⟩ := id A1
  have hin105 : ¬ ((Int32.ofNat (2 * i)) < 0 ∨ cl105.slots.size ≤ ((Int32.ofNat (2 * i))).toNatClampNeg) := inb_of S105 ⟨own_nneg (by omega), own_lt (by omega) (by omega)⟩
  obtain ⟨T105, h105, X105, e105, Wr105, st105⟩ := stB X103 hx hZ e103 Ar105 (j := (Int32.ofNat (2 * i))) hin105 (g := (mkF m 43 #[.val (.ref t), .val (.int (Int32.ofNat (2 * i + 1))), .val (.int c)] [(.int ((c >>> ((0 : Int32) &&& 31)).toInt8.toInt32)), (.int (Int32.ofNat (2 * i))), (.ref t)])) rfl rfl (hb hby d_jdk_52_method_4_43)
  have G105 : Arv Z h105 t kb .byte (Int32.ofNat (2 * N)) (vs ++ [(.int (nar .byte ((c >>> ((0 : Int32) &&& 31)).toInt8.toInt32)))]) (.int (0 : Int32)) := Arv.push Ar105 q105 S105 M105 H105 F105g (fits_nar_byte _) Wr105 (by rw [own_cl (by omega), hvs])
  have K105 := Keep.of_wr Wr105
  have N105 := Fr.snoc X105 N0 hg
  have J105 : Arv Z h105 t kb .byte (Int32.ofNat (2 * N)) (vs ++ [.int ((c >>> ((0 : Int32) &&& 31)).toInt8.toInt32)]) (.int (0 : Int32)) := by rw [← own_narb]; exact G105
  have O107 : Old Z n0 h105 := (O0.keep K105 (allS hg all0))
  have F108 : Sta Z h105 "java/lang/StringUTF16" "LO_BYTE_SHIFT" "I" (.int (8 : Int32)) := S_lo.ext O107.2
  obtain ⟨T106, X106, e106, st106⟩ := getS2 X105 hx hZ hown (host := "") (Or.inl (w86 hw)) Via.refl e105 F108 (g := (mkF m 47 #[.val (.ref t), .val (.int (Int32.ofNat (2 * i + 1))), .val (.int c)] [(.int c), (.int (Int32.ofNat (2 * i + 1))), (.ref t)])) rfl (hb hby d_jdk_52_method_4_47)
  obtain ⟨cl109, Ar109, q109, S109, M109, H109, F109g⟩ := id J105
  have hin109 : ¬ ((Int32.ofNat (2 * i + 1)) < 0 ∨ cl109.slots.size ≤ ((Int32.ofNat (2 * i + 1))).toNatClampNeg) := inb_of S109 ⟨own_nneg (by omega), own_lt (by omega) (by omega)⟩
  obtain ⟨T109, h109, X109, e109, Wr109, st109⟩ := stB X106 hx hZ e106 Ar109 (j := (Int32.ofNat (2 * i + 1))) hin109 (g := (mkF m 52 #[.val (.ref t), .val (.int (Int32.ofNat (2 * i + 1))), .val (.int c)] [(.int ((c >>> ((8 : Int32) &&& 31)).toInt8.toInt32)), (.int (Int32.ofNat (2 * i + 1))), (.ref t)])) rfl rfl (hb hby d_jdk_52_method_4_52)
  have G109 : Arv Z h109 t kb .byte (Int32.ofNat (2 * N)) ((vs ++ [.int ((c >>> ((0 : Int32) &&& 31)).toInt8.toInt32)]) ++ [(.int (nar .byte ((c >>> ((8 : Int32) &&& 31)).toInt8.toInt32)))]) (.int (0 : Int32)) := Arv.push Ar109 q109 S109 M109 H109 F109g (fits_nar_byte _) Wr109 (by rw [own_cl (by omega)]; simp [hvs])
  have K109 := Keep.of_wr Wr109
  have N109 := Fr.snoc X109 N105 hg
  have J109 : Arv Z h109 t kb .byte (Int32.ofNat (2 * N)) (vs ++ [.int ((c >>> ((0 : Int32) &&& 31)).toInt8.toInt32), .int ((c >>> ((8 : Int32) &&& 31)).toInt8.toInt32)]) (.int (0 : Int32)) := by rw [show vs ++ [Value.int ((c >>> ((0 : Int32) &&& 31)).toInt8.toInt32), Value.int ((c >>> ((8 : Int32) &&& 31)).toInt8.toInt32)] = (vs ++ [Value.int ((c >>> ((0 : Int32) &&& 31)).toInt8.toInt32)]) ++ [Value.int (nar .byte ((c >>> ((8 : Int32) &&& 31)).toInt8.toInt32))] from by rw [own_narb]; simp]; exact G109
  have W110 : ∀ zQ, SS p e below T109 m 53 #[.val (.ref t), .val (.int (Int32.ofNat (2 * i + 1))), .val (.int c)] [] zQ → Steps p.tables e below (s₁.setTop (entryFrame m #[(.ref t), (.int (Int32.ofNat i)), (.int c)] 3)) zQ := by
    intro tt kt
    refine W0 tt ?_
    refine st101 _ ?_
    show SS p e below T101 m 3 #[.val (.ref t), .val (.int (Int32.ofNat i)), .val (.int c)] [(.int (1 : Int32))] _
    refine XS.ifYes X101.here hx rfl (pc0 := 3) (pc' := 28) rfl (hb hby d_jdk_52_method_4_3) rfl ((if0 _ _).trans (feq (by decide)).2) (by decide) (by decide) ?_
    show SS p e below T101 m 28 #[.val (.ref t), .val (.int (Int32.ofNat i)), .val (.int c)] [] _
    refine XS.iloadN X101.here hx rfl (hb hby d_jdk_52_method_4_28) rfl ?_
    show SS p e below T101 m 29 #[.val (.ref t), .val (.int (Int32.ofNat i)), .val (.int c)] [(.int (Int32.ofNat i))] _
    refine XS.iconst X101.here hx rfl (hb hby d_jdk_52_method_4_29) ?_
    show SS p e below T101 m 30 #[.val (.ref t), .val (.int (Int32.ofNat i)), .val (.int c)] [(.int (1 : Int32)), (.int (Int32.ofNat i))] _
    refine XS.ishl X101.here hx rfl (hb hby d_jdk_52_method_4_30) rfl ?_
    show SS p e below T101 m 31 #[.val (.ref t), .val (.int (Int32.ofNat i)), .val (.int c)] [(.int ((Int32.ofNat i) <<< ((1 : Int32) &&& 31)))] _
    rw [show ((Int32.ofNat i) <<< ((1 : Int32) &&& 31)) = (Int32.ofNat (2 * i)) from own_shl1 (by omega)]
    show SS p e below T101 m 31 #[.val (.ref t), .val (.int (Int32.ofNat i)), .val (.int c)] [(.int (Int32.ofNat (2 * i)))] _
    refine XS.istoreN X101.here hx rfl (hb hby d_jdk_52_method_4_31) rfl (l' := #[.val (.ref t), .val (.int (Int32.ofNat (2 * i))), .val (.int c)]) rfl ?_
    show SS p e below T101 m 32 #[.val (.ref t), .val (.int (Int32.ofNat (2 * i))), .val (.int c)] [] _
    refine XS.aloadN X101.here hx rfl (hb hby d_jdk_52_method_4_32) rfl rfl ?_
    show SS p e below T101 m 33 #[.val (.ref t), .val (.int (Int32.ofNat (2 * i))), .val (.int c)] [(.ref t)] _
    refine XS.iloadN X101.here hx rfl (hb hby d_jdk_52_method_4_33) rfl ?_
    show SS p e below T101 m 34 #[.val (.ref t), .val (.int (Int32.ofNat (2 * i))), .val (.int c)] [(.int (Int32.ofNat (2 * i))), (.ref t)] _
    refine XS.iinc X101.here hx rfl (hb hby d_jdk_52_method_4_34) rfl (l' := #[.val (.ref t), .val (.int ((Int32.ofNat (2 * i)) + (1 : Int32))), .val (.int c)]) rfl ?_
    show SS p e below T101 m 37 #[.val (.ref t), .val (.int ((Int32.ofNat (2 * i)) + (1 : Int32))), .val (.int c)] [(.int (Int32.ofNat (2 * i))), (.ref t)] _
    rw [show ((Int32.ofNat (2 * i)) + (1 : Int32)) = (Int32.ofNat (2 * i + 1)) from own_succ _]
    show SS p e below T101 m 37 #[.val (.ref t), .val (.int (Int32.ofNat (2 * i + 1))), .val (.int c)] [(.int (Int32.ofNat (2 * i))), (.ref t)] _
    refine XS.iloadN X101.here hx rfl (hb hby d_jdk_52_method_4_37) rfl ?_
    show SS p e below T101 m 38 #[.val (.ref t), .val (.int (Int32.ofNat (2 * i + 1))), .val (.int c)] [(.int c), (.int (Int32.ofNat (2 * i))), (.ref t)] _
    refine st103 _ ?_
    show SS p e below T103 m 41 #[.val (.ref t), .val (.int (Int32.ofNat (2 * i + 1))), .val (.int c)] [(.int (0 : Int32)), (.int c), (.int (Int32.ofNat (2 * i))), (.ref t)] _
    refine XS.ishr X103.here hx rfl (hb hby d_jdk_52_method_4_41) rfl ?_
    show SS p e below T103 m 42 #[.val (.ref t), .val (.int (Int32.ofNat (2 * i + 1))), .val (.int c)] [(.int (c >>> ((0 : Int32) &&& 31))), (.int (Int32.ofNat (2 * i))), (.ref t)] _
    refine XS.i2b X103.here hx rfl (hb hby d_jdk_52_method_4_42) rfl ?_
    show SS p e below T103 m 43 #[.val (.ref t), .val (.int (Int32.ofNat (2 * i + 1))), .val (.int c)] [(.int ((c >>> ((0 : Int32) &&& 31)).toInt8.toInt32)), (.int (Int32.ofNat (2 * i))), (.ref t)] _
    refine st105 _ ?_
    show SS p e below T105 m 44 #[.val (.ref t), .val (.int (Int32.ofNat (2 * i + 1))), .val (.int c)] [] _
    refine XS.aloadN X105.here hx rfl (hb hby d_jdk_52_method_4_44) rfl rfl ?_
    show SS p e below T105 m 45 #[.val (.ref t), .val (.int (Int32.ofNat (2 * i + 1))), .val (.int c)] [(.ref t)] _
    refine XS.iloadN X105.here hx rfl (hb hby d_jdk_52_method_4_45) rfl ?_
    show SS p e below T105 m 46 #[.val (.ref t), .val (.int (Int32.ofNat (2 * i + 1))), .val (.int c)] [(.int (Int32.ofNat (2 * i + 1))), (.ref t)] _
    refine XS.iloadN X105.here hx rfl (hb hby d_jdk_52_method_4_46) rfl ?_
    show SS p e below T105 m 47 #[.val (.ref t), .val (.int (Int32.ofNat (2 * i + 1))), .val (.int c)] [(.int c), (.int (Int32.ofNat (2 * i + 1))), (.ref t)] _
    refine st106 _ ?_
    show SS p e below T106 m 50 #[.val (.ref t), .val (.int (Int32.ofNat (2 * i + 1))), .val (.int c)] [(.int (8 : Int32)), (.int c), (.int (Int32.ofNat (2 * i + 1))), (.ref t)] _
    refine XS.ishr X106.here hx rfl (hb hby d_jdk_52_method_4_50) rfl ?_
    show SS p e below T106 m 51 #[.val (.ref t), .val (.int (Int32.ofNat (2 * i + 1))), .val (.int c)] [(.int (c >>> ((8 : Int32) &&& 31))), (.int (Int32.ofNat (2 * i + 1))), (.ref t)] _
    refine XS.i2b X106.here hx rfl (hb hby d_jdk_52_method_4_51) rfl ?_
    show SS p e below T106 m 52 #[.val (.ref t), .val (.int (Int32.ofNat (2 * i + 1))), .val (.int c)] [(.int ((c >>> ((8 : Int32) &&& 31)).toInt8.toInt32)), (.int (Int32.ofNat (2 * i + 1))), (.ref t)] _
    refine st109 _ ?_
    show SS p e below T109 m 53 #[.val (.ref t), .val (.int (Int32.ofNat (2 * i + 1))), .val (.int c)] [] _
    exact kt
  obtain ⟨fs, hr, hrun, hended, hW, hsame⟩ := X109.leave (v := none) (fun _ => rfl)
  refine ⟨_, _, W110 _ (X109.returnOut hx Bd.returns (hb hby d_jdk_52_method_4_53) hr), hrun, hended, _, _, rfl, ?_, ⟨_, rfl⟩, hW, hsame.mono (by decide) (by decide)⟩
  show Q_putChar Z t c i N kb vs h0 n0 _ T109.heap _
  rw [e109]
  exact ⟨rfl, N109, (Keep.trans (Keep.trans (Keep.refl h0 [t]) K105 (allS (Or.inl (List.mem_of_getElem? (i := 0) rfl)) all0)) K109 (allS (Or.inl (List.mem_of_getElem? (i := 0) rfl)) all0)), J109⟩
set_option maxRecDepth 65536 in
set_option maxHeartbeats 40000000 in
theorem lp_toB {p : Program} {l : Launch} {e : Env} {R : Room} {s : State} {m : MethodId} {args : Array Value} {below : List Frame} {meth : Method} {cO : Code} {cells slots : Nat} {Z : State} {a0 : Array Value} (hx : p.tables.exec = Jvm.exec) (hZ : Z.Warmed39 s.vm) (hw : ∀ d ∈ tables_1, d.before a0 Z = true) (hby : cO.code = jdk_52_method_14_code) (hml : cO.maxLocals = 5) (hown : s.vm.findClass "java/lang/StringUTF16" = some m.cls) (hRf : 1 ≤ R.frames) (hRl : 14 ≤ R.locals) (hRc : cells ≤ R.cells) (hRs : slots ≤ R.slots) (src : Addr) (t : Addr) (kc : ClassId) (kb : ClassId) (cs : List Int32) (n0 : Nat) (S_ad : Sta Z Z.heap "java/lang/StringUTF16" "$assertionsDisabled" "Z" (.int (1 : Int32))) (S_hi : Sta Z Z.heap "java/lang/StringUTF16" "HI_BYTE_SHIFT" "I" (.int (0 : Int32))) (S_lo : Sta Z Z.heap "java/lang/StringUTF16" "LO_BYTE_SHIFT" "I" (.int (8 : Int32))) (hne : src ≠ t) (hg : n0 ≤ t) (ok : OkS cs) :
    ∀ suf : List Int32, ∀ (pre : List Int32) (T0 : State) (L0 : List Loc) (h0 : Heap) (X0 : Stand p l e R s m args below meth cO T0 L0 cells slots) (e0 : T0.heap = h0) (N0 : Fr n0 L0) (Z0 : n0 ≤ h0.size) (O0 : Old Z n0 h0) (Vs : Arv Z h0 src kc .char (Int32.ofNat cs.length) (cs.map Value.int) (.int (0 : Int32))) (Vd : Arv Z h0 t kb .byte (Int32.ofNat (2 * cs.length)) (u16 pre) (.int (0 : Int32))) (hk : cs = pre ++ suf), ∃ (T' : State) (L' : List Loc) (h' : Heap), Stand p l e R s m args below meth cO T' L' cells slots ∧ T'.heap = h' ∧ Fr n0 L' ∧ Keep h0 h' [t] ∧ Arv Z h' t kb .byte (Int32.ofNat (2 * cs.length)) (u16 cs) (.int (0 : Int32)) ∧ ∀ zQ, SS p e below T' m 32 #[.val (.ref src), .val (.int (Int32.ofNat cs.length)), .val (.int (Int32.ofNat cs.length)), .val (.ref t), .val (.int (Int32.ofNat cs.length))] [] zQ → SS p e below T0 m 8 #[.val (.ref src), .val (.int (Int32.ofNat pre.length)), .val (.int (Int32.ofNat cs.length)), .val (.ref t), .val (.int (Int32.ofNat pre.length))] [] zQ := by
  intro suf
  induction suf with
  | nil =>
    intro pre T0 L0 h0 X0 e0 N0 Z0 O0 Vs Vd hk
    have W0 : ∀ zQ, SS p e below T0 m 8 #[.val (.ref src), .val (.int (Int32.ofNat pre.length)), .val (.int (Int32.ofNat cs.length)), .val (.ref t), .val (.int (Int32.ofNat pre.length))] [] zQ → Steps p.tables e below (T0.setTop (mkF m 8 #[.val (.ref src), .val (.int (Int32.ofNat pre.length)), .val (.int (Int32.ofNat cs.length)), .val (.ref t), .val (.int (Int32.ofNat pre.length))] [])) zQ := fun tt kt => kt
    have hn : cs.length < 1048576 := ok.2
    have hp : pre = cs := by simpa using hk.symm
    have Vd' : Arv Z h0 t kb .byte (Int32.ofNat (2 * cs.length)) (u16 cs) (.int (0 : Int32)) := by rw [← hp] at Vd ⊢; exact Vd
    have W101 : ∀ zQ, SS p e below T0 m 32 #[.val (.ref src), .val (.int (Int32.ofNat cs.length)), .val (.int (Int32.ofNat cs.length)), .val (.ref t), .val (.int (Int32.ofNat cs.length))] [] zQ → Steps p.tables e below (T0.setTop (mkF m 8 #[.val (.ref src), .val (.int (Int32.ofNat pre.length)), .val (.int (Int32.ofNat cs.length)), .val (.ref t), .val (.int (Int32.ofNat pre.length))] [])) zQ := by
      intro tt kt
      refine W0 tt ?_
      rw [show (Int32.ofNat pre.length) = (Int32.ofNat cs.length) from (by rw [hp])]
      show SS p e below T0 m 8 #[.val (.ref src), .val (.int (Int32.ofNat cs.length)), .val (.int (Int32.ofNat cs.length)), .val (.ref t), .val (.int (Int32.ofNat cs.length))] [] _
      refine XS.iload X0.here hx rfl (hb hby d_jdk_52_method_14_8) rfl ?_
      show SS p e below T0 m 10 #[.val (.ref src), .val (.int (Int32.ofNat cs.length)), .val (.int (Int32.ofNat cs.length)), .val (.ref t), .val (.int (Int32.ofNat cs.length))] [(.int (Int32.ofNat cs.length))] _
      refine XS.iloadN X0.here hx rfl (hb hby d_jdk_52_method_14_10) rfl ?_
      show SS p e below T0 m 11 #[.val (.ref src), .val (.int (Int32.ofNat cs.length)), .val (.int (Int32.ofNat cs.length)), .val (.ref t), .val (.int (Int32.ofNat cs.length))] [(.int (Int32.ofNat cs.length)), (.int (Int32.ofNat cs.length))] _
      refine XS.icmpYes X0.here hx rfl (pc0 := 11) (pc' := 32) rfl (hb hby d_jdk_52_method_14_11) rfl (flt Int32.lt_irrefl).2.1 (by decide) (by decide) ?_
      show SS p e below T0 m 32 #[.val (.ref src), .val (.int (Int32.ofNat cs.length)), .val (.int (Int32.ofNat cs.length)), .val (.ref t), .val (.int (Int32.ofNat cs.length))] [] _
      exact kt
    exact ⟨T0, _, h0, X0, e0, N0, (Keep.refl h0 [t]), Vd', fun tt kt => W101 _ kt⟩
  | cons cc r ih =>
    intro pre T0 L0 h0 X0 e0 N0 Z0 O0 Vs Vd hk
    have W0 : ∀ zQ, SS p e below T0 m 8 #[.val (.ref src), .val (.int (Int32.ofNat pre.length)), .val (.int (Int32.ofNat cs.length)), .val (.ref t), .val (.int (Int32.ofNat pre.length))] [] zQ → Steps p.tables e below (T0.setTop (mkF m 8 #[.val (.ref src), .val (.int (Int32.ofNat pre.length)), .val (.int (Int32.ofNat cs.length)), .val (.ref t), .val (.int (Int32.ofNat pre.length))] [])) zQ := fun tt kt => kt
    have hn : cs.length < 1048576 := ok.2
    have hlt : pre.length < cs.length := by rw [hk]; simp
    have hcc : cs.getD pre.length 0 = cc := by rw [hk]; exact app_at pre r cc 0
    obtain ⟨cl102, Ar102, q102, S102, M102, H102, F102g⟩ := id Vs
    have hin102 : ¬ ((Int32.ofNat pre.length) < 0 ∨ cl102.slots.size ≤ ((Int32.ofNat pre.length)).toNatClampNeg) := inb_of S102 ⟨own_nneg (by omega), own_lt hlt (by omega)⟩
    have hat102 : cl102.slots[((Int32.ofNat pre.length)).toNatClampNeg]? = some (.int cc) := Has.at H102 hin102 (by rw [own_cl (by omega), ch_at _ _ _ hlt, hcc])
    obtain ⟨_, _, ⟨T103, L103, k103, n103⟩, -, X103, ⟨Lc103, hQ103, l103, y103, z103⟩, st103⟩ := Jvm.LawKit.callS X0 hx (y := (⟨"java/lang/StringUTF16", "putChar", "([BII)V"⟩ : MethodName)) hown (mvT hZ (w81 hw)) (mvT hZ (w82 hw)) (mvT hZ (w22 hw)) (mvT hZ (w83 hw)) (by decide) (backOf (W := 0) (rm_putChar l Z a0 hw [] t cc pre.length cs.length kb (u16 pre) h0 n0 Z0 O0 S_ad S_hi S_lo Vd (u16_len pre) hlt (by omega) hg) hZ (w83 hw) (w22 hw) (Nat.le_trans (by decide) hRf) (Nat.le_trans (by decide) hRl)) (g := (mkF m 20 #[.val (.ref src), .val (.int (Int32.ofNat pre.length)), .val (.int (Int32.ofNat cs.length)), .val (.ref t), .val (.int (Int32.ofNat pre.length))] [(.int cc), (.int (Int32.ofNat pre.length)), (.ref t)])) rfl (by rw [hml]; rfl) (argsL := [(.ref t), (.int (Int32.ofNat pre.length)), (.int cc)]) (rest := []) (lenOf pd__28__5b_BII_29_V rfl) rfl (by show 2 * 0 + _ ≤ _; exact Nat.le_of_eq rfl) (hb hby d_jdk_52_method_14_20) (fun _ _ => ⟨rfl, e0, hRc, hRs⟩)
    dsimp only [Pt.U, Pt.locs, Pt.cells, Pt.slots] at X103 l103 y103 z103 st103 hQ103
    subst l103 y103 z103
    obtain ⟨rfl, Nq103, K103, P103_0⟩ := hQ103
    have N103 := Fr.app N0 Nq103
    have W104 : ∀ zQ, SS p e below T103 m 8 #[.val (.ref src), .val (.int (Int32.ofNat (pre ++ [cc]).length)), .val (.int (Int32.ofNat cs.length)), .val (.ref t), .val (.int (Int32.ofNat (pre ++ [cc]).length))] [] zQ → Steps p.tables e below (T0.setTop (mkF m 8 #[.val (.ref src), .val (.int (Int32.ofNat pre.length)), .val (.int (Int32.ofNat cs.length)), .val (.ref t), .val (.int (Int32.ofNat pre.length))] [])) zQ := by
      intro tt kt
      refine W0 tt ?_
      refine XS.iload X0.here hx rfl (hb hby d_jdk_52_method_14_8) rfl ?_
      show SS p e below T0 m 10 #[.val (.ref src), .val (.int (Int32.ofNat pre.length)), .val (.int (Int32.ofNat cs.length)), .val (.ref t), .val (.int (Int32.ofNat pre.length))] [(.int (Int32.ofNat pre.length))] _
      refine XS.iloadN X0.here hx rfl (hb hby d_jdk_52_method_14_10) rfl ?_
      show SS p e below T0 m 11 #[.val (.ref src), .val (.int (Int32.ofNat pre.length)), .val (.int (Int32.ofNat cs.length)), .val (.ref t), .val (.int (Int32.ofNat pre.length))] [(.int (Int32.ofNat cs.length)), (.int (Int32.ofNat pre.length))] _
      refine XS.icmpNo X0.here hx rfl (hb hby d_jdk_52_method_14_11) rfl (tlt (own_lt hlt (by omega))).2.1 ?_
      show SS p e below T0 m 14 #[.val (.ref src), .val (.int (Int32.ofNat pre.length)), .val (.int (Int32.ofNat cs.length)), .val (.ref t), .val (.int (Int32.ofNat pre.length))] [] _
      refine XS.aloadN X0.here hx rfl (hb hby d_jdk_52_method_14_14) rfl rfl ?_
      show SS p e below T0 m 15 #[.val (.ref src), .val (.int (Int32.ofNat pre.length)), .val (.int (Int32.ofNat cs.length)), .val (.ref t), .val (.int (Int32.ofNat pre.length))] [(.ref t)] _
      refine XS.iload X0.here hx rfl (hb hby d_jdk_52_method_14_15) rfl ?_
      show SS p e below T0 m 17 #[.val (.ref src), .val (.int (Int32.ofNat pre.length)), .val (.int (Int32.ofNat cs.length)), .val (.ref t), .val (.int (Int32.ofNat pre.length))] [(.int (Int32.ofNat pre.length)), (.ref t)] _
      refine XS.aloadN X0.here hx rfl (hb hby d_jdk_52_method_14_17) rfl rfl ?_
      show SS p e below T0 m 18 #[.val (.ref src), .val (.int (Int32.ofNat pre.length)), .val (.int (Int32.ofNat cs.length)), .val (.ref t), .val (.int (Int32.ofNat pre.length))] [(.ref src), (.int (Int32.ofNat pre.length)), (.ref t)] _
      refine XS.iloadN X0.here hx rfl (hb hby d_jdk_52_method_14_18) rfl ?_
      show SS p e below T0 m 19 #[.val (.ref src), .val (.int (Int32.ofNat pre.length)), .val (.int (Int32.ofNat cs.length)), .val (.ref t), .val (.int (Int32.ofNat pre.length))] [(.int (Int32.ofNat pre.length)), (.ref src), (.int (Int32.ofNat pre.length)), (.ref t)] _
      refine X0.caload hx (j := (Int32.ofNat pre.length)) (v := (.int cc)) (by first | exact Ar102.1 | (rw [e0]; exact Ar102.1)) (State.isArrayOf_alike hZ.alike Ar102.2.1) Ar102.2.2 hin102 hat102 (g := (mkF m 19 #[.val (.ref src), .val (.int (Int32.ofNat pre.length)), .val (.int (Int32.ofNat cs.length)), .val (.ref t), .val (.int (Int32.ofNat pre.length))] [(.int (Int32.ofNat pre.length)), (.ref src), (.int (Int32.ofNat pre.length)), (.ref t)])) rfl rfl (hb hby d_jdk_52_method_14_19) _ ?_
      show SS p e below T0 m 20 #[.val (.ref src), .val (.int (Int32.ofNat pre.length)), .val (.int (Int32.ofNat cs.length)), .val (.ref t), .val (.int (Int32.ofNat pre.length))] [(.int cc), (.int (Int32.ofNat pre.length)), (.ref t)] _
      refine st103 _ ?_
      show SS p e below T103 m 23 #[.val (.ref src), .val (.int (Int32.ofNat pre.length)), .val (.int (Int32.ofNat cs.length)), .val (.ref t), .val (.int (Int32.ofNat pre.length))] [] _
      refine XS.iinc X103.here hx rfl (hb hby d_jdk_52_method_14_23) rfl (l' := #[.val (.ref src), .val (.int ((Int32.ofNat pre.length) + (1 : Int32))), .val (.int (Int32.ofNat cs.length)), .val (.ref t), .val (.int (Int32.ofNat pre.length))]) rfl ?_
      show SS p e below T103 m 26 #[.val (.ref src), .val (.int ((Int32.ofNat pre.length) + (1 : Int32))), .val (.int (Int32.ofNat cs.length)), .val (.ref t), .val (.int (Int32.ofNat pre.length))] [] _
      refine XS.iinc X103.here hx rfl (hb hby d_jdk_52_method_14_26) rfl (l' := #[.val (.ref src), .val (.int ((Int32.ofNat pre.length) + (1 : Int32))), .val (.int (Int32.ofNat cs.length)), .val (.ref t), .val (.int ((Int32.ofNat pre.length) + (1 : Int32)))]) rfl ?_
      show SS p e below T103 m 29 #[.val (.ref src), .val (.int ((Int32.ofNat pre.length) + (1 : Int32))), .val (.int (Int32.ofNat cs.length)), .val (.ref t), .val (.int ((Int32.ofNat pre.length) + (1 : Int32)))] [] _
      rw [show ((Int32.ofNat pre.length) + (1 : Int32)) = (Int32.ofNat (pre ++ [cc]).length) from (by rw [own_succ]; simp)]
      show SS p e below T103 m 29 #[.val (.ref src), .val (.int (Int32.ofNat (pre ++ [cc]).length)), .val (.int (Int32.ofNat cs.length)), .val (.ref t), .val (.int (Int32.ofNat (pre ++ [cc]).length))] [] _
      refine XS.goto X103.here hx rfl (pc0 := 29) (pc' := 8) rfl (hb hby d_jdk_52_method_14_29) (by decide) (by decide) ?_
      show SS p e below T103 m 8 #[.val (.ref src), .val (.int (Int32.ofNat (pre ++ [cc]).length)), .val (.int (Int32.ofNat cs.length)), .val (.ref t), .val (.int (Int32.ofNat (pre ++ [cc]).length))] [] _
      exact kt
    have O106 : Old Z n0 T103.heap := (O0.keep K103 (allS hg all0))
    have F107 : Arv Z T103.heap src kc .char (Int32.ofNat cs.length) (cs.map Value.int) (.int (0 : Int32)) := (Vs.keep K103 (ninS hne nin0))
    obtain ⟨T105, L105, h105, X105, e105, N105, K105, P105_0, st105⟩ := ih (pre ++ [cc]) T103 _ T103.heap X103 rfl N103 (Nat.le_trans Z0 K103.1) O106 F107 (by rw [u16_app]; exact P103_0) (by rw [hk]; simp)
    exact ⟨T105, L105, h105, X105, e105, N105, (Keep.trans (Keep.trans (Keep.refl h0 [t]) K103 (allS (Or.inl (List.mem_of_getElem? (i := 0) rfl)) all0)) K105 (allS (Or.inl (List.mem_of_getElem? (i := 0) rfl)) all0)), P105_0, fun tt kt => W104 _ (st105 _ kt)⟩
def Q_toBytes (Z : State) (src : Addr) (kc : ClassId) (cs : List Int32) (h0 : Heap) (n0 : Nat) (vQ_ : Option Value) (hQ_ : Heap) (LQ_ : List Loc) : Prop := ∃ t : Addr, ∃ kb : ClassId, vQ_ = some (.ref t) ∧ Fr n0 LQ_ ∧ Keep h0 hQ_ [] ∧ h0.size ≤ t ∧ Arv Z hQ_ t kb .byte (Int32.ofNat (2 * cs.length)) (u16 cs) (.int (0 : Int32))
set_option maxRecDepth 65536 in
set_option maxHeartbeats 40000000 in
theorem rm_toBytes (l : Launch) (Z : State) (a0 : Array Value) (hw : ∀ d ∈ tables_1, d.before a0 Z = true) (ws : List Jvm.Cond) (src : Addr) (kc : ClassId) (cs : List Int32) (h0 : Heap) (n0 : Nat) (Z0 : n0 ≤ h0.size) (O0 : Old Z n0 h0) (S_ad : Sta Z Z.heap "java/lang/StringUTF16" "$assertionsDisabled" "Z" (.int (1 : Int32))) (S_hi : Sta Z Z.heap "java/lang/StringUTF16" "HI_BYTE_SHIFT" "I" (.int (0 : Int32))) (S_lo : Sta Z Z.heap "java/lang/StringUTF16" "LO_BYTE_SHIFT" "I" (.int (8 : Int32))) (Vs : Arv Z h0 src kc .char (Int32.ofNat cs.length) (cs.map Value.int) (.int (0 : Int32))) (ok : OkS cs) (hcap : cs.length ≤ 4) :
    MetFree l (⟨"java/lang/StringUTF16", "toBytes", "([CII)[B"⟩ : MethodName) (head1 (Jvm.Cond.code (⟨"java/lang/StringUTF16", "toBytes", "([CII)[B"⟩ : MethodName) jdk_52_method_14_code 5 (some (.array .byte)) :: ws) ({ frames := 2, cells := 1, slots := 8, locals := 24 } : Room)) (fun aQ_ UQ => aQ_ = #[(.ref src), (.int (0 : Int32)), (.int (Int32.ofNat cs.length))] ∧ Z.Warmed39 UQ.vm ∧ UQ.heap = h0) (fun _ _ _ _ _ => True) (fun _ UQ oQ UQ' => ∃ vQ_ LQ_, oQ = .returned vQ_ ∧ Q_toBytes Z src kc cs h0 n0 vQ_ UQ'.heap LQ_ ∧ FrameEnd UQ oQ UQ' LQ_ ({ frames := 2, cells := 1, slots := 8, locals := 24 } : Room).cells ({ frames := 2, cells := 1, slots := 8, locals := 24 } : Room).slots) := by
  refine MetFree.of_bodySF (plainFor_of_name pn_java_lang_StringUTF16) hisR ?_
  intro p e s m args below meth cO s₁ Bd hml0 hP hK
  obtain ⟨rfl, hZ, hh⟩ := hP
  have hx := Bd.exec
  have hby := Bd.bytes
  have hml : cO.maxLocals = 5 := hml0
  have hown : s.vm.findClass "java/lang/StringUTF16" = some m.cls := findClass_of_methodNamed Bd.named
  have hnm := (name_of_methodNamed Bd.named Bd.method).1
  have X0 : Stand p l e ({ frames := 2, cells := 1, slots := 8, locals := 24 } : Room) s m #[(.ref src), (.int (0 : Int32)), (.int (Int32.ofNat cs.length))] below meth cO s₁ [] 0 0 := Stand.of_body Bd
  have e0 : s₁.heap = h0 := by rw [← hh, Bd.state]; rfl
  have N0 := Fr.nil n0
  have W0 : ∀ zQ, SS p e below s₁ m 0 #[.val (.ref src), .val (.int (0 : Int32)), .val (.int (Int32.ofNat cs.length)), .unset, .unset] [] zQ → Steps p.tables e below (s₁.setTop (entryFrame m #[(.ref src), (.int (0 : Int32)), (.int (Int32.ofNat cs.length))] 5)) zQ := fun tt kt => castTop (ef_toBytes m src (0 : Int32) (Int32.ofNat cs.length)) kt
  obtain ⟨_, _, ⟨T101, L101, k101, n101⟩, -, X101, ⟨Lc101, hQ101, l101, y101, z101⟩, st101⟩ := Jvm.LawKit.callS X0 hx (y := (⟨"java/lang/StringUTF16", "newBytesFor", "(I)[B"⟩ : MethodName)) hown (mvT hZ (w74 hw)) (mvT hZ (w75 hw)) (mvT hZ (w22 hw)) (mvT hZ (w76 hw)) (by decide) (backOf (W := 0) (rm_nbf l Z a0 hw [] cs.length h0 n0 Z0 (by omega)) hZ (w76 hw) (w22 hw) (by decide) (by decide)) (g := (mkF m 1 #[.val (.ref src), .val (.int (0 : Int32)), .val (.int (Int32.ofNat cs.length)), .unset, .unset] [(.int (Int32.ofNat cs.length))])) rfl (by rw [hml]; rfl) (argsL := [(.int (Int32.ofNat cs.length))]) (rest := []) (lenOf pd__28_I_29__5b_B rfl) rfl (by show 2 * 0 + _ ≤ _; exact Nat.le_of_eq rfl) (hb hby d_jdk_52_method_14_1) (fun _ _ => ⟨rfl, e0, (Nat.le_of_ble_eq_true rfl), (Nat.le_of_ble_eq_true rfl)⟩)
  dsimp only [Pt.U, Pt.locs, Pt.cells, Pt.slots] at X101 l101 y101 z101 st101 hQ101
  subst l101 y101 z101
  obtain ⟨t_102, kb_103, rfl, Nq101, K101, P101_0, P101_1⟩ := hQ101
  have N101 := Fr.app N0 Nq101
  have O105 : Old Z n0 T101.heap := (O0.keep K101 all0)
  have F106 : Arv Z T101.heap src kc .char (Int32.ofNat cs.length) (cs.map Value.int) (.int (0 : Int32)) := (Vs.keep K101 nin0)
  obtain ⟨T104, L104, h104, X104, e104, Nl104, K104, P104_0, st104⟩ := lp_toB hx hZ hw hby hml hown (by decide) (by decide) (by decide) (by decide) src t_102 kc kb_103 cs n0 S_ad S_hi S_lo (Nat.ne_of_lt (Nat.lt_of_lt_of_le Vs.lt P101_0)) (Nat.le_trans Z0 P101_0) ok cs [] T101 _ T101.heap X101 rfl N101 (Nat.le_trans Z0 K101.1) O105 F106 P101_1 rfl
  have W107 : ∀ zQ, SS p e below T104 m 33 #[.val (.ref src), .val (.int (Int32.ofNat cs.length)), .val (.int (Int32.ofNat cs.length)), .val (.ref t_102), .val (.int (Int32.ofNat cs.length))] [(.ref t_102)] zQ → Steps p.tables e below (s₁.setTop (entryFrame m #[(.ref src), (.int (0 : Int32)), (.int (Int32.ofNat cs.length))] 5)) zQ := by
    intro tt kt
    refine W0 tt ?_
    refine XS.iloadN X0.here hx rfl (hb hby d_jdk_52_method_14_0) rfl ?_
    show SS p e below s₁ m 1 #[.val (.ref src), .val (.int (0 : Int32)), .val (.int (Int32.ofNat cs.length)), .unset, .unset] [(.int (Int32.ofNat cs.length))] _
    refine st101 _ ?_
    show SS p e below T101 m 4 #[.val (.ref src), .val (.int (0 : Int32)), .val (.int (Int32.ofNat cs.length)), .unset, .unset] [(.ref t_102)] _
    refine XS.astoreN X101.here hx rfl (hb hby d_jdk_52_method_14_4) rfl rfl (l' := #[.val (.ref src), .val (.int (0 : Int32)), .val (.int (Int32.ofNat cs.length)), .val (.ref t_102), .unset]) rfl ?_
    show SS p e below T101 m 5 #[.val (.ref src), .val (.int (0 : Int32)), .val (.int (Int32.ofNat cs.length)), .val (.ref t_102), .unset] [] _
    refine XS.iconst X101.here hx rfl (hb hby d_jdk_52_method_14_5) ?_
    show SS p e below T101 m 6 #[.val (.ref src), .val (.int (0 : Int32)), .val (.int (Int32.ofNat cs.length)), .val (.ref t_102), .unset] [(.int (0 : Int32))] _
    refine XS.istore X101.here hx rfl (hb hby d_jdk_52_method_14_6) rfl (l' := #[.val (.ref src), .val (.int (0 : Int32)), .val (.int (Int32.ofNat cs.length)), .val (.ref t_102), .val (.int (0 : Int32))]) rfl ?_
    show SS p e below T101 m 8 #[.val (.ref src), .val (.int (0 : Int32)), .val (.int (Int32.ofNat cs.length)), .val (.ref t_102), .val (.int (0 : Int32))] [] _
    refine st104 _ ?_
    show SS p e below T104 m 32 #[.val (.ref src), .val (.int (Int32.ofNat cs.length)), .val (.int (Int32.ofNat cs.length)), .val (.ref t_102), .val (.int (Int32.ofNat cs.length))] [] _
    refine XS.aloadN X104.here hx rfl (hb hby d_jdk_52_method_14_32) rfl rfl ?_
    show SS p e below T104 m 33 #[.val (.ref src), .val (.int (Int32.ofNat cs.length)), .val (.int (Int32.ofNat cs.length)), .val (.ref t_102), .val (.int (Int32.ofNat cs.length))] [(.ref t_102)] _
    exact kt
  obtain ⟨fs, hr, hrun, hended, hW, hsame⟩ := X104.leave (v := some (.ref t_102)) (fun h => by rw [Bd.returns] at h; cases h)
  refine ⟨_, _, W107 _ (own_retR X104 hx Bd.returns rfl rfl (hb hby d_jdk_52_method_14_33) hr), hrun, hended, _, _, rfl, ?_, ⟨_, rfl⟩, hW, hsame.mono (by decide) (by decide)⟩
  show Q_toBytes Z src kc cs h0 n0 _ T104.heap _
  rw [e104]
  exact ⟨t_102, kb_103, rfl, Nl104, (Keep.trans (Keep.trans (Keep.refl h0 []) K101 all0) K104 (allS (Or.inr P101_0) all0)), P101_0, P104_0⟩
def Q_compress16 (Z : State) (src : Addr) (kc : ClassId) (cs : List Int32) (h0 : Heap) (n0 : Nat) (vQ_ : Option Value) (hQ_ : Heap) (LQ_ : List Loc) : Prop := ∃ t : Addr, ∃ kb : ClassId, vQ_ = some (.ref t) ∧ Fr n0 LQ_ ∧ Keep h0 hQ_ [] ∧ h0.size ≤ t ∧ Arv Z hQ_ t kb .byte (Int32.ofNat (blen cs)) (enc cs) (.int (0 : Int32))
set_option maxRecDepth 65536 in
set_option maxHeartbeats 40000000 in
theorem rm_compress16 (l : Launch) (Z : State) (a0 : Array Value) (hw : ∀ d ∈ tables_1, d.before a0 Z = true) (ws : List Jvm.Cond) (src : Addr) (kc : ClassId) (cs : List Int32) (h0 : Heap) (n0 : Nat) (Z0 : n0 ≤ h0.size) (O0 : Old Z n0 h0) (S_ad : Sta Z Z.heap "java/lang/StringUTF16" "$assertionsDisabled" "Z" (.int (1 : Int32))) (S_hi : Sta Z Z.heap "java/lang/StringUTF16" "HI_BYTE_SHIFT" "I" (.int (0 : Int32))) (S_lo : Sta Z Z.heap "java/lang/StringUTF16" "LO_BYTE_SHIFT" "I" (.int (8 : Int32))) (Vs : Arv Z h0 src kc .char (Int32.ofNat cs.length) (cs.map Value.int) (.int (0 : Int32))) (ok : OkS cs) (hcap : cs.length ≤ 4) :
    MetFree l (⟨"java/lang/StringUTF16", "compress", "([CII)[B"⟩ : MethodName) (head1 (Jvm.Cond.code (⟨"java/lang/StringUTF16", "compress", "([CII)[B"⟩ : MethodName) jdk_52_method_16_code 6 (some (.array .byte)) :: ws) ({ frames := 3, cells := 2, slots := 12, locals := 40 } : Room)) (fun aQ_ UQ => aQ_ = #[(.ref src), (.int (0 : Int32)), (.int (Int32.ofNat cs.length))] ∧ Z.Warmed39 UQ.vm ∧ UQ.heap = h0) (fun _ _ _ _ _ => True) (fun _ UQ oQ UQ' => ∃ vQ_ LQ_, oQ = .returned vQ_ ∧ Q_compress16 Z src kc cs h0 n0 vQ_ UQ'.heap LQ_ ∧ FrameEnd UQ oQ UQ' LQ_ ({ frames := 3, cells := 2, slots := 12, locals := 40 } : Room).cells ({ frames := 3, cells := 2, slots := 12, locals := 40 } : Room).slots) := by
  refine MetFree.of_bodySF (plainFor_of_name pn_java_lang_StringUTF16) hisR ?_
  intro p e s m args below meth cO s₁ Bd hml0 hP hK
  obtain ⟨rfl, hZ, hh⟩ := hP
  have hx := Bd.exec
  have hby := Bd.bytes
  have hml : cO.maxLocals = 6 := hml0
  have hown : s.vm.findClass "java/lang/StringUTF16" = some m.cls := findClass_of_methodNamed Bd.named
  have hnm := (name_of_methodNamed Bd.named Bd.method).1
  have X0 : Stand p l e ({ frames := 3, cells := 2, slots := 12, locals := 40 } : Room) s m #[(.ref src), (.int (0 : Int32)), (.int (Int32.ofNat cs.length))] below meth cO s₁ [] 0 0 := Stand.of_body Bd
  have e0 : s₁.heap = h0 := by rw [← hh, Bd.state]; rfl
  have N0 := Fr.nil n0
  have W0 : ∀ zQ, SS p e below s₁ m 0 #[.val (.ref src), .val (.int (0 : Int32)), .val (.int (Int32.ofNat cs.length)), .unset, .unset, .unset] [] zQ → Steps p.tables e below (s₁.setTop (entryFrame m #[(.ref src), (.int (0 : Int32)), (.int (Int32.ofNat cs.length))] 6)) zQ := fun tt kt => castTop (ef_compress16 m src (0 : Int32) (Int32.ofNat cs.length)) kt
  have hn : cs.length < 1048576 := ok.2
  obtain ⟨T101, h101, k101, X101, e101, E101, A101, st101⟩ := newP X0 hx hZ (aty := .byte) (w24 hw) e0 (g := (mkF m 1 #[.val (.ref src), .val (.int (0 : Int32)), .val (.int (Int32.ofNat cs.length)), .unset, .unset, .unset] [(.int (Int32.ofNat cs.length))])) rfl (hb hby d_jdk_52_method_16_1) (n := (Int32.ofNat cs.length)) rfl (own_nneg (by omega)) (cap := 4) (by rw [own_cl (by omega)]; exact hcap) (by decide) (by decide) (by decide)
  obtain ⟨b101, g101⟩ : ∃ z, z = h0.size := ⟨_, rfl⟩
  rw [← g101] at A101 st101
  have K101 := (Keep.refl h0 []).ext E101
  have G101 : Arv Z h101 b101 k101 .byte (Int32.ofNat cs.length) [] (.int (0 : Int32)) := Arv.new A101 (own_nneg (by omega))
  have F102 : Arv Z h101 src kc .char (Int32.ofNat cs.length) (cs.map Value.int) (.int (0 : Int32)) := (Vs.keep K101 nin0)
  obtain ⟨_, _, ⟨T103, L103, k103, n103⟩, -, X103, ⟨Lc103, hQ103, l103, y103, z103⟩, st103⟩ := Jvm.LawKit.callS X101 hx (y := (⟨"java/lang/StringUTF16", "compress", "([CI[BII)I"⟩ : MethodName)) hown (mvT hZ (w25 hw)) (mvT hZ (w26 hw)) (mvT hZ (w22 hw)) (mvT hZ (w27 hw)) (by decide) (backOf (W := 0) (rm_compress21 l Z a0 hw [] src b101 kc k101 cs h101 n0 (Nat.le_trans Z0 K101.1) F102 G101 (Nat.ne_of_lt (Nat.lt_of_lt_of_le Vs.lt (Nat.le_of_eq g101.symm))) (Nat.le_trans Z0 (Nat.le_of_eq g101.symm)) ok) hZ (w27 hw) (w22 hw) (by decide) (by decide)) (g := (mkF m 9 #[.val (.ref src), .val (.int (0 : Int32)), .val (.int (Int32.ofNat cs.length)), .val (.ref b101), .unset, .unset] [(.int (Int32.ofNat cs.length)), (.int (0 : Int32)), (.ref b101), (.int (0 : Int32)), (.ref src)])) rfl (by rw [hml]; rfl) (argsL := [(.ref src), (.int (0 : Int32)), (.ref b101), (.int (0 : Int32)), (.int (Int32.ofNat cs.length))]) (rest := []) (lenOf pd__28__5b_CI_5b_BII_29_I rfl) rfl (by show 2 * 0 + _ ≤ _; exact Nat.le_of_eq rfl) (hb hby d_jdk_52_method_16_9) (fun _ _ => ⟨rfl, e101, (Nat.le_of_ble_eq_true rfl), (Nat.le_of_ble_eq_true rfl)⟩)
  dsimp only [Pt.U, Pt.locs, Pt.cells, Pt.slots] at X103 l103 y103 z103 st103 hQ103
  subst l103 y103 z103
  obtain ⟨rfl, Nq103, K103, P103_0⟩ := hQ103
  have N103 := Fr.app N0 Nq103
  have W104 : ∀ zQ, SS p e below T103 m 17 #[.val (.ref src), .val (.int (0 : Int32)), .val (.int (Int32.ofNat cs.length)), .val (.ref b101), .val (.int (Int32.ofNat (fl cs))), .unset] [(.int (Int32.ofNat cs.length)), (.int (Int32.ofNat (fl cs)))] zQ → Steps p.tables e below (s₁.setTop (entryFrame m #[(.ref src), (.int (0 : Int32)), (.int (Int32.ofNat cs.length))] 6)) zQ := by
    intro tt kt
    refine W0 tt ?_
    refine XS.iloadN X0.here hx rfl (hb hby d_jdk_52_method_16_0) rfl ?_
    show SS p e below s₁ m 1 #[.val (.ref src), .val (.int (0 : Int32)), .val (.int (Int32.ofNat cs.length)), .unset, .unset, .unset] [(.int (Int32.ofNat cs.length))] _
    refine st101 _ ?_
    show SS p e below T101 m 3 #[.val (.ref src), .val (.int (0 : Int32)), .val (.int (Int32.ofNat cs.length)), .unset, .unset, .unset] [(.ref b101)] _
    refine XS.astoreN X101.here hx rfl (hb hby d_jdk_52_method_16_3) rfl rfl (l' := #[.val (.ref src), .val (.int (0 : Int32)), .val (.int (Int32.ofNat cs.length)), .val (.ref b101), .unset, .unset]) rfl ?_
    show SS p e below T101 m 4 #[.val (.ref src), .val (.int (0 : Int32)), .val (.int (Int32.ofNat cs.length)), .val (.ref b101), .unset, .unset] [] _
    refine XS.aloadN X101.here hx rfl (hb hby d_jdk_52_method_16_4) rfl rfl ?_
    show SS p e below T101 m 5 #[.val (.ref src), .val (.int (0 : Int32)), .val (.int (Int32.ofNat cs.length)), .val (.ref b101), .unset, .unset] [(.ref src)] _
    refine XS.iloadN X101.here hx rfl (hb hby d_jdk_52_method_16_5) rfl ?_
    show SS p e below T101 m 6 #[.val (.ref src), .val (.int (0 : Int32)), .val (.int (Int32.ofNat cs.length)), .val (.ref b101), .unset, .unset] [(.int (0 : Int32)), (.ref src)] _
    refine XS.aloadN X101.here hx rfl (hb hby d_jdk_52_method_16_6) rfl rfl ?_
    show SS p e below T101 m 7 #[.val (.ref src), .val (.int (0 : Int32)), .val (.int (Int32.ofNat cs.length)), .val (.ref b101), .unset, .unset] [(.ref b101), (.int (0 : Int32)), (.ref src)] _
    refine XS.iconst X101.here hx rfl (hb hby d_jdk_52_method_16_7) ?_
    show SS p e below T101 m 8 #[.val (.ref src), .val (.int (0 : Int32)), .val (.int (Int32.ofNat cs.length)), .val (.ref b101), .unset, .unset] [(.int (0 : Int32)), (.ref b101), (.int (0 : Int32)), (.ref src)] _
    refine XS.iloadN X101.here hx rfl (hb hby d_jdk_52_method_16_8) rfl ?_
    show SS p e below T101 m 9 #[.val (.ref src), .val (.int (0 : Int32)), .val (.int (Int32.ofNat cs.length)), .val (.ref b101), .unset, .unset] [(.int (Int32.ofNat cs.length)), (.int (0 : Int32)), (.ref b101), (.int (0 : Int32)), (.ref src)] _
    refine st103 _ ?_
    show SS p e below T103 m 12 #[.val (.ref src), .val (.int (0 : Int32)), .val (.int (Int32.ofNat cs.length)), .val (.ref b101), .unset, .unset] [(.int (Int32.ofNat (fl cs)))] _
    refine XS.istore X103.here hx rfl (hb hby d_jdk_52_method_16_12) rfl (l' := #[.val (.ref src), .val (.int (0 : Int32)), .val (.int (Int32.ofNat cs.length)), .val (.ref b101), .val (.int (Int32.ofNat (fl cs))), .unset]) rfl ?_
    show SS p e below T103 m 14 #[.val (.ref src), .val (.int (0 : Int32)), .val (.int (Int32.ofNat cs.length)), .val (.ref b101), .val (.int (Int32.ofNat (fl cs))), .unset] [] _
    refine XS.iload X103.here hx rfl (hb hby d_jdk_52_method_16_14) rfl ?_
    show SS p e below T103 m 16 #[.val (.ref src), .val (.int (0 : Int32)), .val (.int (Int32.ofNat cs.length)), .val (.ref b101), .val (.int (Int32.ofNat (fl cs))), .unset] [(.int (Int32.ofNat (fl cs)))] _
    refine XS.iloadN X103.here hx rfl (hb hby d_jdk_52_method_16_16) rfl ?_
    show SS p e below T103 m 17 #[.val (.ref src), .val (.int (0 : Int32)), .val (.int (Int32.ofNat cs.length)), .val (.ref b101), .val (.int (Int32.ofNat (fl cs))), .unset] [(.int (Int32.ofNat cs.length)), (.int (Int32.ofNat (fl cs)))] _
    exact kt
  by_cases hc105 : (Int32.ofNat (fl cs)) = (Int32.ofNat cs.length)
  ·
    have hl : lat cs = true := fl_ne (by have := fl_le cs; have q := congrArg Int32.toInt hc105; rw [own_i (by omega), own_i (by omega)] at q; omega)
    have W106 : ∀ zQ, SS p e below T103 m 58 #[.val (.ref src), .val (.int (0 : Int32)), .val (.int (Int32.ofNat cs.length)), .val (.ref b101), .val (.int (Int32.ofNat (fl cs))), .unset] [(.ref b101)] zQ → Steps p.tables e below (s₁.setTop (entryFrame m #[(.ref src), (.int (0 : Int32)), (.int (Int32.ofNat cs.length))] 6)) zQ := by
      intro tt kt
      refine W104 tt ?_
      refine XS.icmpYes X103.here hx rfl (pc0 := 17) (pc' := 57) rfl (hb hby d_jdk_52_method_16_17) rfl (teq hc105).1 (by decide) (by decide) ?_
      show SS p e below T103 m 57 #[.val (.ref src), .val (.int (0 : Int32)), .val (.int (Int32.ofNat cs.length)), .val (.ref b101), .val (.int (Int32.ofNat (fl cs))), .unset] [] _
      refine XS.aloadN X103.here hx rfl (hb hby d_jdk_52_method_16_57) rfl rfl ?_
      show SS p e below T103 m 58 #[.val (.ref src), .val (.int (0 : Int32)), .val (.int (Int32.ofNat cs.length)), .val (.ref b101), .val (.int (Int32.ofNat (fl cs))), .unset] [(.ref b101)] _
      exact kt
    have hR107 : Arv Z T103.heap b101 k101 .byte (Int32.ofNat (blen cs)) (enc cs) (.int (0 : Int32)) := by have q := enc_lat hl; rw [q.1, q.2.1]; rw [show cs.take (fl cs) = cs from by rw [fl_lat hl]; simp] at P103_0; exact P103_0
    obtain ⟨fs, hr, hrun, hended, hW, hsame⟩ := X103.leave (v := some (.ref b101)) (fun h => by rw [Bd.returns] at h; cases h)
    refine ⟨_, _, W106 _ (own_retR X103 hx Bd.returns rfl rfl (hb hby d_jdk_52_method_16_58) hr), hrun, hended, _, _, rfl, ?_, ⟨_, rfl⟩, hW, hsame.mono (by decide) (by decide)⟩
    show Q_compress16 Z src kc cs h0 n0 _ T103.heap _
    exact ⟨b101, k101, rfl, N103, (Keep.trans (Keep.trans (Keep.refl h0 []) K101 all0) K103 (allS (Or.inr (Nat.le_of_eq g101.symm)) all0)), (Nat.le_of_eq g101.symm), hR107⟩
  ·
    have hl : ¬ lat cs = true := fun q => hc105 (by rw [fl_lat q])
    have F108 : Arv Z T103.heap src kc .char (Int32.ofNat cs.length) (cs.map Value.int) (.int (0 : Int32)) := (F102.keep K103 (ninS (Nat.ne_of_lt (Nat.lt_of_lt_of_le Vs.lt (Nat.le_of_eq g101.symm))) nin0))
    have O109 : Old Z n0 T103.heap := ((O0.keep K101 all0).keep K103 (allS (Nat.le_trans Z0 (Nat.le_of_eq g101.symm)) all0))
    obtain ⟨_, _, ⟨T110, L110, k110, n110⟩, -, X110, ⟨Lc110, hQ110, l110, y110, z110⟩, st110⟩ := Jvm.LawKit.callS X103 hx (y := (⟨"java/lang/StringUTF16", "toBytes", "([CII)[B"⟩ : MethodName)) hown (mvT hZ (w71 hw)) (mvT hZ (w72 hw)) (mvT hZ (w22 hw)) (mvT hZ (w73 hw)) (by decide) (backOf (W := 0) (rm_toBytes l Z a0 hw [] src kc cs T103.heap n0 (Nat.le_trans Z0 (Nat.le_trans K101.1 K103.1)) O109 S_ad S_hi S_lo F108 ok hcap) hZ (w73 hw) (w22 hw) (by decide) (by decide)) (g := (mkF m 23 #[.val (.ref src), .val (.int (0 : Int32)), .val (.int (Int32.ofNat cs.length)), .val (.ref b101), .val (.int (Int32.ofNat (fl cs))), .unset] [(.int (Int32.ofNat cs.length)), (.int (0 : Int32)), (.ref src)])) rfl (by rw [hml]; rfl) (argsL := [(.ref src), (.int (0 : Int32)), (.int (Int32.ofNat cs.length))]) (rest := []) (lenOf pd__28__5b_CII_29__5b_B rfl) rfl (by show 2 * 0 + _ ≤ _; exact Nat.le_of_eq rfl) (hb hby d_jdk_52_method_16_23) (fun _ _ => ⟨rfl, rfl, (Nat.le_of_ble_eq_true rfl), (Nat.le_of_ble_eq_true rfl)⟩)
    dsimp only [Pt.U, Pt.locs, Pt.cells, Pt.slots] at X110 l110 y110 z110 st110 hQ110
    subst l110 y110 z110
    obtain ⟨t_111, kb_112, rfl, Nq110, K110, P110_0, P110_1⟩ := hQ110
    have N110 := Fr.app N103 Nq110
    have O113 : Old Z n0 T110.heap := (O109.keep K110 all0)
    obtain ⟨_, _, ⟨T114, L114, k114, n114⟩, -, X114, ⟨Lc114, hQ114, l114, y114, z114⟩, st114⟩ := Jvm.LawKit.callS X110 hx (y := (⟨"java/lang/StringUTF16", "getChar", "([BI)C"⟩ : MethodName)) hown (mvT hZ (w87 hw)) (mvT hZ (w88 hw)) (mvT hZ (w22 hw)) (mvT hZ (w89 hw)) (by decide) (backOf (W := 0) (rm_getChar l Z a0 hw [] t_111 (fl cs) kb_112 cs T110.heap n0 (Nat.le_trans Z0 (Nat.le_trans (Nat.le_trans K101.1 K103.1) K110.1)) O113 S_ad S_hi S_lo P110_1 (fl_nlat hl).1 ok) hZ (w89 hw) (w22 hw) (by decide) (by decide)) (g := (mkF m 32 #[.val (.ref src), .val (.int (0 : Int32)), .val (.int (Int32.ofNat cs.length)), .val (.ref b101), .val (.int (Int32.ofNat (fl cs))), .val (.ref t_111)] [(.int (Int32.ofNat (fl cs))), (.ref t_111)])) rfl (by rw [hml]; rfl) (argsL := [(.ref t_111), (.int (Int32.ofNat (fl cs)))]) (rest := []) (lenOf pd__28__5b_BI_29_C rfl) rfl (by show 2 * 0 + _ ≤ _; exact Nat.le_of_eq rfl) (hb hby d_jdk_52_method_16_32) (fun _ _ => ⟨rfl, rfl, (Nat.le_of_ble_eq_true rfl), (Nat.le_of_ble_eq_true rfl)⟩)
    dsimp only [Pt.U, Pt.locs, Pt.cells, Pt.slots] at X114 l114 y114 z114 st114 hQ114
    subst l114 y114 z114
    obtain ⟨rfl, Nq114, eq114⟩ := hQ114
    have N114 := Fr.app N110 Nq114
    have W115 : ∀ zQ, SS p e below T114 m 56 #[.val (.ref src), .val (.int (0 : Int32)), .val (.int (Int32.ofNat cs.length)), .val (.ref b101), .val (.int (Int32.ofNat (fl cs))), .val (.ref t_111)] [(.ref t_111)] zQ → Steps p.tables e below (s₁.setTop (entryFrame m #[(.ref src), (.int (0 : Int32)), (.int (Int32.ofNat cs.length))] 6)) zQ := by
      intro tt kt
      refine W104 tt ?_
      refine XS.icmpNo X103.here hx rfl (hb hby d_jdk_52_method_16_17) rfl (feq hc105).1 ?_
      show SS p e below T103 m 20 #[.val (.ref src), .val (.int (0 : Int32)), .val (.int (Int32.ofNat cs.length)), .val (.ref b101), .val (.int (Int32.ofNat (fl cs))), .unset] [] _
      refine XS.aloadN X103.here hx rfl (hb hby d_jdk_52_method_16_20) rfl rfl ?_
      show SS p e below T103 m 21 #[.val (.ref src), .val (.int (0 : Int32)), .val (.int (Int32.ofNat cs.length)), .val (.ref b101), .val (.int (Int32.ofNat (fl cs))), .unset] [(.ref src)] _
      refine XS.iloadN X103.here hx rfl (hb hby d_jdk_52_method_16_21) rfl ?_
      show SS p e below T103 m 22 #[.val (.ref src), .val (.int (0 : Int32)), .val (.int (Int32.ofNat cs.length)), .val (.ref b101), .val (.int (Int32.ofNat (fl cs))), .unset] [(.int (0 : Int32)), (.ref src)] _
      refine XS.iloadN X103.here hx rfl (hb hby d_jdk_52_method_16_22) rfl ?_
      show SS p e below T103 m 23 #[.val (.ref src), .val (.int (0 : Int32)), .val (.int (Int32.ofNat cs.length)), .val (.ref b101), .val (.int (Int32.ofNat (fl cs))), .unset] [(.int (Int32.ofNat cs.length)), (.int (0 : Int32)), (.ref src)] _
      refine st110 _ ?_
      show SS p e below T110 m 26 #[.val (.ref src), .val (.int (0 : Int32)), .val (.int (Int32.ofNat cs.length)), .val (.ref b101), .val (.int (Int32.ofNat (fl cs))), .unset] [(.ref t_111)] _
      refine XS.astore X110.here hx rfl (hb hby d_jdk_52_method_16_26) rfl rfl (l' := #[.val (.ref src), .val (.int (0 : Int32)), .val (.int (Int32.ofNat cs.length)), .val (.ref b101), .val (.int (Int32.ofNat (fl cs))), .val (.ref t_111)]) rfl ?_
      show SS p e below T110 m 28 #[.val (.ref src), .val (.int (0 : Int32)), .val (.int (Int32.ofNat cs.length)), .val (.ref b101), .val (.int (Int32.ofNat (fl cs))), .val (.ref t_111)] [] _
      refine XS.aload X110.here hx rfl (hb hby d_jdk_52_method_16_28) rfl rfl ?_
      show SS p e below T110 m 30 #[.val (.ref src), .val (.int (0 : Int32)), .val (.int (Int32.ofNat cs.length)), .val (.ref b101), .val (.int (Int32.ofNat (fl cs))), .val (.ref t_111)] [(.ref t_111)] _
      refine XS.iload X110.here hx rfl (hb hby d_jdk_52_method_16_30) rfl ?_
      show SS p e below T110 m 32 #[.val (.ref src), .val (.int (0 : Int32)), .val (.int (Int32.ofNat cs.length)), .val (.ref b101), .val (.int (Int32.ofNat (fl cs))), .val (.ref t_111)] [(.int (Int32.ofNat (fl cs))), (.ref t_111)] _
      refine st114 _ ?_
      show SS p e below T114 m 35 #[.val (.ref src), .val (.int (0 : Int32)), .val (.int (Int32.ofNat cs.length)), .val (.ref b101), .val (.int (Int32.ofNat (fl cs))), .val (.ref t_111)] [(.int (cs.getD (fl cs) 0))] _
      refine XS.sipush X114.here hx rfl (hb hby d_jdk_52_method_16_35) ?_
      show SS p e below T114 m 38 #[.val (.ref src), .val (.int (0 : Int32)), .val (.int (Int32.ofNat cs.length)), .val (.ref b101), .val (.int (Int32.ofNat (fl cs))), .val (.ref t_111)] [(.int (255 : Int32)), (.int (cs.getD (fl cs) 0))] _
      refine XS.icmpYes X114.here hx rfl (pc0 := 38) (pc' := 54) rfl (hb hby d_jdk_52_method_16_38) rfl (tlt (fl_nlat hl).2).2.2.1 (by decide) (by decide) ?_
      show SS p e below T114 m 54 #[.val (.ref src), .val (.int (0 : Int32)), .val (.int (Int32.ofNat cs.length)), .val (.ref b101), .val (.int (Int32.ofNat (fl cs))), .val (.ref t_111)] [] _
      refine XS.aload X114.here hx rfl (hb hby d_jdk_52_method_16_54) rfl rfl ?_
      show SS p e below T114 m 56 #[.val (.ref src), .val (.int (0 : Int32)), .val (.int (Int32.ofNat cs.length)), .val (.ref b101), .val (.int (Int32.ofNat (fl cs))), .val (.ref t_111)] [(.ref t_111)] _
      exact kt
    have hR116 : Arv Z T110.heap t_111 kb_112 .byte (Int32.ofNat (blen cs)) (enc cs) (.int (0 : Int32)) := by have q := enc_nlat hl; rw [q.1, q.2.1]; exact P110_1
    obtain ⟨fs, hr, hrun, hended, hW, hsame⟩ := X114.leave (v := some (.ref t_111)) (fun h => by rw [Bd.returns] at h; cases h)
    refine ⟨_, _, W115 _ (own_retR X114 hx Bd.returns rfl rfl (hb hby d_jdk_52_method_16_56) hr), hrun, hended, _, _, rfl, ?_, ⟨_, rfl⟩, hW, hsame.mono (by decide) (by decide)⟩
    show Q_compress16 Z src kc cs h0 n0 _ T114.heap _
    rw [eq114]
    exact ⟨t_111, kb_112, rfl, N114, (Keep.trans (Keep.trans (Keep.trans (Keep.refl h0 []) K101 all0) K103 (allS (Or.inr (Nat.le_of_eq g101.symm)) all0)) K110 all0), (Nat.le_trans (Nat.le_trans K101.1 K103.1) P110_0), hR116⟩
def Q_sinitV (Z : State) (a : Addr) (src : Addr) (kc : ClassId) (cs : List Int32) (cS : Int32) (h0 : Heap) (n0 : Nat) (vQ_ : Option Value) (hQ_ : Heap) (LQ_ : List Loc) : Prop := ∃ t : Addr, ∃ kb : ClassId, vQ_ = none ∧ Fr n0 LQ_ ∧ Keep h0 hQ_ [a] ∧ h0.size ≤ t ∧ Str Z hQ_ a t kb cs
set_option maxRecDepth 65536 in
set_option maxHeartbeats 40000000 in
theorem rm_sinitV (l : Launch) (Z : State) (a0 : Array Value) (hw : ∀ d ∈ tables_1, d.before a0 Z = true) (ws : List Jvm.Cond) (a : Addr) (src : Addr) (kc : ClassId) (cs : List Int32) (cS : Int32) (h0 : Heap) (n0 : Nat) (Z0 : n0 ≤ h0.size) (O0 : Old Z n0 h0) (S_cs : Sta Z Z.heap "java/lang/String" "COMPACT_STRINGS" "Z" (.int cS)) (hcS : ¬ (cS = (0 : Int32))) (S_ad : Sta Z Z.heap "java/lang/StringUTF16" "$assertionsDisabled" "Z" (.int (1 : Int32))) (S_hi : Sta Z Z.heap "java/lang/StringUTF16" "HI_BYTE_SHIFT" "I" (.int (0 : Int32))) (S_lo : Sta Z Z.heap "java/lang/StringUTF16" "LO_BYTE_SHIFT" "I" (.int (8 : Int32))) (E1 : Exa Z h0 a "java/lang/String") (F1 : Fld Z h0 a "java/lang/String" "value" "[B" .null) (F2 : Fld Z h0 a "java/lang/String" "coder" "B" (.int (0 : Int32))) (hg : n0 ≤ a) (Vs : Arv Z h0 src kc .char (Int32.ofNat cs.length) (cs.map Value.int) (.int (0 : Int32))) (ok : OkS cs) (hcap : cs.length ≤ 4) (hpos : 0 < cs.length) (hne : a ≠ src) :
    MetFree l (⟨"java/lang/String", "<init>", "([CIILjava/lang/Void;)V"⟩ : MethodName) (head1 (Jvm.Cond.code (⟨"java/lang/String", "<init>", "([CIILjava/lang/Void;)V"⟩ : MethodName) jdk_42_method_149_code 6 none :: ws) ({ frames := 4, cells := 2, slots := 12, locals := 57 } : Room)) (fun aQ_ UQ => aQ_ = #[(.ref a), (.ref src), (.int (0 : Int32)), (.int (Int32.ofNat cs.length)), .null] ∧ Z.Warmed39 UQ.vm ∧ UQ.heap = h0) (fun _ _ _ _ _ => True) (fun _ UQ oQ UQ' => ∃ vQ_ LQ_, oQ = .returned vQ_ ∧ Q_sinitV Z a src kc cs cS h0 n0 vQ_ UQ'.heap LQ_ ∧ FrameEnd UQ oQ UQ' LQ_ ({ frames := 4, cells := 2, slots := 12, locals := 57 } : Room).cells ({ frames := 4, cells := 2, slots := 12, locals := 57 } : Room).slots) := by
  refine MetFree.of_bodySF (plainFor_of_name pn_java_lang_String) hisR ?_
  intro p e s m args below meth cO s₁ Bd hml0 hP hK
  obtain ⟨rfl, hZ, hh⟩ := hP
  have hx := Bd.exec
  have hby := Bd.bytes
  have hml : cO.maxLocals = 6 := hml0
  have hown : s.vm.findClass "java/lang/String" = some m.cls := findClass_of_methodNamed Bd.named
  have hnm := (name_of_methodNamed Bd.named Bd.method).1
  have X0 : Stand p l e ({ frames := 4, cells := 2, slots := 12, locals := 57 } : Room) s m #[(.ref a), (.ref src), (.int (0 : Int32)), (.int (Int32.ofNat cs.length)), .null] below meth cO s₁ [] 0 0 := Stand.of_body Bd
  have e0 : s₁.heap = h0 := by rw [← hh, Bd.state]; rfl
  have N0 := Fr.nil n0
  have W0 : ∀ zQ, SS p e below s₁ m 0 #[.val (.ref a), .val (.ref src), .val (.int (0 : Int32)), .val (.int (Int32.ofNat cs.length)), .val .null, .unset] [] zQ → Steps p.tables e below (s₁.setTop (entryFrame m #[(.ref a), (.ref src), (.int (0 : Int32)), (.int (Int32.ofNat cs.length)), .null] 6)) zQ := fun tt kt => castTop (ef_sinitV m a src (0 : Int32) (Int32.ofNat cs.length)) kt
  have hn : cs.length < 1048576 := ok.2
  obtain ⟨T101, X101, e101, st101⟩ := initO X0 hx hZ hown (w16 hw) (w17 hw) (w18 hw) e0 (g := (mkF m 1 #[.val (.ref a), .val (.ref src), .val (.int (0 : Int32)), .val (.int (Int32.ofNat cs.length)), .val .null, .unset] [(.ref a)])) rfl (by rw [hml]; rfl) rfl (hb hby d_jdk_42_method_149_1) (by decide) (W := 0) (by show 2 * 0 + _ ≤ _; exact Nat.le_of_eq rfl) (by decide)
  have F103 : Sta Z h0 "java/lang/String" "COMPACT_STRINGS" "Z" (.int cS) := S_cs.ext O0.2
  obtain ⟨T102, X102, e102, st102⟩ := getS2 X101 hx hZ hown (host := "") (Or.inl (w19 hw)) Via.refl e101 F103 (g := (mkF m 27 #[.val (.ref a), .val (.ref src), .val (.int (0 : Int32)), .val (.int (Int32.ofNat cs.length)), .val .null, .unset] [])) rfl (hb hby d_jdk_42_method_149_27)
  obtain ⟨_, _, ⟨T104, L104, k104, n104⟩, -, X104, ⟨Lc104, hQ104, l104, y104, z104⟩, st104⟩ := Jvm.LawKit.callS X102 hx (y := (⟨"java/lang/StringUTF16", "compress", "([CII)[B"⟩ : MethodName)) hown (mvT hZ (w20 hw)) (mvT hZ (w21 hw)) (mvT hZ (w22 hw)) (mvT hZ (w23 hw)) (by decide) (backOf (W := 0) (rm_compress16 l Z a0 hw [] src kc cs h0 n0 Z0 O0 S_ad S_hi S_lo Vs ok hcap) hZ (w23 hw) (w22 hw) (by decide) (by decide)) (g := (mkF m 36 #[.val (.ref a), .val (.ref src), .val (.int (0 : Int32)), .val (.int (Int32.ofNat cs.length)), .val .null, .unset] [(.int (Int32.ofNat cs.length)), (.int (0 : Int32)), (.ref src)])) rfl (by rw [hml]; rfl) (argsL := [(.ref src), (.int (0 : Int32)), (.int (Int32.ofNat cs.length))]) (rest := []) (lenOf pd__28__5b_CII_29__5b_B rfl) rfl (by show 2 * 0 + _ ≤ _; exact Nat.le_of_eq rfl) (hb hby d_jdk_42_method_149_36) (fun _ _ => ⟨rfl, e102, (Nat.le_of_ble_eq_true rfl), (Nat.le_of_ble_eq_true rfl)⟩)
  dsimp only [Pt.U, Pt.locs, Pt.cells, Pt.slots] at X104 l104 y104 z104 st104 hQ104
  subst l104 y104 z104
  obtain ⟨t_105, kb_106, rfl, Nq104, K104, P104_0, P104_1⟩ := hQ104
  have N104 := Fr.app N0 Nq104
  obtain ⟨_, _, ⟨T107, L107, k107, n107⟩, -, X107, ⟨Lc107, hQ107, l107, y107, z107⟩, st107⟩ := Jvm.LawKit.callS X104 hx (y := (⟨"java/lang/StringUTF16", "coderFromArrayLen", "([BI)B"⟩ : MethodName)) hown (mvT hZ (w28 hw)) (mvT hZ (w29 hw)) (mvT hZ (w22 hw)) (mvT hZ (w30 hw)) (by decide) (backOf (W := 1) (rm_coderOf l Z a0 hw [] t_105 kb_106 (enc cs) cs T104.heap n0 (Nat.le_trans Z0 K104.1) P104_1 ok) hZ (w30 hw) (w22 hw) (by decide) (by decide)) (g := (mkF m 45 #[.val (.ref a), .val (.ref src), .val (.int (0 : Int32)), .val (.int (Int32.ofNat cs.length)), .val .null, .val (.ref t_105)] [(.int (Int32.ofNat cs.length)), (.ref t_105), (.ref a)])) rfl (by rw [hml]; rfl) (argsL := [(.ref t_105), (.int (Int32.ofNat cs.length))]) (rest := [(.ref a)]) (lenOf pd__28__5b_BI_29_B rfl) rfl (by show 2 * 0 + _ ≤ _; exact Nat.le_of_eq rfl) (hb hby d_jdk_42_method_149_45) (fun _ _ => ⟨rfl, rfl, (Nat.le_of_ble_eq_true rfl), (Nat.le_of_ble_eq_true rfl)⟩)
  dsimp only [Pt.U, Pt.locs, Pt.cells, Pt.slots] at X107 l107 y107 z107 st107 hQ107
  subst l107 y107 z107
  obtain ⟨rfl, Nq107, eq107⟩ := hQ107
  have N107 := Fr.app N104 Nq107
  have F108 : Exa Z T104.heap a "java/lang/String" := (E1.keep K104)
  have F109 : Fld Z T104.heap a "java/lang/String" "coder" "B" (.int (0 : Int32)) := (F2.keep K104 nin0)
  obtain ⟨T110, h110, X110, e110, Wr110, st110⟩ := putFN X107 hx hZ hown (w31 hw) Via.refl eq107 F109 F108 (Or.inr ⟨(w32 hw), rfl, hnm⟩) (w7 hw) (ty := .byte) (v' := (.int (cdr cs))) (by decide) (show narrow .byte (.int (cdr cs)) = .int (cdr cs) from congrArg Value.int (own_narcdr cs)) (own_fitcdr cs) (g := (mkF m 48 #[.val (.ref a), .val (.ref src), .val (.int (0 : Int32)), .val (.int (Int32.ofNat cs.length)), .val .null, .val (.ref t_105)] [(.int (cdr cs)), (.ref a)])) rfl rfl (hb hby d_jdk_42_method_149_48)
  have K110 := Keep.of_wr Wr110
  have G110 := F109.same Wr110
  have N110 := Fr.snoc X110 N107 hg
  have F111 : Exa Z h110 a "java/lang/String" := (F108.keep K110)
  have F112 : Fld Z h110 a "java/lang/String" "value" "[B" .null := (Fld.other Wr110 (F1.keep K104 nin0) (Or.inr (slot_ne (Or.inr (w34 hw)) (Or.inr (w32 hw)) (by decide) (t := (.array .byte)) (t' := .byte) (by decide) (by decide))))
  obtain ⟨T113, h113, X113, e113, Wr113, st113⟩ := putF X110 hx hZ hown (host := "") (Or.inl (w33 hw)) Via.refl e110 F112 F111 (Or.inr ⟨(w34 hw), rfl, hnm⟩) (w7 hw) (ty := (.array .byte)) (by decide) rfl rfl (g := (mkF m 54 #[.val (.ref a), .val (.ref src), .val (.int (0 : Int32)), .val (.int (Int32.ofNat cs.length)), .val .null, .val (.ref t_105)] [(.ref t_105), (.ref a)])) rfl rfl (hb hby d_jdk_42_method_149_54)
  have K113 := Keep.of_wr Wr113
  have G113 := F112.same Wr113
  have N113 := Fr.snoc X113 N110 hg
  have W114 : ∀ zQ, SS p e below T113 m 57 #[.val (.ref a), .val (.ref src), .val (.int (0 : Int32)), .val (.int (Int32.ofNat cs.length)), .val .null, .val (.ref t_105)] [] zQ → Steps p.tables e below (s₁.setTop (entryFrame m #[(.ref a), (.ref src), (.int (0 : Int32)), (.int (Int32.ofNat cs.length)), .null] 6)) zQ := by
    intro tt kt
    refine W0 tt ?_
    refine XS.aloadN X0.here hx rfl (hb hby d_jdk_42_method_149_0) rfl rfl ?_
    show SS p e below s₁ m 1 #[.val (.ref a), .val (.ref src), .val (.int (0 : Int32)), .val (.int (Int32.ofNat cs.length)), .val .null, .unset] [(.ref a)] _
    refine st101 _ ?_
    show SS p e below T101 m 4 #[.val (.ref a), .val (.ref src), .val (.int (0 : Int32)), .val (.int (Int32.ofNat cs.length)), .val .null, .unset] [] _
    refine XS.iloadN X101.here hx rfl (hb hby d_jdk_42_method_149_4) rfl ?_
    show SS p e below T101 m 5 #[.val (.ref a), .val (.ref src), .val (.int (0 : Int32)), .val (.int (Int32.ofNat cs.length)), .val .null, .unset] [(.int (Int32.ofNat cs.length))] _
    refine XS.ifYes X101.here hx rfl (pc0 := 5) (pc' := 27) rfl (hb hby d_jdk_42_method_149_5) rfl ((if0 _ _).trans (feq (fun q => by have := congrArg Int32.toInt q; rw [own_i (by omega)] at this; have z : (0 : Int32).toInt = 0 := rfl; omega)).2) (by decide) (by decide) ?_
    show SS p e below T101 m 27 #[.val (.ref a), .val (.ref src), .val (.int (0 : Int32)), .val (.int (Int32.ofNat cs.length)), .val .null, .unset] [] _
    refine st102 _ ?_
    show SS p e below T102 m 30 #[.val (.ref a), .val (.ref src), .val (.int (0 : Int32)), .val (.int (Int32.ofNat cs.length)), .val .null, .unset] [(.int cS)] _
    refine XS.ifNo X102.here hx rfl (hb hby d_jdk_42_method_149_30) rfl ((if0 _ _).trans (feq hcS).1) ?_
    show SS p e below T102 m 33 #[.val (.ref a), .val (.ref src), .val (.int (0 : Int32)), .val (.int (Int32.ofNat cs.length)), .val .null, .unset] [] _
    refine XS.aloadN X102.here hx rfl (hb hby d_jdk_42_method_149_33) rfl rfl ?_
    show SS p e below T102 m 34 #[.val (.ref a), .val (.ref src), .val (.int (0 : Int32)), .val (.int (Int32.ofNat cs.length)), .val .null, .unset] [(.ref src)] _
    refine XS.iloadN X102.here hx rfl (hb hby d_jdk_42_method_149_34) rfl ?_
    show SS p e below T102 m 35 #[.val (.ref a), .val (.ref src), .val (.int (0 : Int32)), .val (.int (Int32.ofNat cs.length)), .val .null, .unset] [(.int (0 : Int32)), (.ref src)] _
    refine XS.iloadN X102.here hx rfl (hb hby d_jdk_42_method_149_35) rfl ?_
    show SS p e below T102 m 36 #[.val (.ref a), .val (.ref src), .val (.int (0 : Int32)), .val (.int (Int32.ofNat cs.length)), .val .null, .unset] [(.int (Int32.ofNat cs.length)), (.int (0 : Int32)), (.ref src)] _
    refine st104 _ ?_
    show SS p e below T104 m 39 #[.val (.ref a), .val (.ref src), .val (.int (0 : Int32)), .val (.int (Int32.ofNat cs.length)), .val .null, .unset] [(.ref t_105)] _
    refine XS.astore X104.here hx rfl (hb hby d_jdk_42_method_149_39) rfl rfl (l' := #[.val (.ref a), .val (.ref src), .val (.int (0 : Int32)), .val (.int (Int32.ofNat cs.length)), .val .null, .val (.ref t_105)]) rfl ?_
    show SS p e below T104 m 41 #[.val (.ref a), .val (.ref src), .val (.int (0 : Int32)), .val (.int (Int32.ofNat cs.length)), .val .null, .val (.ref t_105)] [] _
    refine XS.aloadN X104.here hx rfl (hb hby d_jdk_42_method_149_41) rfl rfl ?_
    show SS p e below T104 m 42 #[.val (.ref a), .val (.ref src), .val (.int (0 : Int32)), .val (.int (Int32.ofNat cs.length)), .val .null, .val (.ref t_105)] [(.ref a)] _
    refine XS.aload X104.here hx rfl (hb hby d_jdk_42_method_149_42) rfl rfl ?_
    show SS p e below T104 m 44 #[.val (.ref a), .val (.ref src), .val (.int (0 : Int32)), .val (.int (Int32.ofNat cs.length)), .val .null, .val (.ref t_105)] [(.ref t_105), (.ref a)] _
    refine XS.iloadN X104.here hx rfl (hb hby d_jdk_42_method_149_44) rfl ?_
    show SS p e below T104 m 45 #[.val (.ref a), .val (.ref src), .val (.int (0 : Int32)), .val (.int (Int32.ofNat cs.length)), .val .null, .val (.ref t_105)] [(.int (Int32.ofNat cs.length)), (.ref t_105), (.ref a)] _
    refine st107 _ ?_
    show SS p e below T107 m 48 #[.val (.ref a), .val (.ref src), .val (.int (0 : Int32)), .val (.int (Int32.ofNat cs.length)), .val .null, .val (.ref t_105)] [(.int (cdr cs)), (.ref a)] _
    refine st110 _ ?_
    show SS p e below T110 m 51 #[.val (.ref a), .val (.ref src), .val (.int (0 : Int32)), .val (.int (Int32.ofNat cs.length)), .val .null, .val (.ref t_105)] [] _
    refine XS.aloadN X110.here hx rfl (hb hby d_jdk_42_method_149_51) rfl rfl ?_
    show SS p e below T110 m 52 #[.val (.ref a), .val (.ref src), .val (.int (0 : Int32)), .val (.int (Int32.ofNat cs.length)), .val .null, .val (.ref t_105)] [(.ref a)] _
    refine XS.aload X110.here hx rfl (hb hby d_jdk_42_method_149_52) rfl rfl ?_
    show SS p e below T110 m 54 #[.val (.ref a), .val (.ref src), .val (.int (0 : Int32)), .val (.int (Int32.ofNat cs.length)), .val .null, .val (.ref t_105)] [(.ref t_105), (.ref a)] _
    refine st113 _ ?_
    show SS p e below T113 m 57 #[.val (.ref a), .val (.ref src), .val (.int (0 : Int32)), .val (.int (Int32.ofNat cs.length)), .val .null, .val (.ref t_105)] [] _
    exact kt
  have F115 : Exa Z h113 a "java/lang/String" := (F111.keep K113)
  have F116 : Fld Z h113 a "java/lang/String" "coder" "B" (.int (cdr cs)) := (Fld.other Wr113 G110 (Or.inr (slot_ne (Or.inr (w32 hw)) (Or.inr (w34 hw)) (by decide) (t := .byte) (t' := (.array .byte)) (by decide) (by decide))))
  have F117 : Arv Z h113 t_105 kb_106 .byte (Int32.ofNat (blen cs)) (enc cs) (.int (0 : Int32)) := ((P104_1.keep K110 (ninS (Ne.symm (Nat.ne_of_lt (Nat.lt_of_lt_of_le E1.lt P104_0))) nin0)).keep K113 (ninS (Ne.symm (Nat.ne_of_lt (Nat.lt_of_lt_of_le E1.lt P104_0))) nin0))
  obtain ⟨fs, hr, hrun, hended, hW, hsame⟩ := X113.leave (v := none) (fun _ => rfl)
  refine ⟨_, _, W114 _ (X113.returnOut hx Bd.returns (hb hby d_jdk_42_method_149_57) hr), hrun, hended, _, _, rfl, ?_, ⟨_, rfl⟩, hW, hsame.mono (by decide) (by decide)⟩
  show Q_sinitV Z a src kc cs cS h0 n0 _ T113.heap _
  rw [e113]
  exact ⟨t_105, kb_106, rfl, N113, (Keep.trans (Keep.trans (Keep.trans (Keep.refl h0 [a]) K104 all0) K110 (allS (Or.inl (List.mem_of_getElem? (i := 0) rfl)) all0)) K113 (allS (Or.inl (List.mem_of_getElem? (i := 0) rfl)) all0)), P104_0, ⟨F115, G113, F116, F117, ok⟩⟩
def Q_sinit (Z : State) (a : Addr) (src : Addr) (kc : ClassId) (cs : List Int32) (cS : Int32) (h0 : Heap) (n0 : Nat) (vQ_ : Option Value) (hQ_ : Heap) (LQ_ : List Loc) : Prop := ∃ t : Addr, ∃ kb : ClassId, vQ_ = none ∧ Fr n0 LQ_ ∧ Keep h0 hQ_ [a] ∧ h0.size ≤ t ∧ Str Z hQ_ a t kb cs
set_option maxRecDepth 65536 in
set_option maxHeartbeats 40000000 in
theorem rm_sinit (l : Launch) (Z : State) (a0 : Array Value) (hw : ∀ d ∈ tables_1, d.before a0 Z = true) (ws : List Jvm.Cond) (a : Addr) (src : Addr) (kc : ClassId) (cs : List Int32) (cS : Int32) (h0 : Heap) (n0 : Nat) (Z0 : n0 ≤ h0.size) (O0 : Old Z n0 h0) (S_cs : Sta Z Z.heap "java/lang/String" "COMPACT_STRINGS" "Z" (.int cS)) (hcS : ¬ (cS = (0 : Int32))) (S_ad : Sta Z Z.heap "java/lang/StringUTF16" "$assertionsDisabled" "Z" (.int (1 : Int32))) (S_hi : Sta Z Z.heap "java/lang/StringUTF16" "HI_BYTE_SHIFT" "I" (.int (0 : Int32))) (S_lo : Sta Z Z.heap "java/lang/StringUTF16" "LO_BYTE_SHIFT" "I" (.int (8 : Int32))) (E1 : Exa Z h0 a "java/lang/String") (F1 : Fld Z h0 a "java/lang/String" "value" "[B" .null) (F2 : Fld Z h0 a "java/lang/String" "coder" "B" (.int (0 : Int32))) (hg : n0 ≤ a) (Vs : Arv Z h0 src kc .char (Int32.ofNat cs.length) (cs.map Value.int) (.int (0 : Int32))) (ok : OkS cs) (hcap : cs.length ≤ 4) (hpos : 0 < cs.length) (hne : a ≠ src) :
    MetFree l (⟨"java/lang/String", "<init>", "([C)V"⟩ : MethodName) (head1 (Jvm.Cond.code (⟨"java/lang/String", "<init>", "([C)V"⟩ : MethodName) jdk_42_method_3_code 2 none :: ws) ({ frames := 5, cells := 2, slots := 12, locals := 74 } : Room)) (fun aQ_ UQ => aQ_ = #[(.ref a), (.ref src)] ∧ Z.Warmed39 UQ.vm ∧ UQ.heap = h0) (fun _ _ _ _ _ => True) (fun _ UQ oQ UQ' => ∃ vQ_ LQ_, oQ = .returned vQ_ ∧ Q_sinit Z a src kc cs cS h0 n0 vQ_ UQ'.heap LQ_ ∧ FrameEnd UQ oQ UQ' LQ_ ({ frames := 5, cells := 2, slots := 12, locals := 74 } : Room).cells ({ frames := 5, cells := 2, slots := 12, locals := 74 } : Room).slots) := by
  refine MetFree.of_bodySF (plainFor_of_name pn_java_lang_String) hisR ?_
  intro p e s m args below meth cO s₁ Bd hml0 hP hK
  obtain ⟨rfl, hZ, hh⟩ := hP
  have hx := Bd.exec
  have hby := Bd.bytes
  have hml : cO.maxLocals = 2 := hml0
  have hown : s.vm.findClass "java/lang/String" = some m.cls := findClass_of_methodNamed Bd.named
  have hnm := (name_of_methodNamed Bd.named Bd.method).1
  have X0 : Stand p l e ({ frames := 5, cells := 2, slots := 12, locals := 74 } : Room) s m #[(.ref a), (.ref src)] below meth cO s₁ [] 0 0 := Stand.of_body Bd
  have e0 : s₁.heap = h0 := by rw [← hh, Bd.state]; rfl
  have N0 := Fr.nil n0
  have W0 : ∀ zQ, SS p e below s₁ m 0 #[.val (.ref a), .val (.ref src)] [] zQ → Steps p.tables e below (s₁.setTop (entryFrame m #[(.ref a), (.ref src)] 2)) zQ := fun tt kt => castTop (ef_sinit m a src) kt
  obtain ⟨cl101, Ar101, -, S101, M101, -, -⟩ := id Vs
  obtain ⟨_, _, ⟨T102, L102, k102, n102⟩, -, X102, ⟨Lc102, hQ102, l102, y102, z102⟩, st102⟩ := X0.specialBack hx (y := (⟨"java/lang/String", "<init>", "([CIILjava/lang/Void;)V"⟩ : MethodName)) rfl hown (mvT hZ (w12 hw)) (mvT hZ (w13 hw)) (mvT hZ (w15 hw)) (by decide) (backOf (W := 0) (rm_sinitV l Z a0 hw [] a src kc cs cS h0 n0 Z0 O0 S_cs hcS S_ad S_hi S_lo E1 F1 F2 hg Vs ok hcap hpos hne) hZ (w15 hw) (w8 hw) (by decide) (by decide)) (g := (mkF m 6 #[.val (.ref a), .val (.ref src)] [.null, (.int (Int32.ofNat cs.length)), (.int (0 : Int32)), (.ref src), (.ref a)])) rfl (by rw [hml]; rfl) (Steps.refl _) (a := a) (argsL := [(.ref src), (.int (0 : Int32)), (.int (Int32.ofNat cs.length)), .null]) (rest := []) (lenOf pd__28__5b_CIILjava_2f_lang_2f_Void_3b__29_V rfl) rfl (by show 2 * 0 + _ ≤ _; exact Nat.le_of_eq rfl) (hb hby d_jdk_42_method_3_6) (fun _ _ => ⟨rfl, e0, (Nat.le_of_ble_eq_true rfl), (Nat.le_of_ble_eq_true rfl)⟩)
  dsimp only [Pt.U, Pt.locs, Pt.cells, Pt.slots] at X102 l102 y102 z102 st102 hQ102
  subst l102 y102 z102
  obtain ⟨t_103, kb_104, rfl, Nq102, K102, P102_0, P102_1⟩ := hQ102
  have N102 := Fr.app N0 Nq102
  have W105 : ∀ zQ, SS p e below T102 m 9 #[.val (.ref a), .val (.ref src)] [] zQ → Steps p.tables e below (s₁.setTop (entryFrame m #[(.ref a), (.ref src)] 2)) zQ := by
    intro tt kt
    refine W0 tt ?_
    refine XS.aloadN X0.here hx rfl (hb hby d_jdk_42_method_3_0) rfl rfl ?_
    show SS p e below s₁ m 1 #[.val (.ref a), .val (.ref src)] [(.ref a)] _
    refine XS.aloadN X0.here hx rfl (hb hby d_jdk_42_method_3_1) rfl rfl ?_
    show SS p e below s₁ m 2 #[.val (.ref a), .val (.ref src)] [(.ref src), (.ref a)] _
    refine XS.iconst X0.here hx rfl (hb hby d_jdk_42_method_3_2) ?_
    show SS p e below s₁ m 3 #[.val (.ref a), .val (.ref src)] [(.int (0 : Int32)), (.ref src), (.ref a)] _
    refine XS.aloadN X0.here hx rfl (hb hby d_jdk_42_method_3_3) rfl rfl ?_
    show SS p e below s₁ m 4 #[.val (.ref a), .val (.ref src)] [(.ref src), (.int (0 : Int32)), (.ref src), (.ref a)] _
    refine X0.arraylength hx (by first | exact Ar101.1 | (rw [e0]; exact Ar101.1)) (State.isArrayOf_alike hZ.alike Ar101.2.1) (g := (mkF m 4 #[.val (.ref a), .val (.ref src)] [(.ref src), (.int (0 : Int32)), (.ref src), (.ref a)])) rfl rfl (hb hby d_jdk_42_method_3_4) _ ?_
    rw [len_of S101 M101]
    show SS p e below s₁ m 5 #[.val (.ref a), .val (.ref src)] [(.int (Int32.ofNat cs.length)), (.int (0 : Int32)), (.ref src), (.ref a)] _
    refine XS.aconstNull X0.here hx rfl (hb hby d_jdk_42_method_3_5) ?_
    show SS p e below s₁ m 6 #[.val (.ref a), .val (.ref src)] [.null, (.int (Int32.ofNat cs.length)), (.int (0 : Int32)), (.ref src), (.ref a)] _
    refine st102.trans ?_
    show SS p e below T102 m 9 #[.val (.ref a), .val (.ref src)] [] _
    exact kt
  obtain ⟨fs, hr, hrun, hended, hW, hsame⟩ := X102.leave (v := none) (fun _ => rfl)
  refine ⟨_, _, W105 _ (X102.returnOut hx Bd.returns (hb hby d_jdk_42_method_3_9) hr), hrun, hended, _, _, rfl, ?_, ⟨_, rfl⟩, hW, hsame.mono (by decide) (by decide)⟩
  show Q_sinit Z a src kc cs cS h0 n0 _ T102.heap _
  exact ⟨t_103, kb_104, rfl, N102, (Keep.trans (Keep.refl h0 [a]) K102 (allS (Or.inl (List.mem_of_getElem? (i := 0) rfl)) all0)), P102_0, P102_1⟩
def Q_endsLine (Z : State) (a : Addr) (i : Nat) (t : Addr) (kb : ClassId) (cs : List Int32) (cS : Int32) (fm : Value) (h0 : Heap) (n0 : Nat) (vQ_ : Option Value) (hQ_ : Heap) (LQ_ : List Loc) : Prop := vQ_ = some (.int (el cs i)) ∧ Fr n0 LQ_ ∧ hQ_ = h0
set_option maxRecDepth 65536 in
set_option maxHeartbeats 40000000 in
theorem rm_endsLine (l : Launch) (Z : State) (a0 : Array Value) (hw : ∀ d ∈ tables_1, d.before a0 Z = true) (ws : List Jvm.Cond) (a : Addr) (i : Nat) (t : Addr) (kb : ClassId) (cs : List Int32) (cS : Int32) (fm : Value) (h0 : Heap) (n0 : Nat) (Z0 : n0 ≤ h0.size) (O0 : Old Z n0 h0) (S_cs : Sta Z Z.heap "java/lang/String" "COMPACT_STRINGS" "Z" (.int cS)) (hcS : ¬ (cS = (0 : Int32))) (S_fm : Sta Z Z.heap "jdk/internal/util/Preconditions" "SIOOBE_FORMATTER" "Ljava/util/function/BiFunction;" fm) (hfm : fm.isRef = true) (S_ad : Sta Z Z.heap "java/lang/StringUTF16" "$assertionsDisabled" "Z" (.int (1 : Int32))) (S_hi : Sta Z Z.heap "java/lang/StringUTF16" "HI_BYTE_SHIFT" "I" (.int (0 : Int32))) (S_lo : Sta Z Z.heap "java/lang/StringUTF16" "LO_BYTE_SHIFT" "I" (.int (8 : Int32))) (hS : Str Z h0 a t kb cs) (hi : i < cs.length) :
    MetFree l (⟨"com/example/vestline/vestline/input/TextFiles", "endsLine", "(Ljava/lang/String;I)Z"⟩ : MethodName) (head1 (Jvm.Cond.code (⟨"com/example/vestline/vestline/input/TextFiles", "endsLine", "(Ljava/lang/String;I)Z"⟩ : MethodName) prog_12_method_5_code 3 (some .boolean) :: ws) ({ frames := 5, cells := 0, slots := 0, locals := 66 } : Room)) (fun aQ_ UQ => aQ_ = #[(.ref a), (.int (Int32.ofNat i))] ∧ Z.Warmed39 UQ.vm ∧ UQ.heap = h0) (fun _ _ _ _ _ => True) (fun _ UQ oQ UQ' => ∃ vQ_ LQ_, oQ = .returned vQ_ ∧ Q_endsLine Z a i t kb cs cS fm h0 n0 vQ_ UQ'.heap LQ_ ∧ FrameEnd UQ oQ UQ' LQ_ ({ frames := 5, cells := 0, slots := 0, locals := 66 } : Room).cells ({ frames := 5, cells := 0, slots := 0, locals := 66 } : Room).slots) := by
  refine MetFree.of_bodySF (plainFor_of_name pn_com_example_vestline_vestline_input_TextFiles) hisR ?_
  intro p e s m args below meth cO s₁ Bd hml0 hP hK
  obtain ⟨rfl, hZ, hh⟩ := hP
  have hx := Bd.exec
  have hby := Bd.bytes
  have hml : cO.maxLocals = 3 := hml0
  have hown : s.vm.findClass "com/example/vestline/vestline/input/TextFiles" = some m.cls := findClass_of_methodNamed Bd.named
  have hnm := (name_of_methodNamed Bd.named Bd.method).1
  have X0 : Stand p l e ({ frames := 5, cells := 0, slots := 0, locals := 66 } : Room) s m #[(.ref a), (.int (Int32.ofNat i))] below meth cO s₁ [] 0 0 := Stand.of_body Bd
  have e0 : s₁.heap = h0 := by rw [← hh, Bd.state]; rfl
  have N0 := Fr.nil n0
  have W0 : ∀ zQ, SS p e below s₁ m 0 #[.val (.ref a), .val (.int (Int32.ofNat i)), .unset] [] zQ → Steps p.tables e below (s₁.setTop (entryFrame m #[(.ref a), (.int (Int32.ofNat i))] 3)) zQ := fun tt kt => castTop (ef_endsLine m a (Int32.ofNat i)) kt
  have hn : cs.length < 1048576 := hS.2.2.2.2.2
  obtain ⟨cq101, kq101, q101a, q101b, q101c⟩ := isOf hZ e0 hS.1
  obtain ⟨_, _, ⟨T101, L101, k101, n101⟩, -, X101, ⟨Lc101, hQ101, l101, y101, z101⟩, st101⟩ := X0.virtualBack hx (y := (⟨"java/lang/String", "charAt", "(I)C"⟩ : MethodName)) (z := (⟨"java/lang/String", "charAt", "(I)C"⟩ : MethodName)) hown (mvT hZ (w39 hw)) (mvT hZ (w40 hw)) (notFace_of_selects (args := #[]) (mvT hZ (w42 hw))) (mvT hZ (w42 hw)) (mvT hZ (w41 hw)) (by decide) (backOf (W := 0) (rm_charAt l Z a0 hw [] a i t kb cs cS fm h0 n0 Z0 O0 S_cs hcS S_fm hfm S_ad S_hi S_lo hS hi) hZ (w43 hw) (w8 hw) (by decide) (by decide)) q101a q101c (g := (mkF m 2 #[.val (.ref a), .val (.int (Int32.ofNat i)), .unset] [(.int (Int32.ofNat i)), (.ref a)])) rfl (by rw [hml]; rfl) (Steps.refl _) (argsL := [(.int (Int32.ofNat i))]) (rest := []) (lenOf pd__28_I_29_C rfl) rfl (by show 2 * 0 + _ ≤ _; exact Nat.le_of_eq rfl) (hb hby d_prog_12_method_5_2) (fun _ _ => ⟨rfl, e0, (Nat.le_of_ble_eq_true rfl), (Nat.le_of_ble_eq_true rfl)⟩)
  dsimp only [Pt.U, Pt.locs, Pt.cells, Pt.slots] at X101 l101 y101 z101 st101 hQ101
  subst l101 y101 z101
  obtain ⟨rfl, Nq101, eq101⟩ := hQ101
  have N101 := Fr.app N0 Nq101
  have W102 : ∀ zQ, SS p e below T101 m 9 #[.val (.ref a), .val (.int (Int32.ofNat i)), .val (.int (cs.getD i 0))] [(.int (10 : Int32)), (.int (cs.getD i 0))] zQ → Steps p.tables e below (s₁.setTop (entryFrame m #[(.ref a), (.int (Int32.ofNat i))] 3)) zQ := by
    intro tt kt
    refine W0 tt ?_
    refine XS.aloadN X0.here hx rfl (hb hby d_prog_12_method_5_0) rfl rfl ?_
    show SS p e below s₁ m 1 #[.val (.ref a), .val (.int (Int32.ofNat i)), .unset] [(.ref a)] _
    refine XS.iloadN X0.here hx rfl (hb hby d_prog_12_method_5_1) rfl ?_
    show SS p e below s₁ m 2 #[.val (.ref a), .val (.int (Int32.ofNat i)), .unset] [(.int (Int32.ofNat i)), (.ref a)] _
    refine st101.trans ?_
    show SS p e below T101 m 5 #[.val (.ref a), .val (.int (Int32.ofNat i)), .unset] [(.int (cs.getD i 0))] _
    refine XS.istoreN X101.here hx rfl (hb hby d_prog_12_method_5_5) rfl (l' := #[.val (.ref a), .val (.int (Int32.ofNat i)), .val (.int (cs.getD i 0))]) rfl ?_
    show SS p e below T101 m 6 #[.val (.ref a), .val (.int (Int32.ofNat i)), .val (.int (cs.getD i 0))] [] _
    refine XS.iloadN X101.here hx rfl (hb hby d_prog_12_method_5_6) rfl ?_
    show SS p e below T101 m 7 #[.val (.ref a), .val (.int (Int32.ofNat i)), .val (.int (cs.getD i 0))] [(.int (cs.getD i 0))] _
    refine XS.bipush X101.here hx rfl (hb hby d_prog_12_method_5_7) ?_
    show SS p e below T101 m 9 #[.val (.ref a), .val (.int (Int32.ofNat i)), .val (.int (cs.getD i 0))] [(.int (10 : Int32)), (.int (cs.getD i 0))] _
    exact kt
  by_cases hc103 : (cs.getD i 0) = (10 : Int32)
  ·
    have W104 : ∀ zQ, SS p e below T101 m 45 #[.val (.ref a), .val (.int (Int32.ofNat i)), .val (.int (cs.getD i 0))] [(.int (1 : Int32))] zQ → Steps p.tables e below (s₁.setTop (entryFrame m #[(.ref a), (.int (Int32.ofNat i))] 3)) zQ := by
      intro tt kt
      refine W102 tt ?_
      refine XS.icmpYes X101.here hx rfl (pc0 := 9) (pc' := 40) rfl (hb hby d_prog_12_method_5_9) rfl (teq hc103).1 (by decide) (by decide) ?_
      show SS p e below T101 m 40 #[.val (.ref a), .val (.int (Int32.ofNat i)), .val (.int (cs.getD i 0))] [] _
      refine XS.iconst X101.here hx rfl (hb hby d_prog_12_method_5_40) ?_
      show SS p e below T101 m 41 #[.val (.ref a), .val (.int (Int32.ofNat i)), .val (.int (cs.getD i 0))] [(.int (1 : Int32))] _
      refine XS.goto X101.here hx rfl (pc0 := 41) (pc' := 45) rfl (hb hby d_prog_12_method_5_41) (by decide) (by decide) ?_
      show SS p e below T101 m 45 #[.val (.ref a), .val (.int (Int32.ofNat i)), .val (.int (cs.getD i 0))] [(.int (1 : Int32))] _
      exact kt
    obtain ⟨fs, hr, hrun, hended, hW, hsame⟩ := X101.leave (v := some (.int (nar .boolean (1 : Int32)))) (fun h => by rw [Bd.returns] at h; cases h)
    refine ⟨_, _, W104 _ (retN X101 hx (t := .boolean) Bd.returns (by simp) (hb hby d_prog_12_method_5_45) hr), hrun, hended, _, _, rfl, ?_, ⟨_, rfl⟩, hW, hsame.mono (by decide) (by decide)⟩
    show Q_endsLine Z a i t kb cs cS fm h0 n0 _ T101.heap _
    rw [eq101]
    exact ⟨(congrArg (fun q => some (Value.int q)) (by simp only [el, if_pos hc103]; first | done | decide)), N101, rfl⟩
  ·
    have W105 : ∀ zQ, SS p e below T101 m 15 #[.val (.ref a), .val (.int (Int32.ofNat i)), .val (.int (cs.getD i 0))] [(.int (13 : Int32)), (.int (cs.getD i 0))] zQ → Steps p.tables e below (s₁.setTop (entryFrame m #[(.ref a), (.int (Int32.ofNat i))] 3)) zQ := by
      intro tt kt
      refine W102 tt ?_
      refine XS.icmpNo X101.here hx rfl (hb hby d_prog_12_method_5_9) rfl (feq hc103).1 ?_
      show SS p e below T101 m 12 #[.val (.ref a), .val (.int (Int32.ofNat i)), .val (.int (cs.getD i 0))] [] _
      refine XS.iloadN X101.here hx rfl (hb hby d_prog_12_method_5_12) rfl ?_
      show SS p e below T101 m 13 #[.val (.ref a), .val (.int (Int32.ofNat i)), .val (.int (cs.getD i 0))] [(.int (cs.getD i 0))] _
      refine XS.bipush X101.here hx rfl (hb hby d_prog_12_method_5_13) ?_
      show SS p e below T101 m 15 #[.val (.ref a), .val (.int (Int32.ofNat i)), .val (.int (cs.getD i 0))] [(.int (13 : Int32)), (.int (cs.getD i 0))] _
      exact kt
    by_cases hc106 : (cs.getD i 0) = (13 : Int32)
    ·
      obtain ⟨cq107, kq107, q107a, q107b, q107c⟩ := isOf hZ eq101 hS.1
      obtain ⟨_, _, ⟨T107, L107, k107, n107⟩, -, X107, ⟨Lc107, hQ107, l107, y107, z107⟩, st107⟩ := X101.virtualBack hx (y := (⟨"java/lang/String", "length", "()I"⟩ : MethodName)) (z := (⟨"java/lang/String", "length", "()I"⟩ : MethodName)) hown (mvT hZ (w61 hw)) (mvT hZ (w62 hw)) (notFace_of_selects (args := #[]) (mvT hZ (w64 hw))) (mvT hZ (w64 hw)) (mvT hZ (w63 hw)) (by decide) (backOf (W := 1) (rm_length l Z a0 hw [] a t kb cs cS h0 n0 Z0 O0 S_cs hcS hS) hZ (w65 hw) (w8 hw) (by decide) (by decide)) q107a q107c (g := (mkF m 22 #[.val (.ref a), .val (.int (Int32.ofNat i)), .val (.int (cs.getD i 0))] [(.ref a), (.int (Int32.ofNat (i + 1)))])) rfl (by rw [hml]; rfl) (Steps.refl _) (argsL := []) (rest := [(.int (Int32.ofNat (i + 1)))]) (lenOf pd__28__29_I rfl) rfl (by show 2 * 0 + _ ≤ _; exact Nat.le_of_eq rfl) (hb hby d_prog_12_method_5_22) (fun _ _ => ⟨rfl, eq101, (Nat.le_of_ble_eq_true rfl), (Nat.le_of_ble_eq_true rfl)⟩)
      dsimp only [Pt.U, Pt.locs, Pt.cells, Pt.slots] at X107 l107 y107 z107 st107 hQ107
      subst l107 y107 z107
      obtain ⟨rfl, Nq107, eq107⟩ := hQ107
      have N107 := Fr.app N101 Nq107
      have W108 : ∀ zQ, SS p e below T107 m 25 #[.val (.ref a), .val (.int (Int32.ofNat i)), .val (.int (cs.getD i 0))] [(.int (Int32.ofNat cs.length)), (.int (Int32.ofNat (i + 1)))] zQ → Steps p.tables e below (s₁.setTop (entryFrame m #[(.ref a), (.int (Int32.ofNat i))] 3)) zQ := by
        intro tt kt
        refine W105 tt ?_
        refine XS.icmpNo X101.here hx rfl (hb hby d_prog_12_method_5_15) rfl (teq hc106).2 ?_
        show SS p e below T101 m 18 #[.val (.ref a), .val (.int (Int32.ofNat i)), .val (.int (cs.getD i 0))] [] _
        refine XS.iloadN X101.here hx rfl (hb hby d_prog_12_method_5_18) rfl ?_
        show SS p e below T101 m 19 #[.val (.ref a), .val (.int (Int32.ofNat i)), .val (.int (cs.getD i 0))] [(.int (Int32.ofNat i))] _
        refine XS.iconst X101.here hx rfl (hb hby d_prog_12_method_5_19) ?_
        show SS p e below T101 m 20 #[.val (.ref a), .val (.int (Int32.ofNat i)), .val (.int (cs.getD i 0))] [(.int (1 : Int32)), (.int (Int32.ofNat i))] _
        refine XS.iadd X101.here hx rfl (hb hby d_prog_12_method_5_20) rfl ?_
        show SS p e below T101 m 21 #[.val (.ref a), .val (.int (Int32.ofNat i)), .val (.int (cs.getD i 0))] [(.int ((Int32.ofNat i) + (1 : Int32)))] _
        rw [show ((Int32.ofNat i) + (1 : Int32)) = (Int32.ofNat (i + 1)) from own_succ _]
        show SS p e below T101 m 21 #[.val (.ref a), .val (.int (Int32.ofNat i)), .val (.int (cs.getD i 0))] [(.int (Int32.ofNat (i + 1)))] _
        refine XS.aloadN X101.here hx rfl (hb hby d_prog_12_method_5_21) rfl rfl ?_
        show SS p e below T101 m 22 #[.val (.ref a), .val (.int (Int32.ofNat i)), .val (.int (cs.getD i 0))] [(.ref a), (.int (Int32.ofNat (i + 1)))] _
        refine st107.trans ?_
        show SS p e below T107 m 25 #[.val (.ref a), .val (.int (Int32.ofNat i)), .val (.int (cs.getD i 0))] [(.int (Int32.ofNat cs.length)), (.int (Int32.ofNat (i + 1)))] _
        exact kt
      by_cases hc109 : (Int32.ofNat (i + 1)) = (Int32.ofNat cs.length)
      ·
        have hq : i + 1 = cs.length := by have q := congrArg Int32.toInt hc109; rw [own_i (by omega), own_i (by omega)] at q; omega
        have W110 : ∀ zQ, SS p e below T107 m 45 #[.val (.ref a), .val (.int (Int32.ofNat i)), .val (.int (cs.getD i 0))] [(.int (1 : Int32))] zQ → Steps p.tables e below (s₁.setTop (entryFrame m #[(.ref a), (.int (Int32.ofNat i))] 3)) zQ := by
          intro tt kt
          refine W108 tt ?_
          refine XS.icmpYes X107.here hx rfl (pc0 := 25) (pc' := 40) rfl (hb hby d_prog_12_method_5_25) rfl (teq hc109).1 (by decide) (by decide) ?_
          show SS p e below T107 m 40 #[.val (.ref a), .val (.int (Int32.ofNat i)), .val (.int (cs.getD i 0))] [] _
          refine XS.iconst X107.here hx rfl (hb hby d_prog_12_method_5_40) ?_
          show SS p e below T107 m 41 #[.val (.ref a), .val (.int (Int32.ofNat i)), .val (.int (cs.getD i 0))] [(.int (1 : Int32))] _
          refine XS.goto X107.here hx rfl (pc0 := 41) (pc' := 45) rfl (hb hby d_prog_12_method_5_41) (by decide) (by decide) ?_
          show SS p e below T107 m 45 #[.val (.ref a), .val (.int (Int32.ofNat i)), .val (.int (cs.getD i 0))] [(.int (1 : Int32))] _
          exact kt
        obtain ⟨fs, hr, hrun, hended, hW, hsame⟩ := X107.leave (v := some (.int (nar .boolean (1 : Int32)))) (fun h => by rw [Bd.returns] at h; cases h)
        refine ⟨_, _, W110 _ (retN X107 hx (t := .boolean) Bd.returns (by simp) (hb hby d_prog_12_method_5_45) hr), hrun, hended, _, _, rfl, ?_, ⟨_, rfl⟩, hW, hsame.mono (by decide) (by decide)⟩
        show Q_endsLine Z a i t kb cs cS fm h0 n0 _ T107.heap _
        rw [eq107]
        exact ⟨(congrArg (fun q => some (Value.int q)) (by simp only [el, if_neg hc103, if_pos hc106, if_pos hq]; first | done | decide)), N107, rfl⟩
      ·
        have hq : ¬ i + 1 = cs.length := fun q => hc109 (by rw [q])
        obtain ⟨cq111, kq111, q111a, q111b, q111c⟩ := isOf hZ eq107 hS.1
        obtain ⟨_, _, ⟨T111, L111, k111, n111⟩, -, X111, ⟨Lc111, hQ111, l111, y111, z111⟩, st111⟩ := X107.virtualBack hx (y := (⟨"java/lang/String", "charAt", "(I)C"⟩ : MethodName)) (z := (⟨"java/lang/String", "charAt", "(I)C"⟩ : MethodName)) hown (mvT hZ (w39 hw)) (mvT hZ (w40 hw)) (notFace_of_selects (args := #[]) (mvT hZ (w42 hw))) (mvT hZ (w42 hw)) (mvT hZ (w41 hw)) (by decide) (backOf (W := 0) (rm_charAt l Z a0 hw [] a (i + 1) t kb cs cS fm h0 n0 Z0 O0 S_cs hcS S_fm hfm S_ad S_hi S_lo hS (by omega)) hZ (w43 hw) (w8 hw) (by decide) (by decide)) q111a q111c (g := (mkF m 32 #[.val (.ref a), .val (.int (Int32.ofNat i)), .val (.int (cs.getD i 0))] [(.int (Int32.ofNat (i + 1))), (.ref a)])) rfl (by rw [hml]; rfl) (Steps.refl _) (argsL := [(.int (Int32.ofNat (i + 1)))]) (rest := []) (lenOf pd__28_I_29_C rfl) rfl (by show 2 * 0 + _ ≤ _; exact Nat.le_of_eq rfl) (hb hby d_prog_12_method_5_32) (fun _ _ => ⟨rfl, eq107, (Nat.le_of_ble_eq_true rfl), (Nat.le_of_ble_eq_true rfl)⟩)
        dsimp only [Pt.U, Pt.locs, Pt.cells, Pt.slots] at X111 l111 y111 z111 st111 hQ111
        subst l111 y111 z111
        obtain ⟨rfl, Nq111, eq111⟩ := hQ111
        have N111 := Fr.app N107 Nq111
        have W112 : ∀ zQ, SS p e below T111 m 37 #[.val (.ref a), .val (.int (Int32.ofNat i)), .val (.int (cs.getD i 0))] [(.int (10 : Int32)), (.int (cs.getD (i + 1) 0))] zQ → Steps p.tables e below (s₁.setTop (entryFrame m #[(.ref a), (.int (Int32.ofNat i))] 3)) zQ := by
          intro tt kt
          refine W108 tt ?_
          refine XS.icmpNo X107.here hx rfl (hb hby d_prog_12_method_5_25) rfl (feq hc109).1 ?_
          show SS p e below T107 m 28 #[.val (.ref a), .val (.int (Int32.ofNat i)), .val (.int (cs.getD i 0))] [] _
          refine XS.aloadN X107.here hx rfl (hb hby d_prog_12_method_5_28) rfl rfl ?_
          show SS p e below T107 m 29 #[.val (.ref a), .val (.int (Int32.ofNat i)), .val (.int (cs.getD i 0))] [(.ref a)] _
          refine XS.iloadN X107.here hx rfl (hb hby d_prog_12_method_5_29) rfl ?_
          show SS p e below T107 m 30 #[.val (.ref a), .val (.int (Int32.ofNat i)), .val (.int (cs.getD i 0))] [(.int (Int32.ofNat i)), (.ref a)] _
          refine XS.iconst X107.here hx rfl (hb hby d_prog_12_method_5_30) ?_
          show SS p e below T107 m 31 #[.val (.ref a), .val (.int (Int32.ofNat i)), .val (.int (cs.getD i 0))] [(.int (1 : Int32)), (.int (Int32.ofNat i)), (.ref a)] _
          refine XS.iadd X107.here hx rfl (hb hby d_prog_12_method_5_31) rfl ?_
          show SS p e below T107 m 32 #[.val (.ref a), .val (.int (Int32.ofNat i)), .val (.int (cs.getD i 0))] [(.int ((Int32.ofNat i) + (1 : Int32))), (.ref a)] _
          rw [show ((Int32.ofNat i) + (1 : Int32)) = (Int32.ofNat (i + 1)) from own_succ _]
          show SS p e below T107 m 32 #[.val (.ref a), .val (.int (Int32.ofNat i)), .val (.int (cs.getD i 0))] [(.int (Int32.ofNat (i + 1))), (.ref a)] _
          refine st111.trans ?_
          show SS p e below T111 m 35 #[.val (.ref a), .val (.int (Int32.ofNat i)), .val (.int (cs.getD i 0))] [(.int (cs.getD (i + 1) 0))] _
          refine XS.bipush X111.here hx rfl (hb hby d_prog_12_method_5_35) ?_
          show SS p e below T111 m 37 #[.val (.ref a), .val (.int (Int32.ofNat i)), .val (.int (cs.getD i 0))] [(.int (10 : Int32)), (.int (cs.getD (i + 1) 0))] _
          exact kt
        by_cases hc113 : (cs.getD (i + 1) 0) = (10 : Int32)
        ·
          have W114 : ∀ zQ, SS p e below T111 m 45 #[.val (.ref a), .val (.int (Int32.ofNat i)), .val (.int (cs.getD i 0))] [(.int (0 : Int32))] zQ → Steps p.tables e below (s₁.setTop (entryFrame m #[(.ref a), (.int (Int32.ofNat i))] 3)) zQ := by
            intro tt kt
            refine W112 tt ?_
            refine XS.icmpYes X111.here hx rfl (pc0 := 37) (pc' := 44) rfl (hb hby d_prog_12_method_5_37) rfl (teq hc113).1 (by decide) (by decide) ?_
            show SS p e below T111 m 44 #[.val (.ref a), .val (.int (Int32.ofNat i)), .val (.int (cs.getD i 0))] [] _
            refine XS.iconst X111.here hx rfl (hb hby d_prog_12_method_5_44) ?_
            show SS p e below T111 m 45 #[.val (.ref a), .val (.int (Int32.ofNat i)), .val (.int (cs.getD i 0))] [(.int (0 : Int32))] _
            exact kt
          obtain ⟨fs, hr, hrun, hended, hW, hsame⟩ := X111.leave (v := some (.int (nar .boolean (0 : Int32)))) (fun h => by rw [Bd.returns] at h; cases h)
          refine ⟨_, _, W114 _ (retN X111 hx (t := .boolean) Bd.returns (by simp) (hb hby d_prog_12_method_5_45) hr), hrun, hended, _, _, rfl, ?_, ⟨_, rfl⟩, hW, hsame.mono (by decide) (by decide)⟩
          show Q_endsLine Z a i t kb cs cS fm h0 n0 _ T111.heap _
          rw [eq111]
          exact ⟨(congrArg (fun q => some (Value.int q)) (by simp only [el, if_neg hc103, if_pos hc106, if_neg hq, if_pos hc113]; first | done | decide)), N111, rfl⟩
        ·
          have W115 : ∀ zQ, SS p e below T111 m 45 #[.val (.ref a), .val (.int (Int32.ofNat i)), .val (.int (cs.getD i 0))] [(.int (1 : Int32))] zQ → Steps p.tables e below (s₁.setTop (entryFrame m #[(.ref a), (.int (Int32.ofNat i))] 3)) zQ := by
            intro tt kt
            refine W112 tt ?_
            refine XS.icmpNo X111.here hx rfl (hb hby d_prog_12_method_5_37) rfl (feq hc113).1 ?_
            show SS p e below T111 m 40 #[.val (.ref a), .val (.int (Int32.ofNat i)), .val (.int (cs.getD i 0))] [] _
            refine XS.iconst X111.here hx rfl (hb hby d_prog_12_method_5_40) ?_
            show SS p e below T111 m 41 #[.val (.ref a), .val (.int (Int32.ofNat i)), .val (.int (cs.getD i 0))] [(.int (1 : Int32))] _
            refine XS.goto X111.here hx rfl (pc0 := 41) (pc' := 45) rfl (hb hby d_prog_12_method_5_41) (by decide) (by decide) ?_
            show SS p e below T111 m 45 #[.val (.ref a), .val (.int (Int32.ofNat i)), .val (.int (cs.getD i 0))] [(.int (1 : Int32))] _
            exact kt
          obtain ⟨fs, hr, hrun, hended, hW, hsame⟩ := X111.leave (v := some (.int (nar .boolean (1 : Int32)))) (fun h => by rw [Bd.returns] at h; cases h)
          refine ⟨_, _, W115 _ (retN X111 hx (t := .boolean) Bd.returns (by simp) (hb hby d_prog_12_method_5_45) hr), hrun, hended, _, _, rfl, ?_, ⟨_, rfl⟩, hW, hsame.mono (by decide) (by decide)⟩
          show Q_endsLine Z a i t kb cs cS fm h0 n0 _ T111.heap _
          rw [eq111]
          exact ⟨(congrArg (fun q => some (Value.int q)) (by simp only [el, if_neg hc103, if_pos hc106, if_neg hq, if_neg hc113]; first | done | decide)), N111, rfl⟩
    ·
      have W116 : ∀ zQ, SS p e below T101 m 45 #[.val (.ref a), .val (.int (Int32.ofNat i)), .val (.int (cs.getD i 0))] [(.int (0 : Int32))] zQ → Steps p.tables e below (s₁.setTop (entryFrame m #[(.ref a), (.int (Int32.ofNat i))] 3)) zQ := by
        intro tt kt
        refine W105 tt ?_
        refine XS.icmpYes X101.here hx rfl (pc0 := 15) (pc' := 44) rfl (hb hby d_prog_12_method_5_15) rfl (feq hc106).2 (by decide) (by decide) ?_
        show SS p e below T101 m 44 #[.val (.ref a), .val (.int (Int32.ofNat i)), .val (.int (cs.getD i 0))] [] _
        refine XS.iconst X101.here hx rfl (hb hby d_prog_12_method_5_44) ?_
        show SS p e below T101 m 45 #[.val (.ref a), .val (.int (Int32.ofNat i)), .val (.int (cs.getD i 0))] [(.int (0 : Int32))] _
        exact kt
      obtain ⟨fs, hr, hrun, hended, hW, hsame⟩ := X101.leave (v := some (.int (nar .boolean (0 : Int32)))) (fun h => by rw [Bd.returns] at h; cases h)
      refine ⟨_, _, W116 _ (retN X101 hx (t := .boolean) Bd.returns (by simp) (hb hby d_prog_12_method_5_45) hr), hrun, hended, _, _, rfl, ?_, ⟨_, rfl⟩, hW, hsame.mono (by decide) (by decide)⟩
      show Q_endsLine Z a i t kb cs cS fm h0 n0 _ T101.heap _
      rw [eq101]
      exact ⟨(congrArg (fun q => some (Value.int q)) (by simp only [el, if_neg hc103, if_neg hc106]; first | done | decide)), N101, rfl⟩
def Q_law (Z : State) (a : Int32) (b : Int32) (c : Int32) (len : Int32) (idx : Int32) (cS : Int32) (fm : Value) (h0 : Heap) (n0 : Nat) (vQ_ : Option Value) (hQ_ : Heap) (LQ_ : List Loc) : Prop := vQ_ = some (.int (1 : Int32)) ∧ Fr n0 LQ_ ∧ Keep h0 hQ_ []
set_option maxRecDepth 65536 in
set_option maxHeartbeats 40000000 in
theorem rm_law (l : Launch) (Z : State) (a0 : Array Value) (hw : ∀ d ∈ tables_1, d.before a0 Z = true) (ws : List Jvm.Cond) (a : Int32) (b : Int32) (c : Int32) (len : Int32) (idx : Int32) (cS : Int32) (fm : Value) (h0 : Heap) (n0 : Nat) (Z0 : n0 ≤ h0.size) (O0 : Old Z n0 h0) (S_cs : Sta Z Z.heap "java/lang/String" "COMPACT_STRINGS" "Z" (.int cS)) (hcS : ¬ (cS = (0 : Int32))) (S_fm : Sta Z Z.heap "jdk/internal/util/Preconditions" "SIOOBE_FORMATTER" "Ljava/util/function/BiFunction;" fm) (hfm : fm.isRef = true) (S_ad : Sta Z Z.heap "java/lang/StringUTF16" "$assertionsDisabled" "Z" (.int (1 : Int32))) (S_hi : Sta Z Z.heap "java/lang/StringUTF16" "HI_BYTE_SHIFT" "I" (.int (0 : Int32))) (S_lo : Sta Z Z.heap "java/lang/StringUTF16" "LO_BYTE_SHIFT" "I" (.int (8 : Int32))) :
    MetFree l x (head1 (Jvm.Cond.code x code maxLocals ret :: ws) room_1) (fun aQ_ UQ => aQ_ = #[(.int a), (.int b), (.int c), (.int len), (.int idx)] ∧ Z.Warmed39 UQ.vm ∧ UQ.heap = h0) (fun _ _ _ _ _ => True) (fun _ UQ oQ UQ' => ∃ vQ_ LQ_, oQ = .returned vQ_ ∧ Q_law Z a b c len idx cS fm h0 n0 vQ_ UQ'.heap LQ_ ∧ FrameEnd UQ oQ UQ' LQ_ room_1.cells room_1.slots) := by
  refine MetFree.of_bodySF (plainFor_of_name pn_com_example_vestline_vestline_input_TextFilesEndsLinePinLaw) hisR ?_
  intro p e s m args below meth cO s₁ Bd hml0 hP hK
  obtain ⟨rfl, hZ, hh⟩ := hP
  have hx := Bd.exec
  have hby := Bd.bytes
  have hml : cO.maxLocals = 13 := hml0
  have hown : s.vm.findClass "com/example/vestline/vestline/input/TextFilesEndsLinePinLaw" = some m.cls := findClass_of_methodNamed Bd.named
  have hnm := (name_of_methodNamed Bd.named Bd.method).1
  have X0 : Stand p l e room_1 s m #[(.int a), (.int b), (.int c), (.int len), (.int idx)] below meth cO s₁ [] 0 0 := Stand.of_body Bd
  have e0 : s₁.heap = h0 := by rw [← hh, Bd.state]; rfl
  have N0 := Fr.nil n0
  have W0 : ∀ zQ, SS p e below s₁ m 0 #[.val (.int a), .val (.int b), .val (.int c), .val (.int len), .val (.int idx), .unset, .unset, .unset, .unset, .unset, .unset, .unset, .unset] [] zQ → Steps p.tables e below (s₁.setTop (entryFrame m #[(.int a), (.int b), (.int c), (.int len), (.int idx)] maxLocals)) zQ := fun tt kt => castTop (ef_law m a b c len idx) kt
  obtain ⟨r, h_r⟩ : ∃ z : Int32, z = ((len &&& (2147483647 : Int32)) % (3 : Int32)) := ⟨_, rfl⟩
  have W101 : ∀ zQ, SS p e below s₁ m 7 #[.val (.int a), .val (.int b), .val (.int c), .val (.int len), .val (.int idx), .unset, .unset, .unset, .unset, .unset, .unset, .unset, .unset] [(.int r), (.int (1 : Int32))] zQ → Steps p.tables e below (s₁.setTop (entryFrame m #[(.int a), (.int b), (.int c), (.int len), (.int idx)] maxLocals)) zQ := by
    intro tt kt
    refine W0 tt ?_
    refine XS.iconst X0.here hx rfl (hb hby at_0) ?_
    show SS p e below s₁ m 1 #[.val (.int a), .val (.int b), .val (.int c), .val (.int len), .val (.int idx), .unset, .unset, .unset, .unset, .unset, .unset, .unset, .unset] [(.int (1 : Int32))] _
    refine XS.iloadN X0.here hx rfl (hb hby at_1) rfl ?_
    show SS p e below s₁ m 2 #[.val (.int a), .val (.int b), .val (.int c), .val (.int len), .val (.int idx), .unset, .unset, .unset, .unset, .unset, .unset, .unset, .unset] [(.int len), (.int (1 : Int32))] _
    refine X0.ldcInt hx hown (mvT hZ (w0 hw)) (g := (mkF m 2 #[.val (.int a), .val (.int b), .val (.int c), .val (.int len), .val (.int idx), .unset, .unset, .unset, .unset, .unset, .unset, .unset, .unset] [(.int len), (.int (1 : Int32))])) rfl (hb hby at_2) _ ?_
    show SS p e below s₁ m 4 #[.val (.int a), .val (.int b), .val (.int c), .val (.int len), .val (.int idx), .unset, .unset, .unset, .unset, .unset, .unset, .unset, .unset] [(.int (2147483647 : Int32)), (.int len), (.int (1 : Int32))] _
    refine XS.iand X0.here hx rfl (hb hby at_4) rfl ?_
    show SS p e below s₁ m 5 #[.val (.int a), .val (.int b), .val (.int c), .val (.int len), .val (.int idx), .unset, .unset, .unset, .unset, .unset, .unset, .unset, .unset] [(.int (len &&& (2147483647 : Int32))), (.int (1 : Int32))] _
    refine XS.iconst X0.here hx rfl (hb hby at_5) ?_
    show SS p e below s₁ m 6 #[.val (.int a), .val (.int b), .val (.int c), .val (.int len), .val (.int idx), .unset, .unset, .unset, .unset, .unset, .unset, .unset, .unset] [(.int (3 : Int32)), (.int (len &&& (2147483647 : Int32))), (.int (1 : Int32))] _
    refine Jvm.RoadKit.iremM X0 hx rfl (hb hby at_6) rfl (by decide) ?_
    show SS p e below s₁ m 7 #[.val (.int a), .val (.int b), .val (.int c), .val (.int len), .val (.int idx), .unset, .unset, .unset, .unset, .unset, .unset, .unset, .unset] [(.int ((len &&& (2147483647 : Int32)) % (3 : Int32))), (.int (1 : Int32))] _
    rw [← h_r]
    show SS p e below s₁ m 7 #[.val (.int a), .val (.int b), .val (.int c), .val (.int len), .val (.int idx), .unset, .unset, .unset, .unset, .unset, .unset, .unset, .unset] [(.int r), (.int (1 : Int32))] _
    exact kt
  rcases (h_r ▸ own_r3 len : r = 0 ∨ r = 1 ∨ r = 2) with rfl | rfl | rfl
  ·
    obtain ⟨T102, h102, k102, X102, e102, E102, A102, st102⟩ := newP X0 hx hZ (aty := .char) (w1 hw) e0 (g := (mkF m 12 #[.val (.int a), .val (.int b), .val (.int c), .val (.int len), .val (.int idx), .val (.int (1 : Int32)), .unset, .unset, .unset, .unset, .unset, .unset, .unset] [(.int (1 : Int32))])) rfl (hb hby at_12) (n := (1 : Int32)) rfl (by decide) (cap := 1) (by decide) (by decide) (by decide) (by decide)
    obtain ⟨b102, g102⟩ : ∃ z, z = h0.size := ⟨_, rfl⟩
    rw [← g102] at A102 st102
    have K102 := (Keep.refl h0 []).ext E102
    have G102 : Arv Z h102 b102 k102 .char (1 : Int32) [(.int (0 : Int32))] (.int (0 : Int32)) := (Arv.new A102 (by decide)).pad (pad_rep [] (.int (0 : Int32)) 1)
    obtain ⟨_, _, ⟨T103, L103, k103, n103⟩, -, X103, ⟨Lc103, hQ103, l103, y103, z103⟩, st103⟩ := Jvm.LawKit.callS X102 hx (y := (⟨"com/example/vestline/vestline/input/TextFilesEndsLinePinLaw", "pick", "(I)C"⟩ : MethodName)) hown (mvT hZ (w2 hw)) (mvT hZ (w3 hw)) (mvT hZ (w4 hw)) (mvT hZ (w5 hw)) (by decide) (backOf (W := 2) (rm_pick l Z a0 hw [] a h102 n0 (Nat.le_trans Z0 K102.1) ) hZ (w5 hw) (w4 hw) (by decide) (by decide)) (g := (mkF m 20 #[.val (.int a), .val (.int b), .val (.int c), .val (.int len), .val (.int idx), .val (.int (1 : Int32)), .val (.ref b102), .unset, .unset, .unset, .unset, .unset, .unset] [(.int a), (.int (0 : Int32)), (.ref b102)])) rfl (by rw [hml]; rfl) (argsL := [(.int a)]) (rest := [(.int (0 : Int32)), (.ref b102)]) (lenOf pd__28_I_29_C rfl) rfl (by show 2 * 0 + _ ≤ _; exact Nat.le_of_eq rfl) (hb hby at_20) (fun _ _ => ⟨rfl, e102, (Nat.le_of_ble_eq_true rfl), (Nat.le_of_ble_eq_true rfl)⟩)
    dsimp only [Pt.U, Pt.locs, Pt.cells, Pt.slots] at X103 l103 y103 z103 st103 hQ103
    subst l103 y103 z103
    obtain ⟨rfl, Nq103, eq103⟩ := hQ103
    have N103 := Fr.app N0 Nq103
    obtain ⟨cl104, Ar104, q104, S104, M104, H104, F104g⟩ := id G102
    have hin104 : ¬ ((0 : Int32) < 0 ∨ cl104.slots.size ≤ ((0 : Int32)).toNatClampNeg) := inb_of S104 ⟨by decide, by decide⟩
    obtain ⟨T104, h104, X104, e104, Wr104, st104⟩ := stC X103 hx hZ eq103 Ar104 (j := (0 : Int32)) hin104 (g := (mkF m 23 #[.val (.int a), .val (.int b), .val (.int c), .val (.int len), .val (.int idx), .val (.int (1 : Int32)), .val (.ref b102), .unset, .unset, .unset, .unset, .unset, .unset] [(.int (pk a)), (.int (0 : Int32)), (.ref b102)])) rfl rfl (hb hby at_23)
    have G104 : Arv Z h104 b102 k102 .char (1 : Int32) [(.int (nar .char (pk a)))] (.int (0 : Int32)) := Arv.set Ar104 q104 S104 M104 H104 F104g (fits_nar_char _) Wr104 0 rfl (Nat.le_of_ble_eq_true rfl)
    have K104 := Keep.of_wr Wr104
    have N104 := Fr.snoc X104 N103 (Nat.le_trans Z0 (Nat.le_of_eq g102.symm))
    have J104 : Arv Z h104 b102 k102 .char (1 : Int32) [(.int (pk a))] (.int (0 : Int32)) := by rw [own_narpk] at G104; exact G104
    obtain ⟨T105, h105, X105, e105, E105, A105, D105, U105, st105⟩ := newO X104 hx hZ hown (w6 hw) (w7 hw) (w8 hw) e104 (g := (mkF m 52 #[.val (.int a), .val (.int b), .val (.int c), .val (.int len), .val (.int idx), .val (.int (1 : Int32)), .val (.ref b102), .unset, .unset, .unset, .unset, .unset, .unset] [])) rfl (hb hby at_52) (by decide) (by decide)
    obtain ⟨b105, g105⟩ : ∃ z, z = h104.size := ⟨_, rfl⟩
    rw [← g105] at A105 D105 U105 st105
    have K105 := (Keep.refl h104 []).ext E105
    have G105_coder : Fld Z h105 b105 "java/lang/String" "coder" "B" (.int (0 : Int32)) := D105 (Or.inr (w32 hw)) (ty := .byte) (by decide)
    have G105_value : Fld Z h105 b105 "java/lang/String" "value" "[B" .null := D105 (Or.inr (w34 hw)) (ty := (.array .byte)) (by decide)
    have F106 : Arv Z h105 b102 k102 .char (1 : Int32) [(.int (pk a))] (.int (0 : Int32)) := (J104.keep K105 nin0)
    have O107 : Old Z n0 h105 := (((O0.keep K102 all0).keep K104 (allS (Nat.le_trans Z0 (Nat.le_of_eq g102.symm)) all0)).keep K105 all0)
    obtain ⟨_, _, ⟨T108, L108, k108, n108⟩, -, X108, ⟨Lc108, hQ108, l108, y108, z108⟩, st108⟩ := X105.specialBack hx (y := (⟨"java/lang/String", "<init>", "([C)V"⟩ : MethodName)) rfl hown (mvT hZ (w9 hw)) (mvT hZ (w10 hw)) (mvT hZ (w11 hw)) (by decide) (backOf (W := 1) (rm_sinit l Z a0 hw [] b105 b102 k102 [(pk a)] cS h105 n0 (Nat.le_trans Z0 (Nat.le_trans (Nat.le_trans K102.1 K104.1) K105.1)) O107 S_cs hcS S_ad S_hi S_lo A105 G105_value G105_coder (Nat.le_trans Z0 (Nat.le_trans (Nat.le_trans K102.1 K104.1) (Nat.le_of_eq g105.symm))) F106 (ok_pk [a] (Nat.le_of_ble_eq_true rfl)) (Nat.le_of_ble_eq_true rfl) (Nat.le_of_ble_eq_true rfl) (Ne.symm (Nat.ne_of_lt (Nat.lt_of_lt_of_le (Nat.lt_of_lt_of_le G102.lt K104.1) (Nat.le_of_eq g105.symm))))) hZ (w11 hw) (w8 hw) (by decide) (by decide)) (g := (mkF m 58 #[.val (.int a), .val (.int b), .val (.int c), .val (.int len), .val (.int idx), .val (.int (1 : Int32)), .val (.ref b102), .unset, .unset, .unset, .unset, .unset, .unset] [(.ref b102), (.ref b105), (.ref b105)])) rfl (by rw [hml]; rfl) (Steps.refl _) (a := b105) (argsL := [(.ref b102)]) (rest := [(.ref b105)]) (lenOf pd__28__5b_C_29_V rfl) rfl (by show 2 * 0 + _ ≤ _; exact Nat.le_of_eq rfl) (hb hby at_58) (fun _ _ => ⟨rfl, e105, (Nat.le_of_ble_eq_true rfl), (Nat.le_of_ble_eq_true rfl)⟩)
    dsimp only [Pt.U, Pt.locs, Pt.cells, Pt.slots] at X108 l108 y108 z108 st108 hQ108
    subst l108 y108 z108
    obtain ⟨t_109, kb_110, rfl, Nq108, K108, P108_0, P108_1⟩ := hQ108
    have N108 := Fr.app N104 Nq108
    obtain ⟨ri, h_ri⟩ : ∃ z : Int32, z = ((idx &&& (2147483647 : Int32)) % (1 : Int32)) := ⟨_, rfl⟩
    have W111 : ∀ zQ, SS p e below T108 m 71 #[.val (.int a), .val (.int b), .val (.int c), .val (.int len), .val (.int idx), .val (.int (1 : Int32)), .val (.ref b102), .val (.ref b105), .unset, .unset, .unset, .unset, .unset] [(.int ri)] zQ → Steps p.tables e below (s₁.setTop (entryFrame m #[(.int a), (.int b), (.int c), (.int len), (.int idx)] maxLocals)) zQ := by
      intro tt kt
      refine W101 tt ?_
      refine XS.iadd X0.here hx rfl (hb hby at_7) rfl ?_
      show SS p e below s₁ m 8 #[.val (.int a), .val (.int b), .val (.int c), .val (.int len), .val (.int idx), .unset, .unset, .unset, .unset, .unset, .unset, .unset, .unset] [(.int (1 : Int32))] _
      refine XS.istore X0.here hx rfl (hb hby at_8) rfl (l' := #[.val (.int a), .val (.int b), .val (.int c), .val (.int len), .val (.int idx), .val (.int (1 : Int32)), .unset, .unset, .unset, .unset, .unset, .unset, .unset]) rfl ?_
      show SS p e below s₁ m 10 #[.val (.int a), .val (.int b), .val (.int c), .val (.int len), .val (.int idx), .val (.int (1 : Int32)), .unset, .unset, .unset, .unset, .unset, .unset, .unset] [] _
      refine XS.iload X0.here hx rfl (hb hby at_10) rfl ?_
      show SS p e below s₁ m 12 #[.val (.int a), .val (.int b), .val (.int c), .val (.int len), .val (.int idx), .val (.int (1 : Int32)), .unset, .unset, .unset, .unset, .unset, .unset, .unset] [(.int (1 : Int32))] _
      refine st102 _ ?_
      show SS p e below T102 m 14 #[.val (.int a), .val (.int b), .val (.int c), .val (.int len), .val (.int idx), .val (.int (1 : Int32)), .unset, .unset, .unset, .unset, .unset, .unset, .unset] [(.ref b102)] _
      refine XS.astore X102.here hx rfl (hb hby at_14) rfl rfl (l' := #[.val (.int a), .val (.int b), .val (.int c), .val (.int len), .val (.int idx), .val (.int (1 : Int32)), .val (.ref b102), .unset, .unset, .unset, .unset, .unset, .unset]) rfl ?_
      show SS p e below T102 m 16 #[.val (.int a), .val (.int b), .val (.int c), .val (.int len), .val (.int idx), .val (.int (1 : Int32)), .val (.ref b102), .unset, .unset, .unset, .unset, .unset, .unset] [] _
      refine XS.aload X102.here hx rfl (hb hby at_16) rfl rfl ?_
      show SS p e below T102 m 18 #[.val (.int a), .val (.int b), .val (.int c), .val (.int len), .val (.int idx), .val (.int (1 : Int32)), .val (.ref b102), .unset, .unset, .unset, .unset, .unset, .unset] [(.ref b102)] _
      refine XS.iconst X102.here hx rfl (hb hby at_18) ?_
      show SS p e below T102 m 19 #[.val (.int a), .val (.int b), .val (.int c), .val (.int len), .val (.int idx), .val (.int (1 : Int32)), .val (.ref b102), .unset, .unset, .unset, .unset, .unset, .unset] [(.int (0 : Int32)), (.ref b102)] _
      refine XS.iloadN X102.here hx rfl (hb hby at_19) rfl ?_
      show SS p e below T102 m 20 #[.val (.int a), .val (.int b), .val (.int c), .val (.int len), .val (.int idx), .val (.int (1 : Int32)), .val (.ref b102), .unset, .unset, .unset, .unset, .unset, .unset] [(.int a), (.int (0 : Int32)), (.ref b102)] _
      refine st103 _ ?_
      show SS p e below T103 m 23 #[.val (.int a), .val (.int b), .val (.int c), .val (.int len), .val (.int idx), .val (.int (1 : Int32)), .val (.ref b102), .unset, .unset, .unset, .unset, .unset, .unset] [(.int (pk a)), (.int (0 : Int32)), (.ref b102)] _
      refine st104 _ ?_
      show SS p e below T104 m 24 #[.val (.int a), .val (.int b), .val (.int c), .val (.int len), .val (.int idx), .val (.int (1 : Int32)), .val (.ref b102), .unset, .unset, .unset, .unset, .unset, .unset] [] _
      refine XS.iload X104.here hx rfl (hb hby at_24) rfl ?_
      show SS p e below T104 m 26 #[.val (.int a), .val (.int b), .val (.int c), .val (.int len), .val (.int idx), .val (.int (1 : Int32)), .val (.ref b102), .unset, .unset, .unset, .unset, .unset, .unset] [(.int (1 : Int32))] _
      refine XS.iconst X104.here hx rfl (hb hby at_26) ?_
      show SS p e below T104 m 27 #[.val (.int a), .val (.int b), .val (.int c), .val (.int len), .val (.int idx), .val (.int (1 : Int32)), .val (.ref b102), .unset, .unset, .unset, .unset, .unset, .unset] [(.int (1 : Int32)), (.int (1 : Int32))] _
      refine XS.icmpYes X104.here hx rfl (pc0 := 27) (pc' := 38) rfl (hb hby at_27) rfl (flt (by decide)).2.2.2 (by decide) (by decide) ?_
      show SS p e below T104 m 38 #[.val (.int a), .val (.int b), .val (.int c), .val (.int len), .val (.int idx), .val (.int (1 : Int32)), .val (.ref b102), .unset, .unset, .unset, .unset, .unset, .unset] [] _
      refine XS.iload X104.here hx rfl (hb hby at_38) rfl ?_
      show SS p e below T104 m 40 #[.val (.int a), .val (.int b), .val (.int c), .val (.int len), .val (.int idx), .val (.int (1 : Int32)), .val (.ref b102), .unset, .unset, .unset, .unset, .unset, .unset] [(.int (1 : Int32))] _
      refine XS.iconst X104.here hx rfl (hb hby at_40) ?_
      show SS p e below T104 m 41 #[.val (.int a), .val (.int b), .val (.int c), .val (.int len), .val (.int idx), .val (.int (1 : Int32)), .val (.ref b102), .unset, .unset, .unset, .unset, .unset, .unset] [(.int (2 : Int32)), (.int (1 : Int32))] _
      refine XS.icmpYes X104.here hx rfl (pc0 := 41) (pc' := 52) rfl (hb hby at_41) rfl (flt (by decide)).2.2.2 (by decide) (by decide) ?_
      show SS p e below T104 m 52 #[.val (.int a), .val (.int b), .val (.int c), .val (.int len), .val (.int idx), .val (.int (1 : Int32)), .val (.ref b102), .unset, .unset, .unset, .unset, .unset, .unset] [] _
      refine st105 _ ?_
      show SS p e below T105 m 55 #[.val (.int a), .val (.int b), .val (.int c), .val (.int len), .val (.int idx), .val (.int (1 : Int32)), .val (.ref b102), .unset, .unset, .unset, .unset, .unset, .unset] [(.ref b105)] _
      refine XS.dup X105.here hx rfl (hb hby at_55) rfl rfl ?_
      show SS p e below T105 m 56 #[.val (.int a), .val (.int b), .val (.int c), .val (.int len), .val (.int idx), .val (.int (1 : Int32)), .val (.ref b102), .unset, .unset, .unset, .unset, .unset, .unset] [(.ref b105), (.ref b105)] _
      refine XS.aload X105.here hx rfl (hb hby at_56) rfl rfl ?_
      show SS p e below T105 m 58 #[.val (.int a), .val (.int b), .val (.int c), .val (.int len), .val (.int idx), .val (.int (1 : Int32)), .val (.ref b102), .unset, .unset, .unset, .unset, .unset, .unset] [(.ref b102), (.ref b105), (.ref b105)] _
      refine st108.trans ?_
      show SS p e below T108 m 61 #[.val (.int a), .val (.int b), .val (.int c), .val (.int len), .val (.int idx), .val (.int (1 : Int32)), .val (.ref b102), .unset, .unset, .unset, .unset, .unset, .unset] [(.ref b105)] _
      refine XS.astore X108.here hx rfl (hb hby at_61) rfl rfl (l' := #[.val (.int a), .val (.int b), .val (.int c), .val (.int len), .val (.int idx), .val (.int (1 : Int32)), .val (.ref b102), .val (.ref b105), .unset, .unset, .unset, .unset, .unset]) rfl ?_
      show SS p e below T108 m 63 #[.val (.int a), .val (.int b), .val (.int c), .val (.int len), .val (.int idx), .val (.int (1 : Int32)), .val (.ref b102), .val (.ref b105), .unset, .unset, .unset, .unset, .unset] [] _
      refine XS.iload X108.here hx rfl (hb hby at_63) rfl ?_
      show SS p e below T108 m 65 #[.val (.int a), .val (.int b), .val (.int c), .val (.int len), .val (.int idx), .val (.int (1 : Int32)), .val (.ref b102), .val (.ref b105), .unset, .unset, .unset, .unset, .unset] [(.int idx)] _
      refine X108.ldcInt hx hown (mvT hZ (w0 hw)) (g := (mkF m 65 #[.val (.int a), .val (.int b), .val (.int c), .val (.int len), .val (.int idx), .val (.int (1 : Int32)), .val (.ref b102), .val (.ref b105), .unset, .unset, .unset, .unset, .unset] [(.int idx)])) rfl (hb hby at_65) _ ?_
      show SS p e below T108 m 67 #[.val (.int a), .val (.int b), .val (.int c), .val (.int len), .val (.int idx), .val (.int (1 : Int32)), .val (.ref b102), .val (.ref b105), .unset, .unset, .unset, .unset, .unset] [(.int (2147483647 : Int32)), (.int idx)] _
      refine XS.iand X108.here hx rfl (hb hby at_67) rfl ?_
      show SS p e below T108 m 68 #[.val (.int a), .val (.int b), .val (.int c), .val (.int len), .val (.int idx), .val (.int (1 : Int32)), .val (.ref b102), .val (.ref b105), .unset, .unset, .unset, .unset, .unset] [(.int (idx &&& (2147483647 : Int32)))] _
      refine XS.iload X108.here hx rfl (hb hby at_68) rfl ?_
      show SS p e below T108 m 70 #[.val (.int a), .val (.int b), .val (.int c), .val (.int len), .val (.int idx), .val (.int (1 : Int32)), .val (.ref b102), .val (.ref b105), .unset, .unset, .unset, .unset, .unset] [(.int (1 : Int32)), (.int (idx &&& (2147483647 : Int32)))] _
      refine Jvm.RoadKit.iremM X108 hx rfl (hb hby at_70) rfl (by decide) ?_
      show SS p e below T108 m 71 #[.val (.int a), .val (.int b), .val (.int c), .val (.int len), .val (.int idx), .val (.int (1 : Int32)), .val (.ref b102), .val (.ref b105), .unset, .unset, .unset, .unset, .unset] [(.int ((idx &&& (2147483647 : Int32)) % (1 : Int32)))] _
      rw [← h_ri]
      show SS p e below T108 m 71 #[.val (.int a), .val (.int b), .val (.int c), .val (.int len), .val (.int idx), .val (.int (1 : Int32)), .val (.ref b102), .val (.ref b105), .unset, .unset, .unset, .unset, .unset] [(.int ri)] _
      exact kt
    rcases (h_ri ▸ own_r1 idx : ri = 0) with rfl
    ·
      have F112 : Arv Z T108.heap b102 k102 .char (1 : Int32) [(.int (pk a))] (.int (0 : Int32)) := (F106.keep K108 (ninS (Nat.ne_of_lt (Nat.lt_of_lt_of_le (Nat.lt_of_lt_of_le G102.lt K104.1) (Nat.le_of_eq g105.symm))) nin0))
      obtain ⟨cl113, Ar113, q113, S113, M113, H113, F113g⟩ := id F112
      have hin113 : ¬ ((0 : Int32) < 0 ∨ cl113.slots.size ≤ ((0 : Int32)).toNatClampNeg) := inb_of S113 ⟨by decide, by decide⟩
      have hat113 : cl113.slots[((0 : Int32)).toNatClampNeg]? = some (.int (pk a)) := Has.at H113 hin113 rfl
      have W114 : ∀ zQ, SS p e below T108 m 127 #[.val (.int a), .val (.int b), .val (.int c), .val (.int len), .val (.int idx), .val (.int (1 : Int32)), .val (.ref b102), .val (.ref b105), .val (.int (0 : Int32)), .val (.int (pk a)), .val (.int (1 : Int32)), .val (.int (0 : Int32)), .unset] [(.int (10 : Int32)), (.int (pk a))] zQ → Steps p.tables e below (s₁.setTop (entryFrame m #[(.int a), (.int b), (.int c), (.int len), (.int idx)] maxLocals)) zQ := by
        intro tt kt
        refine W111 tt ?_
        refine XS.istore X108.here hx rfl (hb hby at_71) rfl (l' := #[.val (.int a), .val (.int b), .val (.int c), .val (.int len), .val (.int idx), .val (.int (1 : Int32)), .val (.ref b102), .val (.ref b105), .val (.int (0 : Int32)), .unset, .unset, .unset, .unset]) rfl ?_
        show SS p e below T108 m 73 #[.val (.int a), .val (.int b), .val (.int c), .val (.int len), .val (.int idx), .val (.int (1 : Int32)), .val (.ref b102), .val (.ref b105), .val (.int (0 : Int32)), .unset, .unset, .unset, .unset] [] _
        refine XS.aload X108.here hx rfl (hb hby at_73) rfl rfl ?_
        show SS p e below T108 m 75 #[.val (.int a), .val (.int b), .val (.int c), .val (.int len), .val (.int idx), .val (.int (1 : Int32)), .val (.ref b102), .val (.ref b105), .val (.int (0 : Int32)), .unset, .unset, .unset, .unset] [(.ref b102)] _
        refine XS.iload X108.here hx rfl (hb hby at_75) rfl ?_
        show SS p e below T108 m 77 #[.val (.int a), .val (.int b), .val (.int c), .val (.int len), .val (.int idx), .val (.int (1 : Int32)), .val (.ref b102), .val (.ref b105), .val (.int (0 : Int32)), .unset, .unset, .unset, .unset] [(.int (0 : Int32)), (.ref b102)] _
        refine X108.caload hx (j := (0 : Int32)) (v := (.int (pk a))) (by first | exact Ar113.1 | (rw [rfl]; exact Ar113.1)) (State.isArrayOf_alike hZ.alike Ar113.2.1) Ar113.2.2 hin113 hat113 (g := (mkF m 77 #[.val (.int a), .val (.int b), .val (.int c), .val (.int len), .val (.int idx), .val (.int (1 : Int32)), .val (.ref b102), .val (.ref b105), .val (.int (0 : Int32)), .unset, .unset, .unset, .unset] [(.int (0 : Int32)), (.ref b102)])) rfl rfl (hb hby at_77) _ ?_
        show SS p e below T108 m 78 #[.val (.int a), .val (.int b), .val (.int c), .val (.int len), .val (.int idx), .val (.int (1 : Int32)), .val (.ref b102), .val (.ref b105), .val (.int (0 : Int32)), .unset, .unset, .unset, .unset] [(.int (pk a))] _
        refine XS.istore X108.here hx rfl (hb hby at_78) rfl (l' := #[.val (.int a), .val (.int b), .val (.int c), .val (.int len), .val (.int idx), .val (.int (1 : Int32)), .val (.ref b102), .val (.ref b105), .val (.int (0 : Int32)), .val (.int (pk a)), .unset, .unset, .unset]) rfl ?_
        show SS p e below T108 m 80 #[.val (.int a), .val (.int b), .val (.int c), .val (.int len), .val (.int idx), .val (.int (1 : Int32)), .val (.ref b102), .val (.ref b105), .val (.int (0 : Int32)), .val (.int (pk a)), .unset, .unset, .unset] [] _
        refine XS.iload X108.here hx rfl (hb hby at_80) rfl ?_
        show SS p e below T108 m 82 #[.val (.int a), .val (.int b), .val (.int c), .val (.int len), .val (.int idx), .val (.int (1 : Int32)), .val (.ref b102), .val (.ref b105), .val (.int (0 : Int32)), .val (.int (pk a)), .unset, .unset, .unset] [(.int (0 : Int32))] _
        refine XS.iload X108.here hx rfl (hb hby at_82) rfl ?_
        show SS p e below T108 m 84 #[.val (.int a), .val (.int b), .val (.int c), .val (.int len), .val (.int idx), .val (.int (1 : Int32)), .val (.ref b102), .val (.ref b105), .val (.int (0 : Int32)), .val (.int (pk a)), .unset, .unset, .unset] [(.int (1 : Int32)), (.int (0 : Int32))] _
        refine XS.iconst X108.here hx rfl (hb hby at_84) ?_
        show SS p e below T108 m 85 #[.val (.int a), .val (.int b), .val (.int c), .val (.int len), .val (.int idx), .val (.int (1 : Int32)), .val (.ref b102), .val (.ref b105), .val (.int (0 : Int32)), .val (.int (pk a)), .unset, .unset, .unset] [(.int (1 : Int32)), (.int (1 : Int32)), (.int (0 : Int32))] _
        refine XS.isub X108.here hx rfl (hb hby at_85) rfl ?_
        show SS p e below T108 m 86 #[.val (.int a), .val (.int b), .val (.int c), .val (.int len), .val (.int idx), .val (.int (1 : Int32)), .val (.ref b102), .val (.ref b105), .val (.int (0 : Int32)), .val (.int (pk a)), .unset, .unset, .unset] [(.int (0 : Int32)), (.int (0 : Int32))] _
        refine XS.icmpNo X108.here hx rfl (hb hby at_86) rfl (teq (by decide)).2 ?_
        show SS p e below T108 m 89 #[.val (.int a), .val (.int b), .val (.int c), .val (.int len), .val (.int idx), .val (.int (1 : Int32)), .val (.ref b102), .val (.ref b105), .val (.int (0 : Int32)), .val (.int (pk a)), .unset, .unset, .unset] [] _
        refine XS.iconst X108.here hx rfl (hb hby at_89) ?_
        show SS p e below T108 m 90 #[.val (.int a), .val (.int b), .val (.int c), .val (.int len), .val (.int idx), .val (.int (1 : Int32)), .val (.ref b102), .val (.ref b105), .val (.int (0 : Int32)), .val (.int (pk a)), .unset, .unset, .unset] [(.int (1 : Int32))] _
        refine XS.goto X108.here hx rfl (pc0 := 90) (pc' := 94) rfl (hb hby at_90) (by decide) (by decide) ?_
        show SS p e below T108 m 94 #[.val (.int a), .val (.int b), .val (.int c), .val (.int len), .val (.int idx), .val (.int (1 : Int32)), .val (.ref b102), .val (.ref b105), .val (.int (0 : Int32)), .val (.int (pk a)), .unset, .unset, .unset] [(.int (1 : Int32))] _
        refine XS.istore X108.here hx rfl (hb hby at_94) rfl (l' := #[.val (.int a), .val (.int b), .val (.int c), .val (.int len), .val (.int idx), .val (.int (1 : Int32)), .val (.ref b102), .val (.ref b105), .val (.int (0 : Int32)), .val (.int (pk a)), .val (.int (1 : Int32)), .unset, .unset]) rfl ?_
        show SS p e below T108 m 96 #[.val (.int a), .val (.int b), .val (.int c), .val (.int len), .val (.int idx), .val (.int (1 : Int32)), .val (.ref b102), .val (.ref b105), .val (.int (0 : Int32)), .val (.int (pk a)), .val (.int (1 : Int32)), .unset, .unset] [] _
        refine XS.iconst X108.here hx rfl (hb hby at_96) ?_
        show SS p e below T108 m 97 #[.val (.int a), .val (.int b), .val (.int c), .val (.int len), .val (.int idx), .val (.int (1 : Int32)), .val (.ref b102), .val (.ref b105), .val (.int (0 : Int32)), .val (.int (pk a)), .val (.int (1 : Int32)), .unset, .unset] [(.int (0 : Int32))] _
        refine XS.istore X108.here hx rfl (hb hby at_97) rfl (l' := #[.val (.int a), .val (.int b), .val (.int c), .val (.int len), .val (.int idx), .val (.int (1 : Int32)), .val (.ref b102), .val (.ref b105), .val (.int (0 : Int32)), .val (.int (pk a)), .val (.int (1 : Int32)), .val (.int (0 : Int32)), .unset]) rfl ?_
        show SS p e below T108 m 99 #[.val (.int a), .val (.int b), .val (.int c), .val (.int len), .val (.int idx), .val (.int (1 : Int32)), .val (.ref b102), .val (.ref b105), .val (.int (0 : Int32)), .val (.int (pk a)), .val (.int (1 : Int32)), .val (.int (0 : Int32)), .unset] [] _
        refine XS.iload X108.here hx rfl (hb hby at_99) rfl ?_
        show SS p e below T108 m 101 #[.val (.int a), .val (.int b), .val (.int c), .val (.int len), .val (.int idx), .val (.int (1 : Int32)), .val (.ref b102), .val (.ref b105), .val (.int (0 : Int32)), .val (.int (pk a)), .val (.int (1 : Int32)), .val (.int (0 : Int32)), .unset] [(.int (1 : Int32))] _
        refine XS.ifYes X108.here hx rfl (pc0 := 101) (pc' := 123) rfl (hb hby at_101) rfl ((if0 _ _).trans (feq (by decide)).2) (by decide) (by decide) ?_
        show SS p e below T108 m 123 #[.val (.int a), .val (.int b), .val (.int c), .val (.int len), .val (.int idx), .val (.int (1 : Int32)), .val (.ref b102), .val (.ref b105), .val (.int (0 : Int32)), .val (.int (pk a)), .val (.int (1 : Int32)), .val (.int (0 : Int32)), .unset] [] _
        refine XS.iload X108.here hx rfl (hb hby at_123) rfl ?_
        show SS p e below T108 m 125 #[.val (.int a), .val (.int b), .val (.int c), .val (.int len), .val (.int idx), .val (.int (1 : Int32)), .val (.ref b102), .val (.ref b105), .val (.int (0 : Int32)), .val (.int (pk a)), .val (.int (1 : Int32)), .val (.int (0 : Int32)), .unset] [(.int (pk a))] _
        refine XS.bipush X108.here hx rfl (hb hby at_125) ?_
        show SS p e below T108 m 127 #[.val (.int a), .val (.int b), .val (.int c), .val (.int len), .val (.int idx), .val (.int (1 : Int32)), .val (.ref b102), .val (.ref b105), .val (.int (0 : Int32)), .val (.int (pk a)), .val (.int (1 : Int32)), .val (.int (0 : Int32)), .unset] [(.int (10 : Int32)), (.int (pk a))] _
        exact kt
      by_cases hc115 : (pk a) = (10 : Int32)
      ·
        have O116 : Old Z n0 T108.heap := (O107.keep K108 (allS (Nat.le_trans Z0 (Nat.le_trans (Nat.le_trans K102.1 K104.1) (Nat.le_of_eq g105.symm))) all0))
        obtain ⟨_, _, ⟨T117, L117, k117, n117⟩, -, X117, ⟨Lc117, hQ117, l117, y117, z117⟩, st117⟩ := Jvm.LawKit.callS X108 hx (y := (⟨"com/example/vestline/vestline/input/TextFiles", "endsLine", "(Ljava/lang/String;I)Z"⟩ : MethodName)) hown (mvT hZ (w35 hw)) (mvT hZ (w36 hw)) (mvT hZ (w37 hw)) (mvT hZ (w38 hw)) (by decide) (backOf (W := 0) (rm_endsLine l Z a0 hw [] b105 0 t_109 kb_110 [(pk a)] cS fm T108.heap n0 (Nat.le_trans Z0 (Nat.le_trans (Nat.le_trans (Nat.le_trans K102.1 K104.1) K105.1) K108.1)) O116 S_cs hcS S_fm hfm S_ad S_hi S_lo P108_1 (Nat.le_of_ble_eq_true rfl)) hZ (w38 hw) (w37 hw) (by decide) (by decide)) (g := (mkF m 165 #[.val (.int a), .val (.int b), .val (.int c), .val (.int len), .val (.int idx), .val (.int (1 : Int32)), .val (.ref b102), .val (.ref b105), .val (.int (0 : Int32)), .val (.int (pk a)), .val (.int (1 : Int32)), .val (.int (0 : Int32)), .val (.int (1 : Int32))] [(.int (0 : Int32)), (.ref b105)])) rfl (by rw [hml]; rfl) (argsL := [(.ref b105), (.int (0 : Int32))]) (rest := []) (lenOf pd__28_Ljava_2f_lang_2f_String_3b_I_29_Z rfl) rfl (by show 2 * 0 + _ ≤ _; exact Nat.le_of_eq rfl) (hb hby at_165) (fun _ _ => ⟨rfl, rfl, (Nat.le_of_ble_eq_true rfl), (Nat.le_of_ble_eq_true rfl)⟩)
        dsimp only [Pt.U, Pt.locs, Pt.cells, Pt.slots] at X117 l117 y117 z117 st117 hQ117
        subst l117 y117 z117
        obtain ⟨rfl, Nq117, eq117⟩ := hQ117
        have N117 := Fr.app N108 Nq117
        have W118 : ∀ zQ, SS p e below T117 m 178 #[.val (.int a), .val (.int b), .val (.int c), .val (.int len), .val (.int idx), .val (.int (1 : Int32)), .val (.ref b102), .val (.ref b105), .val (.int (0 : Int32)), .val (.int (pk a)), .val (.int (1 : Int32)), .val (.int (0 : Int32)), .val (.int (1 : Int32))] [(.int (1 : Int32))] zQ → Steps p.tables e below (s₁.setTop (entryFrame m #[(.int a), (.int b), (.int c), (.int len), (.int idx)] maxLocals)) zQ := by
          intro tt kt
          refine W114 tt ?_
          refine XS.icmpNo X108.here hx rfl (hb hby at_127) rfl (teq hc115).2 ?_
          show SS p e below T108 m 130 #[.val (.int a), .val (.int b), .val (.int c), .val (.int len), .val (.int idx), .val (.int (1 : Int32)), .val (.ref b102), .val (.ref b105), .val (.int (0 : Int32)), .val (.int (pk a)), .val (.int (1 : Int32)), .val (.int (0 : Int32)), .unset] [] _
          refine XS.iconst X108.here hx rfl (hb hby at_130) ?_
          show SS p e below T108 m 131 #[.val (.int a), .val (.int b), .val (.int c), .val (.int len), .val (.int idx), .val (.int (1 : Int32)), .val (.ref b102), .val (.ref b105), .val (.int (0 : Int32)), .val (.int (pk a)), .val (.int (1 : Int32)), .val (.int (0 : Int32)), .unset] [(.int (1 : Int32))] _
          refine XS.istore X108.here hx rfl (hb hby at_131) rfl (l' := #[.val (.int a), .val (.int b), .val (.int c), .val (.int len), .val (.int idx), .val (.int (1 : Int32)), .val (.ref b102), .val (.ref b105), .val (.int (0 : Int32)), .val (.int (pk a)), .val (.int (1 : Int32)), .val (.int (0 : Int32)), .val (.int (1 : Int32))]) rfl ?_
          show SS p e below T108 m 133 #[.val (.int a), .val (.int b), .val (.int c), .val (.int len), .val (.int idx), .val (.int (1 : Int32)), .val (.ref b102), .val (.ref b105), .val (.int (0 : Int32)), .val (.int (pk a)), .val (.int (1 : Int32)), .val (.int (0 : Int32)), .val (.int (1 : Int32))] [] _
          refine XS.goto X108.here hx rfl (pc0 := 133) (pc' := 161) rfl (hb hby at_133) (by decide) (by decide) ?_
          show SS p e below T108 m 161 #[.val (.int a), .val (.int b), .val (.int c), .val (.int len), .val (.int idx), .val (.int (1 : Int32)), .val (.ref b102), .val (.ref b105), .val (.int (0 : Int32)), .val (.int (pk a)), .val (.int (1 : Int32)), .val (.int (0 : Int32)), .val (.int (1 : Int32))] [] _
          refine XS.aload X108.here hx rfl (hb hby at_161) rfl rfl ?_
          show SS p e below T108 m 163 #[.val (.int a), .val (.int b), .val (.int c), .val (.int len), .val (.int idx), .val (.int (1 : Int32)), .val (.ref b102), .val (.ref b105), .val (.int (0 : Int32)), .val (.int (pk a)), .val (.int (1 : Int32)), .val (.int (0 : Int32)), .val (.int (1 : Int32))] [(.ref b105)] _
          refine XS.iload X108.here hx rfl (hb hby at_163) rfl ?_
          show SS p e below T108 m 165 #[.val (.int a), .val (.int b), .val (.int c), .val (.int len), .val (.int idx), .val (.int (1 : Int32)), .val (.ref b102), .val (.ref b105), .val (.int (0 : Int32)), .val (.int (pk a)), .val (.int (1 : Int32)), .val (.int (0 : Int32)), .val (.int (1 : Int32))] [(.int (0 : Int32)), (.ref b105)] _
          refine st117 _ ?_
          show SS p e below T117 m 168 #[.val (.int a), .val (.int b), .val (.int c), .val (.int len), .val (.int idx), .val (.int (1 : Int32)), .val (.ref b102), .val (.ref b105), .val (.int (0 : Int32)), .val (.int (pk a)), .val (.int (1 : Int32)), .val (.int (0 : Int32)), .val (.int (1 : Int32))] [(.int (el [(pk a)] 0))] _
          refine XS.iload X117.here hx rfl (hb hby at_168) rfl ?_
          show SS p e below T117 m 170 #[.val (.int a), .val (.int b), .val (.int c), .val (.int len), .val (.int idx), .val (.int (1 : Int32)), .val (.ref b102), .val (.ref b105), .val (.int (0 : Int32)), .val (.int (pk a)), .val (.int (1 : Int32)), .val (.int (0 : Int32)), .val (.int (1 : Int32))] [(.int (1 : Int32)), (.int (el [(pk a)] 0))] _
          refine XS.icmpNo X117.here hx rfl (hb hby at_170) rfl (teq (by simp [el, hc115])).2 ?_
          show SS p e below T117 m 173 #[.val (.int a), .val (.int b), .val (.int c), .val (.int len), .val (.int idx), .val (.int (1 : Int32)), .val (.ref b102), .val (.ref b105), .val (.int (0 : Int32)), .val (.int (pk a)), .val (.int (1 : Int32)), .val (.int (0 : Int32)), .val (.int (1 : Int32))] [] _
          refine XS.iconst X117.here hx rfl (hb hby at_173) ?_
          show SS p e below T117 m 174 #[.val (.int a), .val (.int b), .val (.int c), .val (.int len), .val (.int idx), .val (.int (1 : Int32)), .val (.ref b102), .val (.ref b105), .val (.int (0 : Int32)), .val (.int (pk a)), .val (.int (1 : Int32)), .val (.int (0 : Int32)), .val (.int (1 : Int32))] [(.int (1 : Int32))] _
          refine XS.goto X117.here hx rfl (pc0 := 174) (pc' := 178) rfl (hb hby at_174) (by decide) (by decide) ?_
          show SS p e below T117 m 178 #[.val (.int a), .val (.int b), .val (.int c), .val (.int len), .val (.int idx), .val (.int (1 : Int32)), .val (.ref b102), .val (.ref b105), .val (.int (0 : Int32)), .val (.int (pk a)), .val (.int (1 : Int32)), .val (.int (0 : Int32)), .val (.int (1 : Int32))] [(.int (1 : Int32))] _
          exact kt
        obtain ⟨fs, hr, hrun, hended, hW, hsame⟩ := X117.leave (v := some (.int (nar .boolean (1 : Int32)))) (fun h => by rw [Bd.returns] at h; cases h)
        refine ⟨_, _, W118 _ (retN X117 hx (t := .boolean) Bd.returns (by simp) (hb hby at_178) hr), hrun, hended, _, _, rfl, ?_, ⟨_, rfl⟩, hW, hsame.mono (by decide) (by decide)⟩
        show Q_law Z a b c len idx cS fm h0 n0 _ T117.heap _
        rw [eq117]
        exact ⟨rfl, N117, (Keep.trans (Keep.trans (Keep.trans (Keep.trans (Keep.refl h0 []) K102 all0) K104 (allS (Or.inr (Nat.le_of_eq g102.symm)) all0)) K105 all0) K108 (allS (Or.inr (Nat.le_trans (Nat.le_trans K102.1 K104.1) (Nat.le_of_eq g105.symm))) all0))⟩
      ·
        have W119 : ∀ zQ, SS p e below T108 m 140 #[.val (.int a), .val (.int b), .val (.int c), .val (.int len), .val (.int idx), .val (.int (1 : Int32)), .val (.ref b102), .val (.ref b105), .val (.int (0 : Int32)), .val (.int (pk a)), .val (.int (1 : Int32)), .val (.int (0 : Int32)), .unset] [(.int (13 : Int32)), (.int (pk a))] zQ → Steps p.tables e below (s₁.setTop (entryFrame m #[(.int a), (.int b), (.int c), (.int len), (.int idx)] maxLocals)) zQ := by
          intro tt kt
          refine W114 tt ?_
          refine XS.icmpYes X108.here hx rfl (pc0 := 127) (pc' := 136) rfl (hb hby at_127) rfl (feq hc115).2 (by decide) (by decide) ?_
          show SS p e below T108 m 136 #[.val (.int a), .val (.int b), .val (.int c), .val (.int len), .val (.int idx), .val (.int (1 : Int32)), .val (.ref b102), .val (.ref b105), .val (.int (0 : Int32)), .val (.int (pk a)), .val (.int (1 : Int32)), .val (.int (0 : Int32)), .unset] [] _
          refine XS.iload X108.here hx rfl (hb hby at_136) rfl ?_
          show SS p e below T108 m 138 #[.val (.int a), .val (.int b), .val (.int c), .val (.int len), .val (.int idx), .val (.int (1 : Int32)), .val (.ref b102), .val (.ref b105), .val (.int (0 : Int32)), .val (.int (pk a)), .val (.int (1 : Int32)), .val (.int (0 : Int32)), .unset] [(.int (pk a))] _
          refine XS.bipush X108.here hx rfl (hb hby at_138) ?_
          show SS p e below T108 m 140 #[.val (.int a), .val (.int b), .val (.int c), .val (.int len), .val (.int idx), .val (.int (1 : Int32)), .val (.ref b102), .val (.ref b105), .val (.int (0 : Int32)), .val (.int (pk a)), .val (.int (1 : Int32)), .val (.int (0 : Int32)), .unset] [(.int (13 : Int32)), (.int (pk a))] _
          exact kt
        by_cases hc120 : (pk a) = (13 : Int32)
        ·
          have O121 : Old Z n0 T108.heap := (O107.keep K108 (allS (Nat.le_trans Z0 (Nat.le_trans (Nat.le_trans K102.1 K104.1) (Nat.le_of_eq g105.symm))) all0))
          obtain ⟨_, _, ⟨T122, L122, k122, n122⟩, -, X122, ⟨Lc122, hQ122, l122, y122, z122⟩, st122⟩ := Jvm.LawKit.callS X108 hx (y := (⟨"com/example/vestline/vestline/input/TextFiles", "endsLine", "(Ljava/lang/String;I)Z"⟩ : MethodName)) hown (mvT hZ (w35 hw)) (mvT hZ (w36 hw)) (mvT hZ (w37 hw)) (mvT hZ (w38 hw)) (by decide) (backOf (W := 0) (rm_endsLine l Z a0 hw [] b105 0 t_109 kb_110 [(pk a)] cS fm T108.heap n0 (Nat.le_trans Z0 (Nat.le_trans (Nat.le_trans (Nat.le_trans K102.1 K104.1) K105.1) K108.1)) O121 S_cs hcS S_fm hfm S_ad S_hi S_lo P108_1 (Nat.le_of_ble_eq_true rfl)) hZ (w38 hw) (w37 hw) (by decide) (by decide)) (g := (mkF m 165 #[.val (.int a), .val (.int b), .val (.int c), .val (.int len), .val (.int idx), .val (.int (1 : Int32)), .val (.ref b102), .val (.ref b105), .val (.int (0 : Int32)), .val (.int (pk a)), .val (.int (1 : Int32)), .val (.int (0 : Int32)), .val (.int (1 : Int32))] [(.int (0 : Int32)), (.ref b105)])) rfl (by rw [hml]; rfl) (argsL := [(.ref b105), (.int (0 : Int32))]) (rest := []) (lenOf pd__28_Ljava_2f_lang_2f_String_3b_I_29_Z rfl) rfl (by show 2 * 0 + _ ≤ _; exact Nat.le_of_eq rfl) (hb hby at_165) (fun _ _ => ⟨rfl, rfl, (Nat.le_of_ble_eq_true rfl), (Nat.le_of_ble_eq_true rfl)⟩)
          dsimp only [Pt.U, Pt.locs, Pt.cells, Pt.slots] at X122 l122 y122 z122 st122 hQ122
          subst l122 y122 z122
          obtain ⟨rfl, Nq122, eq122⟩ := hQ122
          have N122 := Fr.app N108 Nq122
          have W123 : ∀ zQ, SS p e below T122 m 178 #[.val (.int a), .val (.int b), .val (.int c), .val (.int len), .val (.int idx), .val (.int (1 : Int32)), .val (.ref b102), .val (.ref b105), .val (.int (0 : Int32)), .val (.int (pk a)), .val (.int (1 : Int32)), .val (.int (0 : Int32)), .val (.int (1 : Int32))] [(.int (1 : Int32))] zQ → Steps p.tables e below (s₁.setTop (entryFrame m #[(.int a), (.int b), (.int c), (.int len), (.int idx)] maxLocals)) zQ := by
            intro tt kt
            refine W119 tt ?_
            refine XS.icmpNo X108.here hx rfl (hb hby at_140) rfl (teq hc120).2 ?_
            show SS p e below T108 m 143 #[.val (.int a), .val (.int b), .val (.int c), .val (.int len), .val (.int idx), .val (.int (1 : Int32)), .val (.ref b102), .val (.ref b105), .val (.int (0 : Int32)), .val (.int (pk a)), .val (.int (1 : Int32)), .val (.int (0 : Int32)), .unset] [] _
            refine XS.iload X108.here hx rfl (hb hby at_143) rfl ?_
            show SS p e below T108 m 145 #[.val (.int a), .val (.int b), .val (.int c), .val (.int len), .val (.int idx), .val (.int (1 : Int32)), .val (.ref b102), .val (.ref b105), .val (.int (0 : Int32)), .val (.int (pk a)), .val (.int (1 : Int32)), .val (.int (0 : Int32)), .unset] [(.int (0 : Int32))] _
            refine XS.ifNo X108.here hx rfl (hb hby at_145) rfl ((if0 _ _).trans (teq (by decide)).2) ?_
            show SS p e below T108 m 148 #[.val (.int a), .val (.int b), .val (.int c), .val (.int len), .val (.int idx), .val (.int (1 : Int32)), .val (.ref b102), .val (.ref b105), .val (.int (0 : Int32)), .val (.int (pk a)), .val (.int (1 : Int32)), .val (.int (0 : Int32)), .unset] [] _
            refine XS.iconst X108.here hx rfl (hb hby at_148) ?_
            show SS p e below T108 m 149 #[.val (.int a), .val (.int b), .val (.int c), .val (.int len), .val (.int idx), .val (.int (1 : Int32)), .val (.ref b102), .val (.ref b105), .val (.int (0 : Int32)), .val (.int (pk a)), .val (.int (1 : Int32)), .val (.int (0 : Int32)), .unset] [(.int (1 : Int32))] _
            refine XS.goto X108.here hx rfl (pc0 := 149) (pc' := 153) rfl (hb hby at_149) (by decide) (by decide) ?_
            show SS p e below T108 m 153 #[.val (.int a), .val (.int b), .val (.int c), .val (.int len), .val (.int idx), .val (.int (1 : Int32)), .val (.ref b102), .val (.ref b105), .val (.int (0 : Int32)), .val (.int (pk a)), .val (.int (1 : Int32)), .val (.int (0 : Int32)), .unset] [(.int (1 : Int32))] _
            refine XS.istore X108.here hx rfl (hb hby at_153) rfl (l' := #[.val (.int a), .val (.int b), .val (.int c), .val (.int len), .val (.int idx), .val (.int (1 : Int32)), .val (.ref b102), .val (.ref b105), .val (.int (0 : Int32)), .val (.int (pk a)), .val (.int (1 : Int32)), .val (.int (0 : Int32)), .val (.int (1 : Int32))]) rfl ?_
            show SS p e below T108 m 155 #[.val (.int a), .val (.int b), .val (.int c), .val (.int len), .val (.int idx), .val (.int (1 : Int32)), .val (.ref b102), .val (.ref b105), .val (.int (0 : Int32)), .val (.int (pk a)), .val (.int (1 : Int32)), .val (.int (0 : Int32)), .val (.int (1 : Int32))] [] _
            refine XS.goto X108.here hx rfl (pc0 := 155) (pc' := 161) rfl (hb hby at_155) (by decide) (by decide) ?_
            show SS p e below T108 m 161 #[.val (.int a), .val (.int b), .val (.int c), .val (.int len), .val (.int idx), .val (.int (1 : Int32)), .val (.ref b102), .val (.ref b105), .val (.int (0 : Int32)), .val (.int (pk a)), .val (.int (1 : Int32)), .val (.int (0 : Int32)), .val (.int (1 : Int32))] [] _
            refine XS.aload X108.here hx rfl (hb hby at_161) rfl rfl ?_
            show SS p e below T108 m 163 #[.val (.int a), .val (.int b), .val (.int c), .val (.int len), .val (.int idx), .val (.int (1 : Int32)), .val (.ref b102), .val (.ref b105), .val (.int (0 : Int32)), .val (.int (pk a)), .val (.int (1 : Int32)), .val (.int (0 : Int32)), .val (.int (1 : Int32))] [(.ref b105)] _
            refine XS.iload X108.here hx rfl (hb hby at_163) rfl ?_
            show SS p e below T108 m 165 #[.val (.int a), .val (.int b), .val (.int c), .val (.int len), .val (.int idx), .val (.int (1 : Int32)), .val (.ref b102), .val (.ref b105), .val (.int (0 : Int32)), .val (.int (pk a)), .val (.int (1 : Int32)), .val (.int (0 : Int32)), .val (.int (1 : Int32))] [(.int (0 : Int32)), (.ref b105)] _
            refine st122 _ ?_
            show SS p e below T122 m 168 #[.val (.int a), .val (.int b), .val (.int c), .val (.int len), .val (.int idx), .val (.int (1 : Int32)), .val (.ref b102), .val (.ref b105), .val (.int (0 : Int32)), .val (.int (pk a)), .val (.int (1 : Int32)), .val (.int (0 : Int32)), .val (.int (1 : Int32))] [(.int (el [(pk a)] 0))] _
            refine XS.iload X122.here hx rfl (hb hby at_168) rfl ?_
            show SS p e below T122 m 170 #[.val (.int a), .val (.int b), .val (.int c), .val (.int len), .val (.int idx), .val (.int (1 : Int32)), .val (.ref b102), .val (.ref b105), .val (.int (0 : Int32)), .val (.int (pk a)), .val (.int (1 : Int32)), .val (.int (0 : Int32)), .val (.int (1 : Int32))] [(.int (1 : Int32)), (.int (el [(pk a)] 0))] _
            refine XS.icmpNo X122.here hx rfl (hb hby at_170) rfl (teq (by simp [el, hc115, hc120])).2 ?_
            show SS p e below T122 m 173 #[.val (.int a), .val (.int b), .val (.int c), .val (.int len), .val (.int idx), .val (.int (1 : Int32)), .val (.ref b102), .val (.ref b105), .val (.int (0 : Int32)), .val (.int (pk a)), .val (.int (1 : Int32)), .val (.int (0 : Int32)), .val (.int (1 : Int32))] [] _
            refine XS.iconst X122.here hx rfl (hb hby at_173) ?_
            show SS p e below T122 m 174 #[.val (.int a), .val (.int b), .val (.int c), .val (.int len), .val (.int idx), .val (.int (1 : Int32)), .val (.ref b102), .val (.ref b105), .val (.int (0 : Int32)), .val (.int (pk a)), .val (.int (1 : Int32)), .val (.int (0 : Int32)), .val (.int (1 : Int32))] [(.int (1 : Int32))] _
            refine XS.goto X122.here hx rfl (pc0 := 174) (pc' := 178) rfl (hb hby at_174) (by decide) (by decide) ?_
            show SS p e below T122 m 178 #[.val (.int a), .val (.int b), .val (.int c), .val (.int len), .val (.int idx), .val (.int (1 : Int32)), .val (.ref b102), .val (.ref b105), .val (.int (0 : Int32)), .val (.int (pk a)), .val (.int (1 : Int32)), .val (.int (0 : Int32)), .val (.int (1 : Int32))] [(.int (1 : Int32))] _
            exact kt
          obtain ⟨fs, hr, hrun, hended, hW, hsame⟩ := X122.leave (v := some (.int (nar .boolean (1 : Int32)))) (fun h => by rw [Bd.returns] at h; cases h)
          refine ⟨_, _, W123 _ (retN X122 hx (t := .boolean) Bd.returns (by simp) (hb hby at_178) hr), hrun, hended, _, _, rfl, ?_, ⟨_, rfl⟩, hW, hsame.mono (by decide) (by decide)⟩
          show Q_law Z a b c len idx cS fm h0 n0 _ T122.heap _
          rw [eq122]
          exact ⟨rfl, N122, (Keep.trans (Keep.trans (Keep.trans (Keep.trans (Keep.refl h0 []) K102 all0) K104 (allS (Or.inr (Nat.le_of_eq g102.symm)) all0)) K105 all0) K108 (allS (Or.inr (Nat.le_trans (Nat.le_trans K102.1 K104.1) (Nat.le_of_eq g105.symm))) all0))⟩
        ·
          have O124 : Old Z n0 T108.heap := (O107.keep K108 (allS (Nat.le_trans Z0 (Nat.le_trans (Nat.le_trans K102.1 K104.1) (Nat.le_of_eq g105.symm))) all0))
          obtain ⟨_, _, ⟨T125, L125, k125, n125⟩, -, X125, ⟨Lc125, hQ125, l125, y125, z125⟩, st125⟩ := Jvm.LawKit.callS X108 hx (y := (⟨"com/example/vestline/vestline/input/TextFiles", "endsLine", "(Ljava/lang/String;I)Z"⟩ : MethodName)) hown (mvT hZ (w35 hw)) (mvT hZ (w36 hw)) (mvT hZ (w37 hw)) (mvT hZ (w38 hw)) (by decide) (backOf (W := 0) (rm_endsLine l Z a0 hw [] b105 0 t_109 kb_110 [(pk a)] cS fm T108.heap n0 (Nat.le_trans Z0 (Nat.le_trans (Nat.le_trans (Nat.le_trans K102.1 K104.1) K105.1) K108.1)) O124 S_cs hcS S_fm hfm S_ad S_hi S_lo P108_1 (Nat.le_of_ble_eq_true rfl)) hZ (w38 hw) (w37 hw) (by decide) (by decide)) (g := (mkF m 165 #[.val (.int a), .val (.int b), .val (.int c), .val (.int len), .val (.int idx), .val (.int (1 : Int32)), .val (.ref b102), .val (.ref b105), .val (.int (0 : Int32)), .val (.int (pk a)), .val (.int (1 : Int32)), .val (.int (0 : Int32)), .val (.int (0 : Int32))] [(.int (0 : Int32)), (.ref b105)])) rfl (by rw [hml]; rfl) (argsL := [(.ref b105), (.int (0 : Int32))]) (rest := []) (lenOf pd__28_Ljava_2f_lang_2f_String_3b_I_29_Z rfl) rfl (by show 2 * 0 + _ ≤ _; exact Nat.le_of_eq rfl) (hb hby at_165) (fun _ _ => ⟨rfl, rfl, (Nat.le_of_ble_eq_true rfl), (Nat.le_of_ble_eq_true rfl)⟩)
          dsimp only [Pt.U, Pt.locs, Pt.cells, Pt.slots] at X125 l125 y125 z125 st125 hQ125
          subst l125 y125 z125
          obtain ⟨rfl, Nq125, eq125⟩ := hQ125
          have N125 := Fr.app N108 Nq125
          have W126 : ∀ zQ, SS p e below T125 m 178 #[.val (.int a), .val (.int b), .val (.int c), .val (.int len), .val (.int idx), .val (.int (1 : Int32)), .val (.ref b102), .val (.ref b105), .val (.int (0 : Int32)), .val (.int (pk a)), .val (.int (1 : Int32)), .val (.int (0 : Int32)), .val (.int (0 : Int32))] [(.int (1 : Int32))] zQ → Steps p.tables e below (s₁.setTop (entryFrame m #[(.int a), (.int b), (.int c), (.int len), (.int idx)] maxLocals)) zQ := by
            intro tt kt
            refine W119 tt ?_
            refine XS.icmpYes X108.here hx rfl (pc0 := 140) (pc' := 158) rfl (hb hby at_140) rfl (feq hc120).2 (by decide) (by decide) ?_
            show SS p e below T108 m 158 #[.val (.int a), .val (.int b), .val (.int c), .val (.int len), .val (.int idx), .val (.int (1 : Int32)), .val (.ref b102), .val (.ref b105), .val (.int (0 : Int32)), .val (.int (pk a)), .val (.int (1 : Int32)), .val (.int (0 : Int32)), .unset] [] _
            refine XS.iconst X108.here hx rfl (hb hby at_158) ?_
            show SS p e below T108 m 159 #[.val (.int a), .val (.int b), .val (.int c), .val (.int len), .val (.int idx), .val (.int (1 : Int32)), .val (.ref b102), .val (.ref b105), .val (.int (0 : Int32)), .val (.int (pk a)), .val (.int (1 : Int32)), .val (.int (0 : Int32)), .unset] [(.int (0 : Int32))] _
            refine XS.istore X108.here hx rfl (hb hby at_159) rfl (l' := #[.val (.int a), .val (.int b), .val (.int c), .val (.int len), .val (.int idx), .val (.int (1 : Int32)), .val (.ref b102), .val (.ref b105), .val (.int (0 : Int32)), .val (.int (pk a)), .val (.int (1 : Int32)), .val (.int (0 : Int32)), .val (.int (0 : Int32))]) rfl ?_
            show SS p e below T108 m 161 #[.val (.int a), .val (.int b), .val (.int c), .val (.int len), .val (.int idx), .val (.int (1 : Int32)), .val (.ref b102), .val (.ref b105), .val (.int (0 : Int32)), .val (.int (pk a)), .val (.int (1 : Int32)), .val (.int (0 : Int32)), .val (.int (0 : Int32))] [] _
            refine XS.aload X108.here hx rfl (hb hby at_161) rfl rfl ?_
            show SS p e below T108 m 163 #[.val (.int a), .val (.int b), .val (.int c), .val (.int len), .val (.int idx), .val (.int (1 : Int32)), .val (.ref b102), .val (.ref b105), .val (.int (0 : Int32)), .val (.int (pk a)), .val (.int (1 : Int32)), .val (.int (0 : Int32)), .val (.int (0 : Int32))] [(.ref b105)] _
            refine XS.iload X108.here hx rfl (hb hby at_163) rfl ?_
            show SS p e below T108 m 165 #[.val (.int a), .val (.int b), .val (.int c), .val (.int len), .val (.int idx), .val (.int (1 : Int32)), .val (.ref b102), .val (.ref b105), .val (.int (0 : Int32)), .val (.int (pk a)), .val (.int (1 : Int32)), .val (.int (0 : Int32)), .val (.int (0 : Int32))] [(.int (0 : Int32)), (.ref b105)] _
            refine st125 _ ?_
            show SS p e below T125 m 168 #[.val (.int a), .val (.int b), .val (.int c), .val (.int len), .val (.int idx), .val (.int (1 : Int32)), .val (.ref b102), .val (.ref b105), .val (.int (0 : Int32)), .val (.int (pk a)), .val (.int (1 : Int32)), .val (.int (0 : Int32)), .val (.int (0 : Int32))] [(.int (el [(pk a)] 0))] _
            refine XS.iload X125.here hx rfl (hb hby at_168) rfl ?_
            show SS p e below T125 m 170 #[.val (.int a), .val (.int b), .val (.int c), .val (.int len), .val (.int idx), .val (.int (1 : Int32)), .val (.ref b102), .val (.ref b105), .val (.int (0 : Int32)), .val (.int (pk a)), .val (.int (1 : Int32)), .val (.int (0 : Int32)), .val (.int (0 : Int32))] [(.int (0 : Int32)), (.int (el [(pk a)] 0))] _
            refine XS.icmpNo X125.here hx rfl (hb hby at_170) rfl (teq (by simp [el, hc115, hc120])).2 ?_
            show SS p e below T125 m 173 #[.val (.int a), .val (.int b), .val (.int c), .val (.int len), .val (.int idx), .val (.int (1 : Int32)), .val (.ref b102), .val (.ref b105), .val (.int (0 : Int32)), .val (.int (pk a)), .val (.int (1 : Int32)), .val (.int (0 : Int32)), .val (.int (0 : Int32))] [] _
            refine XS.iconst X125.here hx rfl (hb hby at_173) ?_
            show SS p e below T125 m 174 #[.val (.int a), .val (.int b), .val (.int c), .val (.int len), .val (.int idx), .val (.int (1 : Int32)), .val (.ref b102), .val (.ref b105), .val (.int (0 : Int32)), .val (.int (pk a)), .val (.int (1 : Int32)), .val (.int (0 : Int32)), .val (.int (0 : Int32))] [(.int (1 : Int32))] _
            refine XS.goto X125.here hx rfl (pc0 := 174) (pc' := 178) rfl (hb hby at_174) (by decide) (by decide) ?_
            show SS p e below T125 m 178 #[.val (.int a), .val (.int b), .val (.int c), .val (.int len), .val (.int idx), .val (.int (1 : Int32)), .val (.ref b102), .val (.ref b105), .val (.int (0 : Int32)), .val (.int (pk a)), .val (.int (1 : Int32)), .val (.int (0 : Int32)), .val (.int (0 : Int32))] [(.int (1 : Int32))] _
            exact kt
          obtain ⟨fs, hr, hrun, hended, hW, hsame⟩ := X125.leave (v := some (.int (nar .boolean (1 : Int32)))) (fun h => by rw [Bd.returns] at h; cases h)
          refine ⟨_, _, W126 _ (retN X125 hx (t := .boolean) Bd.returns (by simp) (hb hby at_178) hr), hrun, hended, _, _, rfl, ?_, ⟨_, rfl⟩, hW, hsame.mono (by decide) (by decide)⟩
          show Q_law Z a b c len idx cS fm h0 n0 _ T125.heap _
          rw [eq125]
          exact ⟨rfl, N125, (Keep.trans (Keep.trans (Keep.trans (Keep.trans (Keep.refl h0 []) K102 all0) K104 (allS (Or.inr (Nat.le_of_eq g102.symm)) all0)) K105 all0) K108 (allS (Or.inr (Nat.le_trans (Nat.le_trans K102.1 K104.1) (Nat.le_of_eq g105.symm))) all0))⟩
  ·
    obtain ⟨T127, h127, k127, X127, e127, E127, A127, st127⟩ := newP X0 hx hZ (aty := .char) (w1 hw) e0 (g := (mkF m 12 #[.val (.int a), .val (.int b), .val (.int c), .val (.int len), .val (.int idx), .val (.int (2 : Int32)), .unset, .unset, .unset, .unset, .unset, .unset, .unset] [(.int (2 : Int32))])) rfl (hb hby at_12) (n := (2 : Int32)) rfl (by decide) (cap := 2) (by decide) (by decide) (by decide) (by decide)
    obtain ⟨b127, g127⟩ : ∃ z, z = h0.size := ⟨_, rfl⟩
    rw [← g127] at A127 st127
    have K127 := (Keep.refl h0 []).ext E127
    have G127 : Arv Z h127 b127 k127 .char (2 : Int32) [(.int (0 : Int32)), (.int (0 : Int32))] (.int (0 : Int32)) := (Arv.new A127 (by decide)).pad (pad_rep [] (.int (0 : Int32)) 2)
    obtain ⟨_, _, ⟨T128, L128, k128, n128⟩, -, X128, ⟨Lc128, hQ128, l128, y128, z128⟩, st128⟩ := Jvm.LawKit.callS X127 hx (y := (⟨"com/example/vestline/vestline/input/TextFilesEndsLinePinLaw", "pick", "(I)C"⟩ : MethodName)) hown (mvT hZ (w2 hw)) (mvT hZ (w3 hw)) (mvT hZ (w4 hw)) (mvT hZ (w5 hw)) (by decide) (backOf (W := 2) (rm_pick l Z a0 hw [] a h127 n0 (Nat.le_trans Z0 K127.1) ) hZ (w5 hw) (w4 hw) (by decide) (by decide)) (g := (mkF m 20 #[.val (.int a), .val (.int b), .val (.int c), .val (.int len), .val (.int idx), .val (.int (2 : Int32)), .val (.ref b127), .unset, .unset, .unset, .unset, .unset, .unset] [(.int a), (.int (0 : Int32)), (.ref b127)])) rfl (by rw [hml]; rfl) (argsL := [(.int a)]) (rest := [(.int (0 : Int32)), (.ref b127)]) (lenOf pd__28_I_29_C rfl) rfl (by show 2 * 0 + _ ≤ _; exact Nat.le_of_eq rfl) (hb hby at_20) (fun _ _ => ⟨rfl, e127, (Nat.le_of_ble_eq_true rfl), (Nat.le_of_ble_eq_true rfl)⟩)
    dsimp only [Pt.U, Pt.locs, Pt.cells, Pt.slots] at X128 l128 y128 z128 st128 hQ128
    subst l128 y128 z128
    obtain ⟨rfl, Nq128, eq128⟩ := hQ128
    have N128 := Fr.app N0 Nq128
    obtain ⟨cl129, Ar129, q129, S129, M129, H129, F129g⟩ := id G127
    have hin129 : ¬ ((0 : Int32) < 0 ∨ cl129.slots.size ≤ ((0 : Int32)).toNatClampNeg) := inb_of S129 ⟨by decide, by decide⟩
    obtain ⟨T129, h129, X129, e129, Wr129, st129⟩ := stC X128 hx hZ eq128 Ar129 (j := (0 : Int32)) hin129 (g := (mkF m 23 #[.val (.int a), .val (.int b), .val (.int c), .val (.int len), .val (.int idx), .val (.int (2 : Int32)), .val (.ref b127), .unset, .unset, .unset, .unset, .unset, .unset] [(.int (pk a)), (.int (0 : Int32)), (.ref b127)])) rfl rfl (hb hby at_23)
    have G129 : Arv Z h129 b127 k127 .char (2 : Int32) [(.int (nar .char (pk a))), (.int (0 : Int32))] (.int (0 : Int32)) := Arv.set Ar129 q129 S129 M129 H129 F129g (fits_nar_char _) Wr129 0 rfl (Nat.le_of_ble_eq_true rfl)
    have K129 := Keep.of_wr Wr129
    have N129 := Fr.snoc X129 N128 (Nat.le_trans Z0 (Nat.le_of_eq g127.symm))
    have J129 : Arv Z h129 b127 k127 .char (2 : Int32) [(.int (pk a)), (.int (0 : Int32))] (.int (0 : Int32)) := by rw [own_narpk] at G129; exact G129
    obtain ⟨_, _, ⟨T130, L130, k130, n130⟩, -, X130, ⟨Lc130, hQ130, l130, y130, z130⟩, st130⟩ := Jvm.LawKit.callS X129 hx (y := (⟨"com/example/vestline/vestline/input/TextFilesEndsLinePinLaw", "pick", "(I)C"⟩ : MethodName)) hown (mvT hZ (w2 hw)) (mvT hZ (w3 hw)) (mvT hZ (w4 hw)) (mvT hZ (w5 hw)) (by decide) (backOf (W := 2) (rm_pick l Z a0 hw [] b h129 n0 (Nat.le_trans Z0 (Nat.le_trans K127.1 K129.1)) ) hZ (w5 hw) (w4 hw) (by decide) (by decide)) (g := (mkF m 34 #[.val (.int a), .val (.int b), .val (.int c), .val (.int len), .val (.int idx), .val (.int (2 : Int32)), .val (.ref b127), .unset, .unset, .unset, .unset, .unset, .unset] [(.int b), (.int (1 : Int32)), (.ref b127)])) rfl (by rw [hml]; rfl) (argsL := [(.int b)]) (rest := [(.int (1 : Int32)), (.ref b127)]) (lenOf pd__28_I_29_C rfl) rfl (by show 2 * 0 + _ ≤ _; exact Nat.le_of_eq rfl) (hb hby at_34) (fun _ _ => ⟨rfl, e129, (Nat.le_of_ble_eq_true rfl), (Nat.le_of_ble_eq_true rfl)⟩)
    dsimp only [Pt.U, Pt.locs, Pt.cells, Pt.slots] at X130 l130 y130 z130 st130 hQ130
    subst l130 y130 z130
    obtain ⟨rfl, Nq130, eq130⟩ := hQ130
    have N130 := Fr.app N129 Nq130
    obtain ⟨cl131, Ar131, q131, S131, M131, H131, F131g⟩ := id J129
    have hin131 : ¬ ((1 : Int32) < 0 ∨ cl131.slots.size ≤ ((1 : Int32)).toNatClampNeg) := inb_of S131 ⟨by decide, by decide⟩
    obtain ⟨T131, h131, X131, e131, Wr131, st131⟩ := stC X130 hx hZ eq130 Ar131 (j := (1 : Int32)) hin131 (g := (mkF m 37 #[.val (.int a), .val (.int b), .val (.int c), .val (.int len), .val (.int idx), .val (.int (2 : Int32)), .val (.ref b127), .unset, .unset, .unset, .unset, .unset, .unset] [(.int (pk b)), (.int (1 : Int32)), (.ref b127)])) rfl rfl (hb hby at_37)
    have G131 : Arv Z h131 b127 k127 .char (2 : Int32) [(.int (pk a)), (.int (nar .char (pk b)))] (.int (0 : Int32)) := Arv.set Ar131 q131 S131 M131 H131 F131g (fits_nar_char _) Wr131 1 rfl (Nat.le_of_ble_eq_true rfl)
    have K131 := Keep.of_wr Wr131
    have N131 := Fr.snoc X131 N130 (Nat.le_trans Z0 (Nat.le_of_eq g127.symm))
    have J131 : Arv Z h131 b127 k127 .char (2 : Int32) [(.int (pk a)), (.int (pk b))] (.int (0 : Int32)) := by rw [own_narpk] at G131; exact G131
    obtain ⟨T132, h132, X132, e132, E132, A132, D132, U132, st132⟩ := newO X131 hx hZ hown (w6 hw) (w7 hw) (w8 hw) e131 (g := (mkF m 52 #[.val (.int a), .val (.int b), .val (.int c), .val (.int len), .val (.int idx), .val (.int (2 : Int32)), .val (.ref b127), .unset, .unset, .unset, .unset, .unset, .unset] [])) rfl (hb hby at_52) (by decide) (by decide)
    obtain ⟨b132, g132⟩ : ∃ z, z = h131.size := ⟨_, rfl⟩
    rw [← g132] at A132 D132 U132 st132
    have K132 := (Keep.refl h131 []).ext E132
    have G132_coder : Fld Z h132 b132 "java/lang/String" "coder" "B" (.int (0 : Int32)) := D132 (Or.inr (w32 hw)) (ty := .byte) (by decide)
    have G132_value : Fld Z h132 b132 "java/lang/String" "value" "[B" .null := D132 (Or.inr (w34 hw)) (ty := (.array .byte)) (by decide)
    have F133 : Arv Z h132 b127 k127 .char (2 : Int32) [(.int (pk a)), (.int (pk b))] (.int (0 : Int32)) := (J131.keep K132 nin0)
    have O134 : Old Z n0 h132 := ((((O0.keep K127 all0).keep K129 (allS (Nat.le_trans Z0 (Nat.le_of_eq g127.symm)) all0)).keep K131 (allS (Nat.le_trans Z0 (Nat.le_of_eq g127.symm)) all0)).keep K132 all0)
    obtain ⟨_, _, ⟨T135, L135, k135, n135⟩, -, X135, ⟨Lc135, hQ135, l135, y135, z135⟩, st135⟩ := X132.specialBack hx (y := (⟨"java/lang/String", "<init>", "([C)V"⟩ : MethodName)) rfl hown (mvT hZ (w9 hw)) (mvT hZ (w10 hw)) (mvT hZ (w11 hw)) (by decide) (backOf (W := 1) (rm_sinit l Z a0 hw [] b132 b127 k127 [(pk a), (pk b)] cS h132 n0 (Nat.le_trans Z0 (Nat.le_trans (Nat.le_trans (Nat.le_trans K127.1 K129.1) K131.1) K132.1)) O134 S_cs hcS S_ad S_hi S_lo A132 G132_value G132_coder (Nat.le_trans Z0 (Nat.le_trans (Nat.le_trans (Nat.le_trans K127.1 K129.1) K131.1) (Nat.le_of_eq g132.symm))) F133 (ok_pk [a, b] (Nat.le_of_ble_eq_true rfl)) (Nat.le_of_ble_eq_true rfl) (Nat.le_of_ble_eq_true rfl) (Ne.symm (Nat.ne_of_lt (Nat.lt_of_lt_of_le (Nat.lt_of_lt_of_le G127.lt (Nat.le_trans K129.1 K131.1)) (Nat.le_of_eq g132.symm))))) hZ (w11 hw) (w8 hw) (by decide) (by decide)) (g := (mkF m 58 #[.val (.int a), .val (.int b), .val (.int c), .val (.int len), .val (.int idx), .val (.int (2 : Int32)), .val (.ref b127), .unset, .unset, .unset, .unset, .unset, .unset] [(.ref b127), (.ref b132), (.ref b132)])) rfl (by rw [hml]; rfl) (Steps.refl _) (a := b132) (argsL := [(.ref b127)]) (rest := [(.ref b132)]) (lenOf pd__28__5b_C_29_V rfl) rfl (by show 2 * 0 + _ ≤ _; exact Nat.le_of_eq rfl) (hb hby at_58) (fun _ _ => ⟨rfl, e132, (Nat.le_of_ble_eq_true rfl), (Nat.le_of_ble_eq_true rfl)⟩)
    dsimp only [Pt.U, Pt.locs, Pt.cells, Pt.slots] at X135 l135 y135 z135 st135 hQ135
    subst l135 y135 z135
    obtain ⟨t_136, kb_137, rfl, Nq135, K135, P135_0, P135_1⟩ := hQ135
    have N135 := Fr.app N131 Nq135
    obtain ⟨ri, h_ri⟩ : ∃ z : Int32, z = ((idx &&& (2147483647 : Int32)) % (2 : Int32)) := ⟨_, rfl⟩
    have W138 : ∀ zQ, SS p e below T135 m 71 #[.val (.int a), .val (.int b), .val (.int c), .val (.int len), .val (.int idx), .val (.int (2 : Int32)), .val (.ref b127), .val (.ref b132), .unset, .unset, .unset, .unset, .unset] [(.int ri)] zQ → Steps p.tables e below (s₁.setTop (entryFrame m #[(.int a), (.int b), (.int c), (.int len), (.int idx)] maxLocals)) zQ := by
      intro tt kt
      refine W101 tt ?_
      refine XS.iadd X0.here hx rfl (hb hby at_7) rfl ?_
      show SS p e below s₁ m 8 #[.val (.int a), .val (.int b), .val (.int c), .val (.int len), .val (.int idx), .unset, .unset, .unset, .unset, .unset, .unset, .unset, .unset] [(.int (2 : Int32))] _
      refine XS.istore X0.here hx rfl (hb hby at_8) rfl (l' := #[.val (.int a), .val (.int b), .val (.int c), .val (.int len), .val (.int idx), .val (.int (2 : Int32)), .unset, .unset, .unset, .unset, .unset, .unset, .unset]) rfl ?_
      show SS p e below s₁ m 10 #[.val (.int a), .val (.int b), .val (.int c), .val (.int len), .val (.int idx), .val (.int (2 : Int32)), .unset, .unset, .unset, .unset, .unset, .unset, .unset] [] _
      refine XS.iload X0.here hx rfl (hb hby at_10) rfl ?_
      show SS p e below s₁ m 12 #[.val (.int a), .val (.int b), .val (.int c), .val (.int len), .val (.int idx), .val (.int (2 : Int32)), .unset, .unset, .unset, .unset, .unset, .unset, .unset] [(.int (2 : Int32))] _
      refine st127 _ ?_
      show SS p e below T127 m 14 #[.val (.int a), .val (.int b), .val (.int c), .val (.int len), .val (.int idx), .val (.int (2 : Int32)), .unset, .unset, .unset, .unset, .unset, .unset, .unset] [(.ref b127)] _
      refine XS.astore X127.here hx rfl (hb hby at_14) rfl rfl (l' := #[.val (.int a), .val (.int b), .val (.int c), .val (.int len), .val (.int idx), .val (.int (2 : Int32)), .val (.ref b127), .unset, .unset, .unset, .unset, .unset, .unset]) rfl ?_
      show SS p e below T127 m 16 #[.val (.int a), .val (.int b), .val (.int c), .val (.int len), .val (.int idx), .val (.int (2 : Int32)), .val (.ref b127), .unset, .unset, .unset, .unset, .unset, .unset] [] _
      refine XS.aload X127.here hx rfl (hb hby at_16) rfl rfl ?_
      show SS p e below T127 m 18 #[.val (.int a), .val (.int b), .val (.int c), .val (.int len), .val (.int idx), .val (.int (2 : Int32)), .val (.ref b127), .unset, .unset, .unset, .unset, .unset, .unset] [(.ref b127)] _
      refine XS.iconst X127.here hx rfl (hb hby at_18) ?_
      show SS p e below T127 m 19 #[.val (.int a), .val (.int b), .val (.int c), .val (.int len), .val (.int idx), .val (.int (2 : Int32)), .val (.ref b127), .unset, .unset, .unset, .unset, .unset, .unset] [(.int (0 : Int32)), (.ref b127)] _
      refine XS.iloadN X127.here hx rfl (hb hby at_19) rfl ?_
      show SS p e below T127 m 20 #[.val (.int a), .val (.int b), .val (.int c), .val (.int len), .val (.int idx), .val (.int (2 : Int32)), .val (.ref b127), .unset, .unset, .unset, .unset, .unset, .unset] [(.int a), (.int (0 : Int32)), (.ref b127)] _
      refine st128 _ ?_
      show SS p e below T128 m 23 #[.val (.int a), .val (.int b), .val (.int c), .val (.int len), .val (.int idx), .val (.int (2 : Int32)), .val (.ref b127), .unset, .unset, .unset, .unset, .unset, .unset] [(.int (pk a)), (.int (0 : Int32)), (.ref b127)] _
      refine st129 _ ?_
      show SS p e below T129 m 24 #[.val (.int a), .val (.int b), .val (.int c), .val (.int len), .val (.int idx), .val (.int (2 : Int32)), .val (.ref b127), .unset, .unset, .unset, .unset, .unset, .unset] [] _
      refine XS.iload X129.here hx rfl (hb hby at_24) rfl ?_
      show SS p e below T129 m 26 #[.val (.int a), .val (.int b), .val (.int c), .val (.int len), .val (.int idx), .val (.int (2 : Int32)), .val (.ref b127), .unset, .unset, .unset, .unset, .unset, .unset] [(.int (2 : Int32))] _
      refine XS.iconst X129.here hx rfl (hb hby at_26) ?_
      show SS p e below T129 m 27 #[.val (.int a), .val (.int b), .val (.int c), .val (.int len), .val (.int idx), .val (.int (2 : Int32)), .val (.ref b127), .unset, .unset, .unset, .unset, .unset, .unset] [(.int (1 : Int32)), (.int (2 : Int32))] _
      refine XS.icmpNo X129.here hx rfl (hb hby at_27) rfl (tlt (by decide)).2.2.2 ?_
      show SS p e below T129 m 30 #[.val (.int a), .val (.int b), .val (.int c), .val (.int len), .val (.int idx), .val (.int (2 : Int32)), .val (.ref b127), .unset, .unset, .unset, .unset, .unset, .unset] [] _
      refine XS.aload X129.here hx rfl (hb hby at_30) rfl rfl ?_
      show SS p e below T129 m 32 #[.val (.int a), .val (.int b), .val (.int c), .val (.int len), .val (.int idx), .val (.int (2 : Int32)), .val (.ref b127), .unset, .unset, .unset, .unset, .unset, .unset] [(.ref b127)] _
      refine XS.iconst X129.here hx rfl (hb hby at_32) ?_
      show SS p e below T129 m 33 #[.val (.int a), .val (.int b), .val (.int c), .val (.int len), .val (.int idx), .val (.int (2 : Int32)), .val (.ref b127), .unset, .unset, .unset, .unset, .unset, .unset] [(.int (1 : Int32)), (.ref b127)] _
      refine XS.iloadN X129.here hx rfl (hb hby at_33) rfl ?_
      show SS p e below T129 m 34 #[.val (.int a), .val (.int b), .val (.int c), .val (.int len), .val (.int idx), .val (.int (2 : Int32)), .val (.ref b127), .unset, .unset, .unset, .unset, .unset, .unset] [(.int b), (.int (1 : Int32)), (.ref b127)] _
      refine st130 _ ?_
      show SS p e below T130 m 37 #[.val (.int a), .val (.int b), .val (.int c), .val (.int len), .val (.int idx), .val (.int (2 : Int32)), .val (.ref b127), .unset, .unset, .unset, .unset, .unset, .unset] [(.int (pk b)), (.int (1 : Int32)), (.ref b127)] _
      refine st131 _ ?_
      show SS p e below T131 m 38 #[.val (.int a), .val (.int b), .val (.int c), .val (.int len), .val (.int idx), .val (.int (2 : Int32)), .val (.ref b127), .unset, .unset, .unset, .unset, .unset, .unset] [] _
      refine XS.iload X131.here hx rfl (hb hby at_38) rfl ?_
      show SS p e below T131 m 40 #[.val (.int a), .val (.int b), .val (.int c), .val (.int len), .val (.int idx), .val (.int (2 : Int32)), .val (.ref b127), .unset, .unset, .unset, .unset, .unset, .unset] [(.int (2 : Int32))] _
      refine XS.iconst X131.here hx rfl (hb hby at_40) ?_
      show SS p e below T131 m 41 #[.val (.int a), .val (.int b), .val (.int c), .val (.int len), .val (.int idx), .val (.int (2 : Int32)), .val (.ref b127), .unset, .unset, .unset, .unset, .unset, .unset] [(.int (2 : Int32)), (.int (2 : Int32))] _
      refine XS.icmpYes X131.here hx rfl (pc0 := 41) (pc' := 52) rfl (hb hby at_41) rfl (flt (by decide)).2.2.2 (by decide) (by decide) ?_
      show SS p e below T131 m 52 #[.val (.int a), .val (.int b), .val (.int c), .val (.int len), .val (.int idx), .val (.int (2 : Int32)), .val (.ref b127), .unset, .unset, .unset, .unset, .unset, .unset] [] _
      refine st132 _ ?_
      show SS p e below T132 m 55 #[.val (.int a), .val (.int b), .val (.int c), .val (.int len), .val (.int idx), .val (.int (2 : Int32)), .val (.ref b127), .unset, .unset, .unset, .unset, .unset, .unset] [(.ref b132)] _
      refine XS.dup X132.here hx rfl (hb hby at_55) rfl rfl ?_
      show SS p e below T132 m 56 #[.val (.int a), .val (.int b), .val (.int c), .val (.int len), .val (.int idx), .val (.int (2 : Int32)), .val (.ref b127), .unset, .unset, .unset, .unset, .unset, .unset] [(.ref b132), (.ref b132)] _
      refine XS.aload X132.here hx rfl (hb hby at_56) rfl rfl ?_
      show SS p e below T132 m 58 #[.val (.int a), .val (.int b), .val (.int c), .val (.int len), .val (.int idx), .val (.int (2 : Int32)), .val (.ref b127), .unset, .unset, .unset, .unset, .unset, .unset] [(.ref b127), (.ref b132), (.ref b132)] _
      refine st135.trans ?_
      show SS p e below T135 m 61 #[.val (.int a), .val (.int b), .val (.int c), .val (.int len), .val (.int idx), .val (.int (2 : Int32)), .val (.ref b127), .unset, .unset, .unset, .unset, .unset, .unset] [(.ref b132)] _
      refine XS.astore X135.here hx rfl (hb hby at_61) rfl rfl (l' := #[.val (.int a), .val (.int b), .val (.int c), .val (.int len), .val (.int idx), .val (.int (2 : Int32)), .val (.ref b127), .val (.ref b132), .unset, .unset, .unset, .unset, .unset]) rfl ?_
      show SS p e below T135 m 63 #[.val (.int a), .val (.int b), .val (.int c), .val (.int len), .val (.int idx), .val (.int (2 : Int32)), .val (.ref b127), .val (.ref b132), .unset, .unset, .unset, .unset, .unset] [] _
      refine XS.iload X135.here hx rfl (hb hby at_63) rfl ?_
      show SS p e below T135 m 65 #[.val (.int a), .val (.int b), .val (.int c), .val (.int len), .val (.int idx), .val (.int (2 : Int32)), .val (.ref b127), .val (.ref b132), .unset, .unset, .unset, .unset, .unset] [(.int idx)] _
      refine X135.ldcInt hx hown (mvT hZ (w0 hw)) (g := (mkF m 65 #[.val (.int a), .val (.int b), .val (.int c), .val (.int len), .val (.int idx), .val (.int (2 : Int32)), .val (.ref b127), .val (.ref b132), .unset, .unset, .unset, .unset, .unset] [(.int idx)])) rfl (hb hby at_65) _ ?_
      show SS p e below T135 m 67 #[.val (.int a), .val (.int b), .val (.int c), .val (.int len), .val (.int idx), .val (.int (2 : Int32)), .val (.ref b127), .val (.ref b132), .unset, .unset, .unset, .unset, .unset] [(.int (2147483647 : Int32)), (.int idx)] _
      refine XS.iand X135.here hx rfl (hb hby at_67) rfl ?_
      show SS p e below T135 m 68 #[.val (.int a), .val (.int b), .val (.int c), .val (.int len), .val (.int idx), .val (.int (2 : Int32)), .val (.ref b127), .val (.ref b132), .unset, .unset, .unset, .unset, .unset] [(.int (idx &&& (2147483647 : Int32)))] _
      refine XS.iload X135.here hx rfl (hb hby at_68) rfl ?_
      show SS p e below T135 m 70 #[.val (.int a), .val (.int b), .val (.int c), .val (.int len), .val (.int idx), .val (.int (2 : Int32)), .val (.ref b127), .val (.ref b132), .unset, .unset, .unset, .unset, .unset] [(.int (2 : Int32)), (.int (idx &&& (2147483647 : Int32)))] _
      refine Jvm.RoadKit.iremM X135 hx rfl (hb hby at_70) rfl (by decide) ?_
      show SS p e below T135 m 71 #[.val (.int a), .val (.int b), .val (.int c), .val (.int len), .val (.int idx), .val (.int (2 : Int32)), .val (.ref b127), .val (.ref b132), .unset, .unset, .unset, .unset, .unset] [(.int ((idx &&& (2147483647 : Int32)) % (2 : Int32)))] _
      rw [← h_ri]
      show SS p e below T135 m 71 #[.val (.int a), .val (.int b), .val (.int c), .val (.int len), .val (.int idx), .val (.int (2 : Int32)), .val (.ref b127), .val (.ref b132), .unset, .unset, .unset, .unset, .unset] [(.int ri)] _
      exact kt
    rcases (h_ri ▸ own_r2 idx : ri = 0 ∨ ri = 1) with rfl | rfl
    ·
      have F139 : Arv Z T135.heap b127 k127 .char (2 : Int32) [(.int (pk a)), (.int (pk b))] (.int (0 : Int32)) := (F133.keep K135 (ninS (Nat.ne_of_lt (Nat.lt_of_lt_of_le (Nat.lt_of_lt_of_le G127.lt (Nat.le_trans K129.1 K131.1)) (Nat.le_of_eq g132.symm))) nin0))
      obtain ⟨cl140, Ar140, q140, S140, M140, H140, F140g⟩ := id F139
      have hin140 : ¬ ((0 : Int32) < 0 ∨ cl140.slots.size ≤ ((0 : Int32)).toNatClampNeg) := inb_of S140 ⟨by decide, by decide⟩
      have hat140 : cl140.slots[((0 : Int32)).toNatClampNeg]? = some (.int (pk a)) := Has.at H140 hin140 rfl
      obtain ⟨cl141, Ar141, q141, S141, M141, H141, F141g⟩ := id F139
      have hin141 : ¬ ((1 : Int32) < 0 ∨ cl141.slots.size ≤ ((1 : Int32)).toNatClampNeg) := inb_of S141 ⟨by decide, by decide⟩
      have hat141 : cl141.slots[((1 : Int32)).toNatClampNeg]? = some (.int (pk b)) := Has.at H141 hin141 rfl
      have W142 : ∀ zQ, SS p e below T135 m 113 #[.val (.int a), .val (.int b), .val (.int c), .val (.int len), .val (.int idx), .val (.int (2 : Int32)), .val (.ref b127), .val (.ref b132), .val (.int (0 : Int32)), .val (.int (pk a)), .val (.int (0 : Int32)), .val (.int (0 : Int32)), .unset] [(.int (10 : Int32)), (.int (pk b))] zQ → Steps p.tables e below (s₁.setTop (entryFrame m #[(.int a), (.int b), (.int c), (.int len), (.int idx)] maxLocals)) zQ := by
        intro tt kt
        refine W138 tt ?_
        refine XS.istore X135.here hx rfl (hb hby at_71) rfl (l' := #[.val (.int a), .val (.int b), .val (.int c), .val (.int len), .val (.int idx), .val (.int (2 : Int32)), .val (.ref b127), .val (.ref b132), .val (.int (0 : Int32)), .unset, .unset, .unset, .unset]) rfl ?_
        show SS p e below T135 m 73 #[.val (.int a), .val (.int b), .val (.int c), .val (.int len), .val (.int idx), .val (.int (2 : Int32)), .val (.ref b127), .val (.ref b132), .val (.int (0 : Int32)), .unset, .unset, .unset, .unset] [] _
        refine XS.aload X135.here hx rfl (hb hby at_73) rfl rfl ?_
        show SS p e below T135 m 75 #[.val (.int a), .val (.int b), .val (.int c), .val (.int len), .val (.int idx), .val (.int (2 : Int32)), .val (.ref b127), .val (.ref b132), .val (.int (0 : Int32)), .unset, .unset, .unset, .unset] [(.ref b127)] _
        refine XS.iload X135.here hx rfl (hb hby at_75) rfl ?_
        show SS p e below T135 m 77 #[.val (.int a), .val (.int b), .val (.int c), .val (.int len), .val (.int idx), .val (.int (2 : Int32)), .val (.ref b127), .val (.ref b132), .val (.int (0 : Int32)), .unset, .unset, .unset, .unset] [(.int (0 : Int32)), (.ref b127)] _
        refine X135.caload hx (j := (0 : Int32)) (v := (.int (pk a))) (by first | exact Ar140.1 | (rw [rfl]; exact Ar140.1)) (State.isArrayOf_alike hZ.alike Ar140.2.1) Ar140.2.2 hin140 hat140 (g := (mkF m 77 #[.val (.int a), .val (.int b), .val (.int c), .val (.int len), .val (.int idx), .val (.int (2 : Int32)), .val (.ref b127), .val (.ref b132), .val (.int (0 : Int32)), .unset, .unset, .unset, .unset] [(.int (0 : Int32)), (.ref b127)])) rfl rfl (hb hby at_77) _ ?_
        show SS p e below T135 m 78 #[.val (.int a), .val (.int b), .val (.int c), .val (.int len), .val (.int idx), .val (.int (2 : Int32)), .val (.ref b127), .val (.ref b132), .val (.int (0 : Int32)), .unset, .unset, .unset, .unset] [(.int (pk a))] _
        refine XS.istore X135.here hx rfl (hb hby at_78) rfl (l' := #[.val (.int a), .val (.int b), .val (.int c), .val (.int len), .val (.int idx), .val (.int (2 : Int32)), .val (.ref b127), .val (.ref b132), .val (.int (0 : Int32)), .val (.int (pk a)), .unset, .unset, .unset]) rfl ?_
        show SS p e below T135 m 80 #[.val (.int a), .val (.int b), .val (.int c), .val (.int len), .val (.int idx), .val (.int (2 : Int32)), .val (.ref b127), .val (.ref b132), .val (.int (0 : Int32)), .val (.int (pk a)), .unset, .unset, .unset] [] _
        refine XS.iload X135.here hx rfl (hb hby at_80) rfl ?_
        show SS p e below T135 m 82 #[.val (.int a), .val (.int b), .val (.int c), .val (.int len), .val (.int idx), .val (.int (2 : Int32)), .val (.ref b127), .val (.ref b132), .val (.int (0 : Int32)), .val (.int (pk a)), .unset, .unset, .unset] [(.int (0 : Int32))] _
        refine XS.iload X135.here hx rfl (hb hby at_82) rfl ?_
        show SS p e below T135 m 84 #[.val (.int a), .val (.int b), .val (.int c), .val (.int len), .val (.int idx), .val (.int (2 : Int32)), .val (.ref b127), .val (.ref b132), .val (.int (0 : Int32)), .val (.int (pk a)), .unset, .unset, .unset] [(.int (2 : Int32)), (.int (0 : Int32))] _
        refine XS.iconst X135.here hx rfl (hb hby at_84) ?_
        show SS p e below T135 m 85 #[.val (.int a), .val (.int b), .val (.int c), .val (.int len), .val (.int idx), .val (.int (2 : Int32)), .val (.ref b127), .val (.ref b132), .val (.int (0 : Int32)), .val (.int (pk a)), .unset, .unset, .unset] [(.int (1 : Int32)), (.int (2 : Int32)), (.int (0 : Int32))] _
        refine XS.isub X135.here hx rfl (hb hby at_85) rfl ?_
        show SS p e below T135 m 86 #[.val (.int a), .val (.int b), .val (.int c), .val (.int len), .val (.int idx), .val (.int (2 : Int32)), .val (.ref b127), .val (.ref b132), .val (.int (0 : Int32)), .val (.int (pk a)), .unset, .unset, .unset] [(.int (1 : Int32)), (.int (0 : Int32))] _
        refine XS.icmpYes X135.here hx rfl (pc0 := 86) (pc' := 93) rfl (hb hby at_86) rfl (feq (by decide)).2 (by decide) (by decide) ?_
        show SS p e below T135 m 93 #[.val (.int a), .val (.int b), .val (.int c), .val (.int len), .val (.int idx), .val (.int (2 : Int32)), .val (.ref b127), .val (.ref b132), .val (.int (0 : Int32)), .val (.int (pk a)), .unset, .unset, .unset] [] _
        refine XS.iconst X135.here hx rfl (hb hby at_93) ?_
        show SS p e below T135 m 94 #[.val (.int a), .val (.int b), .val (.int c), .val (.int len), .val (.int idx), .val (.int (2 : Int32)), .val (.ref b127), .val (.ref b132), .val (.int (0 : Int32)), .val (.int (pk a)), .unset, .unset, .unset] [(.int (0 : Int32))] _
        refine XS.istore X135.here hx rfl (hb hby at_94) rfl (l' := #[.val (.int a), .val (.int b), .val (.int c), .val (.int len), .val (.int idx), .val (.int (2 : Int32)), .val (.ref b127), .val (.ref b132), .val (.int (0 : Int32)), .val (.int (pk a)), .val (.int (0 : Int32)), .unset, .unset]) rfl ?_
        show SS p e below T135 m 96 #[.val (.int a), .val (.int b), .val (.int c), .val (.int len), .val (.int idx), .val (.int (2 : Int32)), .val (.ref b127), .val (.ref b132), .val (.int (0 : Int32)), .val (.int (pk a)), .val (.int (0 : Int32)), .unset, .unset] [] _
        refine XS.iconst X135.here hx rfl (hb hby at_96) ?_
        show SS p e below T135 m 97 #[.val (.int a), .val (.int b), .val (.int c), .val (.int len), .val (.int idx), .val (.int (2 : Int32)), .val (.ref b127), .val (.ref b132), .val (.int (0 : Int32)), .val (.int (pk a)), .val (.int (0 : Int32)), .unset, .unset] [(.int (0 : Int32))] _
        refine XS.istore X135.here hx rfl (hb hby at_97) rfl (l' := #[.val (.int a), .val (.int b), .val (.int c), .val (.int len), .val (.int idx), .val (.int (2 : Int32)), .val (.ref b127), .val (.ref b132), .val (.int (0 : Int32)), .val (.int (pk a)), .val (.int (0 : Int32)), .val (.int (0 : Int32)), .unset]) rfl ?_
        show SS p e below T135 m 99 #[.val (.int a), .val (.int b), .val (.int c), .val (.int len), .val (.int idx), .val (.int (2 : Int32)), .val (.ref b127), .val (.ref b132), .val (.int (0 : Int32)), .val (.int (pk a)), .val (.int (0 : Int32)), .val (.int (0 : Int32)), .unset] [] _
        refine XS.iload X135.here hx rfl (hb hby at_99) rfl ?_
        show SS p e below T135 m 101 #[.val (.int a), .val (.int b), .val (.int c), .val (.int len), .val (.int idx), .val (.int (2 : Int32)), .val (.ref b127), .val (.ref b132), .val (.int (0 : Int32)), .val (.int (pk a)), .val (.int (0 : Int32)), .val (.int (0 : Int32)), .unset] [(.int (0 : Int32))] _
        refine XS.ifNo X135.here hx rfl (hb hby at_101) rfl ((if0 _ _).trans (teq (by decide)).2) ?_
        show SS p e below T135 m 104 #[.val (.int a), .val (.int b), .val (.int c), .val (.int len), .val (.int idx), .val (.int (2 : Int32)), .val (.ref b127), .val (.ref b132), .val (.int (0 : Int32)), .val (.int (pk a)), .val (.int (0 : Int32)), .val (.int (0 : Int32)), .unset] [] _
        refine XS.aload X135.here hx rfl (hb hby at_104) rfl rfl ?_
        show SS p e below T135 m 106 #[.val (.int a), .val (.int b), .val (.int c), .val (.int len), .val (.int idx), .val (.int (2 : Int32)), .val (.ref b127), .val (.ref b132), .val (.int (0 : Int32)), .val (.int (pk a)), .val (.int (0 : Int32)), .val (.int (0 : Int32)), .unset] [(.ref b127)] _
        refine XS.iload X135.here hx rfl (hb hby at_106) rfl ?_
        show SS p e below T135 m 108 #[.val (.int a), .val (.int b), .val (.int c), .val (.int len), .val (.int idx), .val (.int (2 : Int32)), .val (.ref b127), .val (.ref b132), .val (.int (0 : Int32)), .val (.int (pk a)), .val (.int (0 : Int32)), .val (.int (0 : Int32)), .unset] [(.int (0 : Int32)), (.ref b127)] _
        refine XS.iconst X135.here hx rfl (hb hby at_108) ?_
        show SS p e below T135 m 109 #[.val (.int a), .val (.int b), .val (.int c), .val (.int len), .val (.int idx), .val (.int (2 : Int32)), .val (.ref b127), .val (.ref b132), .val (.int (0 : Int32)), .val (.int (pk a)), .val (.int (0 : Int32)), .val (.int (0 : Int32)), .unset] [(.int (1 : Int32)), (.int (0 : Int32)), (.ref b127)] _
        refine XS.iadd X135.here hx rfl (hb hby at_109) rfl ?_
        show SS p e below T135 m 110 #[.val (.int a), .val (.int b), .val (.int c), .val (.int len), .val (.int idx), .val (.int (2 : Int32)), .val (.ref b127), .val (.ref b132), .val (.int (0 : Int32)), .val (.int (pk a)), .val (.int (0 : Int32)), .val (.int (0 : Int32)), .unset] [(.int (1 : Int32)), (.ref b127)] _
        refine X135.caload hx (j := (1 : Int32)) (v := (.int (pk b))) (by first | exact Ar141.1 | (rw [rfl]; exact Ar141.1)) (State.isArrayOf_alike hZ.alike Ar141.2.1) Ar141.2.2 hin141 hat141 (g := (mkF m 110 #[.val (.int a), .val (.int b), .val (.int c), .val (.int len), .val (.int idx), .val (.int (2 : Int32)), .val (.ref b127), .val (.ref b132), .val (.int (0 : Int32)), .val (.int (pk a)), .val (.int (0 : Int32)), .val (.int (0 : Int32)), .unset] [(.int (1 : Int32)), (.ref b127)])) rfl rfl (hb hby at_110) _ ?_
        show SS p e below T135 m 111 #[.val (.int a), .val (.int b), .val (.int c), .val (.int len), .val (.int idx), .val (.int (2 : Int32)), .val (.ref b127), .val (.ref b132), .val (.int (0 : Int32)), .val (.int (pk a)), .val (.int (0 : Int32)), .val (.int (0 : Int32)), .unset] [(.int (pk b))] _
        refine XS.bipush X135.here hx rfl (hb hby at_111) ?_
        show SS p e below T135 m 113 #[.val (.int a), .val (.int b), .val (.int c), .val (.int len), .val (.int idx), .val (.int (2 : Int32)), .val (.ref b127), .val (.ref b132), .val (.int (0 : Int32)), .val (.int (pk a)), .val (.int (0 : Int32)), .val (.int (0 : Int32)), .unset] [(.int (10 : Int32)), (.int (pk b))] _
        exact kt
      by_cases hc143 : (pk b) = (10 : Int32)
      ·
        have W144 : ∀ zQ, SS p e below T135 m 127 #[.val (.int a), .val (.int b), .val (.int c), .val (.int len), .val (.int idx), .val (.int (2 : Int32)), .val (.ref b127), .val (.ref b132), .val (.int (0 : Int32)), .val (.int (pk a)), .val (.int (0 : Int32)), .val (.int (1 : Int32)), .unset] [(.int (10 : Int32)), (.int (pk a))] zQ → Steps p.tables e below (s₁.setTop (entryFrame m #[(.int a), (.int b), (.int c), (.int len), (.int idx)] maxLocals)) zQ := by
          intro tt kt
          refine W142 tt ?_
          refine XS.icmpNo X135.here hx rfl (hb hby at_113) rfl (teq hc143).2 ?_
          show SS p e below T135 m 116 #[.val (.int a), .val (.int b), .val (.int c), .val (.int len), .val (.int idx), .val (.int (2 : Int32)), .val (.ref b127), .val (.ref b132), .val (.int (0 : Int32)), .val (.int (pk a)), .val (.int (0 : Int32)), .val (.int (0 : Int32)), .unset] [] _
          refine XS.iconst X135.here hx rfl (hb hby at_116) ?_
          show SS p e below T135 m 117 #[.val (.int a), .val (.int b), .val (.int c), .val (.int len), .val (.int idx), .val (.int (2 : Int32)), .val (.ref b127), .val (.ref b132), .val (.int (0 : Int32)), .val (.int (pk a)), .val (.int (0 : Int32)), .val (.int (0 : Int32)), .unset] [(.int (1 : Int32))] _
          refine XS.goto X135.here hx rfl (pc0 := 117) (pc' := 121) rfl (hb hby at_117) (by decide) (by decide) ?_
          show SS p e below T135 m 121 #[.val (.int a), .val (.int b), .val (.int c), .val (.int len), .val (.int idx), .val (.int (2 : Int32)), .val (.ref b127), .val (.ref b132), .val (.int (0 : Int32)), .val (.int (pk a)), .val (.int (0 : Int32)), .val (.int (0 : Int32)), .unset] [(.int (1 : Int32))] _
          refine XS.istore X135.here hx rfl (hb hby at_121) rfl (l' := #[.val (.int a), .val (.int b), .val (.int c), .val (.int len), .val (.int idx), .val (.int (2 : Int32)), .val (.ref b127), .val (.ref b132), .val (.int (0 : Int32)), .val (.int (pk a)), .val (.int (0 : Int32)), .val (.int (1 : Int32)), .unset]) rfl ?_
          show SS p e below T135 m 123 #[.val (.int a), .val (.int b), .val (.int c), .val (.int len), .val (.int idx), .val (.int (2 : Int32)), .val (.ref b127), .val (.ref b132), .val (.int (0 : Int32)), .val (.int (pk a)), .val (.int (0 : Int32)), .val (.int (1 : Int32)), .unset] [] _
          refine XS.iload X135.here hx rfl (hb hby at_123) rfl ?_
          show SS p e below T135 m 125 #[.val (.int a), .val (.int b), .val (.int c), .val (.int len), .val (.int idx), .val (.int (2 : Int32)), .val (.ref b127), .val (.ref b132), .val (.int (0 : Int32)), .val (.int (pk a)), .val (.int (0 : Int32)), .val (.int (1 : Int32)), .unset] [(.int (pk a))] _
          refine XS.bipush X135.here hx rfl (hb hby at_125) ?_
          show SS p e below T135 m 127 #[.val (.int a), .val (.int b), .val (.int c), .val (.int len), .val (.int idx), .val (.int (2 : Int32)), .val (.ref b127), .val (.ref b132), .val (.int (0 : Int32)), .val (.int (pk a)), .val (.int (0 : Int32)), .val (.int (1 : Int32)), .unset] [(.int (10 : Int32)), (.int (pk a))] _
          exact kt
        by_cases hc145 : (pk a) = (10 : Int32)
        ·
          have O146 : Old Z n0 T135.heap := (O134.keep K135 (allS (Nat.le_trans Z0 (Nat.le_trans (Nat.le_trans (Nat.le_trans K127.1 K129.1) K131.1) (Nat.le_of_eq g132.symm))) all0))
          obtain ⟨_, _, ⟨T147, L147, k147, n147⟩, -, X147, ⟨Lc147, hQ147, l147, y147, z147⟩, st147⟩ := Jvm.LawKit.callS X135 hx (y := (⟨"com/example/vestline/vestline/input/TextFiles", "endsLine", "(Ljava/lang/String;I)Z"⟩ : MethodName)) hown (mvT hZ (w35 hw)) (mvT hZ (w36 hw)) (mvT hZ (w37 hw)) (mvT hZ (w38 hw)) (by decide) (backOf (W := 0) (rm_endsLine l Z a0 hw [] b132 0 t_136 kb_137 [(pk a), (pk b)] cS fm T135.heap n0 (Nat.le_trans Z0 (Nat.le_trans (Nat.le_trans (Nat.le_trans (Nat.le_trans K127.1 K129.1) K131.1) K132.1) K135.1)) O146 S_cs hcS S_fm hfm S_ad S_hi S_lo P135_1 (Nat.le_of_ble_eq_true rfl)) hZ (w38 hw) (w37 hw) (by decide) (by decide)) (g := (mkF m 165 #[.val (.int a), .val (.int b), .val (.int c), .val (.int len), .val (.int idx), .val (.int (2 : Int32)), .val (.ref b127), .val (.ref b132), .val (.int (0 : Int32)), .val (.int (pk a)), .val (.int (0 : Int32)), .val (.int (1 : Int32)), .val (.int (1 : Int32))] [(.int (0 : Int32)), (.ref b132)])) rfl (by rw [hml]; rfl) (argsL := [(.ref b132), (.int (0 : Int32))]) (rest := []) (lenOf pd__28_Ljava_2f_lang_2f_String_3b_I_29_Z rfl) rfl (by show 2 * 0 + _ ≤ _; exact Nat.le_of_eq rfl) (hb hby at_165) (fun _ _ => ⟨rfl, rfl, (Nat.le_of_ble_eq_true rfl), (Nat.le_of_ble_eq_true rfl)⟩)
          dsimp only [Pt.U, Pt.locs, Pt.cells, Pt.slots] at X147 l147 y147 z147 st147 hQ147
          subst l147 y147 z147
          obtain ⟨rfl, Nq147, eq147⟩ := hQ147
          have N147 := Fr.app N135 Nq147
          have W148 : ∀ zQ, SS p e below T147 m 178 #[.val (.int a), .val (.int b), .val (.int c), .val (.int len), .val (.int idx), .val (.int (2 : Int32)), .val (.ref b127), .val (.ref b132), .val (.int (0 : Int32)), .val (.int (pk a)), .val (.int (0 : Int32)), .val (.int (1 : Int32)), .val (.int (1 : Int32))] [(.int (1 : Int32))] zQ → Steps p.tables e below (s₁.setTop (entryFrame m #[(.int a), (.int b), (.int c), (.int len), (.int idx)] maxLocals)) zQ := by
            intro tt kt
            refine W144 tt ?_
            refine XS.icmpNo X135.here hx rfl (hb hby at_127) rfl (teq hc145).2 ?_
            show SS p e below T135 m 130 #[.val (.int a), .val (.int b), .val (.int c), .val (.int len), .val (.int idx), .val (.int (2 : Int32)), .val (.ref b127), .val (.ref b132), .val (.int (0 : Int32)), .val (.int (pk a)), .val (.int (0 : Int32)), .val (.int (1 : Int32)), .unset] [] _
            refine XS.iconst X135.here hx rfl (hb hby at_130) ?_
            show SS p e below T135 m 131 #[.val (.int a), .val (.int b), .val (.int c), .val (.int len), .val (.int idx), .val (.int (2 : Int32)), .val (.ref b127), .val (.ref b132), .val (.int (0 : Int32)), .val (.int (pk a)), .val (.int (0 : Int32)), .val (.int (1 : Int32)), .unset] [(.int (1 : Int32))] _
            refine XS.istore X135.here hx rfl (hb hby at_131) rfl (l' := #[.val (.int a), .val (.int b), .val (.int c), .val (.int len), .val (.int idx), .val (.int (2 : Int32)), .val (.ref b127), .val (.ref b132), .val (.int (0 : Int32)), .val (.int (pk a)), .val (.int (0 : Int32)), .val (.int (1 : Int32)), .val (.int (1 : Int32))]) rfl ?_
            show SS p e below T135 m 133 #[.val (.int a), .val (.int b), .val (.int c), .val (.int len), .val (.int idx), .val (.int (2 : Int32)), .val (.ref b127), .val (.ref b132), .val (.int (0 : Int32)), .val (.int (pk a)), .val (.int (0 : Int32)), .val (.int (1 : Int32)), .val (.int (1 : Int32))] [] _
            refine XS.goto X135.here hx rfl (pc0 := 133) (pc' := 161) rfl (hb hby at_133) (by decide) (by decide) ?_
            show SS p e below T135 m 161 #[.val (.int a), .val (.int b), .val (.int c), .val (.int len), .val (.int idx), .val (.int (2 : Int32)), .val (.ref b127), .val (.ref b132), .val (.int (0 : Int32)), .val (.int (pk a)), .val (.int (0 : Int32)), .val (.int (1 : Int32)), .val (.int (1 : Int32))] [] _
            refine XS.aload X135.here hx rfl (hb hby at_161) rfl rfl ?_
            show SS p e below T135 m 163 #[.val (.int a), .val (.int b), .val (.int c), .val (.int len), .val (.int idx), .val (.int (2 : Int32)), .val (.ref b127), .val (.ref b132), .val (.int (0 : Int32)), .val (.int (pk a)), .val (.int (0 : Int32)), .val (.int (1 : Int32)), .val (.int (1 : Int32))] [(.ref b132)] _
            refine XS.iload X135.here hx rfl (hb hby at_163) rfl ?_
            show SS p e below T135 m 165 #[.val (.int a), .val (.int b), .val (.int c), .val (.int len), .val (.int idx), .val (.int (2 : Int32)), .val (.ref b127), .val (.ref b132), .val (.int (0 : Int32)), .val (.int (pk a)), .val (.int (0 : Int32)), .val (.int (1 : Int32)), .val (.int (1 : Int32))] [(.int (0 : Int32)), (.ref b132)] _
            refine st147 _ ?_
            show SS p e below T147 m 168 #[.val (.int a), .val (.int b), .val (.int c), .val (.int len), .val (.int idx), .val (.int (2 : Int32)), .val (.ref b127), .val (.ref b132), .val (.int (0 : Int32)), .val (.int (pk a)), .val (.int (0 : Int32)), .val (.int (1 : Int32)), .val (.int (1 : Int32))] [(.int (el [(pk a), (pk b)] 0))] _
            refine XS.iload X147.here hx rfl (hb hby at_168) rfl ?_
            show SS p e below T147 m 170 #[.val (.int a), .val (.int b), .val (.int c), .val (.int len), .val (.int idx), .val (.int (2 : Int32)), .val (.ref b127), .val (.ref b132), .val (.int (0 : Int32)), .val (.int (pk a)), .val (.int (0 : Int32)), .val (.int (1 : Int32)), .val (.int (1 : Int32))] [(.int (1 : Int32)), (.int (el [(pk a), (pk b)] 0))] _
            refine XS.icmpNo X147.here hx rfl (hb hby at_170) rfl (teq (by simp [el, hc143, hc145])).2 ?_
            show SS p e below T147 m 173 #[.val (.int a), .val (.int b), .val (.int c), .val (.int len), .val (.int idx), .val (.int (2 : Int32)), .val (.ref b127), .val (.ref b132), .val (.int (0 : Int32)), .val (.int (pk a)), .val (.int (0 : Int32)), .val (.int (1 : Int32)), .val (.int (1 : Int32))] [] _
            refine XS.iconst X147.here hx rfl (hb hby at_173) ?_
            show SS p e below T147 m 174 #[.val (.int a), .val (.int b), .val (.int c), .val (.int len), .val (.int idx), .val (.int (2 : Int32)), .val (.ref b127), .val (.ref b132), .val (.int (0 : Int32)), .val (.int (pk a)), .val (.int (0 : Int32)), .val (.int (1 : Int32)), .val (.int (1 : Int32))] [(.int (1 : Int32))] _
            refine XS.goto X147.here hx rfl (pc0 := 174) (pc' := 178) rfl (hb hby at_174) (by decide) (by decide) ?_
            show SS p e below T147 m 178 #[.val (.int a), .val (.int b), .val (.int c), .val (.int len), .val (.int idx), .val (.int (2 : Int32)), .val (.ref b127), .val (.ref b132), .val (.int (0 : Int32)), .val (.int (pk a)), .val (.int (0 : Int32)), .val (.int (1 : Int32)), .val (.int (1 : Int32))] [(.int (1 : Int32))] _
            exact kt
          obtain ⟨fs, hr, hrun, hended, hW, hsame⟩ := X147.leave (v := some (.int (nar .boolean (1 : Int32)))) (fun h => by rw [Bd.returns] at h; cases h)
          refine ⟨_, _, W148 _ (retN X147 hx (t := .boolean) Bd.returns (by simp) (hb hby at_178) hr), hrun, hended, _, _, rfl, ?_, ⟨_, rfl⟩, hW, hsame.mono (by decide) (by decide)⟩
          show Q_law Z a b c len idx cS fm h0 n0 _ T147.heap _
          rw [eq147]
          exact ⟨rfl, N147, (Keep.trans (Keep.trans (Keep.trans (Keep.trans (Keep.trans (Keep.refl h0 []) K127 all0) K129 (allS (Or.inr (Nat.le_of_eq g127.symm)) all0)) K131 (allS (Or.inr (Nat.le_of_eq g127.symm)) all0)) K132 all0) K135 (allS (Or.inr (Nat.le_trans (Nat.le_trans (Nat.le_trans K127.1 K129.1) K131.1) (Nat.le_of_eq g132.symm))) all0))⟩
        ·
          have W149 : ∀ zQ, SS p e below T135 m 140 #[.val (.int a), .val (.int b), .val (.int c), .val (.int len), .val (.int idx), .val (.int (2 : Int32)), .val (.ref b127), .val (.ref b132), .val (.int (0 : Int32)), .val (.int (pk a)), .val (.int (0 : Int32)), .val (.int (1 : Int32)), .unset] [(.int (13 : Int32)), (.int (pk a))] zQ → Steps p.tables e below (s₁.setTop (entryFrame m #[(.int a), (.int b), (.int c), (.int len), (.int idx)] maxLocals)) zQ := by
            intro tt kt
            refine W144 tt ?_
            refine XS.icmpYes X135.here hx rfl (pc0 := 127) (pc' := 136) rfl (hb hby at_127) rfl (feq hc145).2 (by decide) (by decide) ?_
            show SS p e below T135 m 136 #[.val (.int a), .val (.int b), .val (.int c), .val (.int len), .val (.int idx), .val (.int (2 : Int32)), .val (.ref b127), .val (.ref b132), .val (.int (0 : Int32)), .val (.int (pk a)), .val (.int (0 : Int32)), .val (.int (1 : Int32)), .unset] [] _
            refine XS.iload X135.here hx rfl (hb hby at_136) rfl ?_
            show SS p e below T135 m 138 #[.val (.int a), .val (.int b), .val (.int c), .val (.int len), .val (.int idx), .val (.int (2 : Int32)), .val (.ref b127), .val (.ref b132), .val (.int (0 : Int32)), .val (.int (pk a)), .val (.int (0 : Int32)), .val (.int (1 : Int32)), .unset] [(.int (pk a))] _
            refine XS.bipush X135.here hx rfl (hb hby at_138) ?_
            show SS p e below T135 m 140 #[.val (.int a), .val (.int b), .val (.int c), .val (.int len), .val (.int idx), .val (.int (2 : Int32)), .val (.ref b127), .val (.ref b132), .val (.int (0 : Int32)), .val (.int (pk a)), .val (.int (0 : Int32)), .val (.int (1 : Int32)), .unset] [(.int (13 : Int32)), (.int (pk a))] _
            exact kt
          by_cases hc150 : (pk a) = (13 : Int32)
          ·
            have O151 : Old Z n0 T135.heap := (O134.keep K135 (allS (Nat.le_trans Z0 (Nat.le_trans (Nat.le_trans (Nat.le_trans K127.1 K129.1) K131.1) (Nat.le_of_eq g132.symm))) all0))
            obtain ⟨_, _, ⟨T152, L152, k152, n152⟩, -, X152, ⟨Lc152, hQ152, l152, y152, z152⟩, st152⟩ := Jvm.LawKit.callS X135 hx (y := (⟨"com/example/vestline/vestline/input/TextFiles", "endsLine", "(Ljava/lang/String;I)Z"⟩ : MethodName)) hown (mvT hZ (w35 hw)) (mvT hZ (w36 hw)) (mvT hZ (w37 hw)) (mvT hZ (w38 hw)) (by decide) (backOf (W := 0) (rm_endsLine l Z a0 hw [] b132 0 t_136 kb_137 [(pk a), (pk b)] cS fm T135.heap n0 (Nat.le_trans Z0 (Nat.le_trans (Nat.le_trans (Nat.le_trans (Nat.le_trans K127.1 K129.1) K131.1) K132.1) K135.1)) O151 S_cs hcS S_fm hfm S_ad S_hi S_lo P135_1 (Nat.le_of_ble_eq_true rfl)) hZ (w38 hw) (w37 hw) (by decide) (by decide)) (g := (mkF m 165 #[.val (.int a), .val (.int b), .val (.int c), .val (.int len), .val (.int idx), .val (.int (2 : Int32)), .val (.ref b127), .val (.ref b132), .val (.int (0 : Int32)), .val (.int (pk a)), .val (.int (0 : Int32)), .val (.int (1 : Int32)), .val (.int (0 : Int32))] [(.int (0 : Int32)), (.ref b132)])) rfl (by rw [hml]; rfl) (argsL := [(.ref b132), (.int (0 : Int32))]) (rest := []) (lenOf pd__28_Ljava_2f_lang_2f_String_3b_I_29_Z rfl) rfl (by show 2 * 0 + _ ≤ _; exact Nat.le_of_eq rfl) (hb hby at_165) (fun _ _ => ⟨rfl, rfl, (Nat.le_of_ble_eq_true rfl), (Nat.le_of_ble_eq_true rfl)⟩)
            dsimp only [Pt.U, Pt.locs, Pt.cells, Pt.slots] at X152 l152 y152 z152 st152 hQ152
            subst l152 y152 z152
            obtain ⟨rfl, Nq152, eq152⟩ := hQ152
            have N152 := Fr.app N135 Nq152
            have W153 : ∀ zQ, SS p e below T152 m 178 #[.val (.int a), .val (.int b), .val (.int c), .val (.int len), .val (.int idx), .val (.int (2 : Int32)), .val (.ref b127), .val (.ref b132), .val (.int (0 : Int32)), .val (.int (pk a)), .val (.int (0 : Int32)), .val (.int (1 : Int32)), .val (.int (0 : Int32))] [(.int (1 : Int32))] zQ → Steps p.tables e below (s₁.setTop (entryFrame m #[(.int a), (.int b), (.int c), (.int len), (.int idx)] maxLocals)) zQ := by
              intro tt kt
              refine W149 tt ?_
              refine XS.icmpNo X135.here hx rfl (hb hby at_140) rfl (teq hc150).2 ?_
              show SS p e below T135 m 143 #[.val (.int a), .val (.int b), .val (.int c), .val (.int len), .val (.int idx), .val (.int (2 : Int32)), .val (.ref b127), .val (.ref b132), .val (.int (0 : Int32)), .val (.int (pk a)), .val (.int (0 : Int32)), .val (.int (1 : Int32)), .unset] [] _
              refine XS.iload X135.here hx rfl (hb hby at_143) rfl ?_
              show SS p e below T135 m 145 #[.val (.int a), .val (.int b), .val (.int c), .val (.int len), .val (.int idx), .val (.int (2 : Int32)), .val (.ref b127), .val (.ref b132), .val (.int (0 : Int32)), .val (.int (pk a)), .val (.int (0 : Int32)), .val (.int (1 : Int32)), .unset] [(.int (1 : Int32))] _
              refine XS.ifYes X135.here hx rfl (pc0 := 145) (pc' := 152) rfl (hb hby at_145) rfl ((if0 _ _).trans (feq (by decide)).2) (by decide) (by decide) ?_
              show SS p e below T135 m 152 #[.val (.int a), .val (.int b), .val (.int c), .val (.int len), .val (.int idx), .val (.int (2 : Int32)), .val (.ref b127), .val (.ref b132), .val (.int (0 : Int32)), .val (.int (pk a)), .val (.int (0 : Int32)), .val (.int (1 : Int32)), .unset] [] _
              refine XS.iconst X135.here hx rfl (hb hby at_152) ?_
              show SS p e below T135 m 153 #[.val (.int a), .val (.int b), .val (.int c), .val (.int len), .val (.int idx), .val (.int (2 : Int32)), .val (.ref b127), .val (.ref b132), .val (.int (0 : Int32)), .val (.int (pk a)), .val (.int (0 : Int32)), .val (.int (1 : Int32)), .unset] [(.int (0 : Int32))] _
              refine XS.istore X135.here hx rfl (hb hby at_153) rfl (l' := #[.val (.int a), .val (.int b), .val (.int c), .val (.int len), .val (.int idx), .val (.int (2 : Int32)), .val (.ref b127), .val (.ref b132), .val (.int (0 : Int32)), .val (.int (pk a)), .val (.int (0 : Int32)), .val (.int (1 : Int32)), .val (.int (0 : Int32))]) rfl ?_
              show SS p e below T135 m 155 #[.val (.int a), .val (.int b), .val (.int c), .val (.int len), .val (.int idx), .val (.int (2 : Int32)), .val (.ref b127), .val (.ref b132), .val (.int (0 : Int32)), .val (.int (pk a)), .val (.int (0 : Int32)), .val (.int (1 : Int32)), .val (.int (0 : Int32))] [] _
              refine XS.goto X135.here hx rfl (pc0 := 155) (pc' := 161) rfl (hb hby at_155) (by decide) (by decide) ?_
              show SS p e below T135 m 161 #[.val (.int a), .val (.int b), .val (.int c), .val (.int len), .val (.int idx), .val (.int (2 : Int32)), .val (.ref b127), .val (.ref b132), .val (.int (0 : Int32)), .val (.int (pk a)), .val (.int (0 : Int32)), .val (.int (1 : Int32)), .val (.int (0 : Int32))] [] _
              refine XS.aload X135.here hx rfl (hb hby at_161) rfl rfl ?_
              show SS p e below T135 m 163 #[.val (.int a), .val (.int b), .val (.int c), .val (.int len), .val (.int idx), .val (.int (2 : Int32)), .val (.ref b127), .val (.ref b132), .val (.int (0 : Int32)), .val (.int (pk a)), .val (.int (0 : Int32)), .val (.int (1 : Int32)), .val (.int (0 : Int32))] [(.ref b132)] _
              refine XS.iload X135.here hx rfl (hb hby at_163) rfl ?_
              show SS p e below T135 m 165 #[.val (.int a), .val (.int b), .val (.int c), .val (.int len), .val (.int idx), .val (.int (2 : Int32)), .val (.ref b127), .val (.ref b132), .val (.int (0 : Int32)), .val (.int (pk a)), .val (.int (0 : Int32)), .val (.int (1 : Int32)), .val (.int (0 : Int32))] [(.int (0 : Int32)), (.ref b132)] _
              refine st152 _ ?_
              show SS p e below T152 m 168 #[.val (.int a), .val (.int b), .val (.int c), .val (.int len), .val (.int idx), .val (.int (2 : Int32)), .val (.ref b127), .val (.ref b132), .val (.int (0 : Int32)), .val (.int (pk a)), .val (.int (0 : Int32)), .val (.int (1 : Int32)), .val (.int (0 : Int32))] [(.int (el [(pk a), (pk b)] 0))] _
              refine XS.iload X152.here hx rfl (hb hby at_168) rfl ?_
              show SS p e below T152 m 170 #[.val (.int a), .val (.int b), .val (.int c), .val (.int len), .val (.int idx), .val (.int (2 : Int32)), .val (.ref b127), .val (.ref b132), .val (.int (0 : Int32)), .val (.int (pk a)), .val (.int (0 : Int32)), .val (.int (1 : Int32)), .val (.int (0 : Int32))] [(.int (0 : Int32)), (.int (el [(pk a), (pk b)] 0))] _
              refine XS.icmpNo X152.here hx rfl (hb hby at_170) rfl (teq (by simp [el, hc143, hc145, hc150])).2 ?_
              show SS p e below T152 m 173 #[.val (.int a), .val (.int b), .val (.int c), .val (.int len), .val (.int idx), .val (.int (2 : Int32)), .val (.ref b127), .val (.ref b132), .val (.int (0 : Int32)), .val (.int (pk a)), .val (.int (0 : Int32)), .val (.int (1 : Int32)), .val (.int (0 : Int32))] [] _
              refine XS.iconst X152.here hx rfl (hb hby at_173) ?_
              show SS p e below T152 m 174 #[.val (.int a), .val (.int b), .val (.int c), .val (.int len), .val (.int idx), .val (.int (2 : Int32)), .val (.ref b127), .val (.ref b132), .val (.int (0 : Int32)), .val (.int (pk a)), .val (.int (0 : Int32)), .val (.int (1 : Int32)), .val (.int (0 : Int32))] [(.int (1 : Int32))] _
              refine XS.goto X152.here hx rfl (pc0 := 174) (pc' := 178) rfl (hb hby at_174) (by decide) (by decide) ?_
              show SS p e below T152 m 178 #[.val (.int a), .val (.int b), .val (.int c), .val (.int len), .val (.int idx), .val (.int (2 : Int32)), .val (.ref b127), .val (.ref b132), .val (.int (0 : Int32)), .val (.int (pk a)), .val (.int (0 : Int32)), .val (.int (1 : Int32)), .val (.int (0 : Int32))] [(.int (1 : Int32))] _
              exact kt
            obtain ⟨fs, hr, hrun, hended, hW, hsame⟩ := X152.leave (v := some (.int (nar .boolean (1 : Int32)))) (fun h => by rw [Bd.returns] at h; cases h)
            refine ⟨_, _, W153 _ (retN X152 hx (t := .boolean) Bd.returns (by simp) (hb hby at_178) hr), hrun, hended, _, _, rfl, ?_, ⟨_, rfl⟩, hW, hsame.mono (by decide) (by decide)⟩
            show Q_law Z a b c len idx cS fm h0 n0 _ T152.heap _
            rw [eq152]
            exact ⟨rfl, N152, (Keep.trans (Keep.trans (Keep.trans (Keep.trans (Keep.trans (Keep.refl h0 []) K127 all0) K129 (allS (Or.inr (Nat.le_of_eq g127.symm)) all0)) K131 (allS (Or.inr (Nat.le_of_eq g127.symm)) all0)) K132 all0) K135 (allS (Or.inr (Nat.le_trans (Nat.le_trans (Nat.le_trans K127.1 K129.1) K131.1) (Nat.le_of_eq g132.symm))) all0))⟩
          ·
            have O154 : Old Z n0 T135.heap := (O134.keep K135 (allS (Nat.le_trans Z0 (Nat.le_trans (Nat.le_trans (Nat.le_trans K127.1 K129.1) K131.1) (Nat.le_of_eq g132.symm))) all0))
            obtain ⟨_, _, ⟨T155, L155, k155, n155⟩, -, X155, ⟨Lc155, hQ155, l155, y155, z155⟩, st155⟩ := Jvm.LawKit.callS X135 hx (y := (⟨"com/example/vestline/vestline/input/TextFiles", "endsLine", "(Ljava/lang/String;I)Z"⟩ : MethodName)) hown (mvT hZ (w35 hw)) (mvT hZ (w36 hw)) (mvT hZ (w37 hw)) (mvT hZ (w38 hw)) (by decide) (backOf (W := 0) (rm_endsLine l Z a0 hw [] b132 0 t_136 kb_137 [(pk a), (pk b)] cS fm T135.heap n0 (Nat.le_trans Z0 (Nat.le_trans (Nat.le_trans (Nat.le_trans (Nat.le_trans K127.1 K129.1) K131.1) K132.1) K135.1)) O154 S_cs hcS S_fm hfm S_ad S_hi S_lo P135_1 (Nat.le_of_ble_eq_true rfl)) hZ (w38 hw) (w37 hw) (by decide) (by decide)) (g := (mkF m 165 #[.val (.int a), .val (.int b), .val (.int c), .val (.int len), .val (.int idx), .val (.int (2 : Int32)), .val (.ref b127), .val (.ref b132), .val (.int (0 : Int32)), .val (.int (pk a)), .val (.int (0 : Int32)), .val (.int (1 : Int32)), .val (.int (0 : Int32))] [(.int (0 : Int32)), (.ref b132)])) rfl (by rw [hml]; rfl) (argsL := [(.ref b132), (.int (0 : Int32))]) (rest := []) (lenOf pd__28_Ljava_2f_lang_2f_String_3b_I_29_Z rfl) rfl (by show 2 * 0 + _ ≤ _; exact Nat.le_of_eq rfl) (hb hby at_165) (fun _ _ => ⟨rfl, rfl, (Nat.le_of_ble_eq_true rfl), (Nat.le_of_ble_eq_true rfl)⟩)
            dsimp only [Pt.U, Pt.locs, Pt.cells, Pt.slots] at X155 l155 y155 z155 st155 hQ155
            subst l155 y155 z155
            obtain ⟨rfl, Nq155, eq155⟩ := hQ155
            have N155 := Fr.app N135 Nq155
            have W156 : ∀ zQ, SS p e below T155 m 178 #[.val (.int a), .val (.int b), .val (.int c), .val (.int len), .val (.int idx), .val (.int (2 : Int32)), .val (.ref b127), .val (.ref b132), .val (.int (0 : Int32)), .val (.int (pk a)), .val (.int (0 : Int32)), .val (.int (1 : Int32)), .val (.int (0 : Int32))] [(.int (1 : Int32))] zQ → Steps p.tables e below (s₁.setTop (entryFrame m #[(.int a), (.int b), (.int c), (.int len), (.int idx)] maxLocals)) zQ := by
              intro tt kt
              refine W149 tt ?_
              refine XS.icmpYes X135.here hx rfl (pc0 := 140) (pc' := 158) rfl (hb hby at_140) rfl (feq hc150).2 (by decide) (by decide) ?_
              show SS p e below T135 m 158 #[.val (.int a), .val (.int b), .val (.int c), .val (.int len), .val (.int idx), .val (.int (2 : Int32)), .val (.ref b127), .val (.ref b132), .val (.int (0 : Int32)), .val (.int (pk a)), .val (.int (0 : Int32)), .val (.int (1 : Int32)), .unset] [] _
              refine XS.iconst X135.here hx rfl (hb hby at_158) ?_
              show SS p e below T135 m 159 #[.val (.int a), .val (.int b), .val (.int c), .val (.int len), .val (.int idx), .val (.int (2 : Int32)), .val (.ref b127), .val (.ref b132), .val (.int (0 : Int32)), .val (.int (pk a)), .val (.int (0 : Int32)), .val (.int (1 : Int32)), .unset] [(.int (0 : Int32))] _
              refine XS.istore X135.here hx rfl (hb hby at_159) rfl (l' := #[.val (.int a), .val (.int b), .val (.int c), .val (.int len), .val (.int idx), .val (.int (2 : Int32)), .val (.ref b127), .val (.ref b132), .val (.int (0 : Int32)), .val (.int (pk a)), .val (.int (0 : Int32)), .val (.int (1 : Int32)), .val (.int (0 : Int32))]) rfl ?_
              show SS p e below T135 m 161 #[.val (.int a), .val (.int b), .val (.int c), .val (.int len), .val (.int idx), .val (.int (2 : Int32)), .val (.ref b127), .val (.ref b132), .val (.int (0 : Int32)), .val (.int (pk a)), .val (.int (0 : Int32)), .val (.int (1 : Int32)), .val (.int (0 : Int32))] [] _
              refine XS.aload X135.here hx rfl (hb hby at_161) rfl rfl ?_
              show SS p e below T135 m 163 #[.val (.int a), .val (.int b), .val (.int c), .val (.int len), .val (.int idx), .val (.int (2 : Int32)), .val (.ref b127), .val (.ref b132), .val (.int (0 : Int32)), .val (.int (pk a)), .val (.int (0 : Int32)), .val (.int (1 : Int32)), .val (.int (0 : Int32))] [(.ref b132)] _
              refine XS.iload X135.here hx rfl (hb hby at_163) rfl ?_
              show SS p e below T135 m 165 #[.val (.int a), .val (.int b), .val (.int c), .val (.int len), .val (.int idx), .val (.int (2 : Int32)), .val (.ref b127), .val (.ref b132), .val (.int (0 : Int32)), .val (.int (pk a)), .val (.int (0 : Int32)), .val (.int (1 : Int32)), .val (.int (0 : Int32))] [(.int (0 : Int32)), (.ref b132)] _
              refine st155 _ ?_
              show SS p e below T155 m 168 #[.val (.int a), .val (.int b), .val (.int c), .val (.int len), .val (.int idx), .val (.int (2 : Int32)), .val (.ref b127), .val (.ref b132), .val (.int (0 : Int32)), .val (.int (pk a)), .val (.int (0 : Int32)), .val (.int (1 : Int32)), .val (.int (0 : Int32))] [(.int (el [(pk a), (pk b)] 0))] _
              refine XS.iload X155.here hx rfl (hb hby at_168) rfl ?_
              show SS p e below T155 m 170 #[.val (.int a), .val (.int b), .val (.int c), .val (.int len), .val (.int idx), .val (.int (2 : Int32)), .val (.ref b127), .val (.ref b132), .val (.int (0 : Int32)), .val (.int (pk a)), .val (.int (0 : Int32)), .val (.int (1 : Int32)), .val (.int (0 : Int32))] [(.int (0 : Int32)), (.int (el [(pk a), (pk b)] 0))] _
              refine XS.icmpNo X155.here hx rfl (hb hby at_170) rfl (teq (by simp [el, hc143, hc145, hc150])).2 ?_
              show SS p e below T155 m 173 #[.val (.int a), .val (.int b), .val (.int c), .val (.int len), .val (.int idx), .val (.int (2 : Int32)), .val (.ref b127), .val (.ref b132), .val (.int (0 : Int32)), .val (.int (pk a)), .val (.int (0 : Int32)), .val (.int (1 : Int32)), .val (.int (0 : Int32))] [] _
              refine XS.iconst X155.here hx rfl (hb hby at_173) ?_
              show SS p e below T155 m 174 #[.val (.int a), .val (.int b), .val (.int c), .val (.int len), .val (.int idx), .val (.int (2 : Int32)), .val (.ref b127), .val (.ref b132), .val (.int (0 : Int32)), .val (.int (pk a)), .val (.int (0 : Int32)), .val (.int (1 : Int32)), .val (.int (0 : Int32))] [(.int (1 : Int32))] _
              refine XS.goto X155.here hx rfl (pc0 := 174) (pc' := 178) rfl (hb hby at_174) (by decide) (by decide) ?_
              show SS p e below T155 m 178 #[.val (.int a), .val (.int b), .val (.int c), .val (.int len), .val (.int idx), .val (.int (2 : Int32)), .val (.ref b127), .val (.ref b132), .val (.int (0 : Int32)), .val (.int (pk a)), .val (.int (0 : Int32)), .val (.int (1 : Int32)), .val (.int (0 : Int32))] [(.int (1 : Int32))] _
              exact kt
            obtain ⟨fs, hr, hrun, hended, hW, hsame⟩ := X155.leave (v := some (.int (nar .boolean (1 : Int32)))) (fun h => by rw [Bd.returns] at h; cases h)
            refine ⟨_, _, W156 _ (retN X155 hx (t := .boolean) Bd.returns (by simp) (hb hby at_178) hr), hrun, hended, _, _, rfl, ?_, ⟨_, rfl⟩, hW, hsame.mono (by decide) (by decide)⟩
            show Q_law Z a b c len idx cS fm h0 n0 _ T155.heap _
            rw [eq155]
            exact ⟨rfl, N155, (Keep.trans (Keep.trans (Keep.trans (Keep.trans (Keep.trans (Keep.refl h0 []) K127 all0) K129 (allS (Or.inr (Nat.le_of_eq g127.symm)) all0)) K131 (allS (Or.inr (Nat.le_of_eq g127.symm)) all0)) K132 all0) K135 (allS (Or.inr (Nat.le_trans (Nat.le_trans (Nat.le_trans K127.1 K129.1) K131.1) (Nat.le_of_eq g132.symm))) all0))⟩
      ·
        have W157 : ∀ zQ, SS p e below T135 m 127 #[.val (.int a), .val (.int b), .val (.int c), .val (.int len), .val (.int idx), .val (.int (2 : Int32)), .val (.ref b127), .val (.ref b132), .val (.int (0 : Int32)), .val (.int (pk a)), .val (.int (0 : Int32)), .val (.int (0 : Int32)), .unset] [(.int (10 : Int32)), (.int (pk a))] zQ → Steps p.tables e below (s₁.setTop (entryFrame m #[(.int a), (.int b), (.int c), (.int len), (.int idx)] maxLocals)) zQ := by
          intro tt kt
          refine W142 tt ?_
          refine XS.icmpYes X135.here hx rfl (pc0 := 113) (pc' := 120) rfl (hb hby at_113) rfl (feq hc143).2 (by decide) (by decide) ?_
          show SS p e below T135 m 120 #[.val (.int a), .val (.int b), .val (.int c), .val (.int len), .val (.int idx), .val (.int (2 : Int32)), .val (.ref b127), .val (.ref b132), .val (.int (0 : Int32)), .val (.int (pk a)), .val (.int (0 : Int32)), .val (.int (0 : Int32)), .unset] [] _
          refine XS.iconst X135.here hx rfl (hb hby at_120) ?_
          show SS p e below T135 m 121 #[.val (.int a), .val (.int b), .val (.int c), .val (.int len), .val (.int idx), .val (.int (2 : Int32)), .val (.ref b127), .val (.ref b132), .val (.int (0 : Int32)), .val (.int (pk a)), .val (.int (0 : Int32)), .val (.int (0 : Int32)), .unset] [(.int (0 : Int32))] _
          refine XS.istore X135.here hx rfl (hb hby at_121) rfl (l' := #[.val (.int a), .val (.int b), .val (.int c), .val (.int len), .val (.int idx), .val (.int (2 : Int32)), .val (.ref b127), .val (.ref b132), .val (.int (0 : Int32)), .val (.int (pk a)), .val (.int (0 : Int32)), .val (.int (0 : Int32)), .unset]) rfl ?_
          show SS p e below T135 m 123 #[.val (.int a), .val (.int b), .val (.int c), .val (.int len), .val (.int idx), .val (.int (2 : Int32)), .val (.ref b127), .val (.ref b132), .val (.int (0 : Int32)), .val (.int (pk a)), .val (.int (0 : Int32)), .val (.int (0 : Int32)), .unset] [] _
          refine XS.iload X135.here hx rfl (hb hby at_123) rfl ?_
          show SS p e below T135 m 125 #[.val (.int a), .val (.int b), .val (.int c), .val (.int len), .val (.int idx), .val (.int (2 : Int32)), .val (.ref b127), .val (.ref b132), .val (.int (0 : Int32)), .val (.int (pk a)), .val (.int (0 : Int32)), .val (.int (0 : Int32)), .unset] [(.int (pk a))] _
          refine XS.bipush X135.here hx rfl (hb hby at_125) ?_
          show SS p e below T135 m 127 #[.val (.int a), .val (.int b), .val (.int c), .val (.int len), .val (.int idx), .val (.int (2 : Int32)), .val (.ref b127), .val (.ref b132), .val (.int (0 : Int32)), .val (.int (pk a)), .val (.int (0 : Int32)), .val (.int (0 : Int32)), .unset] [(.int (10 : Int32)), (.int (pk a))] _
          exact kt
        by_cases hc158 : (pk a) = (10 : Int32)
        ·
          have O159 : Old Z n0 T135.heap := (O134.keep K135 (allS (Nat.le_trans Z0 (Nat.le_trans (Nat.le_trans (Nat.le_trans K127.1 K129.1) K131.1) (Nat.le_of_eq g132.symm))) all0))
          obtain ⟨_, _, ⟨T160, L160, k160, n160⟩, -, X160, ⟨Lc160, hQ160, l160, y160, z160⟩, st160⟩ := Jvm.LawKit.callS X135 hx (y := (⟨"com/example/vestline/vestline/input/TextFiles", "endsLine", "(Ljava/lang/String;I)Z"⟩ : MethodName)) hown (mvT hZ (w35 hw)) (mvT hZ (w36 hw)) (mvT hZ (w37 hw)) (mvT hZ (w38 hw)) (by decide) (backOf (W := 0) (rm_endsLine l Z a0 hw [] b132 0 t_136 kb_137 [(pk a), (pk b)] cS fm T135.heap n0 (Nat.le_trans Z0 (Nat.le_trans (Nat.le_trans (Nat.le_trans (Nat.le_trans K127.1 K129.1) K131.1) K132.1) K135.1)) O159 S_cs hcS S_fm hfm S_ad S_hi S_lo P135_1 (Nat.le_of_ble_eq_true rfl)) hZ (w38 hw) (w37 hw) (by decide) (by decide)) (g := (mkF m 165 #[.val (.int a), .val (.int b), .val (.int c), .val (.int len), .val (.int idx), .val (.int (2 : Int32)), .val (.ref b127), .val (.ref b132), .val (.int (0 : Int32)), .val (.int (pk a)), .val (.int (0 : Int32)), .val (.int (0 : Int32)), .val (.int (1 : Int32))] [(.int (0 : Int32)), (.ref b132)])) rfl (by rw [hml]; rfl) (argsL := [(.ref b132), (.int (0 : Int32))]) (rest := []) (lenOf pd__28_Ljava_2f_lang_2f_String_3b_I_29_Z rfl) rfl (by show 2 * 0 + _ ≤ _; exact Nat.le_of_eq rfl) (hb hby at_165) (fun _ _ => ⟨rfl, rfl, (Nat.le_of_ble_eq_true rfl), (Nat.le_of_ble_eq_true rfl)⟩)
          dsimp only [Pt.U, Pt.locs, Pt.cells, Pt.slots] at X160 l160 y160 z160 st160 hQ160
          subst l160 y160 z160
          obtain ⟨rfl, Nq160, eq160⟩ := hQ160
          have N160 := Fr.app N135 Nq160
          have W161 : ∀ zQ, SS p e below T160 m 178 #[.val (.int a), .val (.int b), .val (.int c), .val (.int len), .val (.int idx), .val (.int (2 : Int32)), .val (.ref b127), .val (.ref b132), .val (.int (0 : Int32)), .val (.int (pk a)), .val (.int (0 : Int32)), .val (.int (0 : Int32)), .val (.int (1 : Int32))] [(.int (1 : Int32))] zQ → Steps p.tables e below (s₁.setTop (entryFrame m #[(.int a), (.int b), (.int c), (.int len), (.int idx)] maxLocals)) zQ := by
            intro tt kt
            refine W157 tt ?_
            refine XS.icmpNo X135.here hx rfl (hb hby at_127) rfl (teq hc158).2 ?_
            show SS p e below T135 m 130 #[.val (.int a), .val (.int b), .val (.int c), .val (.int len), .val (.int idx), .val (.int (2 : Int32)), .val (.ref b127), .val (.ref b132), .val (.int (0 : Int32)), .val (.int (pk a)), .val (.int (0 : Int32)), .val (.int (0 : Int32)), .unset] [] _
            refine XS.iconst X135.here hx rfl (hb hby at_130) ?_
            show SS p e below T135 m 131 #[.val (.int a), .val (.int b), .val (.int c), .val (.int len), .val (.int idx), .val (.int (2 : Int32)), .val (.ref b127), .val (.ref b132), .val (.int (0 : Int32)), .val (.int (pk a)), .val (.int (0 : Int32)), .val (.int (0 : Int32)), .unset] [(.int (1 : Int32))] _
            refine XS.istore X135.here hx rfl (hb hby at_131) rfl (l' := #[.val (.int a), .val (.int b), .val (.int c), .val (.int len), .val (.int idx), .val (.int (2 : Int32)), .val (.ref b127), .val (.ref b132), .val (.int (0 : Int32)), .val (.int (pk a)), .val (.int (0 : Int32)), .val (.int (0 : Int32)), .val (.int (1 : Int32))]) rfl ?_
            show SS p e below T135 m 133 #[.val (.int a), .val (.int b), .val (.int c), .val (.int len), .val (.int idx), .val (.int (2 : Int32)), .val (.ref b127), .val (.ref b132), .val (.int (0 : Int32)), .val (.int (pk a)), .val (.int (0 : Int32)), .val (.int (0 : Int32)), .val (.int (1 : Int32))] [] _
            refine XS.goto X135.here hx rfl (pc0 := 133) (pc' := 161) rfl (hb hby at_133) (by decide) (by decide) ?_
            show SS p e below T135 m 161 #[.val (.int a), .val (.int b), .val (.int c), .val (.int len), .val (.int idx), .val (.int (2 : Int32)), .val (.ref b127), .val (.ref b132), .val (.int (0 : Int32)), .val (.int (pk a)), .val (.int (0 : Int32)), .val (.int (0 : Int32)), .val (.int (1 : Int32))] [] _
            refine XS.aload X135.here hx rfl (hb hby at_161) rfl rfl ?_
            show SS p e below T135 m 163 #[.val (.int a), .val (.int b), .val (.int c), .val (.int len), .val (.int idx), .val (.int (2 : Int32)), .val (.ref b127), .val (.ref b132), .val (.int (0 : Int32)), .val (.int (pk a)), .val (.int (0 : Int32)), .val (.int (0 : Int32)), .val (.int (1 : Int32))] [(.ref b132)] _
            refine XS.iload X135.here hx rfl (hb hby at_163) rfl ?_
            show SS p e below T135 m 165 #[.val (.int a), .val (.int b), .val (.int c), .val (.int len), .val (.int idx), .val (.int (2 : Int32)), .val (.ref b127), .val (.ref b132), .val (.int (0 : Int32)), .val (.int (pk a)), .val (.int (0 : Int32)), .val (.int (0 : Int32)), .val (.int (1 : Int32))] [(.int (0 : Int32)), (.ref b132)] _
            refine st160 _ ?_
            show SS p e below T160 m 168 #[.val (.int a), .val (.int b), .val (.int c), .val (.int len), .val (.int idx), .val (.int (2 : Int32)), .val (.ref b127), .val (.ref b132), .val (.int (0 : Int32)), .val (.int (pk a)), .val (.int (0 : Int32)), .val (.int (0 : Int32)), .val (.int (1 : Int32))] [(.int (el [(pk a), (pk b)] 0))] _
            refine XS.iload X160.here hx rfl (hb hby at_168) rfl ?_
            show SS p e below T160 m 170 #[.val (.int a), .val (.int b), .val (.int c), .val (.int len), .val (.int idx), .val (.int (2 : Int32)), .val (.ref b127), .val (.ref b132), .val (.int (0 : Int32)), .val (.int (pk a)), .val (.int (0 : Int32)), .val (.int (0 : Int32)), .val (.int (1 : Int32))] [(.int (1 : Int32)), (.int (el [(pk a), (pk b)] 0))] _
            refine XS.icmpNo X160.here hx rfl (hb hby at_170) rfl (teq (by simp [el, hc143, hc158])).2 ?_
            show SS p e below T160 m 173 #[.val (.int a), .val (.int b), .val (.int c), .val (.int len), .val (.int idx), .val (.int (2 : Int32)), .val (.ref b127), .val (.ref b132), .val (.int (0 : Int32)), .val (.int (pk a)), .val (.int (0 : Int32)), .val (.int (0 : Int32)), .val (.int (1 : Int32))] [] _
            refine XS.iconst X160.here hx rfl (hb hby at_173) ?_
            show SS p e below T160 m 174 #[.val (.int a), .val (.int b), .val (.int c), .val (.int len), .val (.int idx), .val (.int (2 : Int32)), .val (.ref b127), .val (.ref b132), .val (.int (0 : Int32)), .val (.int (pk a)), .val (.int (0 : Int32)), .val (.int (0 : Int32)), .val (.int (1 : Int32))] [(.int (1 : Int32))] _
            refine XS.goto X160.here hx rfl (pc0 := 174) (pc' := 178) rfl (hb hby at_174) (by decide) (by decide) ?_
            show SS p e below T160 m 178 #[.val (.int a), .val (.int b), .val (.int c), .val (.int len), .val (.int idx), .val (.int (2 : Int32)), .val (.ref b127), .val (.ref b132), .val (.int (0 : Int32)), .val (.int (pk a)), .val (.int (0 : Int32)), .val (.int (0 : Int32)), .val (.int (1 : Int32))] [(.int (1 : Int32))] _
            exact kt
          obtain ⟨fs, hr, hrun, hended, hW, hsame⟩ := X160.leave (v := some (.int (nar .boolean (1 : Int32)))) (fun h => by rw [Bd.returns] at h; cases h)
          refine ⟨_, _, W161 _ (retN X160 hx (t := .boolean) Bd.returns (by simp) (hb hby at_178) hr), hrun, hended, _, _, rfl, ?_, ⟨_, rfl⟩, hW, hsame.mono (by decide) (by decide)⟩
          show Q_law Z a b c len idx cS fm h0 n0 _ T160.heap _
          rw [eq160]
          exact ⟨rfl, N160, (Keep.trans (Keep.trans (Keep.trans (Keep.trans (Keep.trans (Keep.refl h0 []) K127 all0) K129 (allS (Or.inr (Nat.le_of_eq g127.symm)) all0)) K131 (allS (Or.inr (Nat.le_of_eq g127.symm)) all0)) K132 all0) K135 (allS (Or.inr (Nat.le_trans (Nat.le_trans (Nat.le_trans K127.1 K129.1) K131.1) (Nat.le_of_eq g132.symm))) all0))⟩
        ·
          have W162 : ∀ zQ, SS p e below T135 m 140 #[.val (.int a), .val (.int b), .val (.int c), .val (.int len), .val (.int idx), .val (.int (2 : Int32)), .val (.ref b127), .val (.ref b132), .val (.int (0 : Int32)), .val (.int (pk a)), .val (.int (0 : Int32)), .val (.int (0 : Int32)), .unset] [(.int (13 : Int32)), (.int (pk a))] zQ → Steps p.tables e below (s₁.setTop (entryFrame m #[(.int a), (.int b), (.int c), (.int len), (.int idx)] maxLocals)) zQ := by
            intro tt kt
            refine W157 tt ?_
            refine XS.icmpYes X135.here hx rfl (pc0 := 127) (pc' := 136) rfl (hb hby at_127) rfl (feq hc158).2 (by decide) (by decide) ?_
            show SS p e below T135 m 136 #[.val (.int a), .val (.int b), .val (.int c), .val (.int len), .val (.int idx), .val (.int (2 : Int32)), .val (.ref b127), .val (.ref b132), .val (.int (0 : Int32)), .val (.int (pk a)), .val (.int (0 : Int32)), .val (.int (0 : Int32)), .unset] [] _
            refine XS.iload X135.here hx rfl (hb hby at_136) rfl ?_
            show SS p e below T135 m 138 #[.val (.int a), .val (.int b), .val (.int c), .val (.int len), .val (.int idx), .val (.int (2 : Int32)), .val (.ref b127), .val (.ref b132), .val (.int (0 : Int32)), .val (.int (pk a)), .val (.int (0 : Int32)), .val (.int (0 : Int32)), .unset] [(.int (pk a))] _
            refine XS.bipush X135.here hx rfl (hb hby at_138) ?_
            show SS p e below T135 m 140 #[.val (.int a), .val (.int b), .val (.int c), .val (.int len), .val (.int idx), .val (.int (2 : Int32)), .val (.ref b127), .val (.ref b132), .val (.int (0 : Int32)), .val (.int (pk a)), .val (.int (0 : Int32)), .val (.int (0 : Int32)), .unset] [(.int (13 : Int32)), (.int (pk a))] _
            exact kt
          by_cases hc163 : (pk a) = (13 : Int32)
          ·
            have O164 : Old Z n0 T135.heap := (O134.keep K135 (allS (Nat.le_trans Z0 (Nat.le_trans (Nat.le_trans (Nat.le_trans K127.1 K129.1) K131.1) (Nat.le_of_eq g132.symm))) all0))
            obtain ⟨_, _, ⟨T165, L165, k165, n165⟩, -, X165, ⟨Lc165, hQ165, l165, y165, z165⟩, st165⟩ := Jvm.LawKit.callS X135 hx (y := (⟨"com/example/vestline/vestline/input/TextFiles", "endsLine", "(Ljava/lang/String;I)Z"⟩ : MethodName)) hown (mvT hZ (w35 hw)) (mvT hZ (w36 hw)) (mvT hZ (w37 hw)) (mvT hZ (w38 hw)) (by decide) (backOf (W := 0) (rm_endsLine l Z a0 hw [] b132 0 t_136 kb_137 [(pk a), (pk b)] cS fm T135.heap n0 (Nat.le_trans Z0 (Nat.le_trans (Nat.le_trans (Nat.le_trans (Nat.le_trans K127.1 K129.1) K131.1) K132.1) K135.1)) O164 S_cs hcS S_fm hfm S_ad S_hi S_lo P135_1 (Nat.le_of_ble_eq_true rfl)) hZ (w38 hw) (w37 hw) (by decide) (by decide)) (g := (mkF m 165 #[.val (.int a), .val (.int b), .val (.int c), .val (.int len), .val (.int idx), .val (.int (2 : Int32)), .val (.ref b127), .val (.ref b132), .val (.int (0 : Int32)), .val (.int (pk a)), .val (.int (0 : Int32)), .val (.int (0 : Int32)), .val (.int (1 : Int32))] [(.int (0 : Int32)), (.ref b132)])) rfl (by rw [hml]; rfl) (argsL := [(.ref b132), (.int (0 : Int32))]) (rest := []) (lenOf pd__28_Ljava_2f_lang_2f_String_3b_I_29_Z rfl) rfl (by show 2 * 0 + _ ≤ _; exact Nat.le_of_eq rfl) (hb hby at_165) (fun _ _ => ⟨rfl, rfl, (Nat.le_of_ble_eq_true rfl), (Nat.le_of_ble_eq_true rfl)⟩)
            dsimp only [Pt.U, Pt.locs, Pt.cells, Pt.slots] at X165 l165 y165 z165 st165 hQ165
            subst l165 y165 z165
            obtain ⟨rfl, Nq165, eq165⟩ := hQ165
            have N165 := Fr.app N135 Nq165
            have W166 : ∀ zQ, SS p e below T165 m 178 #[.val (.int a), .val (.int b), .val (.int c), .val (.int len), .val (.int idx), .val (.int (2 : Int32)), .val (.ref b127), .val (.ref b132), .val (.int (0 : Int32)), .val (.int (pk a)), .val (.int (0 : Int32)), .val (.int (0 : Int32)), .val (.int (1 : Int32))] [(.int (1 : Int32))] zQ → Steps p.tables e below (s₁.setTop (entryFrame m #[(.int a), (.int b), (.int c), (.int len), (.int idx)] maxLocals)) zQ := by
              intro tt kt
              refine W162 tt ?_
              refine XS.icmpNo X135.here hx rfl (hb hby at_140) rfl (teq hc163).2 ?_
              show SS p e below T135 m 143 #[.val (.int a), .val (.int b), .val (.int c), .val (.int len), .val (.int idx), .val (.int (2 : Int32)), .val (.ref b127), .val (.ref b132), .val (.int (0 : Int32)), .val (.int (pk a)), .val (.int (0 : Int32)), .val (.int (0 : Int32)), .unset] [] _
              refine XS.iload X135.here hx rfl (hb hby at_143) rfl ?_
              show SS p e below T135 m 145 #[.val (.int a), .val (.int b), .val (.int c), .val (.int len), .val (.int idx), .val (.int (2 : Int32)), .val (.ref b127), .val (.ref b132), .val (.int (0 : Int32)), .val (.int (pk a)), .val (.int (0 : Int32)), .val (.int (0 : Int32)), .unset] [(.int (0 : Int32))] _
              refine XS.ifNo X135.here hx rfl (hb hby at_145) rfl ((if0 _ _).trans (teq (by decide)).2) ?_
              show SS p e below T135 m 148 #[.val (.int a), .val (.int b), .val (.int c), .val (.int len), .val (.int idx), .val (.int (2 : Int32)), .val (.ref b127), .val (.ref b132), .val (.int (0 : Int32)), .val (.int (pk a)), .val (.int (0 : Int32)), .val (.int (0 : Int32)), .unset] [] _
              refine XS.iconst X135.here hx rfl (hb hby at_148) ?_
              show SS p e below T135 m 149 #[.val (.int a), .val (.int b), .val (.int c), .val (.int len), .val (.int idx), .val (.int (2 : Int32)), .val (.ref b127), .val (.ref b132), .val (.int (0 : Int32)), .val (.int (pk a)), .val (.int (0 : Int32)), .val (.int (0 : Int32)), .unset] [(.int (1 : Int32))] _
              refine XS.goto X135.here hx rfl (pc0 := 149) (pc' := 153) rfl (hb hby at_149) (by decide) (by decide) ?_
              show SS p e below T135 m 153 #[.val (.int a), .val (.int b), .val (.int c), .val (.int len), .val (.int idx), .val (.int (2 : Int32)), .val (.ref b127), .val (.ref b132), .val (.int (0 : Int32)), .val (.int (pk a)), .val (.int (0 : Int32)), .val (.int (0 : Int32)), .unset] [(.int (1 : Int32))] _
              refine XS.istore X135.here hx rfl (hb hby at_153) rfl (l' := #[.val (.int a), .val (.int b), .val (.int c), .val (.int len), .val (.int idx), .val (.int (2 : Int32)), .val (.ref b127), .val (.ref b132), .val (.int (0 : Int32)), .val (.int (pk a)), .val (.int (0 : Int32)), .val (.int (0 : Int32)), .val (.int (1 : Int32))]) rfl ?_
              show SS p e below T135 m 155 #[.val (.int a), .val (.int b), .val (.int c), .val (.int len), .val (.int idx), .val (.int (2 : Int32)), .val (.ref b127), .val (.ref b132), .val (.int (0 : Int32)), .val (.int (pk a)), .val (.int (0 : Int32)), .val (.int (0 : Int32)), .val (.int (1 : Int32))] [] _
              refine XS.goto X135.here hx rfl (pc0 := 155) (pc' := 161) rfl (hb hby at_155) (by decide) (by decide) ?_
              show SS p e below T135 m 161 #[.val (.int a), .val (.int b), .val (.int c), .val (.int len), .val (.int idx), .val (.int (2 : Int32)), .val (.ref b127), .val (.ref b132), .val (.int (0 : Int32)), .val (.int (pk a)), .val (.int (0 : Int32)), .val (.int (0 : Int32)), .val (.int (1 : Int32))] [] _
              refine XS.aload X135.here hx rfl (hb hby at_161) rfl rfl ?_
              show SS p e below T135 m 163 #[.val (.int a), .val (.int b), .val (.int c), .val (.int len), .val (.int idx), .val (.int (2 : Int32)), .val (.ref b127), .val (.ref b132), .val (.int (0 : Int32)), .val (.int (pk a)), .val (.int (0 : Int32)), .val (.int (0 : Int32)), .val (.int (1 : Int32))] [(.ref b132)] _
              refine XS.iload X135.here hx rfl (hb hby at_163) rfl ?_
              show SS p e below T135 m 165 #[.val (.int a), .val (.int b), .val (.int c), .val (.int len), .val (.int idx), .val (.int (2 : Int32)), .val (.ref b127), .val (.ref b132), .val (.int (0 : Int32)), .val (.int (pk a)), .val (.int (0 : Int32)), .val (.int (0 : Int32)), .val (.int (1 : Int32))] [(.int (0 : Int32)), (.ref b132)] _
              refine st165 _ ?_
              show SS p e below T165 m 168 #[.val (.int a), .val (.int b), .val (.int c), .val (.int len), .val (.int idx), .val (.int (2 : Int32)), .val (.ref b127), .val (.ref b132), .val (.int (0 : Int32)), .val (.int (pk a)), .val (.int (0 : Int32)), .val (.int (0 : Int32)), .val (.int (1 : Int32))] [(.int (el [(pk a), (pk b)] 0))] _
              refine XS.iload X165.here hx rfl (hb hby at_168) rfl ?_
              show SS p e below T165 m 170 #[.val (.int a), .val (.int b), .val (.int c), .val (.int len), .val (.int idx), .val (.int (2 : Int32)), .val (.ref b127), .val (.ref b132), .val (.int (0 : Int32)), .val (.int (pk a)), .val (.int (0 : Int32)), .val (.int (0 : Int32)), .val (.int (1 : Int32))] [(.int (1 : Int32)), (.int (el [(pk a), (pk b)] 0))] _
              refine XS.icmpNo X165.here hx rfl (hb hby at_170) rfl (teq (by simp [el, hc143, hc158, hc163])).2 ?_
              show SS p e below T165 m 173 #[.val (.int a), .val (.int b), .val (.int c), .val (.int len), .val (.int idx), .val (.int (2 : Int32)), .val (.ref b127), .val (.ref b132), .val (.int (0 : Int32)), .val (.int (pk a)), .val (.int (0 : Int32)), .val (.int (0 : Int32)), .val (.int (1 : Int32))] [] _
              refine XS.iconst X165.here hx rfl (hb hby at_173) ?_
              show SS p e below T165 m 174 #[.val (.int a), .val (.int b), .val (.int c), .val (.int len), .val (.int idx), .val (.int (2 : Int32)), .val (.ref b127), .val (.ref b132), .val (.int (0 : Int32)), .val (.int (pk a)), .val (.int (0 : Int32)), .val (.int (0 : Int32)), .val (.int (1 : Int32))] [(.int (1 : Int32))] _
              refine XS.goto X165.here hx rfl (pc0 := 174) (pc' := 178) rfl (hb hby at_174) (by decide) (by decide) ?_
              show SS p e below T165 m 178 #[.val (.int a), .val (.int b), .val (.int c), .val (.int len), .val (.int idx), .val (.int (2 : Int32)), .val (.ref b127), .val (.ref b132), .val (.int (0 : Int32)), .val (.int (pk a)), .val (.int (0 : Int32)), .val (.int (0 : Int32)), .val (.int (1 : Int32))] [(.int (1 : Int32))] _
              exact kt
            obtain ⟨fs, hr, hrun, hended, hW, hsame⟩ := X165.leave (v := some (.int (nar .boolean (1 : Int32)))) (fun h => by rw [Bd.returns] at h; cases h)
            refine ⟨_, _, W166 _ (retN X165 hx (t := .boolean) Bd.returns (by simp) (hb hby at_178) hr), hrun, hended, _, _, rfl, ?_, ⟨_, rfl⟩, hW, hsame.mono (by decide) (by decide)⟩
            show Q_law Z a b c len idx cS fm h0 n0 _ T165.heap _
            rw [eq165]
            exact ⟨rfl, N165, (Keep.trans (Keep.trans (Keep.trans (Keep.trans (Keep.trans (Keep.refl h0 []) K127 all0) K129 (allS (Or.inr (Nat.le_of_eq g127.symm)) all0)) K131 (allS (Or.inr (Nat.le_of_eq g127.symm)) all0)) K132 all0) K135 (allS (Or.inr (Nat.le_trans (Nat.le_trans (Nat.le_trans K127.1 K129.1) K131.1) (Nat.le_of_eq g132.symm))) all0))⟩
          ·
            have O167 : Old Z n0 T135.heap := (O134.keep K135 (allS (Nat.le_trans Z0 (Nat.le_trans (Nat.le_trans (Nat.le_trans K127.1 K129.1) K131.1) (Nat.le_of_eq g132.symm))) all0))
            obtain ⟨_, _, ⟨T168, L168, k168, n168⟩, -, X168, ⟨Lc168, hQ168, l168, y168, z168⟩, st168⟩ := Jvm.LawKit.callS X135 hx (y := (⟨"com/example/vestline/vestline/input/TextFiles", "endsLine", "(Ljava/lang/String;I)Z"⟩ : MethodName)) hown (mvT hZ (w35 hw)) (mvT hZ (w36 hw)) (mvT hZ (w37 hw)) (mvT hZ (w38 hw)) (by decide) (backOf (W := 0) (rm_endsLine l Z a0 hw [] b132 0 t_136 kb_137 [(pk a), (pk b)] cS fm T135.heap n0 (Nat.le_trans Z0 (Nat.le_trans (Nat.le_trans (Nat.le_trans (Nat.le_trans K127.1 K129.1) K131.1) K132.1) K135.1)) O167 S_cs hcS S_fm hfm S_ad S_hi S_lo P135_1 (Nat.le_of_ble_eq_true rfl)) hZ (w38 hw) (w37 hw) (by decide) (by decide)) (g := (mkF m 165 #[.val (.int a), .val (.int b), .val (.int c), .val (.int len), .val (.int idx), .val (.int (2 : Int32)), .val (.ref b127), .val (.ref b132), .val (.int (0 : Int32)), .val (.int (pk a)), .val (.int (0 : Int32)), .val (.int (0 : Int32)), .val (.int (0 : Int32))] [(.int (0 : Int32)), (.ref b132)])) rfl (by rw [hml]; rfl) (argsL := [(.ref b132), (.int (0 : Int32))]) (rest := []) (lenOf pd__28_Ljava_2f_lang_2f_String_3b_I_29_Z rfl) rfl (by show 2 * 0 + _ ≤ _; exact Nat.le_of_eq rfl) (hb hby at_165) (fun _ _ => ⟨rfl, rfl, (Nat.le_of_ble_eq_true rfl), (Nat.le_of_ble_eq_true rfl)⟩)
            dsimp only [Pt.U, Pt.locs, Pt.cells, Pt.slots] at X168 l168 y168 z168 st168 hQ168
            subst l168 y168 z168
            obtain ⟨rfl, Nq168, eq168⟩ := hQ168
            have N168 := Fr.app N135 Nq168
            have W169 : ∀ zQ, SS p e below T168 m 178 #[.val (.int a), .val (.int b), .val (.int c), .val (.int len), .val (.int idx), .val (.int (2 : Int32)), .val (.ref b127), .val (.ref b132), .val (.int (0 : Int32)), .val (.int (pk a)), .val (.int (0 : Int32)), .val (.int (0 : Int32)), .val (.int (0 : Int32))] [(.int (1 : Int32))] zQ → Steps p.tables e below (s₁.setTop (entryFrame m #[(.int a), (.int b), (.int c), (.int len), (.int idx)] maxLocals)) zQ := by
              intro tt kt
              refine W162 tt ?_
              refine XS.icmpYes X135.here hx rfl (pc0 := 140) (pc' := 158) rfl (hb hby at_140) rfl (feq hc163).2 (by decide) (by decide) ?_
              show SS p e below T135 m 158 #[.val (.int a), .val (.int b), .val (.int c), .val (.int len), .val (.int idx), .val (.int (2 : Int32)), .val (.ref b127), .val (.ref b132), .val (.int (0 : Int32)), .val (.int (pk a)), .val (.int (0 : Int32)), .val (.int (0 : Int32)), .unset] [] _
              refine XS.iconst X135.here hx rfl (hb hby at_158) ?_
              show SS p e below T135 m 159 #[.val (.int a), .val (.int b), .val (.int c), .val (.int len), .val (.int idx), .val (.int (2 : Int32)), .val (.ref b127), .val (.ref b132), .val (.int (0 : Int32)), .val (.int (pk a)), .val (.int (0 : Int32)), .val (.int (0 : Int32)), .unset] [(.int (0 : Int32))] _
              refine XS.istore X135.here hx rfl (hb hby at_159) rfl (l' := #[.val (.int a), .val (.int b), .val (.int c), .val (.int len), .val (.int idx), .val (.int (2 : Int32)), .val (.ref b127), .val (.ref b132), .val (.int (0 : Int32)), .val (.int (pk a)), .val (.int (0 : Int32)), .val (.int (0 : Int32)), .val (.int (0 : Int32))]) rfl ?_
              show SS p e below T135 m 161 #[.val (.int a), .val (.int b), .val (.int c), .val (.int len), .val (.int idx), .val (.int (2 : Int32)), .val (.ref b127), .val (.ref b132), .val (.int (0 : Int32)), .val (.int (pk a)), .val (.int (0 : Int32)), .val (.int (0 : Int32)), .val (.int (0 : Int32))] [] _
              refine XS.aload X135.here hx rfl (hb hby at_161) rfl rfl ?_
              show SS p e below T135 m 163 #[.val (.int a), .val (.int b), .val (.int c), .val (.int len), .val (.int idx), .val (.int (2 : Int32)), .val (.ref b127), .val (.ref b132), .val (.int (0 : Int32)), .val (.int (pk a)), .val (.int (0 : Int32)), .val (.int (0 : Int32)), .val (.int (0 : Int32))] [(.ref b132)] _
              refine XS.iload X135.here hx rfl (hb hby at_163) rfl ?_
              show SS p e below T135 m 165 #[.val (.int a), .val (.int b), .val (.int c), .val (.int len), .val (.int idx), .val (.int (2 : Int32)), .val (.ref b127), .val (.ref b132), .val (.int (0 : Int32)), .val (.int (pk a)), .val (.int (0 : Int32)), .val (.int (0 : Int32)), .val (.int (0 : Int32))] [(.int (0 : Int32)), (.ref b132)] _
              refine st168 _ ?_
              show SS p e below T168 m 168 #[.val (.int a), .val (.int b), .val (.int c), .val (.int len), .val (.int idx), .val (.int (2 : Int32)), .val (.ref b127), .val (.ref b132), .val (.int (0 : Int32)), .val (.int (pk a)), .val (.int (0 : Int32)), .val (.int (0 : Int32)), .val (.int (0 : Int32))] [(.int (el [(pk a), (pk b)] 0))] _
              refine XS.iload X168.here hx rfl (hb hby at_168) rfl ?_
              show SS p e below T168 m 170 #[.val (.int a), .val (.int b), .val (.int c), .val (.int len), .val (.int idx), .val (.int (2 : Int32)), .val (.ref b127), .val (.ref b132), .val (.int (0 : Int32)), .val (.int (pk a)), .val (.int (0 : Int32)), .val (.int (0 : Int32)), .val (.int (0 : Int32))] [(.int (0 : Int32)), (.int (el [(pk a), (pk b)] 0))] _
              refine XS.icmpNo X168.here hx rfl (hb hby at_170) rfl (teq (by simp [el, hc143, hc158, hc163])).2 ?_
              show SS p e below T168 m 173 #[.val (.int a), .val (.int b), .val (.int c), .val (.int len), .val (.int idx), .val (.int (2 : Int32)), .val (.ref b127), .val (.ref b132), .val (.int (0 : Int32)), .val (.int (pk a)), .val (.int (0 : Int32)), .val (.int (0 : Int32)), .val (.int (0 : Int32))] [] _
              refine XS.iconst X168.here hx rfl (hb hby at_173) ?_
              show SS p e below T168 m 174 #[.val (.int a), .val (.int b), .val (.int c), .val (.int len), .val (.int idx), .val (.int (2 : Int32)), .val (.ref b127), .val (.ref b132), .val (.int (0 : Int32)), .val (.int (pk a)), .val (.int (0 : Int32)), .val (.int (0 : Int32)), .val (.int (0 : Int32))] [(.int (1 : Int32))] _
              refine XS.goto X168.here hx rfl (pc0 := 174) (pc' := 178) rfl (hb hby at_174) (by decide) (by decide) ?_
              show SS p e below T168 m 178 #[.val (.int a), .val (.int b), .val (.int c), .val (.int len), .val (.int idx), .val (.int (2 : Int32)), .val (.ref b127), .val (.ref b132), .val (.int (0 : Int32)), .val (.int (pk a)), .val (.int (0 : Int32)), .val (.int (0 : Int32)), .val (.int (0 : Int32))] [(.int (1 : Int32))] _
              exact kt
            obtain ⟨fs, hr, hrun, hended, hW, hsame⟩ := X168.leave (v := some (.int (nar .boolean (1 : Int32)))) (fun h => by rw [Bd.returns] at h; cases h)
            refine ⟨_, _, W169 _ (retN X168 hx (t := .boolean) Bd.returns (by simp) (hb hby at_178) hr), hrun, hended, _, _, rfl, ?_, ⟨_, rfl⟩, hW, hsame.mono (by decide) (by decide)⟩
            show Q_law Z a b c len idx cS fm h0 n0 _ T168.heap _
            rw [eq168]
            exact ⟨rfl, N168, (Keep.trans (Keep.trans (Keep.trans (Keep.trans (Keep.trans (Keep.refl h0 []) K127 all0) K129 (allS (Or.inr (Nat.le_of_eq g127.symm)) all0)) K131 (allS (Or.inr (Nat.le_of_eq g127.symm)) all0)) K132 all0) K135 (allS (Or.inr (Nat.le_trans (Nat.le_trans (Nat.le_trans K127.1 K129.1) K131.1) (Nat.le_of_eq g132.symm))) all0))⟩
    ·
      have F170 : Arv Z T135.heap b127 k127 .char (2 : Int32) [(.int (pk a)), (.int (pk b))] (.int (0 : Int32)) := (F133.keep K135 (ninS (Nat.ne_of_lt (Nat.lt_of_lt_of_le (Nat.lt_of_lt_of_le G127.lt (Nat.le_trans K129.1 K131.1)) (Nat.le_of_eq g132.symm))) nin0))
      obtain ⟨cl171, Ar171, q171, S171, M171, H171, F171g⟩ := id F170
      have hin171 : ¬ ((1 : Int32) < 0 ∨ cl171.slots.size ≤ ((1 : Int32)).toNatClampNeg) := inb_of S171 ⟨by decide, by decide⟩
      have hat171 : cl171.slots[((1 : Int32)).toNatClampNeg]? = some (.int (pk b)) := Has.at H171 hin171 rfl
      have W172 : ∀ zQ, SS p e below T135 m 127 #[.val (.int a), .val (.int b), .val (.int c), .val (.int len), .val (.int idx), .val (.int (2 : Int32)), .val (.ref b127), .val (.ref b132), .val (.int (1 : Int32)), .val (.int (pk b)), .val (.int (1 : Int32)), .val (.int (0 : Int32)), .unset] [(.int (10 : Int32)), (.int (pk b))] zQ → Steps p.tables e below (s₁.setTop (entryFrame m #[(.int a), (.int b), (.int c), (.int len), (.int idx)] maxLocals)) zQ := by
        intro tt kt
        refine W138 tt ?_
        refine XS.istore X135.here hx rfl (hb hby at_71) rfl (l' := #[.val (.int a), .val (.int b), .val (.int c), .val (.int len), .val (.int idx), .val (.int (2 : Int32)), .val (.ref b127), .val (.ref b132), .val (.int (1 : Int32)), .unset, .unset, .unset, .unset]) rfl ?_
        show SS p e below T135 m 73 #[.val (.int a), .val (.int b), .val (.int c), .val (.int len), .val (.int idx), .val (.int (2 : Int32)), .val (.ref b127), .val (.ref b132), .val (.int (1 : Int32)), .unset, .unset, .unset, .unset] [] _
        refine XS.aload X135.here hx rfl (hb hby at_73) rfl rfl ?_
        show SS p e below T135 m 75 #[.val (.int a), .val (.int b), .val (.int c), .val (.int len), .val (.int idx), .val (.int (2 : Int32)), .val (.ref b127), .val (.ref b132), .val (.int (1 : Int32)), .unset, .unset, .unset, .unset] [(.ref b127)] _
        refine XS.iload X135.here hx rfl (hb hby at_75) rfl ?_
        show SS p e below T135 m 77 #[.val (.int a), .val (.int b), .val (.int c), .val (.int len), .val (.int idx), .val (.int (2 : Int32)), .val (.ref b127), .val (.ref b132), .val (.int (1 : Int32)), .unset, .unset, .unset, .unset] [(.int (1 : Int32)), (.ref b127)] _
        refine X135.caload hx (j := (1 : Int32)) (v := (.int (pk b))) (by first | exact Ar171.1 | (rw [rfl]; exact Ar171.1)) (State.isArrayOf_alike hZ.alike Ar171.2.1) Ar171.2.2 hin171 hat171 (g := (mkF m 77 #[.val (.int a), .val (.int b), .val (.int c), .val (.int len), .val (.int idx), .val (.int (2 : Int32)), .val (.ref b127), .val (.ref b132), .val (.int (1 : Int32)), .unset, .unset, .unset, .unset] [(.int (1 : Int32)), (.ref b127)])) rfl rfl (hb hby at_77) _ ?_
        show SS p e below T135 m 78 #[.val (.int a), .val (.int b), .val (.int c), .val (.int len), .val (.int idx), .val (.int (2 : Int32)), .val (.ref b127), .val (.ref b132), .val (.int (1 : Int32)), .unset, .unset, .unset, .unset] [(.int (pk b))] _
        refine XS.istore X135.here hx rfl (hb hby at_78) rfl (l' := #[.val (.int a), .val (.int b), .val (.int c), .val (.int len), .val (.int idx), .val (.int (2 : Int32)), .val (.ref b127), .val (.ref b132), .val (.int (1 : Int32)), .val (.int (pk b)), .unset, .unset, .unset]) rfl ?_
        show SS p e below T135 m 80 #[.val (.int a), .val (.int b), .val (.int c), .val (.int len), .val (.int idx), .val (.int (2 : Int32)), .val (.ref b127), .val (.ref b132), .val (.int (1 : Int32)), .val (.int (pk b)), .unset, .unset, .unset] [] _
        refine XS.iload X135.here hx rfl (hb hby at_80) rfl ?_
        show SS p e below T135 m 82 #[.val (.int a), .val (.int b), .val (.int c), .val (.int len), .val (.int idx), .val (.int (2 : Int32)), .val (.ref b127), .val (.ref b132), .val (.int (1 : Int32)), .val (.int (pk b)), .unset, .unset, .unset] [(.int (1 : Int32))] _
        refine XS.iload X135.here hx rfl (hb hby at_82) rfl ?_
        show SS p e below T135 m 84 #[.val (.int a), .val (.int b), .val (.int c), .val (.int len), .val (.int idx), .val (.int (2 : Int32)), .val (.ref b127), .val (.ref b132), .val (.int (1 : Int32)), .val (.int (pk b)), .unset, .unset, .unset] [(.int (2 : Int32)), (.int (1 : Int32))] _
        refine XS.iconst X135.here hx rfl (hb hby at_84) ?_
        show SS p e below T135 m 85 #[.val (.int a), .val (.int b), .val (.int c), .val (.int len), .val (.int idx), .val (.int (2 : Int32)), .val (.ref b127), .val (.ref b132), .val (.int (1 : Int32)), .val (.int (pk b)), .unset, .unset, .unset] [(.int (1 : Int32)), (.int (2 : Int32)), (.int (1 : Int32))] _
        refine XS.isub X135.here hx rfl (hb hby at_85) rfl ?_
        show SS p e below T135 m 86 #[.val (.int a), .val (.int b), .val (.int c), .val (.int len), .val (.int idx), .val (.int (2 : Int32)), .val (.ref b127), .val (.ref b132), .val (.int (1 : Int32)), .val (.int (pk b)), .unset, .unset, .unset] [(.int (1 : Int32)), (.int (1 : Int32))] _
        refine XS.icmpNo X135.here hx rfl (hb hby at_86) rfl (teq (by decide)).2 ?_
        show SS p e below T135 m 89 #[.val (.int a), .val (.int b), .val (.int c), .val (.int len), .val (.int idx), .val (.int (2 : Int32)), .val (.ref b127), .val (.ref b132), .val (.int (1 : Int32)), .val (.int (pk b)), .unset, .unset, .unset] [] _
        refine XS.iconst X135.here hx rfl (hb hby at_89) ?_
        show SS p e below T135 m 90 #[.val (.int a), .val (.int b), .val (.int c), .val (.int len), .val (.int idx), .val (.int (2 : Int32)), .val (.ref b127), .val (.ref b132), .val (.int (1 : Int32)), .val (.int (pk b)), .unset, .unset, .unset] [(.int (1 : Int32))] _
        refine XS.goto X135.here hx rfl (pc0 := 90) (pc' := 94) rfl (hb hby at_90) (by decide) (by decide) ?_
        show SS p e below T135 m 94 #[.val (.int a), .val (.int b), .val (.int c), .val (.int len), .val (.int idx), .val (.int (2 : Int32)), .val (.ref b127), .val (.ref b132), .val (.int (1 : Int32)), .val (.int (pk b)), .unset, .unset, .unset] [(.int (1 : Int32))] _
        refine XS.istore X135.here hx rfl (hb hby at_94) rfl (l' := #[.val (.int a), .val (.int b), .val (.int c), .val (.int len), .val (.int idx), .val (.int (2 : Int32)), .val (.ref b127), .val (.ref b132), .val (.int (1 : Int32)), .val (.int (pk b)), .val (.int (1 : Int32)), .unset, .unset]) rfl ?_
        show SS p e below T135 m 96 #[.val (.int a), .val (.int b), .val (.int c), .val (.int len), .val (.int idx), .val (.int (2 : Int32)), .val (.ref b127), .val (.ref b132), .val (.int (1 : Int32)), .val (.int (pk b)), .val (.int (1 : Int32)), .unset, .unset] [] _
        refine XS.iconst X135.here hx rfl (hb hby at_96) ?_
        show SS p e below T135 m 97 #[.val (.int a), .val (.int b), .val (.int c), .val (.int len), .val (.int idx), .val (.int (2 : Int32)), .val (.ref b127), .val (.ref b132), .val (.int (1 : Int32)), .val (.int (pk b)), .val (.int (1 : Int32)), .unset, .unset] [(.int (0 : Int32))] _
        refine XS.istore X135.here hx rfl (hb hby at_97) rfl (l' := #[.val (.int a), .val (.int b), .val (.int c), .val (.int len), .val (.int idx), .val (.int (2 : Int32)), .val (.ref b127), .val (.ref b132), .val (.int (1 : Int32)), .val (.int (pk b)), .val (.int (1 : Int32)), .val (.int (0 : Int32)), .unset]) rfl ?_
        show SS p e below T135 m 99 #[.val (.int a), .val (.int b), .val (.int c), .val (.int len), .val (.int idx), .val (.int (2 : Int32)), .val (.ref b127), .val (.ref b132), .val (.int (1 : Int32)), .val (.int (pk b)), .val (.int (1 : Int32)), .val (.int (0 : Int32)), .unset] [] _
        refine XS.iload X135.here hx rfl (hb hby at_99) rfl ?_
        show SS p e below T135 m 101 #[.val (.int a), .val (.int b), .val (.int c), .val (.int len), .val (.int idx), .val (.int (2 : Int32)), .val (.ref b127), .val (.ref b132), .val (.int (1 : Int32)), .val (.int (pk b)), .val (.int (1 : Int32)), .val (.int (0 : Int32)), .unset] [(.int (1 : Int32))] _
        refine XS.ifYes X135.here hx rfl (pc0 := 101) (pc' := 123) rfl (hb hby at_101) rfl ((if0 _ _).trans (feq (by decide)).2) (by decide) (by decide) ?_
        show SS p e below T135 m 123 #[.val (.int a), .val (.int b), .val (.int c), .val (.int len), .val (.int idx), .val (.int (2 : Int32)), .val (.ref b127), .val (.ref b132), .val (.int (1 : Int32)), .val (.int (pk b)), .val (.int (1 : Int32)), .val (.int (0 : Int32)), .unset] [] _
        refine XS.iload X135.here hx rfl (hb hby at_123) rfl ?_
        show SS p e below T135 m 125 #[.val (.int a), .val (.int b), .val (.int c), .val (.int len), .val (.int idx), .val (.int (2 : Int32)), .val (.ref b127), .val (.ref b132), .val (.int (1 : Int32)), .val (.int (pk b)), .val (.int (1 : Int32)), .val (.int (0 : Int32)), .unset] [(.int (pk b))] _
        refine XS.bipush X135.here hx rfl (hb hby at_125) ?_
        show SS p e below T135 m 127 #[.val (.int a), .val (.int b), .val (.int c), .val (.int len), .val (.int idx), .val (.int (2 : Int32)), .val (.ref b127), .val (.ref b132), .val (.int (1 : Int32)), .val (.int (pk b)), .val (.int (1 : Int32)), .val (.int (0 : Int32)), .unset] [(.int (10 : Int32)), (.int (pk b))] _
        exact kt
      by_cases hc173 : (pk b) = (10 : Int32)
      ·
        have O174 : Old Z n0 T135.heap := (O134.keep K135 (allS (Nat.le_trans Z0 (Nat.le_trans (Nat.le_trans (Nat.le_trans K127.1 K129.1) K131.1) (Nat.le_of_eq g132.symm))) all0))
        obtain ⟨_, _, ⟨T175, L175, k175, n175⟩, -, X175, ⟨Lc175, hQ175, l175, y175, z175⟩, st175⟩ := Jvm.LawKit.callS X135 hx (y := (⟨"com/example/vestline/vestline/input/TextFiles", "endsLine", "(Ljava/lang/String;I)Z"⟩ : MethodName)) hown (mvT hZ (w35 hw)) (mvT hZ (w36 hw)) (mvT hZ (w37 hw)) (mvT hZ (w38 hw)) (by decide) (backOf (W := 0) (rm_endsLine l Z a0 hw [] b132 1 t_136 kb_137 [(pk a), (pk b)] cS fm T135.heap n0 (Nat.le_trans Z0 (Nat.le_trans (Nat.le_trans (Nat.le_trans (Nat.le_trans K127.1 K129.1) K131.1) K132.1) K135.1)) O174 S_cs hcS S_fm hfm S_ad S_hi S_lo P135_1 (Nat.le_of_ble_eq_true rfl)) hZ (w38 hw) (w37 hw) (by decide) (by decide)) (g := (mkF m 165 #[.val (.int a), .val (.int b), .val (.int c), .val (.int len), .val (.int idx), .val (.int (2 : Int32)), .val (.ref b127), .val (.ref b132), .val (.int (1 : Int32)), .val (.int (pk b)), .val (.int (1 : Int32)), .val (.int (0 : Int32)), .val (.int (1 : Int32))] [(.int (1 : Int32)), (.ref b132)])) rfl (by rw [hml]; rfl) (argsL := [(.ref b132), (.int (1 : Int32))]) (rest := []) (lenOf pd__28_Ljava_2f_lang_2f_String_3b_I_29_Z rfl) rfl (by show 2 * 0 + _ ≤ _; exact Nat.le_of_eq rfl) (hb hby at_165) (fun _ _ => ⟨rfl, rfl, (Nat.le_of_ble_eq_true rfl), (Nat.le_of_ble_eq_true rfl)⟩)
        dsimp only [Pt.U, Pt.locs, Pt.cells, Pt.slots] at X175 l175 y175 z175 st175 hQ175
        subst l175 y175 z175
        obtain ⟨rfl, Nq175, eq175⟩ := hQ175
        have N175 := Fr.app N135 Nq175
        have W176 : ∀ zQ, SS p e below T175 m 178 #[.val (.int a), .val (.int b), .val (.int c), .val (.int len), .val (.int idx), .val (.int (2 : Int32)), .val (.ref b127), .val (.ref b132), .val (.int (1 : Int32)), .val (.int (pk b)), .val (.int (1 : Int32)), .val (.int (0 : Int32)), .val (.int (1 : Int32))] [(.int (1 : Int32))] zQ → Steps p.tables e below (s₁.setTop (entryFrame m #[(.int a), (.int b), (.int c), (.int len), (.int idx)] maxLocals)) zQ := by
          intro tt kt
          refine W172 tt ?_
          refine XS.icmpNo X135.here hx rfl (hb hby at_127) rfl (teq hc173).2 ?_
          show SS p e below T135 m 130 #[.val (.int a), .val (.int b), .val (.int c), .val (.int len), .val (.int idx), .val (.int (2 : Int32)), .val (.ref b127), .val (.ref b132), .val (.int (1 : Int32)), .val (.int (pk b)), .val (.int (1 : Int32)), .val (.int (0 : Int32)), .unset] [] _
          refine XS.iconst X135.here hx rfl (hb hby at_130) ?_
          show SS p e below T135 m 131 #[.val (.int a), .val (.int b), .val (.int c), .val (.int len), .val (.int idx), .val (.int (2 : Int32)), .val (.ref b127), .val (.ref b132), .val (.int (1 : Int32)), .val (.int (pk b)), .val (.int (1 : Int32)), .val (.int (0 : Int32)), .unset] [(.int (1 : Int32))] _
          refine XS.istore X135.here hx rfl (hb hby at_131) rfl (l' := #[.val (.int a), .val (.int b), .val (.int c), .val (.int len), .val (.int idx), .val (.int (2 : Int32)), .val (.ref b127), .val (.ref b132), .val (.int (1 : Int32)), .val (.int (pk b)), .val (.int (1 : Int32)), .val (.int (0 : Int32)), .val (.int (1 : Int32))]) rfl ?_
          show SS p e below T135 m 133 #[.val (.int a), .val (.int b), .val (.int c), .val (.int len), .val (.int idx), .val (.int (2 : Int32)), .val (.ref b127), .val (.ref b132), .val (.int (1 : Int32)), .val (.int (pk b)), .val (.int (1 : Int32)), .val (.int (0 : Int32)), .val (.int (1 : Int32))] [] _
          refine XS.goto X135.here hx rfl (pc0 := 133) (pc' := 161) rfl (hb hby at_133) (by decide) (by decide) ?_
          show SS p e below T135 m 161 #[.val (.int a), .val (.int b), .val (.int c), .val (.int len), .val (.int idx), .val (.int (2 : Int32)), .val (.ref b127), .val (.ref b132), .val (.int (1 : Int32)), .val (.int (pk b)), .val (.int (1 : Int32)), .val (.int (0 : Int32)), .val (.int (1 : Int32))] [] _
          refine XS.aload X135.here hx rfl (hb hby at_161) rfl rfl ?_
          show SS p e below T135 m 163 #[.val (.int a), .val (.int b), .val (.int c), .val (.int len), .val (.int idx), .val (.int (2 : Int32)), .val (.ref b127), .val (.ref b132), .val (.int (1 : Int32)), .val (.int (pk b)), .val (.int (1 : Int32)), .val (.int (0 : Int32)), .val (.int (1 : Int32))] [(.ref b132)] _
          refine XS.iload X135.here hx rfl (hb hby at_163) rfl ?_
          show SS p e below T135 m 165 #[.val (.int a), .val (.int b), .val (.int c), .val (.int len), .val (.int idx), .val (.int (2 : Int32)), .val (.ref b127), .val (.ref b132), .val (.int (1 : Int32)), .val (.int (pk b)), .val (.int (1 : Int32)), .val (.int (0 : Int32)), .val (.int (1 : Int32))] [(.int (1 : Int32)), (.ref b132)] _
          refine st175 _ ?_
          show SS p e below T175 m 168 #[.val (.int a), .val (.int b), .val (.int c), .val (.int len), .val (.int idx), .val (.int (2 : Int32)), .val (.ref b127), .val (.ref b132), .val (.int (1 : Int32)), .val (.int (pk b)), .val (.int (1 : Int32)), .val (.int (0 : Int32)), .val (.int (1 : Int32))] [(.int (el [(pk a), (pk b)] 1))] _
          refine XS.iload X175.here hx rfl (hb hby at_168) rfl ?_
          show SS p e below T175 m 170 #[.val (.int a), .val (.int b), .val (.int c), .val (.int len), .val (.int idx), .val (.int (2 : Int32)), .val (.ref b127), .val (.ref b132), .val (.int (1 : Int32)), .val (.int (pk b)), .val (.int (1 : Int32)), .val (.int (0 : Int32)), .val (.int (1 : Int32))] [(.int (1 : Int32)), (.int (el [(pk a), (pk b)] 1))] _
          refine XS.icmpNo X175.here hx rfl (hb hby at_170) rfl (teq (by simp [el, hc173])).2 ?_
          show SS p e below T175 m 173 #[.val (.int a), .val (.int b), .val (.int c), .val (.int len), .val (.int idx), .val (.int (2 : Int32)), .val (.ref b127), .val (.ref b132), .val (.int (1 : Int32)), .val (.int (pk b)), .val (.int (1 : Int32)), .val (.int (0 : Int32)), .val (.int (1 : Int32))] [] _
          refine XS.iconst X175.here hx rfl (hb hby at_173) ?_
          show SS p e below T175 m 174 #[.val (.int a), .val (.int b), .val (.int c), .val (.int len), .val (.int idx), .val (.int (2 : Int32)), .val (.ref b127), .val (.ref b132), .val (.int (1 : Int32)), .val (.int (pk b)), .val (.int (1 : Int32)), .val (.int (0 : Int32)), .val (.int (1 : Int32))] [(.int (1 : Int32))] _
          refine XS.goto X175.here hx rfl (pc0 := 174) (pc' := 178) rfl (hb hby at_174) (by decide) (by decide) ?_
          show SS p e below T175 m 178 #[.val (.int a), .val (.int b), .val (.int c), .val (.int len), .val (.int idx), .val (.int (2 : Int32)), .val (.ref b127), .val (.ref b132), .val (.int (1 : Int32)), .val (.int (pk b)), .val (.int (1 : Int32)), .val (.int (0 : Int32)), .val (.int (1 : Int32))] [(.int (1 : Int32))] _
          exact kt
        obtain ⟨fs, hr, hrun, hended, hW, hsame⟩ := X175.leave (v := some (.int (nar .boolean (1 : Int32)))) (fun h => by rw [Bd.returns] at h; cases h)
        refine ⟨_, _, W176 _ (retN X175 hx (t := .boolean) Bd.returns (by simp) (hb hby at_178) hr), hrun, hended, _, _, rfl, ?_, ⟨_, rfl⟩, hW, hsame.mono (by decide) (by decide)⟩
        show Q_law Z a b c len idx cS fm h0 n0 _ T175.heap _
        rw [eq175]
        exact ⟨rfl, N175, (Keep.trans (Keep.trans (Keep.trans (Keep.trans (Keep.trans (Keep.refl h0 []) K127 all0) K129 (allS (Or.inr (Nat.le_of_eq g127.symm)) all0)) K131 (allS (Or.inr (Nat.le_of_eq g127.symm)) all0)) K132 all0) K135 (allS (Or.inr (Nat.le_trans (Nat.le_trans (Nat.le_trans K127.1 K129.1) K131.1) (Nat.le_of_eq g132.symm))) all0))⟩
      ·
        have W177 : ∀ zQ, SS p e below T135 m 140 #[.val (.int a), .val (.int b), .val (.int c), .val (.int len), .val (.int idx), .val (.int (2 : Int32)), .val (.ref b127), .val (.ref b132), .val (.int (1 : Int32)), .val (.int (pk b)), .val (.int (1 : Int32)), .val (.int (0 : Int32)), .unset] [(.int (13 : Int32)), (.int (pk b))] zQ → Steps p.tables e below (s₁.setTop (entryFrame m #[(.int a), (.int b), (.int c), (.int len), (.int idx)] maxLocals)) zQ := by
          intro tt kt
          refine W172 tt ?_
          refine XS.icmpYes X135.here hx rfl (pc0 := 127) (pc' := 136) rfl (hb hby at_127) rfl (feq hc173).2 (by decide) (by decide) ?_
          show SS p e below T135 m 136 #[.val (.int a), .val (.int b), .val (.int c), .val (.int len), .val (.int idx), .val (.int (2 : Int32)), .val (.ref b127), .val (.ref b132), .val (.int (1 : Int32)), .val (.int (pk b)), .val (.int (1 : Int32)), .val (.int (0 : Int32)), .unset] [] _
          refine XS.iload X135.here hx rfl (hb hby at_136) rfl ?_
          show SS p e below T135 m 138 #[.val (.int a), .val (.int b), .val (.int c), .val (.int len), .val (.int idx), .val (.int (2 : Int32)), .val (.ref b127), .val (.ref b132), .val (.int (1 : Int32)), .val (.int (pk b)), .val (.int (1 : Int32)), .val (.int (0 : Int32)), .unset] [(.int (pk b))] _
          refine XS.bipush X135.here hx rfl (hb hby at_138) ?_
          show SS p e below T135 m 140 #[.val (.int a), .val (.int b), .val (.int c), .val (.int len), .val (.int idx), .val (.int (2 : Int32)), .val (.ref b127), .val (.ref b132), .val (.int (1 : Int32)), .val (.int (pk b)), .val (.int (1 : Int32)), .val (.int (0 : Int32)), .unset] [(.int (13 : Int32)), (.int (pk b))] _
          exact kt
        by_cases hc178 : (pk b) = (13 : Int32)
        ·
          have O179 : Old Z n0 T135.heap := (O134.keep K135 (allS (Nat.le_trans Z0 (Nat.le_trans (Nat.le_trans (Nat.le_trans K127.1 K129.1) K131.1) (Nat.le_of_eq g132.symm))) all0))
          obtain ⟨_, _, ⟨T180, L180, k180, n180⟩, -, X180, ⟨Lc180, hQ180, l180, y180, z180⟩, st180⟩ := Jvm.LawKit.callS X135 hx (y := (⟨"com/example/vestline/vestline/input/TextFiles", "endsLine", "(Ljava/lang/String;I)Z"⟩ : MethodName)) hown (mvT hZ (w35 hw)) (mvT hZ (w36 hw)) (mvT hZ (w37 hw)) (mvT hZ (w38 hw)) (by decide) (backOf (W := 0) (rm_endsLine l Z a0 hw [] b132 1 t_136 kb_137 [(pk a), (pk b)] cS fm T135.heap n0 (Nat.le_trans Z0 (Nat.le_trans (Nat.le_trans (Nat.le_trans (Nat.le_trans K127.1 K129.1) K131.1) K132.1) K135.1)) O179 S_cs hcS S_fm hfm S_ad S_hi S_lo P135_1 (Nat.le_of_ble_eq_true rfl)) hZ (w38 hw) (w37 hw) (by decide) (by decide)) (g := (mkF m 165 #[.val (.int a), .val (.int b), .val (.int c), .val (.int len), .val (.int idx), .val (.int (2 : Int32)), .val (.ref b127), .val (.ref b132), .val (.int (1 : Int32)), .val (.int (pk b)), .val (.int (1 : Int32)), .val (.int (0 : Int32)), .val (.int (1 : Int32))] [(.int (1 : Int32)), (.ref b132)])) rfl (by rw [hml]; rfl) (argsL := [(.ref b132), (.int (1 : Int32))]) (rest := []) (lenOf pd__28_Ljava_2f_lang_2f_String_3b_I_29_Z rfl) rfl (by show 2 * 0 + _ ≤ _; exact Nat.le_of_eq rfl) (hb hby at_165) (fun _ _ => ⟨rfl, rfl, (Nat.le_of_ble_eq_true rfl), (Nat.le_of_ble_eq_true rfl)⟩)
          dsimp only [Pt.U, Pt.locs, Pt.cells, Pt.slots] at X180 l180 y180 z180 st180 hQ180
          subst l180 y180 z180
          obtain ⟨rfl, Nq180, eq180⟩ := hQ180
          have N180 := Fr.app N135 Nq180
          have W181 : ∀ zQ, SS p e below T180 m 178 #[.val (.int a), .val (.int b), .val (.int c), .val (.int len), .val (.int idx), .val (.int (2 : Int32)), .val (.ref b127), .val (.ref b132), .val (.int (1 : Int32)), .val (.int (pk b)), .val (.int (1 : Int32)), .val (.int (0 : Int32)), .val (.int (1 : Int32))] [(.int (1 : Int32))] zQ → Steps p.tables e below (s₁.setTop (entryFrame m #[(.int a), (.int b), (.int c), (.int len), (.int idx)] maxLocals)) zQ := by
            intro tt kt
            refine W177 tt ?_
            refine XS.icmpNo X135.here hx rfl (hb hby at_140) rfl (teq hc178).2 ?_
            show SS p e below T135 m 143 #[.val (.int a), .val (.int b), .val (.int c), .val (.int len), .val (.int idx), .val (.int (2 : Int32)), .val (.ref b127), .val (.ref b132), .val (.int (1 : Int32)), .val (.int (pk b)), .val (.int (1 : Int32)), .val (.int (0 : Int32)), .unset] [] _
            refine XS.iload X135.here hx rfl (hb hby at_143) rfl ?_
            show SS p e below T135 m 145 #[.val (.int a), .val (.int b), .val (.int c), .val (.int len), .val (.int idx), .val (.int (2 : Int32)), .val (.ref b127), .val (.ref b132), .val (.int (1 : Int32)), .val (.int (pk b)), .val (.int (1 : Int32)), .val (.int (0 : Int32)), .unset] [(.int (0 : Int32))] _
            refine XS.ifNo X135.here hx rfl (hb hby at_145) rfl ((if0 _ _).trans (teq (by decide)).2) ?_
            show SS p e below T135 m 148 #[.val (.int a), .val (.int b), .val (.int c), .val (.int len), .val (.int idx), .val (.int (2 : Int32)), .val (.ref b127), .val (.ref b132), .val (.int (1 : Int32)), .val (.int (pk b)), .val (.int (1 : Int32)), .val (.int (0 : Int32)), .unset] [] _
            refine XS.iconst X135.here hx rfl (hb hby at_148) ?_
            show SS p e below T135 m 149 #[.val (.int a), .val (.int b), .val (.int c), .val (.int len), .val (.int idx), .val (.int (2 : Int32)), .val (.ref b127), .val (.ref b132), .val (.int (1 : Int32)), .val (.int (pk b)), .val (.int (1 : Int32)), .val (.int (0 : Int32)), .unset] [(.int (1 : Int32))] _
            refine XS.goto X135.here hx rfl (pc0 := 149) (pc' := 153) rfl (hb hby at_149) (by decide) (by decide) ?_
            show SS p e below T135 m 153 #[.val (.int a), .val (.int b), .val (.int c), .val (.int len), .val (.int idx), .val (.int (2 : Int32)), .val (.ref b127), .val (.ref b132), .val (.int (1 : Int32)), .val (.int (pk b)), .val (.int (1 : Int32)), .val (.int (0 : Int32)), .unset] [(.int (1 : Int32))] _
            refine XS.istore X135.here hx rfl (hb hby at_153) rfl (l' := #[.val (.int a), .val (.int b), .val (.int c), .val (.int len), .val (.int idx), .val (.int (2 : Int32)), .val (.ref b127), .val (.ref b132), .val (.int (1 : Int32)), .val (.int (pk b)), .val (.int (1 : Int32)), .val (.int (0 : Int32)), .val (.int (1 : Int32))]) rfl ?_
            show SS p e below T135 m 155 #[.val (.int a), .val (.int b), .val (.int c), .val (.int len), .val (.int idx), .val (.int (2 : Int32)), .val (.ref b127), .val (.ref b132), .val (.int (1 : Int32)), .val (.int (pk b)), .val (.int (1 : Int32)), .val (.int (0 : Int32)), .val (.int (1 : Int32))] [] _
            refine XS.goto X135.here hx rfl (pc0 := 155) (pc' := 161) rfl (hb hby at_155) (by decide) (by decide) ?_
            show SS p e below T135 m 161 #[.val (.int a), .val (.int b), .val (.int c), .val (.int len), .val (.int idx), .val (.int (2 : Int32)), .val (.ref b127), .val (.ref b132), .val (.int (1 : Int32)), .val (.int (pk b)), .val (.int (1 : Int32)), .val (.int (0 : Int32)), .val (.int (1 : Int32))] [] _
            refine XS.aload X135.here hx rfl (hb hby at_161) rfl rfl ?_
            show SS p e below T135 m 163 #[.val (.int a), .val (.int b), .val (.int c), .val (.int len), .val (.int idx), .val (.int (2 : Int32)), .val (.ref b127), .val (.ref b132), .val (.int (1 : Int32)), .val (.int (pk b)), .val (.int (1 : Int32)), .val (.int (0 : Int32)), .val (.int (1 : Int32))] [(.ref b132)] _
            refine XS.iload X135.here hx rfl (hb hby at_163) rfl ?_
            show SS p e below T135 m 165 #[.val (.int a), .val (.int b), .val (.int c), .val (.int len), .val (.int idx), .val (.int (2 : Int32)), .val (.ref b127), .val (.ref b132), .val (.int (1 : Int32)), .val (.int (pk b)), .val (.int (1 : Int32)), .val (.int (0 : Int32)), .val (.int (1 : Int32))] [(.int (1 : Int32)), (.ref b132)] _
            refine st180 _ ?_
            show SS p e below T180 m 168 #[.val (.int a), .val (.int b), .val (.int c), .val (.int len), .val (.int idx), .val (.int (2 : Int32)), .val (.ref b127), .val (.ref b132), .val (.int (1 : Int32)), .val (.int (pk b)), .val (.int (1 : Int32)), .val (.int (0 : Int32)), .val (.int (1 : Int32))] [(.int (el [(pk a), (pk b)] 1))] _
            refine XS.iload X180.here hx rfl (hb hby at_168) rfl ?_
            show SS p e below T180 m 170 #[.val (.int a), .val (.int b), .val (.int c), .val (.int len), .val (.int idx), .val (.int (2 : Int32)), .val (.ref b127), .val (.ref b132), .val (.int (1 : Int32)), .val (.int (pk b)), .val (.int (1 : Int32)), .val (.int (0 : Int32)), .val (.int (1 : Int32))] [(.int (1 : Int32)), (.int (el [(pk a), (pk b)] 1))] _
            refine XS.icmpNo X180.here hx rfl (hb hby at_170) rfl (teq (by simp [el, hc173, hc178])).2 ?_
            show SS p e below T180 m 173 #[.val (.int a), .val (.int b), .val (.int c), .val (.int len), .val (.int idx), .val (.int (2 : Int32)), .val (.ref b127), .val (.ref b132), .val (.int (1 : Int32)), .val (.int (pk b)), .val (.int (1 : Int32)), .val (.int (0 : Int32)), .val (.int (1 : Int32))] [] _
            refine XS.iconst X180.here hx rfl (hb hby at_173) ?_
            show SS p e below T180 m 174 #[.val (.int a), .val (.int b), .val (.int c), .val (.int len), .val (.int idx), .val (.int (2 : Int32)), .val (.ref b127), .val (.ref b132), .val (.int (1 : Int32)), .val (.int (pk b)), .val (.int (1 : Int32)), .val (.int (0 : Int32)), .val (.int (1 : Int32))] [(.int (1 : Int32))] _
            refine XS.goto X180.here hx rfl (pc0 := 174) (pc' := 178) rfl (hb hby at_174) (by decide) (by decide) ?_
            show SS p e below T180 m 178 #[.val (.int a), .val (.int b), .val (.int c), .val (.int len), .val (.int idx), .val (.int (2 : Int32)), .val (.ref b127), .val (.ref b132), .val (.int (1 : Int32)), .val (.int (pk b)), .val (.int (1 : Int32)), .val (.int (0 : Int32)), .val (.int (1 : Int32))] [(.int (1 : Int32))] _
            exact kt
          obtain ⟨fs, hr, hrun, hended, hW, hsame⟩ := X180.leave (v := some (.int (nar .boolean (1 : Int32)))) (fun h => by rw [Bd.returns] at h; cases h)
          refine ⟨_, _, W181 _ (retN X180 hx (t := .boolean) Bd.returns (by simp) (hb hby at_178) hr), hrun, hended, _, _, rfl, ?_, ⟨_, rfl⟩, hW, hsame.mono (by decide) (by decide)⟩
          show Q_law Z a b c len idx cS fm h0 n0 _ T180.heap _
          rw [eq180]
          exact ⟨rfl, N180, (Keep.trans (Keep.trans (Keep.trans (Keep.trans (Keep.trans (Keep.refl h0 []) K127 all0) K129 (allS (Or.inr (Nat.le_of_eq g127.symm)) all0)) K131 (allS (Or.inr (Nat.le_of_eq g127.symm)) all0)) K132 all0) K135 (allS (Or.inr (Nat.le_trans (Nat.le_trans (Nat.le_trans K127.1 K129.1) K131.1) (Nat.le_of_eq g132.symm))) all0))⟩
        ·
          have O182 : Old Z n0 T135.heap := (O134.keep K135 (allS (Nat.le_trans Z0 (Nat.le_trans (Nat.le_trans (Nat.le_trans K127.1 K129.1) K131.1) (Nat.le_of_eq g132.symm))) all0))
          obtain ⟨_, _, ⟨T183, L183, k183, n183⟩, -, X183, ⟨Lc183, hQ183, l183, y183, z183⟩, st183⟩ := Jvm.LawKit.callS X135 hx (y := (⟨"com/example/vestline/vestline/input/TextFiles", "endsLine", "(Ljava/lang/String;I)Z"⟩ : MethodName)) hown (mvT hZ (w35 hw)) (mvT hZ (w36 hw)) (mvT hZ (w37 hw)) (mvT hZ (w38 hw)) (by decide) (backOf (W := 0) (rm_endsLine l Z a0 hw [] b132 1 t_136 kb_137 [(pk a), (pk b)] cS fm T135.heap n0 (Nat.le_trans Z0 (Nat.le_trans (Nat.le_trans (Nat.le_trans (Nat.le_trans K127.1 K129.1) K131.1) K132.1) K135.1)) O182 S_cs hcS S_fm hfm S_ad S_hi S_lo P135_1 (Nat.le_of_ble_eq_true rfl)) hZ (w38 hw) (w37 hw) (by decide) (by decide)) (g := (mkF m 165 #[.val (.int a), .val (.int b), .val (.int c), .val (.int len), .val (.int idx), .val (.int (2 : Int32)), .val (.ref b127), .val (.ref b132), .val (.int (1 : Int32)), .val (.int (pk b)), .val (.int (1 : Int32)), .val (.int (0 : Int32)), .val (.int (0 : Int32))] [(.int (1 : Int32)), (.ref b132)])) rfl (by rw [hml]; rfl) (argsL := [(.ref b132), (.int (1 : Int32))]) (rest := []) (lenOf pd__28_Ljava_2f_lang_2f_String_3b_I_29_Z rfl) rfl (by show 2 * 0 + _ ≤ _; exact Nat.le_of_eq rfl) (hb hby at_165) (fun _ _ => ⟨rfl, rfl, (Nat.le_of_ble_eq_true rfl), (Nat.le_of_ble_eq_true rfl)⟩)
          dsimp only [Pt.U, Pt.locs, Pt.cells, Pt.slots] at X183 l183 y183 z183 st183 hQ183
          subst l183 y183 z183
          obtain ⟨rfl, Nq183, eq183⟩ := hQ183
          have N183 := Fr.app N135 Nq183
          have W184 : ∀ zQ, SS p e below T183 m 178 #[.val (.int a), .val (.int b), .val (.int c), .val (.int len), .val (.int idx), .val (.int (2 : Int32)), .val (.ref b127), .val (.ref b132), .val (.int (1 : Int32)), .val (.int (pk b)), .val (.int (1 : Int32)), .val (.int (0 : Int32)), .val (.int (0 : Int32))] [(.int (1 : Int32))] zQ → Steps p.tables e below (s₁.setTop (entryFrame m #[(.int a), (.int b), (.int c), (.int len), (.int idx)] maxLocals)) zQ := by
            intro tt kt
            refine W177 tt ?_
            refine XS.icmpYes X135.here hx rfl (pc0 := 140) (pc' := 158) rfl (hb hby at_140) rfl (feq hc178).2 (by decide) (by decide) ?_
            show SS p e below T135 m 158 #[.val (.int a), .val (.int b), .val (.int c), .val (.int len), .val (.int idx), .val (.int (2 : Int32)), .val (.ref b127), .val (.ref b132), .val (.int (1 : Int32)), .val (.int (pk b)), .val (.int (1 : Int32)), .val (.int (0 : Int32)), .unset] [] _
            refine XS.iconst X135.here hx rfl (hb hby at_158) ?_
            show SS p e below T135 m 159 #[.val (.int a), .val (.int b), .val (.int c), .val (.int len), .val (.int idx), .val (.int (2 : Int32)), .val (.ref b127), .val (.ref b132), .val (.int (1 : Int32)), .val (.int (pk b)), .val (.int (1 : Int32)), .val (.int (0 : Int32)), .unset] [(.int (0 : Int32))] _
            refine XS.istore X135.here hx rfl (hb hby at_159) rfl (l' := #[.val (.int a), .val (.int b), .val (.int c), .val (.int len), .val (.int idx), .val (.int (2 : Int32)), .val (.ref b127), .val (.ref b132), .val (.int (1 : Int32)), .val (.int (pk b)), .val (.int (1 : Int32)), .val (.int (0 : Int32)), .val (.int (0 : Int32))]) rfl ?_
            show SS p e below T135 m 161 #[.val (.int a), .val (.int b), .val (.int c), .val (.int len), .val (.int idx), .val (.int (2 : Int32)), .val (.ref b127), .val (.ref b132), .val (.int (1 : Int32)), .val (.int (pk b)), .val (.int (1 : Int32)), .val (.int (0 : Int32)), .val (.int (0 : Int32))] [] _
            refine XS.aload X135.here hx rfl (hb hby at_161) rfl rfl ?_
            show SS p e below T135 m 163 #[.val (.int a), .val (.int b), .val (.int c), .val (.int len), .val (.int idx), .val (.int (2 : Int32)), .val (.ref b127), .val (.ref b132), .val (.int (1 : Int32)), .val (.int (pk b)), .val (.int (1 : Int32)), .val (.int (0 : Int32)), .val (.int (0 : Int32))] [(.ref b132)] _
            refine XS.iload X135.here hx rfl (hb hby at_163) rfl ?_
            show SS p e below T135 m 165 #[.val (.int a), .val (.int b), .val (.int c), .val (.int len), .val (.int idx), .val (.int (2 : Int32)), .val (.ref b127), .val (.ref b132), .val (.int (1 : Int32)), .val (.int (pk b)), .val (.int (1 : Int32)), .val (.int (0 : Int32)), .val (.int (0 : Int32))] [(.int (1 : Int32)), (.ref b132)] _
            refine st183 _ ?_
            show SS p e below T183 m 168 #[.val (.int a), .val (.int b), .val (.int c), .val (.int len), .val (.int idx), .val (.int (2 : Int32)), .val (.ref b127), .val (.ref b132), .val (.int (1 : Int32)), .val (.int (pk b)), .val (.int (1 : Int32)), .val (.int (0 : Int32)), .val (.int (0 : Int32))] [(.int (el [(pk a), (pk b)] 1))] _
            refine XS.iload X183.here hx rfl (hb hby at_168) rfl ?_
            show SS p e below T183 m 170 #[.val (.int a), .val (.int b), .val (.int c), .val (.int len), .val (.int idx), .val (.int (2 : Int32)), .val (.ref b127), .val (.ref b132), .val (.int (1 : Int32)), .val (.int (pk b)), .val (.int (1 : Int32)), .val (.int (0 : Int32)), .val (.int (0 : Int32))] [(.int (0 : Int32)), (.int (el [(pk a), (pk b)] 1))] _
            refine XS.icmpNo X183.here hx rfl (hb hby at_170) rfl (teq (by simp [el, hc173, hc178])).2 ?_
            show SS p e below T183 m 173 #[.val (.int a), .val (.int b), .val (.int c), .val (.int len), .val (.int idx), .val (.int (2 : Int32)), .val (.ref b127), .val (.ref b132), .val (.int (1 : Int32)), .val (.int (pk b)), .val (.int (1 : Int32)), .val (.int (0 : Int32)), .val (.int (0 : Int32))] [] _
            refine XS.iconst X183.here hx rfl (hb hby at_173) ?_
            show SS p e below T183 m 174 #[.val (.int a), .val (.int b), .val (.int c), .val (.int len), .val (.int idx), .val (.int (2 : Int32)), .val (.ref b127), .val (.ref b132), .val (.int (1 : Int32)), .val (.int (pk b)), .val (.int (1 : Int32)), .val (.int (0 : Int32)), .val (.int (0 : Int32))] [(.int (1 : Int32))] _
            refine XS.goto X183.here hx rfl (pc0 := 174) (pc' := 178) rfl (hb hby at_174) (by decide) (by decide) ?_
            show SS p e below T183 m 178 #[.val (.int a), .val (.int b), .val (.int c), .val (.int len), .val (.int idx), .val (.int (2 : Int32)), .val (.ref b127), .val (.ref b132), .val (.int (1 : Int32)), .val (.int (pk b)), .val (.int (1 : Int32)), .val (.int (0 : Int32)), .val (.int (0 : Int32))] [(.int (1 : Int32))] _
            exact kt
          obtain ⟨fs, hr, hrun, hended, hW, hsame⟩ := X183.leave (v := some (.int (nar .boolean (1 : Int32)))) (fun h => by rw [Bd.returns] at h; cases h)
          refine ⟨_, _, W184 _ (retN X183 hx (t := .boolean) Bd.returns (by simp) (hb hby at_178) hr), hrun, hended, _, _, rfl, ?_, ⟨_, rfl⟩, hW, hsame.mono (by decide) (by decide)⟩
          show Q_law Z a b c len idx cS fm h0 n0 _ T183.heap _
          rw [eq183]
          exact ⟨rfl, N183, (Keep.trans (Keep.trans (Keep.trans (Keep.trans (Keep.trans (Keep.refl h0 []) K127 all0) K129 (allS (Or.inr (Nat.le_of_eq g127.symm)) all0)) K131 (allS (Or.inr (Nat.le_of_eq g127.symm)) all0)) K132 all0) K135 (allS (Or.inr (Nat.le_trans (Nat.le_trans (Nat.le_trans K127.1 K129.1) K131.1) (Nat.le_of_eq g132.symm))) all0))⟩
  ·
    obtain ⟨T185, h185, k185, X185, e185, E185, A185, st185⟩ := newP X0 hx hZ (aty := .char) (w1 hw) e0 (g := (mkF m 12 #[.val (.int a), .val (.int b), .val (.int c), .val (.int len), .val (.int idx), .val (.int (3 : Int32)), .unset, .unset, .unset, .unset, .unset, .unset, .unset] [(.int (3 : Int32))])) rfl (hb hby at_12) (n := (3 : Int32)) rfl (by decide) (cap := 3) (by decide) (by decide) (by decide) (by decide)
    obtain ⟨b185, g185⟩ : ∃ z, z = h0.size := ⟨_, rfl⟩
    rw [← g185] at A185 st185
    have K185 := (Keep.refl h0 []).ext E185
    have G185 : Arv Z h185 b185 k185 .char (3 : Int32) [(.int (0 : Int32)), (.int (0 : Int32)), (.int (0 : Int32))] (.int (0 : Int32)) := (Arv.new A185 (by decide)).pad (pad_rep [] (.int (0 : Int32)) 3)
    obtain ⟨_, _, ⟨T186, L186, k186, n186⟩, -, X186, ⟨Lc186, hQ186, l186, y186, z186⟩, st186⟩ := Jvm.LawKit.callS X185 hx (y := (⟨"com/example/vestline/vestline/input/TextFilesEndsLinePinLaw", "pick", "(I)C"⟩ : MethodName)) hown (mvT hZ (w2 hw)) (mvT hZ (w3 hw)) (mvT hZ (w4 hw)) (mvT hZ (w5 hw)) (by decide) (backOf (W := 2) (rm_pick l Z a0 hw [] a h185 n0 (Nat.le_trans Z0 K185.1) ) hZ (w5 hw) (w4 hw) (by decide) (by decide)) (g := (mkF m 20 #[.val (.int a), .val (.int b), .val (.int c), .val (.int len), .val (.int idx), .val (.int (3 : Int32)), .val (.ref b185), .unset, .unset, .unset, .unset, .unset, .unset] [(.int a), (.int (0 : Int32)), (.ref b185)])) rfl (by rw [hml]; rfl) (argsL := [(.int a)]) (rest := [(.int (0 : Int32)), (.ref b185)]) (lenOf pd__28_I_29_C rfl) rfl (by show 2 * 0 + _ ≤ _; exact Nat.le_of_eq rfl) (hb hby at_20) (fun _ _ => ⟨rfl, e185, (Nat.le_of_ble_eq_true rfl), (Nat.le_of_ble_eq_true rfl)⟩)
    dsimp only [Pt.U, Pt.locs, Pt.cells, Pt.slots] at X186 l186 y186 z186 st186 hQ186
    subst l186 y186 z186
    obtain ⟨rfl, Nq186, eq186⟩ := hQ186
    have N186 := Fr.app N0 Nq186
    obtain ⟨cl187, Ar187, q187, S187, M187, H187, F187g⟩ := id G185
    have hin187 : ¬ ((0 : Int32) < 0 ∨ cl187.slots.size ≤ ((0 : Int32)).toNatClampNeg) := inb_of S187 ⟨by decide, by decide⟩
    obtain ⟨T187, h187, X187, e187, Wr187, st187⟩ := stC X186 hx hZ eq186 Ar187 (j := (0 : Int32)) hin187 (g := (mkF m 23 #[.val (.int a), .val (.int b), .val (.int c), .val (.int len), .val (.int idx), .val (.int (3 : Int32)), .val (.ref b185), .unset, .unset, .unset, .unset, .unset, .unset] [(.int (pk a)), (.int (0 : Int32)), (.ref b185)])) rfl rfl (hb hby at_23)
    have G187 : Arv Z h187 b185 k185 .char (3 : Int32) [(.int (nar .char (pk a))), (.int (0 : Int32)), (.int (0 : Int32))] (.int (0 : Int32)) := Arv.set Ar187 q187 S187 M187 H187 F187g (fits_nar_char _) Wr187 0 rfl (Nat.le_of_ble_eq_true rfl)
    have K187 := Keep.of_wr Wr187
    have N187 := Fr.snoc X187 N186 (Nat.le_trans Z0 (Nat.le_of_eq g185.symm))
    have J187 : Arv Z h187 b185 k185 .char (3 : Int32) [(.int (pk a)), (.int (0 : Int32)), (.int (0 : Int32))] (.int (0 : Int32)) := by rw [own_narpk] at G187; exact G187
    obtain ⟨_, _, ⟨T188, L188, k188, n188⟩, -, X188, ⟨Lc188, hQ188, l188, y188, z188⟩, st188⟩ := Jvm.LawKit.callS X187 hx (y := (⟨"com/example/vestline/vestline/input/TextFilesEndsLinePinLaw", "pick", "(I)C"⟩ : MethodName)) hown (mvT hZ (w2 hw)) (mvT hZ (w3 hw)) (mvT hZ (w4 hw)) (mvT hZ (w5 hw)) (by decide) (backOf (W := 2) (rm_pick l Z a0 hw [] b h187 n0 (Nat.le_trans Z0 (Nat.le_trans K185.1 K187.1)) ) hZ (w5 hw) (w4 hw) (by decide) (by decide)) (g := (mkF m 34 #[.val (.int a), .val (.int b), .val (.int c), .val (.int len), .val (.int idx), .val (.int (3 : Int32)), .val (.ref b185), .unset, .unset, .unset, .unset, .unset, .unset] [(.int b), (.int (1 : Int32)), (.ref b185)])) rfl (by rw [hml]; rfl) (argsL := [(.int b)]) (rest := [(.int (1 : Int32)), (.ref b185)]) (lenOf pd__28_I_29_C rfl) rfl (by show 2 * 0 + _ ≤ _; exact Nat.le_of_eq rfl) (hb hby at_34) (fun _ _ => ⟨rfl, e187, (Nat.le_of_ble_eq_true rfl), (Nat.le_of_ble_eq_true rfl)⟩)
    dsimp only [Pt.U, Pt.locs, Pt.cells, Pt.slots] at X188 l188 y188 z188 st188 hQ188
    subst l188 y188 z188
    obtain ⟨rfl, Nq188, eq188⟩ := hQ188
    have N188 := Fr.app N187 Nq188
    obtain ⟨cl189, Ar189, q189, S189, M189, H189, F189g⟩ := id J187
    have hin189 : ¬ ((1 : Int32) < 0 ∨ cl189.slots.size ≤ ((1 : Int32)).toNatClampNeg) := inb_of S189 ⟨by decide, by decide⟩
    obtain ⟨T189, h189, X189, e189, Wr189, st189⟩ := stC X188 hx hZ eq188 Ar189 (j := (1 : Int32)) hin189 (g := (mkF m 37 #[.val (.int a), .val (.int b), .val (.int c), .val (.int len), .val (.int idx), .val (.int (3 : Int32)), .val (.ref b185), .unset, .unset, .unset, .unset, .unset, .unset] [(.int (pk b)), (.int (1 : Int32)), (.ref b185)])) rfl rfl (hb hby at_37)
    have G189 : Arv Z h189 b185 k185 .char (3 : Int32) [(.int (pk a)), (.int (nar .char (pk b))), (.int (0 : Int32))] (.int (0 : Int32)) := Arv.set Ar189 q189 S189 M189 H189 F189g (fits_nar_char _) Wr189 1 rfl (Nat.le_of_ble_eq_true rfl)
    have K189 := Keep.of_wr Wr189
    have N189 := Fr.snoc X189 N188 (Nat.le_trans Z0 (Nat.le_of_eq g185.symm))
    have J189 : Arv Z h189 b185 k185 .char (3 : Int32) [(.int (pk a)), (.int (pk b)), (.int (0 : Int32))] (.int (0 : Int32)) := by rw [own_narpk] at G189; exact G189
    obtain ⟨_, _, ⟨T190, L190, k190, n190⟩, -, X190, ⟨Lc190, hQ190, l190, y190, z190⟩, st190⟩ := Jvm.LawKit.callS X189 hx (y := (⟨"com/example/vestline/vestline/input/TextFilesEndsLinePinLaw", "pick", "(I)C"⟩ : MethodName)) hown (mvT hZ (w2 hw)) (mvT hZ (w3 hw)) (mvT hZ (w4 hw)) (mvT hZ (w5 hw)) (by decide) (backOf (W := 2) (rm_pick l Z a0 hw [] c h189 n0 (Nat.le_trans Z0 (Nat.le_trans (Nat.le_trans K185.1 K187.1) K189.1)) ) hZ (w5 hw) (w4 hw) (by decide) (by decide)) (g := (mkF m 48 #[.val (.int a), .val (.int b), .val (.int c), .val (.int len), .val (.int idx), .val (.int (3 : Int32)), .val (.ref b185), .unset, .unset, .unset, .unset, .unset, .unset] [(.int c), (.int (2 : Int32)), (.ref b185)])) rfl (by rw [hml]; rfl) (argsL := [(.int c)]) (rest := [(.int (2 : Int32)), (.ref b185)]) (lenOf pd__28_I_29_C rfl) rfl (by show 2 * 0 + _ ≤ _; exact Nat.le_of_eq rfl) (hb hby at_48) (fun _ _ => ⟨rfl, e189, (Nat.le_of_ble_eq_true rfl), (Nat.le_of_ble_eq_true rfl)⟩)
    dsimp only [Pt.U, Pt.locs, Pt.cells, Pt.slots] at X190 l190 y190 z190 st190 hQ190
    subst l190 y190 z190
    obtain ⟨rfl, Nq190, eq190⟩ := hQ190
    have N190 := Fr.app N189 Nq190
    obtain ⟨cl191, Ar191, q191, S191, M191, H191, F191g⟩ := id J189
    have hin191 : ¬ ((2 : Int32) < 0 ∨ cl191.slots.size ≤ ((2 : Int32)).toNatClampNeg) := inb_of S191 ⟨by decide, by decide⟩
    obtain ⟨T191, h191, X191, e191, Wr191, st191⟩ := stC X190 hx hZ eq190 Ar191 (j := (2 : Int32)) hin191 (g := (mkF m 51 #[.val (.int a), .val (.int b), .val (.int c), .val (.int len), .val (.int idx), .val (.int (3 : Int32)), .val (.ref b185), .unset, .unset, .unset, .unset, .unset, .unset] [(.int (pk c)), (.int (2 : Int32)), (.ref b185)])) rfl rfl (hb hby at_51)
    have G191 : Arv Z h191 b185 k185 .char (3 : Int32) [(.int (pk a)), (.int (pk b)), (.int (nar .char (pk c)))] (.int (0 : Int32)) := Arv.set Ar191 q191 S191 M191 H191 F191g (fits_nar_char _) Wr191 2 rfl (Nat.le_of_ble_eq_true rfl)
    have K191 := Keep.of_wr Wr191
    have N191 := Fr.snoc X191 N190 (Nat.le_trans Z0 (Nat.le_of_eq g185.symm))
    have J191 : Arv Z h191 b185 k185 .char (3 : Int32) [(.int (pk a)), (.int (pk b)), (.int (pk c))] (.int (0 : Int32)) := by rw [own_narpk] at G191; exact G191
    obtain ⟨T192, h192, X192, e192, E192, A192, D192, U192, st192⟩ := newO X191 hx hZ hown (w6 hw) (w7 hw) (w8 hw) e191 (g := (mkF m 52 #[.val (.int a), .val (.int b), .val (.int c), .val (.int len), .val (.int idx), .val (.int (3 : Int32)), .val (.ref b185), .unset, .unset, .unset, .unset, .unset, .unset] [])) rfl (hb hby at_52) (by decide) (by decide)
    obtain ⟨b192, g192⟩ : ∃ z, z = h191.size := ⟨_, rfl⟩
    rw [← g192] at A192 D192 U192 st192
    have K192 := (Keep.refl h191 []).ext E192
    have G192_coder : Fld Z h192 b192 "java/lang/String" "coder" "B" (.int (0 : Int32)) := D192 (Or.inr (w32 hw)) (ty := .byte) (by decide)
    have G192_value : Fld Z h192 b192 "java/lang/String" "value" "[B" .null := D192 (Or.inr (w34 hw)) (ty := (.array .byte)) (by decide)
    have F193 : Arv Z h192 b185 k185 .char (3 : Int32) [(.int (pk a)), (.int (pk b)), (.int (pk c))] (.int (0 : Int32)) := (J191.keep K192 nin0)
    have O194 : Old Z n0 h192 := (((((O0.keep K185 all0).keep K187 (allS (Nat.le_trans Z0 (Nat.le_of_eq g185.symm)) all0)).keep K189 (allS (Nat.le_trans Z0 (Nat.le_of_eq g185.symm)) all0)).keep K191 (allS (Nat.le_trans Z0 (Nat.le_of_eq g185.symm)) all0)).keep K192 all0)
    obtain ⟨_, _, ⟨T195, L195, k195, n195⟩, -, X195, ⟨Lc195, hQ195, l195, y195, z195⟩, st195⟩ := X192.specialBack hx (y := (⟨"java/lang/String", "<init>", "([C)V"⟩ : MethodName)) rfl hown (mvT hZ (w9 hw)) (mvT hZ (w10 hw)) (mvT hZ (w11 hw)) (by decide) (backOf (W := 1) (rm_sinit l Z a0 hw [] b192 b185 k185 [(pk a), (pk b), (pk c)] cS h192 n0 (Nat.le_trans Z0 (Nat.le_trans (Nat.le_trans (Nat.le_trans (Nat.le_trans K185.1 K187.1) K189.1) K191.1) K192.1)) O194 S_cs hcS S_ad S_hi S_lo A192 G192_value G192_coder (Nat.le_trans Z0 (Nat.le_trans (Nat.le_trans (Nat.le_trans (Nat.le_trans K185.1 K187.1) K189.1) K191.1) (Nat.le_of_eq g192.symm))) F193 (ok_pk [a, b, c] (Nat.le_of_ble_eq_true rfl)) (Nat.le_of_ble_eq_true rfl) (Nat.le_of_ble_eq_true rfl) (Ne.symm (Nat.ne_of_lt (Nat.lt_of_lt_of_le (Nat.lt_of_lt_of_le G185.lt (Nat.le_trans (Nat.le_trans K187.1 K189.1) K191.1)) (Nat.le_of_eq g192.symm))))) hZ (w11 hw) (w8 hw) (by decide) (by decide)) (g := (mkF m 58 #[.val (.int a), .val (.int b), .val (.int c), .val (.int len), .val (.int idx), .val (.int (3 : Int32)), .val (.ref b185), .unset, .unset, .unset, .unset, .unset, .unset] [(.ref b185), (.ref b192), (.ref b192)])) rfl (by rw [hml]; rfl) (Steps.refl _) (a := b192) (argsL := [(.ref b185)]) (rest := [(.ref b192)]) (lenOf pd__28__5b_C_29_V rfl) rfl (by show 2 * 0 + _ ≤ _; exact Nat.le_of_eq rfl) (hb hby at_58) (fun _ _ => ⟨rfl, e192, (Nat.le_of_ble_eq_true rfl), (Nat.le_of_ble_eq_true rfl)⟩)
    dsimp only [Pt.U, Pt.locs, Pt.cells, Pt.slots] at X195 l195 y195 z195 st195 hQ195
    subst l195 y195 z195
    obtain ⟨t_196, kb_197, rfl, Nq195, K195, P195_0, P195_1⟩ := hQ195
    have N195 := Fr.app N191 Nq195
    obtain ⟨ri, h_ri⟩ : ∃ z : Int32, z = ((idx &&& (2147483647 : Int32)) % (3 : Int32)) := ⟨_, rfl⟩
    have W198 : ∀ zQ, SS p e below T195 m 71 #[.val (.int a), .val (.int b), .val (.int c), .val (.int len), .val (.int idx), .val (.int (3 : Int32)), .val (.ref b185), .val (.ref b192), .unset, .unset, .unset, .unset, .unset] [(.int ri)] zQ → Steps p.tables e below (s₁.setTop (entryFrame m #[(.int a), (.int b), (.int c), (.int len), (.int idx)] maxLocals)) zQ := by
      intro tt kt
      refine W101 tt ?_
      refine XS.iadd X0.here hx rfl (hb hby at_7) rfl ?_
      show SS p e below s₁ m 8 #[.val (.int a), .val (.int b), .val (.int c), .val (.int len), .val (.int idx), .unset, .unset, .unset, .unset, .unset, .unset, .unset, .unset] [(.int (3 : Int32))] _
      refine XS.istore X0.here hx rfl (hb hby at_8) rfl (l' := #[.val (.int a), .val (.int b), .val (.int c), .val (.int len), .val (.int idx), .val (.int (3 : Int32)), .unset, .unset, .unset, .unset, .unset, .unset, .unset]) rfl ?_
      show SS p e below s₁ m 10 #[.val (.int a), .val (.int b), .val (.int c), .val (.int len), .val (.int idx), .val (.int (3 : Int32)), .unset, .unset, .unset, .unset, .unset, .unset, .unset] [] _
      refine XS.iload X0.here hx rfl (hb hby at_10) rfl ?_
      show SS p e below s₁ m 12 #[.val (.int a), .val (.int b), .val (.int c), .val (.int len), .val (.int idx), .val (.int (3 : Int32)), .unset, .unset, .unset, .unset, .unset, .unset, .unset] [(.int (3 : Int32))] _
      refine st185 _ ?_
      show SS p e below T185 m 14 #[.val (.int a), .val (.int b), .val (.int c), .val (.int len), .val (.int idx), .val (.int (3 : Int32)), .unset, .unset, .unset, .unset, .unset, .unset, .unset] [(.ref b185)] _
      refine XS.astore X185.here hx rfl (hb hby at_14) rfl rfl (l' := #[.val (.int a), .val (.int b), .val (.int c), .val (.int len), .val (.int idx), .val (.int (3 : Int32)), .val (.ref b185), .unset, .unset, .unset, .unset, .unset, .unset]) rfl ?_
      show SS p e below T185 m 16 #[.val (.int a), .val (.int b), .val (.int c), .val (.int len), .val (.int idx), .val (.int (3 : Int32)), .val (.ref b185), .unset, .unset, .unset, .unset, .unset, .unset] [] _
      refine XS.aload X185.here hx rfl (hb hby at_16) rfl rfl ?_
      show SS p e below T185 m 18 #[.val (.int a), .val (.int b), .val (.int c), .val (.int len), .val (.int idx), .val (.int (3 : Int32)), .val (.ref b185), .unset, .unset, .unset, .unset, .unset, .unset] [(.ref b185)] _
      refine XS.iconst X185.here hx rfl (hb hby at_18) ?_
      show SS p e below T185 m 19 #[.val (.int a), .val (.int b), .val (.int c), .val (.int len), .val (.int idx), .val (.int (3 : Int32)), .val (.ref b185), .unset, .unset, .unset, .unset, .unset, .unset] [(.int (0 : Int32)), (.ref b185)] _
      refine XS.iloadN X185.here hx rfl (hb hby at_19) rfl ?_
      show SS p e below T185 m 20 #[.val (.int a), .val (.int b), .val (.int c), .val (.int len), .val (.int idx), .val (.int (3 : Int32)), .val (.ref b185), .unset, .unset, .unset, .unset, .unset, .unset] [(.int a), (.int (0 : Int32)), (.ref b185)] _
      refine st186 _ ?_
      show SS p e below T186 m 23 #[.val (.int a), .val (.int b), .val (.int c), .val (.int len), .val (.int idx), .val (.int (3 : Int32)), .val (.ref b185), .unset, .unset, .unset, .unset, .unset, .unset] [(.int (pk a)), (.int (0 : Int32)), (.ref b185)] _
      refine st187 _ ?_
      show SS p e below T187 m 24 #[.val (.int a), .val (.int b), .val (.int c), .val (.int len), .val (.int idx), .val (.int (3 : Int32)), .val (.ref b185), .unset, .unset, .unset, .unset, .unset, .unset] [] _
      refine XS.iload X187.here hx rfl (hb hby at_24) rfl ?_
      show SS p e below T187 m 26 #[.val (.int a), .val (.int b), .val (.int c), .val (.int len), .val (.int idx), .val (.int (3 : Int32)), .val (.ref b185), .unset, .unset, .unset, .unset, .unset, .unset] [(.int (3 : Int32))] _
      refine XS.iconst X187.here hx rfl (hb hby at_26) ?_
      show SS p e below T187 m 27 #[.val (.int a), .val (.int b), .val (.int c), .val (.int len), .val (.int idx), .val (.int (3 : Int32)), .val (.ref b185), .unset, .unset, .unset, .unset, .unset, .unset] [(.int (1 : Int32)), (.int (3 : Int32))] _
      refine XS.icmpNo X187.here hx rfl (hb hby at_27) rfl (tlt (by decide)).2.2.2 ?_
      show SS p e below T187 m 30 #[.val (.int a), .val (.int b), .val (.int c), .val (.int len), .val (.int idx), .val (.int (3 : Int32)), .val (.ref b185), .unset, .unset, .unset, .unset, .unset, .unset] [] _
      refine XS.aload X187.here hx rfl (hb hby at_30) rfl rfl ?_
      show SS p e below T187 m 32 #[.val (.int a), .val (.int b), .val (.int c), .val (.int len), .val (.int idx), .val (.int (3 : Int32)), .val (.ref b185), .unset, .unset, .unset, .unset, .unset, .unset] [(.ref b185)] _
      refine XS.iconst X187.here hx rfl (hb hby at_32) ?_
      show SS p e below T187 m 33 #[.val (.int a), .val (.int b), .val (.int c), .val (.int len), .val (.int idx), .val (.int (3 : Int32)), .val (.ref b185), .unset, .unset, .unset, .unset, .unset, .unset] [(.int (1 : Int32)), (.ref b185)] _
      refine XS.iloadN X187.here hx rfl (hb hby at_33) rfl ?_
      show SS p e below T187 m 34 #[.val (.int a), .val (.int b), .val (.int c), .val (.int len), .val (.int idx), .val (.int (3 : Int32)), .val (.ref b185), .unset, .unset, .unset, .unset, .unset, .unset] [(.int b), (.int (1 : Int32)), (.ref b185)] _
      refine st188 _ ?_
      show SS p e below T188 m 37 #[.val (.int a), .val (.int b), .val (.int c), .val (.int len), .val (.int idx), .val (.int (3 : Int32)), .val (.ref b185), .unset, .unset, .unset, .unset, .unset, .unset] [(.int (pk b)), (.int (1 : Int32)), (.ref b185)] _
      refine st189 _ ?_
      show SS p e below T189 m 38 #[.val (.int a), .val (.int b), .val (.int c), .val (.int len), .val (.int idx), .val (.int (3 : Int32)), .val (.ref b185), .unset, .unset, .unset, .unset, .unset, .unset] [] _
      refine XS.iload X189.here hx rfl (hb hby at_38) rfl ?_
      show SS p e below T189 m 40 #[.val (.int a), .val (.int b), .val (.int c), .val (.int len), .val (.int idx), .val (.int (3 : Int32)), .val (.ref b185), .unset, .unset, .unset, .unset, .unset, .unset] [(.int (3 : Int32))] _
      refine XS.iconst X189.here hx rfl (hb hby at_40) ?_
      show SS p e below T189 m 41 #[.val (.int a), .val (.int b), .val (.int c), .val (.int len), .val (.int idx), .val (.int (3 : Int32)), .val (.ref b185), .unset, .unset, .unset, .unset, .unset, .unset] [(.int (2 : Int32)), (.int (3 : Int32))] _
      refine XS.icmpNo X189.here hx rfl (hb hby at_41) rfl (tlt (by decide)).2.2.2 ?_
      show SS p e below T189 m 44 #[.val (.int a), .val (.int b), .val (.int c), .val (.int len), .val (.int idx), .val (.int (3 : Int32)), .val (.ref b185), .unset, .unset, .unset, .unset, .unset, .unset] [] _
      refine XS.aload X189.here hx rfl (hb hby at_44) rfl rfl ?_
      show SS p e below T189 m 46 #[.val (.int a), .val (.int b), .val (.int c), .val (.int len), .val (.int idx), .val (.int (3 : Int32)), .val (.ref b185), .unset, .unset, .unset, .unset, .unset, .unset] [(.ref b185)] _
      refine XS.iconst X189.here hx rfl (hb hby at_46) ?_
      show SS p e below T189 m 47 #[.val (.int a), .val (.int b), .val (.int c), .val (.int len), .val (.int idx), .val (.int (3 : Int32)), .val (.ref b185), .unset, .unset, .unset, .unset, .unset, .unset] [(.int (2 : Int32)), (.ref b185)] _
      refine XS.iloadN X189.here hx rfl (hb hby at_47) rfl ?_
      show SS p e below T189 m 48 #[.val (.int a), .val (.int b), .val (.int c), .val (.int len), .val (.int idx), .val (.int (3 : Int32)), .val (.ref b185), .unset, .unset, .unset, .unset, .unset, .unset] [(.int c), (.int (2 : Int32)), (.ref b185)] _
      refine st190 _ ?_
      show SS p e below T190 m 51 #[.val (.int a), .val (.int b), .val (.int c), .val (.int len), .val (.int idx), .val (.int (3 : Int32)), .val (.ref b185), .unset, .unset, .unset, .unset, .unset, .unset] [(.int (pk c)), (.int (2 : Int32)), (.ref b185)] _
      refine st191 _ ?_
      show SS p e below T191 m 52 #[.val (.int a), .val (.int b), .val (.int c), .val (.int len), .val (.int idx), .val (.int (3 : Int32)), .val (.ref b185), .unset, .unset, .unset, .unset, .unset, .unset] [] _
      refine st192 _ ?_
      show SS p e below T192 m 55 #[.val (.int a), .val (.int b), .val (.int c), .val (.int len), .val (.int idx), .val (.int (3 : Int32)), .val (.ref b185), .unset, .unset, .unset, .unset, .unset, .unset] [(.ref b192)] _
      refine XS.dup X192.here hx rfl (hb hby at_55) rfl rfl ?_
      show SS p e below T192 m 56 #[.val (.int a), .val (.int b), .val (.int c), .val (.int len), .val (.int idx), .val (.int (3 : Int32)), .val (.ref b185), .unset, .unset, .unset, .unset, .unset, .unset] [(.ref b192), (.ref b192)] _
      refine XS.aload X192.here hx rfl (hb hby at_56) rfl rfl ?_
      show SS p e below T192 m 58 #[.val (.int a), .val (.int b), .val (.int c), .val (.int len), .val (.int idx), .val (.int (3 : Int32)), .val (.ref b185), .unset, .unset, .unset, .unset, .unset, .unset] [(.ref b185), (.ref b192), (.ref b192)] _
      refine st195.trans ?_
      show SS p e below T195 m 61 #[.val (.int a), .val (.int b), .val (.int c), .val (.int len), .val (.int idx), .val (.int (3 : Int32)), .val (.ref b185), .unset, .unset, .unset, .unset, .unset, .unset] [(.ref b192)] _
      refine XS.astore X195.here hx rfl (hb hby at_61) rfl rfl (l' := #[.val (.int a), .val (.int b), .val (.int c), .val (.int len), .val (.int idx), .val (.int (3 : Int32)), .val (.ref b185), .val (.ref b192), .unset, .unset, .unset, .unset, .unset]) rfl ?_
      show SS p e below T195 m 63 #[.val (.int a), .val (.int b), .val (.int c), .val (.int len), .val (.int idx), .val (.int (3 : Int32)), .val (.ref b185), .val (.ref b192), .unset, .unset, .unset, .unset, .unset] [] _
      refine XS.iload X195.here hx rfl (hb hby at_63) rfl ?_
      show SS p e below T195 m 65 #[.val (.int a), .val (.int b), .val (.int c), .val (.int len), .val (.int idx), .val (.int (3 : Int32)), .val (.ref b185), .val (.ref b192), .unset, .unset, .unset, .unset, .unset] [(.int idx)] _
      refine X195.ldcInt hx hown (mvT hZ (w0 hw)) (g := (mkF m 65 #[.val (.int a), .val (.int b), .val (.int c), .val (.int len), .val (.int idx), .val (.int (3 : Int32)), .val (.ref b185), .val (.ref b192), .unset, .unset, .unset, .unset, .unset] [(.int idx)])) rfl (hb hby at_65) _ ?_
      show SS p e below T195 m 67 #[.val (.int a), .val (.int b), .val (.int c), .val (.int len), .val (.int idx), .val (.int (3 : Int32)), .val (.ref b185), .val (.ref b192), .unset, .unset, .unset, .unset, .unset] [(.int (2147483647 : Int32)), (.int idx)] _
      refine XS.iand X195.here hx rfl (hb hby at_67) rfl ?_
      show SS p e below T195 m 68 #[.val (.int a), .val (.int b), .val (.int c), .val (.int len), .val (.int idx), .val (.int (3 : Int32)), .val (.ref b185), .val (.ref b192), .unset, .unset, .unset, .unset, .unset] [(.int (idx &&& (2147483647 : Int32)))] _
      refine XS.iload X195.here hx rfl (hb hby at_68) rfl ?_
      show SS p e below T195 m 70 #[.val (.int a), .val (.int b), .val (.int c), .val (.int len), .val (.int idx), .val (.int (3 : Int32)), .val (.ref b185), .val (.ref b192), .unset, .unset, .unset, .unset, .unset] [(.int (3 : Int32)), (.int (idx &&& (2147483647 : Int32)))] _
      refine Jvm.RoadKit.iremM X195 hx rfl (hb hby at_70) rfl (by decide) ?_
      show SS p e below T195 m 71 #[.val (.int a), .val (.int b), .val (.int c), .val (.int len), .val (.int idx), .val (.int (3 : Int32)), .val (.ref b185), .val (.ref b192), .unset, .unset, .unset, .unset, .unset] [(.int ((idx &&& (2147483647 : Int32)) % (3 : Int32)))] _
      rw [← h_ri]
      show SS p e below T195 m 71 #[.val (.int a), .val (.int b), .val (.int c), .val (.int len), .val (.int idx), .val (.int (3 : Int32)), .val (.ref b185), .val (.ref b192), .unset, .unset, .unset, .unset, .unset] [(.int ri)] _
      exact kt
    rcases (h_ri ▸ own_r3 idx : ri = 0 ∨ ri = 1 ∨ ri = 2) with rfl | rfl | rfl
    ·
      have F199 : Arv Z T195.heap b185 k185 .char (3 : Int32) [(.int (pk a)), (.int (pk b)), (.int (pk c))] (.int (0 : Int32)) := (F193.keep K195 (ninS (Nat.ne_of_lt (Nat.lt_of_lt_of_le (Nat.lt_of_lt_of_le G185.lt (Nat.le_trans (Nat.le_trans K187.1 K189.1) K191.1)) (Nat.le_of_eq g192.symm))) nin0))
      obtain ⟨cl200, Ar200, q200, S200, M200, H200, F200g⟩ := id F199
      have hin200 : ¬ ((0 : Int32) < 0 ∨ cl200.slots.size ≤ ((0 : Int32)).toNatClampNeg) := inb_of S200 ⟨by decide, by decide⟩
      have hat200 : cl200.slots[((0 : Int32)).toNatClampNeg]? = some (.int (pk a)) := Has.at H200 hin200 rfl
      obtain ⟨cl201, Ar201, q201, S201, M201, H201, F201g⟩ := id F199
      have hin201 : ¬ ((1 : Int32) < 0 ∨ cl201.slots.size ≤ ((1 : Int32)).toNatClampNeg) := inb_of S201 ⟨by decide, by decide⟩
      have hat201 : cl201.slots[((1 : Int32)).toNatClampNeg]? = some (.int (pk b)) := Has.at H201 hin201 rfl
      have W202 : ∀ zQ, SS p e below T195 m 113 #[.val (.int a), .val (.int b), .val (.int c), .val (.int len), .val (.int idx), .val (.int (3 : Int32)), .val (.ref b185), .val (.ref b192), .val (.int (0 : Int32)), .val (.int (pk a)), .val (.int (0 : Int32)), .val (.int (0 : Int32)), .unset] [(.int (10 : Int32)), (.int (pk b))] zQ → Steps p.tables e below (s₁.setTop (entryFrame m #[(.int a), (.int b), (.int c), (.int len), (.int idx)] maxLocals)) zQ := by
        intro tt kt
        refine W198 tt ?_
        refine XS.istore X195.here hx rfl (hb hby at_71) rfl (l' := #[.val (.int a), .val (.int b), .val (.int c), .val (.int len), .val (.int idx), .val (.int (3 : Int32)), .val (.ref b185), .val (.ref b192), .val (.int (0 : Int32)), .unset, .unset, .unset, .unset]) rfl ?_
        show SS p e below T195 m 73 #[.val (.int a), .val (.int b), .val (.int c), .val (.int len), .val (.int idx), .val (.int (3 : Int32)), .val (.ref b185), .val (.ref b192), .val (.int (0 : Int32)), .unset, .unset, .unset, .unset] [] _
        refine XS.aload X195.here hx rfl (hb hby at_73) rfl rfl ?_
        show SS p e below T195 m 75 #[.val (.int a), .val (.int b), .val (.int c), .val (.int len), .val (.int idx), .val (.int (3 : Int32)), .val (.ref b185), .val (.ref b192), .val (.int (0 : Int32)), .unset, .unset, .unset, .unset] [(.ref b185)] _
        refine XS.iload X195.here hx rfl (hb hby at_75) rfl ?_
        show SS p e below T195 m 77 #[.val (.int a), .val (.int b), .val (.int c), .val (.int len), .val (.int idx), .val (.int (3 : Int32)), .val (.ref b185), .val (.ref b192), .val (.int (0 : Int32)), .unset, .unset, .unset, .unset] [(.int (0 : Int32)), (.ref b185)] _
        refine X195.caload hx (j := (0 : Int32)) (v := (.int (pk a))) (by first | exact Ar200.1 | (rw [rfl]; exact Ar200.1)) (State.isArrayOf_alike hZ.alike Ar200.2.1) Ar200.2.2 hin200 hat200 (g := (mkF m 77 #[.val (.int a), .val (.int b), .val (.int c), .val (.int len), .val (.int idx), .val (.int (3 : Int32)), .val (.ref b185), .val (.ref b192), .val (.int (0 : Int32)), .unset, .unset, .unset, .unset] [(.int (0 : Int32)), (.ref b185)])) rfl rfl (hb hby at_77) _ ?_
        show SS p e below T195 m 78 #[.val (.int a), .val (.int b), .val (.int c), .val (.int len), .val (.int idx), .val (.int (3 : Int32)), .val (.ref b185), .val (.ref b192), .val (.int (0 : Int32)), .unset, .unset, .unset, .unset] [(.int (pk a))] _
        refine XS.istore X195.here hx rfl (hb hby at_78) rfl (l' := #[.val (.int a), .val (.int b), .val (.int c), .val (.int len), .val (.int idx), .val (.int (3 : Int32)), .val (.ref b185), .val (.ref b192), .val (.int (0 : Int32)), .val (.int (pk a)), .unset, .unset, .unset]) rfl ?_
        show SS p e below T195 m 80 #[.val (.int a), .val (.int b), .val (.int c), .val (.int len), .val (.int idx), .val (.int (3 : Int32)), .val (.ref b185), .val (.ref b192), .val (.int (0 : Int32)), .val (.int (pk a)), .unset, .unset, .unset] [] _
        refine XS.iload X195.here hx rfl (hb hby at_80) rfl ?_
        show SS p e below T195 m 82 #[.val (.int a), .val (.int b), .val (.int c), .val (.int len), .val (.int idx), .val (.int (3 : Int32)), .val (.ref b185), .val (.ref b192), .val (.int (0 : Int32)), .val (.int (pk a)), .unset, .unset, .unset] [(.int (0 : Int32))] _
        refine XS.iload X195.here hx rfl (hb hby at_82) rfl ?_
        show SS p e below T195 m 84 #[.val (.int a), .val (.int b), .val (.int c), .val (.int len), .val (.int idx), .val (.int (3 : Int32)), .val (.ref b185), .val (.ref b192), .val (.int (0 : Int32)), .val (.int (pk a)), .unset, .unset, .unset] [(.int (3 : Int32)), (.int (0 : Int32))] _
        refine XS.iconst X195.here hx rfl (hb hby at_84) ?_
        show SS p e below T195 m 85 #[.val (.int a), .val (.int b), .val (.int c), .val (.int len), .val (.int idx), .val (.int (3 : Int32)), .val (.ref b185), .val (.ref b192), .val (.int (0 : Int32)), .val (.int (pk a)), .unset, .unset, .unset] [(.int (1 : Int32)), (.int (3 : Int32)), (.int (0 : Int32))] _
        refine XS.isub X195.here hx rfl (hb hby at_85) rfl ?_
        show SS p e below T195 m 86 #[.val (.int a), .val (.int b), .val (.int c), .val (.int len), .val (.int idx), .val (.int (3 : Int32)), .val (.ref b185), .val (.ref b192), .val (.int (0 : Int32)), .val (.int (pk a)), .unset, .unset, .unset] [(.int (2 : Int32)), (.int (0 : Int32))] _
        refine XS.icmpYes X195.here hx rfl (pc0 := 86) (pc' := 93) rfl (hb hby at_86) rfl (feq (by decide)).2 (by decide) (by decide) ?_
        show SS p e below T195 m 93 #[.val (.int a), .val (.int b), .val (.int c), .val (.int len), .val (.int idx), .val (.int (3 : Int32)), .val (.ref b185), .val (.ref b192), .val (.int (0 : Int32)), .val (.int (pk a)), .unset, .unset, .unset] [] _
        refine XS.iconst X195.here hx rfl (hb hby at_93) ?_
        show SS p e below T195 m 94 #[.val (.int a), .val (.int b), .val (.int c), .val (.int len), .val (.int idx), .val (.int (3 : Int32)), .val (.ref b185), .val (.ref b192), .val (.int (0 : Int32)), .val (.int (pk a)), .unset, .unset, .unset] [(.int (0 : Int32))] _
        refine XS.istore X195.here hx rfl (hb hby at_94) rfl (l' := #[.val (.int a), .val (.int b), .val (.int c), .val (.int len), .val (.int idx), .val (.int (3 : Int32)), .val (.ref b185), .val (.ref b192), .val (.int (0 : Int32)), .val (.int (pk a)), .val (.int (0 : Int32)), .unset, .unset]) rfl ?_
        show SS p e below T195 m 96 #[.val (.int a), .val (.int b), .val (.int c), .val (.int len), .val (.int idx), .val (.int (3 : Int32)), .val (.ref b185), .val (.ref b192), .val (.int (0 : Int32)), .val (.int (pk a)), .val (.int (0 : Int32)), .unset, .unset] [] _
        refine XS.iconst X195.here hx rfl (hb hby at_96) ?_
        show SS p e below T195 m 97 #[.val (.int a), .val (.int b), .val (.int c), .val (.int len), .val (.int idx), .val (.int (3 : Int32)), .val (.ref b185), .val (.ref b192), .val (.int (0 : Int32)), .val (.int (pk a)), .val (.int (0 : Int32)), .unset, .unset] [(.int (0 : Int32))] _
        refine XS.istore X195.here hx rfl (hb hby at_97) rfl (l' := #[.val (.int a), .val (.int b), .val (.int c), .val (.int len), .val (.int idx), .val (.int (3 : Int32)), .val (.ref b185), .val (.ref b192), .val (.int (0 : Int32)), .val (.int (pk a)), .val (.int (0 : Int32)), .val (.int (0 : Int32)), .unset]) rfl ?_
        show SS p e below T195 m 99 #[.val (.int a), .val (.int b), .val (.int c), .val (.int len), .val (.int idx), .val (.int (3 : Int32)), .val (.ref b185), .val (.ref b192), .val (.int (0 : Int32)), .val (.int (pk a)), .val (.int (0 : Int32)), .val (.int (0 : Int32)), .unset] [] _
        refine XS.iload X195.here hx rfl (hb hby at_99) rfl ?_
        show SS p e below T195 m 101 #[.val (.int a), .val (.int b), .val (.int c), .val (.int len), .val (.int idx), .val (.int (3 : Int32)), .val (.ref b185), .val (.ref b192), .val (.int (0 : Int32)), .val (.int (pk a)), .val (.int (0 : Int32)), .val (.int (0 : Int32)), .unset] [(.int (0 : Int32))] _
        refine XS.ifNo X195.here hx rfl (hb hby at_101) rfl ((if0 _ _).trans (teq (by decide)).2) ?_
        show SS p e below T195 m 104 #[.val (.int a), .val (.int b), .val (.int c), .val (.int len), .val (.int idx), .val (.int (3 : Int32)), .val (.ref b185), .val (.ref b192), .val (.int (0 : Int32)), .val (.int (pk a)), .val (.int (0 : Int32)), .val (.int (0 : Int32)), .unset] [] _
        refine XS.aload X195.here hx rfl (hb hby at_104) rfl rfl ?_
        show SS p e below T195 m 106 #[.val (.int a), .val (.int b), .val (.int c), .val (.int len), .val (.int idx), .val (.int (3 : Int32)), .val (.ref b185), .val (.ref b192), .val (.int (0 : Int32)), .val (.int (pk a)), .val (.int (0 : Int32)), .val (.int (0 : Int32)), .unset] [(.ref b185)] _
        refine XS.iload X195.here hx rfl (hb hby at_106) rfl ?_
        show SS p e below T195 m 108 #[.val (.int a), .val (.int b), .val (.int c), .val (.int len), .val (.int idx), .val (.int (3 : Int32)), .val (.ref b185), .val (.ref b192), .val (.int (0 : Int32)), .val (.int (pk a)), .val (.int (0 : Int32)), .val (.int (0 : Int32)), .unset] [(.int (0 : Int32)), (.ref b185)] _
        refine XS.iconst X195.here hx rfl (hb hby at_108) ?_
        show SS p e below T195 m 109 #[.val (.int a), .val (.int b), .val (.int c), .val (.int len), .val (.int idx), .val (.int (3 : Int32)), .val (.ref b185), .val (.ref b192), .val (.int (0 : Int32)), .val (.int (pk a)), .val (.int (0 : Int32)), .val (.int (0 : Int32)), .unset] [(.int (1 : Int32)), (.int (0 : Int32)), (.ref b185)] _
        refine XS.iadd X195.here hx rfl (hb hby at_109) rfl ?_
        show SS p e below T195 m 110 #[.val (.int a), .val (.int b), .val (.int c), .val (.int len), .val (.int idx), .val (.int (3 : Int32)), .val (.ref b185), .val (.ref b192), .val (.int (0 : Int32)), .val (.int (pk a)), .val (.int (0 : Int32)), .val (.int (0 : Int32)), .unset] [(.int (1 : Int32)), (.ref b185)] _
        refine X195.caload hx (j := (1 : Int32)) (v := (.int (pk b))) (by first | exact Ar201.1 | (rw [rfl]; exact Ar201.1)) (State.isArrayOf_alike hZ.alike Ar201.2.1) Ar201.2.2 hin201 hat201 (g := (mkF m 110 #[.val (.int a), .val (.int b), .val (.int c), .val (.int len), .val (.int idx), .val (.int (3 : Int32)), .val (.ref b185), .val (.ref b192), .val (.int (0 : Int32)), .val (.int (pk a)), .val (.int (0 : Int32)), .val (.int (0 : Int32)), .unset] [(.int (1 : Int32)), (.ref b185)])) rfl rfl (hb hby at_110) _ ?_
        show SS p e below T195 m 111 #[.val (.int a), .val (.int b), .val (.int c), .val (.int len), .val (.int idx), .val (.int (3 : Int32)), .val (.ref b185), .val (.ref b192), .val (.int (0 : Int32)), .val (.int (pk a)), .val (.int (0 : Int32)), .val (.int (0 : Int32)), .unset] [(.int (pk b))] _
        refine XS.bipush X195.here hx rfl (hb hby at_111) ?_
        show SS p e below T195 m 113 #[.val (.int a), .val (.int b), .val (.int c), .val (.int len), .val (.int idx), .val (.int (3 : Int32)), .val (.ref b185), .val (.ref b192), .val (.int (0 : Int32)), .val (.int (pk a)), .val (.int (0 : Int32)), .val (.int (0 : Int32)), .unset] [(.int (10 : Int32)), (.int (pk b))] _
        exact kt
      by_cases hc203 : (pk b) = (10 : Int32)
      ·
        have W204 : ∀ zQ, SS p e below T195 m 127 #[.val (.int a), .val (.int b), .val (.int c), .val (.int len), .val (.int idx), .val (.int (3 : Int32)), .val (.ref b185), .val (.ref b192), .val (.int (0 : Int32)), .val (.int (pk a)), .val (.int (0 : Int32)), .val (.int (1 : Int32)), .unset] [(.int (10 : Int32)), (.int (pk a))] zQ → Steps p.tables e below (s₁.setTop (entryFrame m #[(.int a), (.int b), (.int c), (.int len), (.int idx)] maxLocals)) zQ := by
          intro tt kt
          refine W202 tt ?_
          refine XS.icmpNo X195.here hx rfl (hb hby at_113) rfl (teq hc203).2 ?_
          show SS p e below T195 m 116 #[.val (.int a), .val (.int b), .val (.int c), .val (.int len), .val (.int idx), .val (.int (3 : Int32)), .val (.ref b185), .val (.ref b192), .val (.int (0 : Int32)), .val (.int (pk a)), .val (.int (0 : Int32)), .val (.int (0 : Int32)), .unset] [] _
          refine XS.iconst X195.here hx rfl (hb hby at_116) ?_
          show SS p e below T195 m 117 #[.val (.int a), .val (.int b), .val (.int c), .val (.int len), .val (.int idx), .val (.int (3 : Int32)), .val (.ref b185), .val (.ref b192), .val (.int (0 : Int32)), .val (.int (pk a)), .val (.int (0 : Int32)), .val (.int (0 : Int32)), .unset] [(.int (1 : Int32))] _
          refine XS.goto X195.here hx rfl (pc0 := 117) (pc' := 121) rfl (hb hby at_117) (by decide) (by decide) ?_
          show SS p e below T195 m 121 #[.val (.int a), .val (.int b), .val (.int c), .val (.int len), .val (.int idx), .val (.int (3 : Int32)), .val (.ref b185), .val (.ref b192), .val (.int (0 : Int32)), .val (.int (pk a)), .val (.int (0 : Int32)), .val (.int (0 : Int32)), .unset] [(.int (1 : Int32))] _
          refine XS.istore X195.here hx rfl (hb hby at_121) rfl (l' := #[.val (.int a), .val (.int b), .val (.int c), .val (.int len), .val (.int idx), .val (.int (3 : Int32)), .val (.ref b185), .val (.ref b192), .val (.int (0 : Int32)), .val (.int (pk a)), .val (.int (0 : Int32)), .val (.int (1 : Int32)), .unset]) rfl ?_
          show SS p e below T195 m 123 #[.val (.int a), .val (.int b), .val (.int c), .val (.int len), .val (.int idx), .val (.int (3 : Int32)), .val (.ref b185), .val (.ref b192), .val (.int (0 : Int32)), .val (.int (pk a)), .val (.int (0 : Int32)), .val (.int (1 : Int32)), .unset] [] _
          refine XS.iload X195.here hx rfl (hb hby at_123) rfl ?_
          show SS p e below T195 m 125 #[.val (.int a), .val (.int b), .val (.int c), .val (.int len), .val (.int idx), .val (.int (3 : Int32)), .val (.ref b185), .val (.ref b192), .val (.int (0 : Int32)), .val (.int (pk a)), .val (.int (0 : Int32)), .val (.int (1 : Int32)), .unset] [(.int (pk a))] _
          refine XS.bipush X195.here hx rfl (hb hby at_125) ?_
          show SS p e below T195 m 127 #[.val (.int a), .val (.int b), .val (.int c), .val (.int len), .val (.int idx), .val (.int (3 : Int32)), .val (.ref b185), .val (.ref b192), .val (.int (0 : Int32)), .val (.int (pk a)), .val (.int (0 : Int32)), .val (.int (1 : Int32)), .unset] [(.int (10 : Int32)), (.int (pk a))] _
          exact kt
        by_cases hc205 : (pk a) = (10 : Int32)
        ·
          have O206 : Old Z n0 T195.heap := (O194.keep K195 (allS (Nat.le_trans Z0 (Nat.le_trans (Nat.le_trans (Nat.le_trans (Nat.le_trans K185.1 K187.1) K189.1) K191.1) (Nat.le_of_eq g192.symm))) all0))
          obtain ⟨_, _, ⟨T207, L207, k207, n207⟩, -, X207, ⟨Lc207, hQ207, l207, y207, z207⟩, st207⟩ := Jvm.LawKit.callS X195 hx (y := (⟨"com/example/vestline/vestline/input/TextFiles", "endsLine", "(Ljava/lang/String;I)Z"⟩ : MethodName)) hown (mvT hZ (w35 hw)) (mvT hZ (w36 hw)) (mvT hZ (w37 hw)) (mvT hZ (w38 hw)) (by decide) (backOf (W := 0) (rm_endsLine l Z a0 hw [] b192 0 t_196 kb_197 [(pk a), (pk b), (pk c)] cS fm T195.heap n0 (Nat.le_trans Z0 (Nat.le_trans (Nat.le_trans (Nat.le_trans (Nat.le_trans (Nat.le_trans K185.1 K187.1) K189.1) K191.1) K192.1) K195.1)) O206 S_cs hcS S_fm hfm S_ad S_hi S_lo P195_1 (Nat.le_of_ble_eq_true rfl)) hZ (w38 hw) (w37 hw) (by decide) (by decide)) (g := (mkF m 165 #[.val (.int a), .val (.int b), .val (.int c), .val (.int len), .val (.int idx), .val (.int (3 : Int32)), .val (.ref b185), .val (.ref b192), .val (.int (0 : Int32)), .val (.int (pk a)), .val (.int (0 : Int32)), .val (.int (1 : Int32)), .val (.int (1 : Int32))] [(.int (0 : Int32)), (.ref b192)])) rfl (by rw [hml]; rfl) (argsL := [(.ref b192), (.int (0 : Int32))]) (rest := []) (lenOf pd__28_Ljava_2f_lang_2f_String_3b_I_29_Z rfl) rfl (by show 2 * 0 + _ ≤ _; exact Nat.le_of_eq rfl) (hb hby at_165) (fun _ _ => ⟨rfl, rfl, (Nat.le_of_ble_eq_true rfl), (Nat.le_of_ble_eq_true rfl)⟩)
          dsimp only [Pt.U, Pt.locs, Pt.cells, Pt.slots] at X207 l207 y207 z207 st207 hQ207
          subst l207 y207 z207
          obtain ⟨rfl, Nq207, eq207⟩ := hQ207
          have N207 := Fr.app N195 Nq207
          have W208 : ∀ zQ, SS p e below T207 m 178 #[.val (.int a), .val (.int b), .val (.int c), .val (.int len), .val (.int idx), .val (.int (3 : Int32)), .val (.ref b185), .val (.ref b192), .val (.int (0 : Int32)), .val (.int (pk a)), .val (.int (0 : Int32)), .val (.int (1 : Int32)), .val (.int (1 : Int32))] [(.int (1 : Int32))] zQ → Steps p.tables e below (s₁.setTop (entryFrame m #[(.int a), (.int b), (.int c), (.int len), (.int idx)] maxLocals)) zQ := by
            intro tt kt
            refine W204 tt ?_
            refine XS.icmpNo X195.here hx rfl (hb hby at_127) rfl (teq hc205).2 ?_
            show SS p e below T195 m 130 #[.val (.int a), .val (.int b), .val (.int c), .val (.int len), .val (.int idx), .val (.int (3 : Int32)), .val (.ref b185), .val (.ref b192), .val (.int (0 : Int32)), .val (.int (pk a)), .val (.int (0 : Int32)), .val (.int (1 : Int32)), .unset] [] _
            refine XS.iconst X195.here hx rfl (hb hby at_130) ?_
            show SS p e below T195 m 131 #[.val (.int a), .val (.int b), .val (.int c), .val (.int len), .val (.int idx), .val (.int (3 : Int32)), .val (.ref b185), .val (.ref b192), .val (.int (0 : Int32)), .val (.int (pk a)), .val (.int (0 : Int32)), .val (.int (1 : Int32)), .unset] [(.int (1 : Int32))] _
            refine XS.istore X195.here hx rfl (hb hby at_131) rfl (l' := #[.val (.int a), .val (.int b), .val (.int c), .val (.int len), .val (.int idx), .val (.int (3 : Int32)), .val (.ref b185), .val (.ref b192), .val (.int (0 : Int32)), .val (.int (pk a)), .val (.int (0 : Int32)), .val (.int (1 : Int32)), .val (.int (1 : Int32))]) rfl ?_
            show SS p e below T195 m 133 #[.val (.int a), .val (.int b), .val (.int c), .val (.int len), .val (.int idx), .val (.int (3 : Int32)), .val (.ref b185), .val (.ref b192), .val (.int (0 : Int32)), .val (.int (pk a)), .val (.int (0 : Int32)), .val (.int (1 : Int32)), .val (.int (1 : Int32))] [] _
            refine XS.goto X195.here hx rfl (pc0 := 133) (pc' := 161) rfl (hb hby at_133) (by decide) (by decide) ?_
            show SS p e below T195 m 161 #[.val (.int a), .val (.int b), .val (.int c), .val (.int len), .val (.int idx), .val (.int (3 : Int32)), .val (.ref b185), .val (.ref b192), .val (.int (0 : Int32)), .val (.int (pk a)), .val (.int (0 : Int32)), .val (.int (1 : Int32)), .val (.int (1 : Int32))] [] _
            refine XS.aload X195.here hx rfl (hb hby at_161) rfl rfl ?_
            show SS p e below T195 m 163 #[.val (.int a), .val (.int b), .val (.int c), .val (.int len), .val (.int idx), .val (.int (3 : Int32)), .val (.ref b185), .val (.ref b192), .val (.int (0 : Int32)), .val (.int (pk a)), .val (.int (0 : Int32)), .val (.int (1 : Int32)), .val (.int (1 : Int32))] [(.ref b192)] _
            refine XS.iload X195.here hx rfl (hb hby at_163) rfl ?_
            show SS p e below T195 m 165 #[.val (.int a), .val (.int b), .val (.int c), .val (.int len), .val (.int idx), .val (.int (3 : Int32)), .val (.ref b185), .val (.ref b192), .val (.int (0 : Int32)), .val (.int (pk a)), .val (.int (0 : Int32)), .val (.int (1 : Int32)), .val (.int (1 : Int32))] [(.int (0 : Int32)), (.ref b192)] _
            refine st207 _ ?_
            show SS p e below T207 m 168 #[.val (.int a), .val (.int b), .val (.int c), .val (.int len), .val (.int idx), .val (.int (3 : Int32)), .val (.ref b185), .val (.ref b192), .val (.int (0 : Int32)), .val (.int (pk a)), .val (.int (0 : Int32)), .val (.int (1 : Int32)), .val (.int (1 : Int32))] [(.int (el [(pk a), (pk b), (pk c)] 0))] _
            refine XS.iload X207.here hx rfl (hb hby at_168) rfl ?_
            show SS p e below T207 m 170 #[.val (.int a), .val (.int b), .val (.int c), .val (.int len), .val (.int idx), .val (.int (3 : Int32)), .val (.ref b185), .val (.ref b192), .val (.int (0 : Int32)), .val (.int (pk a)), .val (.int (0 : Int32)), .val (.int (1 : Int32)), .val (.int (1 : Int32))] [(.int (1 : Int32)), (.int (el [(pk a), (pk b), (pk c)] 0))] _
            refine XS.icmpNo X207.here hx rfl (hb hby at_170) rfl (teq (by simp [el, hc203, hc205])).2 ?_
            show SS p e below T207 m 173 #[.val (.int a), .val (.int b), .val (.int c), .val (.int len), .val (.int idx), .val (.int (3 : Int32)), .val (.ref b185), .val (.ref b192), .val (.int (0 : Int32)), .val (.int (pk a)), .val (.int (0 : Int32)), .val (.int (1 : Int32)), .val (.int (1 : Int32))] [] _
            refine XS.iconst X207.here hx rfl (hb hby at_173) ?_
            show SS p e below T207 m 174 #[.val (.int a), .val (.int b), .val (.int c), .val (.int len), .val (.int idx), .val (.int (3 : Int32)), .val (.ref b185), .val (.ref b192), .val (.int (0 : Int32)), .val (.int (pk a)), .val (.int (0 : Int32)), .val (.int (1 : Int32)), .val (.int (1 : Int32))] [(.int (1 : Int32))] _
            refine XS.goto X207.here hx rfl (pc0 := 174) (pc' := 178) rfl (hb hby at_174) (by decide) (by decide) ?_
            show SS p e below T207 m 178 #[.val (.int a), .val (.int b), .val (.int c), .val (.int len), .val (.int idx), .val (.int (3 : Int32)), .val (.ref b185), .val (.ref b192), .val (.int (0 : Int32)), .val (.int (pk a)), .val (.int (0 : Int32)), .val (.int (1 : Int32)), .val (.int (1 : Int32))] [(.int (1 : Int32))] _
            exact kt
          obtain ⟨fs, hr, hrun, hended, hW, hsame⟩ := X207.leave (v := some (.int (nar .boolean (1 : Int32)))) (fun h => by rw [Bd.returns] at h; cases h)
          refine ⟨_, _, W208 _ (retN X207 hx (t := .boolean) Bd.returns (by simp) (hb hby at_178) hr), hrun, hended, _, _, rfl, ?_, ⟨_, rfl⟩, hW, hsame.mono (by decide) (by decide)⟩
          show Q_law Z a b c len idx cS fm h0 n0 _ T207.heap _
          rw [eq207]
          exact ⟨rfl, N207, (Keep.trans (Keep.trans (Keep.trans (Keep.trans (Keep.trans (Keep.trans (Keep.refl h0 []) K185 all0) K187 (allS (Or.inr (Nat.le_of_eq g185.symm)) all0)) K189 (allS (Or.inr (Nat.le_of_eq g185.symm)) all0)) K191 (allS (Or.inr (Nat.le_of_eq g185.symm)) all0)) K192 all0) K195 (allS (Or.inr (Nat.le_trans (Nat.le_trans (Nat.le_trans (Nat.le_trans K185.1 K187.1) K189.1) K191.1) (Nat.le_of_eq g192.symm))) all0))⟩
        ·
          have W209 : ∀ zQ, SS p e below T195 m 140 #[.val (.int a), .val (.int b), .val (.int c), .val (.int len), .val (.int idx), .val (.int (3 : Int32)), .val (.ref b185), .val (.ref b192), .val (.int (0 : Int32)), .val (.int (pk a)), .val (.int (0 : Int32)), .val (.int (1 : Int32)), .unset] [(.int (13 : Int32)), (.int (pk a))] zQ → Steps p.tables e below (s₁.setTop (entryFrame m #[(.int a), (.int b), (.int c), (.int len), (.int idx)] maxLocals)) zQ := by
            intro tt kt
            refine W204 tt ?_
            refine XS.icmpYes X195.here hx rfl (pc0 := 127) (pc' := 136) rfl (hb hby at_127) rfl (feq hc205).2 (by decide) (by decide) ?_
            show SS p e below T195 m 136 #[.val (.int a), .val (.int b), .val (.int c), .val (.int len), .val (.int idx), .val (.int (3 : Int32)), .val (.ref b185), .val (.ref b192), .val (.int (0 : Int32)), .val (.int (pk a)), .val (.int (0 : Int32)), .val (.int (1 : Int32)), .unset] [] _
            refine XS.iload X195.here hx rfl (hb hby at_136) rfl ?_
            show SS p e below T195 m 138 #[.val (.int a), .val (.int b), .val (.int c), .val (.int len), .val (.int idx), .val (.int (3 : Int32)), .val (.ref b185), .val (.ref b192), .val (.int (0 : Int32)), .val (.int (pk a)), .val (.int (0 : Int32)), .val (.int (1 : Int32)), .unset] [(.int (pk a))] _
            refine XS.bipush X195.here hx rfl (hb hby at_138) ?_
            show SS p e below T195 m 140 #[.val (.int a), .val (.int b), .val (.int c), .val (.int len), .val (.int idx), .val (.int (3 : Int32)), .val (.ref b185), .val (.ref b192), .val (.int (0 : Int32)), .val (.int (pk a)), .val (.int (0 : Int32)), .val (.int (1 : Int32)), .unset] [(.int (13 : Int32)), (.int (pk a))] _
            exact kt
          by_cases hc210 : (pk a) = (13 : Int32)
          ·
            have O211 : Old Z n0 T195.heap := (O194.keep K195 (allS (Nat.le_trans Z0 (Nat.le_trans (Nat.le_trans (Nat.le_trans (Nat.le_trans K185.1 K187.1) K189.1) K191.1) (Nat.le_of_eq g192.symm))) all0))
            obtain ⟨_, _, ⟨T212, L212, k212, n212⟩, -, X212, ⟨Lc212, hQ212, l212, y212, z212⟩, st212⟩ := Jvm.LawKit.callS X195 hx (y := (⟨"com/example/vestline/vestline/input/TextFiles", "endsLine", "(Ljava/lang/String;I)Z"⟩ : MethodName)) hown (mvT hZ (w35 hw)) (mvT hZ (w36 hw)) (mvT hZ (w37 hw)) (mvT hZ (w38 hw)) (by decide) (backOf (W := 0) (rm_endsLine l Z a0 hw [] b192 0 t_196 kb_197 [(pk a), (pk b), (pk c)] cS fm T195.heap n0 (Nat.le_trans Z0 (Nat.le_trans (Nat.le_trans (Nat.le_trans (Nat.le_trans (Nat.le_trans K185.1 K187.1) K189.1) K191.1) K192.1) K195.1)) O211 S_cs hcS S_fm hfm S_ad S_hi S_lo P195_1 (Nat.le_of_ble_eq_true rfl)) hZ (w38 hw) (w37 hw) (by decide) (by decide)) (g := (mkF m 165 #[.val (.int a), .val (.int b), .val (.int c), .val (.int len), .val (.int idx), .val (.int (3 : Int32)), .val (.ref b185), .val (.ref b192), .val (.int (0 : Int32)), .val (.int (pk a)), .val (.int (0 : Int32)), .val (.int (1 : Int32)), .val (.int (0 : Int32))] [(.int (0 : Int32)), (.ref b192)])) rfl (by rw [hml]; rfl) (argsL := [(.ref b192), (.int (0 : Int32))]) (rest := []) (lenOf pd__28_Ljava_2f_lang_2f_String_3b_I_29_Z rfl) rfl (by show 2 * 0 + _ ≤ _; exact Nat.le_of_eq rfl) (hb hby at_165) (fun _ _ => ⟨rfl, rfl, (Nat.le_of_ble_eq_true rfl), (Nat.le_of_ble_eq_true rfl)⟩)
            dsimp only [Pt.U, Pt.locs, Pt.cells, Pt.slots] at X212 l212 y212 z212 st212 hQ212
            subst l212 y212 z212
            obtain ⟨rfl, Nq212, eq212⟩ := hQ212
            have N212 := Fr.app N195 Nq212
            have W213 : ∀ zQ, SS p e below T212 m 178 #[.val (.int a), .val (.int b), .val (.int c), .val (.int len), .val (.int idx), .val (.int (3 : Int32)), .val (.ref b185), .val (.ref b192), .val (.int (0 : Int32)), .val (.int (pk a)), .val (.int (0 : Int32)), .val (.int (1 : Int32)), .val (.int (0 : Int32))] [(.int (1 : Int32))] zQ → Steps p.tables e below (s₁.setTop (entryFrame m #[(.int a), (.int b), (.int c), (.int len), (.int idx)] maxLocals)) zQ := by
              intro tt kt
              refine W209 tt ?_
              refine XS.icmpNo X195.here hx rfl (hb hby at_140) rfl (teq hc210).2 ?_
              show SS p e below T195 m 143 #[.val (.int a), .val (.int b), .val (.int c), .val (.int len), .val (.int idx), .val (.int (3 : Int32)), .val (.ref b185), .val (.ref b192), .val (.int (0 : Int32)), .val (.int (pk a)), .val (.int (0 : Int32)), .val (.int (1 : Int32)), .unset] [] _
              refine XS.iload X195.here hx rfl (hb hby at_143) rfl ?_
              show SS p e below T195 m 145 #[.val (.int a), .val (.int b), .val (.int c), .val (.int len), .val (.int idx), .val (.int (3 : Int32)), .val (.ref b185), .val (.ref b192), .val (.int (0 : Int32)), .val (.int (pk a)), .val (.int (0 : Int32)), .val (.int (1 : Int32)), .unset] [(.int (1 : Int32))] _
              refine XS.ifYes X195.here hx rfl (pc0 := 145) (pc' := 152) rfl (hb hby at_145) rfl ((if0 _ _).trans (feq (by decide)).2) (by decide) (by decide) ?_
              show SS p e below T195 m 152 #[.val (.int a), .val (.int b), .val (.int c), .val (.int len), .val (.int idx), .val (.int (3 : Int32)), .val (.ref b185), .val (.ref b192), .val (.int (0 : Int32)), .val (.int (pk a)), .val (.int (0 : Int32)), .val (.int (1 : Int32)), .unset] [] _
              refine XS.iconst X195.here hx rfl (hb hby at_152) ?_
              show SS p e below T195 m 153 #[.val (.int a), .val (.int b), .val (.int c), .val (.int len), .val (.int idx), .val (.int (3 : Int32)), .val (.ref b185), .val (.ref b192), .val (.int (0 : Int32)), .val (.int (pk a)), .val (.int (0 : Int32)), .val (.int (1 : Int32)), .unset] [(.int (0 : Int32))] _
              refine XS.istore X195.here hx rfl (hb hby at_153) rfl (l' := #[.val (.int a), .val (.int b), .val (.int c), .val (.int len), .val (.int idx), .val (.int (3 : Int32)), .val (.ref b185), .val (.ref b192), .val (.int (0 : Int32)), .val (.int (pk a)), .val (.int (0 : Int32)), .val (.int (1 : Int32)), .val (.int (0 : Int32))]) rfl ?_
              show SS p e below T195 m 155 #[.val (.int a), .val (.int b), .val (.int c), .val (.int len), .val (.int idx), .val (.int (3 : Int32)), .val (.ref b185), .val (.ref b192), .val (.int (0 : Int32)), .val (.int (pk a)), .val (.int (0 : Int32)), .val (.int (1 : Int32)), .val (.int (0 : Int32))] [] _
              refine XS.goto X195.here hx rfl (pc0 := 155) (pc' := 161) rfl (hb hby at_155) (by decide) (by decide) ?_
              show SS p e below T195 m 161 #[.val (.int a), .val (.int b), .val (.int c), .val (.int len), .val (.int idx), .val (.int (3 : Int32)), .val (.ref b185), .val (.ref b192), .val (.int (0 : Int32)), .val (.int (pk a)), .val (.int (0 : Int32)), .val (.int (1 : Int32)), .val (.int (0 : Int32))] [] _
              refine XS.aload X195.here hx rfl (hb hby at_161) rfl rfl ?_
              show SS p e below T195 m 163 #[.val (.int a), .val (.int b), .val (.int c), .val (.int len), .val (.int idx), .val (.int (3 : Int32)), .val (.ref b185), .val (.ref b192), .val (.int (0 : Int32)), .val (.int (pk a)), .val (.int (0 : Int32)), .val (.int (1 : Int32)), .val (.int (0 : Int32))] [(.ref b192)] _
              refine XS.iload X195.here hx rfl (hb hby at_163) rfl ?_
              show SS p e below T195 m 165 #[.val (.int a), .val (.int b), .val (.int c), .val (.int len), .val (.int idx), .val (.int (3 : Int32)), .val (.ref b185), .val (.ref b192), .val (.int (0 : Int32)), .val (.int (pk a)), .val (.int (0 : Int32)), .val (.int (1 : Int32)), .val (.int (0 : Int32))] [(.int (0 : Int32)), (.ref b192)] _
              refine st212 _ ?_
              show SS p e below T212 m 168 #[.val (.int a), .val (.int b), .val (.int c), .val (.int len), .val (.int idx), .val (.int (3 : Int32)), .val (.ref b185), .val (.ref b192), .val (.int (0 : Int32)), .val (.int (pk a)), .val (.int (0 : Int32)), .val (.int (1 : Int32)), .val (.int (0 : Int32))] [(.int (el [(pk a), (pk b), (pk c)] 0))] _
              refine XS.iload X212.here hx rfl (hb hby at_168) rfl ?_
              show SS p e below T212 m 170 #[.val (.int a), .val (.int b), .val (.int c), .val (.int len), .val (.int idx), .val (.int (3 : Int32)), .val (.ref b185), .val (.ref b192), .val (.int (0 : Int32)), .val (.int (pk a)), .val (.int (0 : Int32)), .val (.int (1 : Int32)), .val (.int (0 : Int32))] [(.int (0 : Int32)), (.int (el [(pk a), (pk b), (pk c)] 0))] _
              refine XS.icmpNo X212.here hx rfl (hb hby at_170) rfl (teq (by simp [el, hc203, hc205, hc210])).2 ?_
              show SS p e below T212 m 173 #[.val (.int a), .val (.int b), .val (.int c), .val (.int len), .val (.int idx), .val (.int (3 : Int32)), .val (.ref b185), .val (.ref b192), .val (.int (0 : Int32)), .val (.int (pk a)), .val (.int (0 : Int32)), .val (.int (1 : Int32)), .val (.int (0 : Int32))] [] _
              refine XS.iconst X212.here hx rfl (hb hby at_173) ?_
              show SS p e below T212 m 174 #[.val (.int a), .val (.int b), .val (.int c), .val (.int len), .val (.int idx), .val (.int (3 : Int32)), .val (.ref b185), .val (.ref b192), .val (.int (0 : Int32)), .val (.int (pk a)), .val (.int (0 : Int32)), .val (.int (1 : Int32)), .val (.int (0 : Int32))] [(.int (1 : Int32))] _
              refine XS.goto X212.here hx rfl (pc0 := 174) (pc' := 178) rfl (hb hby at_174) (by decide) (by decide) ?_
              show SS p e below T212 m 178 #[.val (.int a), .val (.int b), .val (.int c), .val (.int len), .val (.int idx), .val (.int (3 : Int32)), .val (.ref b185), .val (.ref b192), .val (.int (0 : Int32)), .val (.int (pk a)), .val (.int (0 : Int32)), .val (.int (1 : Int32)), .val (.int (0 : Int32))] [(.int (1 : Int32))] _
              exact kt
            obtain ⟨fs, hr, hrun, hended, hW, hsame⟩ := X212.leave (v := some (.int (nar .boolean (1 : Int32)))) (fun h => by rw [Bd.returns] at h; cases h)
            refine ⟨_, _, W213 _ (retN X212 hx (t := .boolean) Bd.returns (by simp) (hb hby at_178) hr), hrun, hended, _, _, rfl, ?_, ⟨_, rfl⟩, hW, hsame.mono (by decide) (by decide)⟩
            show Q_law Z a b c len idx cS fm h0 n0 _ T212.heap _
            rw [eq212]
            exact ⟨rfl, N212, (Keep.trans (Keep.trans (Keep.trans (Keep.trans (Keep.trans (Keep.trans (Keep.refl h0 []) K185 all0) K187 (allS (Or.inr (Nat.le_of_eq g185.symm)) all0)) K189 (allS (Or.inr (Nat.le_of_eq g185.symm)) all0)) K191 (allS (Or.inr (Nat.le_of_eq g185.symm)) all0)) K192 all0) K195 (allS (Or.inr (Nat.le_trans (Nat.le_trans (Nat.le_trans (Nat.le_trans K185.1 K187.1) K189.1) K191.1) (Nat.le_of_eq g192.symm))) all0))⟩
          ·
            have O214 : Old Z n0 T195.heap := (O194.keep K195 (allS (Nat.le_trans Z0 (Nat.le_trans (Nat.le_trans (Nat.le_trans (Nat.le_trans K185.1 K187.1) K189.1) K191.1) (Nat.le_of_eq g192.symm))) all0))
            obtain ⟨_, _, ⟨T215, L215, k215, n215⟩, -, X215, ⟨Lc215, hQ215, l215, y215, z215⟩, st215⟩ := Jvm.LawKit.callS X195 hx (y := (⟨"com/example/vestline/vestline/input/TextFiles", "endsLine", "(Ljava/lang/String;I)Z"⟩ : MethodName)) hown (mvT hZ (w35 hw)) (mvT hZ (w36 hw)) (mvT hZ (w37 hw)) (mvT hZ (w38 hw)) (by decide) (backOf (W := 0) (rm_endsLine l Z a0 hw [] b192 0 t_196 kb_197 [(pk a), (pk b), (pk c)] cS fm T195.heap n0 (Nat.le_trans Z0 (Nat.le_trans (Nat.le_trans (Nat.le_trans (Nat.le_trans (Nat.le_trans K185.1 K187.1) K189.1) K191.1) K192.1) K195.1)) O214 S_cs hcS S_fm hfm S_ad S_hi S_lo P195_1 (Nat.le_of_ble_eq_true rfl)) hZ (w38 hw) (w37 hw) (by decide) (by decide)) (g := (mkF m 165 #[.val (.int a), .val (.int b), .val (.int c), .val (.int len), .val (.int idx), .val (.int (3 : Int32)), .val (.ref b185), .val (.ref b192), .val (.int (0 : Int32)), .val (.int (pk a)), .val (.int (0 : Int32)), .val (.int (1 : Int32)), .val (.int (0 : Int32))] [(.int (0 : Int32)), (.ref b192)])) rfl (by rw [hml]; rfl) (argsL := [(.ref b192), (.int (0 : Int32))]) (rest := []) (lenOf pd__28_Ljava_2f_lang_2f_String_3b_I_29_Z rfl) rfl (by show 2 * 0 + _ ≤ _; exact Nat.le_of_eq rfl) (hb hby at_165) (fun _ _ => ⟨rfl, rfl, (Nat.le_of_ble_eq_true rfl), (Nat.le_of_ble_eq_true rfl)⟩)
            dsimp only [Pt.U, Pt.locs, Pt.cells, Pt.slots] at X215 l215 y215 z215 st215 hQ215
            subst l215 y215 z215
            obtain ⟨rfl, Nq215, eq215⟩ := hQ215
            have N215 := Fr.app N195 Nq215
            have W216 : ∀ zQ, SS p e below T215 m 178 #[.val (.int a), .val (.int b), .val (.int c), .val (.int len), .val (.int idx), .val (.int (3 : Int32)), .val (.ref b185), .val (.ref b192), .val (.int (0 : Int32)), .val (.int (pk a)), .val (.int (0 : Int32)), .val (.int (1 : Int32)), .val (.int (0 : Int32))] [(.int (1 : Int32))] zQ → Steps p.tables e below (s₁.setTop (entryFrame m #[(.int a), (.int b), (.int c), (.int len), (.int idx)] maxLocals)) zQ := by
              intro tt kt
              refine W209 tt ?_
              refine XS.icmpYes X195.here hx rfl (pc0 := 140) (pc' := 158) rfl (hb hby at_140) rfl (feq hc210).2 (by decide) (by decide) ?_
              show SS p e below T195 m 158 #[.val (.int a), .val (.int b), .val (.int c), .val (.int len), .val (.int idx), .val (.int (3 : Int32)), .val (.ref b185), .val (.ref b192), .val (.int (0 : Int32)), .val (.int (pk a)), .val (.int (0 : Int32)), .val (.int (1 : Int32)), .unset] [] _
              refine XS.iconst X195.here hx rfl (hb hby at_158) ?_
              show SS p e below T195 m 159 #[.val (.int a), .val (.int b), .val (.int c), .val (.int len), .val (.int idx), .val (.int (3 : Int32)), .val (.ref b185), .val (.ref b192), .val (.int (0 : Int32)), .val (.int (pk a)), .val (.int (0 : Int32)), .val (.int (1 : Int32)), .unset] [(.int (0 : Int32))] _
              refine XS.istore X195.here hx rfl (hb hby at_159) rfl (l' := #[.val (.int a), .val (.int b), .val (.int c), .val (.int len), .val (.int idx), .val (.int (3 : Int32)), .val (.ref b185), .val (.ref b192), .val (.int (0 : Int32)), .val (.int (pk a)), .val (.int (0 : Int32)), .val (.int (1 : Int32)), .val (.int (0 : Int32))]) rfl ?_
              show SS p e below T195 m 161 #[.val (.int a), .val (.int b), .val (.int c), .val (.int len), .val (.int idx), .val (.int (3 : Int32)), .val (.ref b185), .val (.ref b192), .val (.int (0 : Int32)), .val (.int (pk a)), .val (.int (0 : Int32)), .val (.int (1 : Int32)), .val (.int (0 : Int32))] [] _
              refine XS.aload X195.here hx rfl (hb hby at_161) rfl rfl ?_
              show SS p e below T195 m 163 #[.val (.int a), .val (.int b), .val (.int c), .val (.int len), .val (.int idx), .val (.int (3 : Int32)), .val (.ref b185), .val (.ref b192), .val (.int (0 : Int32)), .val (.int (pk a)), .val (.int (0 : Int32)), .val (.int (1 : Int32)), .val (.int (0 : Int32))] [(.ref b192)] _
              refine XS.iload X195.here hx rfl (hb hby at_163) rfl ?_
              show SS p e below T195 m 165 #[.val (.int a), .val (.int b), .val (.int c), .val (.int len), .val (.int idx), .val (.int (3 : Int32)), .val (.ref b185), .val (.ref b192), .val (.int (0 : Int32)), .val (.int (pk a)), .val (.int (0 : Int32)), .val (.int (1 : Int32)), .val (.int (0 : Int32))] [(.int (0 : Int32)), (.ref b192)] _
              refine st215 _ ?_
              show SS p e below T215 m 168 #[.val (.int a), .val (.int b), .val (.int c), .val (.int len), .val (.int idx), .val (.int (3 : Int32)), .val (.ref b185), .val (.ref b192), .val (.int (0 : Int32)), .val (.int (pk a)), .val (.int (0 : Int32)), .val (.int (1 : Int32)), .val (.int (0 : Int32))] [(.int (el [(pk a), (pk b), (pk c)] 0))] _
              refine XS.iload X215.here hx rfl (hb hby at_168) rfl ?_
              show SS p e below T215 m 170 #[.val (.int a), .val (.int b), .val (.int c), .val (.int len), .val (.int idx), .val (.int (3 : Int32)), .val (.ref b185), .val (.ref b192), .val (.int (0 : Int32)), .val (.int (pk a)), .val (.int (0 : Int32)), .val (.int (1 : Int32)), .val (.int (0 : Int32))] [(.int (0 : Int32)), (.int (el [(pk a), (pk b), (pk c)] 0))] _
              refine XS.icmpNo X215.here hx rfl (hb hby at_170) rfl (teq (by simp [el, hc203, hc205, hc210])).2 ?_
              show SS p e below T215 m 173 #[.val (.int a), .val (.int b), .val (.int c), .val (.int len), .val (.int idx), .val (.int (3 : Int32)), .val (.ref b185), .val (.ref b192), .val (.int (0 : Int32)), .val (.int (pk a)), .val (.int (0 : Int32)), .val (.int (1 : Int32)), .val (.int (0 : Int32))] [] _
              refine XS.iconst X215.here hx rfl (hb hby at_173) ?_
              show SS p e below T215 m 174 #[.val (.int a), .val (.int b), .val (.int c), .val (.int len), .val (.int idx), .val (.int (3 : Int32)), .val (.ref b185), .val (.ref b192), .val (.int (0 : Int32)), .val (.int (pk a)), .val (.int (0 : Int32)), .val (.int (1 : Int32)), .val (.int (0 : Int32))] [(.int (1 : Int32))] _
              refine XS.goto X215.here hx rfl (pc0 := 174) (pc' := 178) rfl (hb hby at_174) (by decide) (by decide) ?_
              show SS p e below T215 m 178 #[.val (.int a), .val (.int b), .val (.int c), .val (.int len), .val (.int idx), .val (.int (3 : Int32)), .val (.ref b185), .val (.ref b192), .val (.int (0 : Int32)), .val (.int (pk a)), .val (.int (0 : Int32)), .val (.int (1 : Int32)), .val (.int (0 : Int32))] [(.int (1 : Int32))] _
              exact kt
            obtain ⟨fs, hr, hrun, hended, hW, hsame⟩ := X215.leave (v := some (.int (nar .boolean (1 : Int32)))) (fun h => by rw [Bd.returns] at h; cases h)
            refine ⟨_, _, W216 _ (retN X215 hx (t := .boolean) Bd.returns (by simp) (hb hby at_178) hr), hrun, hended, _, _, rfl, ?_, ⟨_, rfl⟩, hW, hsame.mono (by decide) (by decide)⟩
            show Q_law Z a b c len idx cS fm h0 n0 _ T215.heap _
            rw [eq215]
            exact ⟨rfl, N215, (Keep.trans (Keep.trans (Keep.trans (Keep.trans (Keep.trans (Keep.trans (Keep.refl h0 []) K185 all0) K187 (allS (Or.inr (Nat.le_of_eq g185.symm)) all0)) K189 (allS (Or.inr (Nat.le_of_eq g185.symm)) all0)) K191 (allS (Or.inr (Nat.le_of_eq g185.symm)) all0)) K192 all0) K195 (allS (Or.inr (Nat.le_trans (Nat.le_trans (Nat.le_trans (Nat.le_trans K185.1 K187.1) K189.1) K191.1) (Nat.le_of_eq g192.symm))) all0))⟩
      ·
        have W217 : ∀ zQ, SS p e below T195 m 127 #[.val (.int a), .val (.int b), .val (.int c), .val (.int len), .val (.int idx), .val (.int (3 : Int32)), .val (.ref b185), .val (.ref b192), .val (.int (0 : Int32)), .val (.int (pk a)), .val (.int (0 : Int32)), .val (.int (0 : Int32)), .unset] [(.int (10 : Int32)), (.int (pk a))] zQ → Steps p.tables e below (s₁.setTop (entryFrame m #[(.int a), (.int b), (.int c), (.int len), (.int idx)] maxLocals)) zQ := by
          intro tt kt
          refine W202 tt ?_
          refine XS.icmpYes X195.here hx rfl (pc0 := 113) (pc' := 120) rfl (hb hby at_113) rfl (feq hc203).2 (by decide) (by decide) ?_
          show SS p e below T195 m 120 #[.val (.int a), .val (.int b), .val (.int c), .val (.int len), .val (.int idx), .val (.int (3 : Int32)), .val (.ref b185), .val (.ref b192), .val (.int (0 : Int32)), .val (.int (pk a)), .val (.int (0 : Int32)), .val (.int (0 : Int32)), .unset] [] _
          refine XS.iconst X195.here hx rfl (hb hby at_120) ?_
          show SS p e below T195 m 121 #[.val (.int a), .val (.int b), .val (.int c), .val (.int len), .val (.int idx), .val (.int (3 : Int32)), .val (.ref b185), .val (.ref b192), .val (.int (0 : Int32)), .val (.int (pk a)), .val (.int (0 : Int32)), .val (.int (0 : Int32)), .unset] [(.int (0 : Int32))] _
          refine XS.istore X195.here hx rfl (hb hby at_121) rfl (l' := #[.val (.int a), .val (.int b), .val (.int c), .val (.int len), .val (.int idx), .val (.int (3 : Int32)), .val (.ref b185), .val (.ref b192), .val (.int (0 : Int32)), .val (.int (pk a)), .val (.int (0 : Int32)), .val (.int (0 : Int32)), .unset]) rfl ?_
          show SS p e below T195 m 123 #[.val (.int a), .val (.int b), .val (.int c), .val (.int len), .val (.int idx), .val (.int (3 : Int32)), .val (.ref b185), .val (.ref b192), .val (.int (0 : Int32)), .val (.int (pk a)), .val (.int (0 : Int32)), .val (.int (0 : Int32)), .unset] [] _
          refine XS.iload X195.here hx rfl (hb hby at_123) rfl ?_
          show SS p e below T195 m 125 #[.val (.int a), .val (.int b), .val (.int c), .val (.int len), .val (.int idx), .val (.int (3 : Int32)), .val (.ref b185), .val (.ref b192), .val (.int (0 : Int32)), .val (.int (pk a)), .val (.int (0 : Int32)), .val (.int (0 : Int32)), .unset] [(.int (pk a))] _
          refine XS.bipush X195.here hx rfl (hb hby at_125) ?_
          show SS p e below T195 m 127 #[.val (.int a), .val (.int b), .val (.int c), .val (.int len), .val (.int idx), .val (.int (3 : Int32)), .val (.ref b185), .val (.ref b192), .val (.int (0 : Int32)), .val (.int (pk a)), .val (.int (0 : Int32)), .val (.int (0 : Int32)), .unset] [(.int (10 : Int32)), (.int (pk a))] _
          exact kt
        by_cases hc218 : (pk a) = (10 : Int32)
        ·
          have O219 : Old Z n0 T195.heap := (O194.keep K195 (allS (Nat.le_trans Z0 (Nat.le_trans (Nat.le_trans (Nat.le_trans (Nat.le_trans K185.1 K187.1) K189.1) K191.1) (Nat.le_of_eq g192.symm))) all0))
          obtain ⟨_, _, ⟨T220, L220, k220, n220⟩, -, X220, ⟨Lc220, hQ220, l220, y220, z220⟩, st220⟩ := Jvm.LawKit.callS X195 hx (y := (⟨"com/example/vestline/vestline/input/TextFiles", "endsLine", "(Ljava/lang/String;I)Z"⟩ : MethodName)) hown (mvT hZ (w35 hw)) (mvT hZ (w36 hw)) (mvT hZ (w37 hw)) (mvT hZ (w38 hw)) (by decide) (backOf (W := 0) (rm_endsLine l Z a0 hw [] b192 0 t_196 kb_197 [(pk a), (pk b), (pk c)] cS fm T195.heap n0 (Nat.le_trans Z0 (Nat.le_trans (Nat.le_trans (Nat.le_trans (Nat.le_trans (Nat.le_trans K185.1 K187.1) K189.1) K191.1) K192.1) K195.1)) O219 S_cs hcS S_fm hfm S_ad S_hi S_lo P195_1 (Nat.le_of_ble_eq_true rfl)) hZ (w38 hw) (w37 hw) (by decide) (by decide)) (g := (mkF m 165 #[.val (.int a), .val (.int b), .val (.int c), .val (.int len), .val (.int idx), .val (.int (3 : Int32)), .val (.ref b185), .val (.ref b192), .val (.int (0 : Int32)), .val (.int (pk a)), .val (.int (0 : Int32)), .val (.int (0 : Int32)), .val (.int (1 : Int32))] [(.int (0 : Int32)), (.ref b192)])) rfl (by rw [hml]; rfl) (argsL := [(.ref b192), (.int (0 : Int32))]) (rest := []) (lenOf pd__28_Ljava_2f_lang_2f_String_3b_I_29_Z rfl) rfl (by show 2 * 0 + _ ≤ _; exact Nat.le_of_eq rfl) (hb hby at_165) (fun _ _ => ⟨rfl, rfl, (Nat.le_of_ble_eq_true rfl), (Nat.le_of_ble_eq_true rfl)⟩)
          dsimp only [Pt.U, Pt.locs, Pt.cells, Pt.slots] at X220 l220 y220 z220 st220 hQ220
          subst l220 y220 z220
          obtain ⟨rfl, Nq220, eq220⟩ := hQ220
          have N220 := Fr.app N195 Nq220
          have W221 : ∀ zQ, SS p e below T220 m 178 #[.val (.int a), .val (.int b), .val (.int c), .val (.int len), .val (.int idx), .val (.int (3 : Int32)), .val (.ref b185), .val (.ref b192), .val (.int (0 : Int32)), .val (.int (pk a)), .val (.int (0 : Int32)), .val (.int (0 : Int32)), .val (.int (1 : Int32))] [(.int (1 : Int32))] zQ → Steps p.tables e below (s₁.setTop (entryFrame m #[(.int a), (.int b), (.int c), (.int len), (.int idx)] maxLocals)) zQ := by
            intro tt kt
            refine W217 tt ?_
            refine XS.icmpNo X195.here hx rfl (hb hby at_127) rfl (teq hc218).2 ?_
            show SS p e below T195 m 130 #[.val (.int a), .val (.int b), .val (.int c), .val (.int len), .val (.int idx), .val (.int (3 : Int32)), .val (.ref b185), .val (.ref b192), .val (.int (0 : Int32)), .val (.int (pk a)), .val (.int (0 : Int32)), .val (.int (0 : Int32)), .unset] [] _
            refine XS.iconst X195.here hx rfl (hb hby at_130) ?_
            show SS p e below T195 m 131 #[.val (.int a), .val (.int b), .val (.int c), .val (.int len), .val (.int idx), .val (.int (3 : Int32)), .val (.ref b185), .val (.ref b192), .val (.int (0 : Int32)), .val (.int (pk a)), .val (.int (0 : Int32)), .val (.int (0 : Int32)), .unset] [(.int (1 : Int32))] _
            refine XS.istore X195.here hx rfl (hb hby at_131) rfl (l' := #[.val (.int a), .val (.int b), .val (.int c), .val (.int len), .val (.int idx), .val (.int (3 : Int32)), .val (.ref b185), .val (.ref b192), .val (.int (0 : Int32)), .val (.int (pk a)), .val (.int (0 : Int32)), .val (.int (0 : Int32)), .val (.int (1 : Int32))]) rfl ?_
            show SS p e below T195 m 133 #[.val (.int a), .val (.int b), .val (.int c), .val (.int len), .val (.int idx), .val (.int (3 : Int32)), .val (.ref b185), .val (.ref b192), .val (.int (0 : Int32)), .val (.int (pk a)), .val (.int (0 : Int32)), .val (.int (0 : Int32)), .val (.int (1 : Int32))] [] _
            refine XS.goto X195.here hx rfl (pc0 := 133) (pc' := 161) rfl (hb hby at_133) (by decide) (by decide) ?_
            show SS p e below T195 m 161 #[.val (.int a), .val (.int b), .val (.int c), .val (.int len), .val (.int idx), .val (.int (3 : Int32)), .val (.ref b185), .val (.ref b192), .val (.int (0 : Int32)), .val (.int (pk a)), .val (.int (0 : Int32)), .val (.int (0 : Int32)), .val (.int (1 : Int32))] [] _
            refine XS.aload X195.here hx rfl (hb hby at_161) rfl rfl ?_
            show SS p e below T195 m 163 #[.val (.int a), .val (.int b), .val (.int c), .val (.int len), .val (.int idx), .val (.int (3 : Int32)), .val (.ref b185), .val (.ref b192), .val (.int (0 : Int32)), .val (.int (pk a)), .val (.int (0 : Int32)), .val (.int (0 : Int32)), .val (.int (1 : Int32))] [(.ref b192)] _
            refine XS.iload X195.here hx rfl (hb hby at_163) rfl ?_
            show SS p e below T195 m 165 #[.val (.int a), .val (.int b), .val (.int c), .val (.int len), .val (.int idx), .val (.int (3 : Int32)), .val (.ref b185), .val (.ref b192), .val (.int (0 : Int32)), .val (.int (pk a)), .val (.int (0 : Int32)), .val (.int (0 : Int32)), .val (.int (1 : Int32))] [(.int (0 : Int32)), (.ref b192)] _
            refine st220 _ ?_
            show SS p e below T220 m 168 #[.val (.int a), .val (.int b), .val (.int c), .val (.int len), .val (.int idx), .val (.int (3 : Int32)), .val (.ref b185), .val (.ref b192), .val (.int (0 : Int32)), .val (.int (pk a)), .val (.int (0 : Int32)), .val (.int (0 : Int32)), .val (.int (1 : Int32))] [(.int (el [(pk a), (pk b), (pk c)] 0))] _
            refine XS.iload X220.here hx rfl (hb hby at_168) rfl ?_
            show SS p e below T220 m 170 #[.val (.int a), .val (.int b), .val (.int c), .val (.int len), .val (.int idx), .val (.int (3 : Int32)), .val (.ref b185), .val (.ref b192), .val (.int (0 : Int32)), .val (.int (pk a)), .val (.int (0 : Int32)), .val (.int (0 : Int32)), .val (.int (1 : Int32))] [(.int (1 : Int32)), (.int (el [(pk a), (pk b), (pk c)] 0))] _
            refine XS.icmpNo X220.here hx rfl (hb hby at_170) rfl (teq (by simp [el, hc203, hc218])).2 ?_
            show SS p e below T220 m 173 #[.val (.int a), .val (.int b), .val (.int c), .val (.int len), .val (.int idx), .val (.int (3 : Int32)), .val (.ref b185), .val (.ref b192), .val (.int (0 : Int32)), .val (.int (pk a)), .val (.int (0 : Int32)), .val (.int (0 : Int32)), .val (.int (1 : Int32))] [] _
            refine XS.iconst X220.here hx rfl (hb hby at_173) ?_
            show SS p e below T220 m 174 #[.val (.int a), .val (.int b), .val (.int c), .val (.int len), .val (.int idx), .val (.int (3 : Int32)), .val (.ref b185), .val (.ref b192), .val (.int (0 : Int32)), .val (.int (pk a)), .val (.int (0 : Int32)), .val (.int (0 : Int32)), .val (.int (1 : Int32))] [(.int (1 : Int32))] _
            refine XS.goto X220.here hx rfl (pc0 := 174) (pc' := 178) rfl (hb hby at_174) (by decide) (by decide) ?_
            show SS p e below T220 m 178 #[.val (.int a), .val (.int b), .val (.int c), .val (.int len), .val (.int idx), .val (.int (3 : Int32)), .val (.ref b185), .val (.ref b192), .val (.int (0 : Int32)), .val (.int (pk a)), .val (.int (0 : Int32)), .val (.int (0 : Int32)), .val (.int (1 : Int32))] [(.int (1 : Int32))] _
            exact kt
          obtain ⟨fs, hr, hrun, hended, hW, hsame⟩ := X220.leave (v := some (.int (nar .boolean (1 : Int32)))) (fun h => by rw [Bd.returns] at h; cases h)
          refine ⟨_, _, W221 _ (retN X220 hx (t := .boolean) Bd.returns (by simp) (hb hby at_178) hr), hrun, hended, _, _, rfl, ?_, ⟨_, rfl⟩, hW, hsame.mono (by decide) (by decide)⟩
          show Q_law Z a b c len idx cS fm h0 n0 _ T220.heap _
          rw [eq220]
          exact ⟨rfl, N220, (Keep.trans (Keep.trans (Keep.trans (Keep.trans (Keep.trans (Keep.trans (Keep.refl h0 []) K185 all0) K187 (allS (Or.inr (Nat.le_of_eq g185.symm)) all0)) K189 (allS (Or.inr (Nat.le_of_eq g185.symm)) all0)) K191 (allS (Or.inr (Nat.le_of_eq g185.symm)) all0)) K192 all0) K195 (allS (Or.inr (Nat.le_trans (Nat.le_trans (Nat.le_trans (Nat.le_trans K185.1 K187.1) K189.1) K191.1) (Nat.le_of_eq g192.symm))) all0))⟩
        ·
          have W222 : ∀ zQ, SS p e below T195 m 140 #[.val (.int a), .val (.int b), .val (.int c), .val (.int len), .val (.int idx), .val (.int (3 : Int32)), .val (.ref b185), .val (.ref b192), .val (.int (0 : Int32)), .val (.int (pk a)), .val (.int (0 : Int32)), .val (.int (0 : Int32)), .unset] [(.int (13 : Int32)), (.int (pk a))] zQ → Steps p.tables e below (s₁.setTop (entryFrame m #[(.int a), (.int b), (.int c), (.int len), (.int idx)] maxLocals)) zQ := by
            intro tt kt
            refine W217 tt ?_
            refine XS.icmpYes X195.here hx rfl (pc0 := 127) (pc' := 136) rfl (hb hby at_127) rfl (feq hc218).2 (by decide) (by decide) ?_
            show SS p e below T195 m 136 #[.val (.int a), .val (.int b), .val (.int c), .val (.int len), .val (.int idx), .val (.int (3 : Int32)), .val (.ref b185), .val (.ref b192), .val (.int (0 : Int32)), .val (.int (pk a)), .val (.int (0 : Int32)), .val (.int (0 : Int32)), .unset] [] _
            refine XS.iload X195.here hx rfl (hb hby at_136) rfl ?_
            show SS p e below T195 m 138 #[.val (.int a), .val (.int b), .val (.int c), .val (.int len), .val (.int idx), .val (.int (3 : Int32)), .val (.ref b185), .val (.ref b192), .val (.int (0 : Int32)), .val (.int (pk a)), .val (.int (0 : Int32)), .val (.int (0 : Int32)), .unset] [(.int (pk a))] _
            refine XS.bipush X195.here hx rfl (hb hby at_138) ?_
            show SS p e below T195 m 140 #[.val (.int a), .val (.int b), .val (.int c), .val (.int len), .val (.int idx), .val (.int (3 : Int32)), .val (.ref b185), .val (.ref b192), .val (.int (0 : Int32)), .val (.int (pk a)), .val (.int (0 : Int32)), .val (.int (0 : Int32)), .unset] [(.int (13 : Int32)), (.int (pk a))] _
            exact kt
          by_cases hc223 : (pk a) = (13 : Int32)
          ·
            have O224 : Old Z n0 T195.heap := (O194.keep K195 (allS (Nat.le_trans Z0 (Nat.le_trans (Nat.le_trans (Nat.le_trans (Nat.le_trans K185.1 K187.1) K189.1) K191.1) (Nat.le_of_eq g192.symm))) all0))
            obtain ⟨_, _, ⟨T225, L225, k225, n225⟩, -, X225, ⟨Lc225, hQ225, l225, y225, z225⟩, st225⟩ := Jvm.LawKit.callS X195 hx (y := (⟨"com/example/vestline/vestline/input/TextFiles", "endsLine", "(Ljava/lang/String;I)Z"⟩ : MethodName)) hown (mvT hZ (w35 hw)) (mvT hZ (w36 hw)) (mvT hZ (w37 hw)) (mvT hZ (w38 hw)) (by decide) (backOf (W := 0) (rm_endsLine l Z a0 hw [] b192 0 t_196 kb_197 [(pk a), (pk b), (pk c)] cS fm T195.heap n0 (Nat.le_trans Z0 (Nat.le_trans (Nat.le_trans (Nat.le_trans (Nat.le_trans (Nat.le_trans K185.1 K187.1) K189.1) K191.1) K192.1) K195.1)) O224 S_cs hcS S_fm hfm S_ad S_hi S_lo P195_1 (Nat.le_of_ble_eq_true rfl)) hZ (w38 hw) (w37 hw) (by decide) (by decide)) (g := (mkF m 165 #[.val (.int a), .val (.int b), .val (.int c), .val (.int len), .val (.int idx), .val (.int (3 : Int32)), .val (.ref b185), .val (.ref b192), .val (.int (0 : Int32)), .val (.int (pk a)), .val (.int (0 : Int32)), .val (.int (0 : Int32)), .val (.int (1 : Int32))] [(.int (0 : Int32)), (.ref b192)])) rfl (by rw [hml]; rfl) (argsL := [(.ref b192), (.int (0 : Int32))]) (rest := []) (lenOf pd__28_Ljava_2f_lang_2f_String_3b_I_29_Z rfl) rfl (by show 2 * 0 + _ ≤ _; exact Nat.le_of_eq rfl) (hb hby at_165) (fun _ _ => ⟨rfl, rfl, (Nat.le_of_ble_eq_true rfl), (Nat.le_of_ble_eq_true rfl)⟩)
            dsimp only [Pt.U, Pt.locs, Pt.cells, Pt.slots] at X225 l225 y225 z225 st225 hQ225
            subst l225 y225 z225
            obtain ⟨rfl, Nq225, eq225⟩ := hQ225
            have N225 := Fr.app N195 Nq225
            have W226 : ∀ zQ, SS p e below T225 m 178 #[.val (.int a), .val (.int b), .val (.int c), .val (.int len), .val (.int idx), .val (.int (3 : Int32)), .val (.ref b185), .val (.ref b192), .val (.int (0 : Int32)), .val (.int (pk a)), .val (.int (0 : Int32)), .val (.int (0 : Int32)), .val (.int (1 : Int32))] [(.int (1 : Int32))] zQ → Steps p.tables e below (s₁.setTop (entryFrame m #[(.int a), (.int b), (.int c), (.int len), (.int idx)] maxLocals)) zQ := by
              intro tt kt
              refine W222 tt ?_
              refine XS.icmpNo X195.here hx rfl (hb hby at_140) rfl (teq hc223).2 ?_
              show SS p e below T195 m 143 #[.val (.int a), .val (.int b), .val (.int c), .val (.int len), .val (.int idx), .val (.int (3 : Int32)), .val (.ref b185), .val (.ref b192), .val (.int (0 : Int32)), .val (.int (pk a)), .val (.int (0 : Int32)), .val (.int (0 : Int32)), .unset] [] _
              refine XS.iload X195.here hx rfl (hb hby at_143) rfl ?_
              show SS p e below T195 m 145 #[.val (.int a), .val (.int b), .val (.int c), .val (.int len), .val (.int idx), .val (.int (3 : Int32)), .val (.ref b185), .val (.ref b192), .val (.int (0 : Int32)), .val (.int (pk a)), .val (.int (0 : Int32)), .val (.int (0 : Int32)), .unset] [(.int (0 : Int32))] _
              refine XS.ifNo X195.here hx rfl (hb hby at_145) rfl ((if0 _ _).trans (teq (by decide)).2) ?_
              show SS p e below T195 m 148 #[.val (.int a), .val (.int b), .val (.int c), .val (.int len), .val (.int idx), .val (.int (3 : Int32)), .val (.ref b185), .val (.ref b192), .val (.int (0 : Int32)), .val (.int (pk a)), .val (.int (0 : Int32)), .val (.int (0 : Int32)), .unset] [] _
              refine XS.iconst X195.here hx rfl (hb hby at_148) ?_
              show SS p e below T195 m 149 #[.val (.int a), .val (.int b), .val (.int c), .val (.int len), .val (.int idx), .val (.int (3 : Int32)), .val (.ref b185), .val (.ref b192), .val (.int (0 : Int32)), .val (.int (pk a)), .val (.int (0 : Int32)), .val (.int (0 : Int32)), .unset] [(.int (1 : Int32))] _
              refine XS.goto X195.here hx rfl (pc0 := 149) (pc' := 153) rfl (hb hby at_149) (by decide) (by decide) ?_
              show SS p e below T195 m 153 #[.val (.int a), .val (.int b), .val (.int c), .val (.int len), .val (.int idx), .val (.int (3 : Int32)), .val (.ref b185), .val (.ref b192), .val (.int (0 : Int32)), .val (.int (pk a)), .val (.int (0 : Int32)), .val (.int (0 : Int32)), .unset] [(.int (1 : Int32))] _
              refine XS.istore X195.here hx rfl (hb hby at_153) rfl (l' := #[.val (.int a), .val (.int b), .val (.int c), .val (.int len), .val (.int idx), .val (.int (3 : Int32)), .val (.ref b185), .val (.ref b192), .val (.int (0 : Int32)), .val (.int (pk a)), .val (.int (0 : Int32)), .val (.int (0 : Int32)), .val (.int (1 : Int32))]) rfl ?_
              show SS p e below T195 m 155 #[.val (.int a), .val (.int b), .val (.int c), .val (.int len), .val (.int idx), .val (.int (3 : Int32)), .val (.ref b185), .val (.ref b192), .val (.int (0 : Int32)), .val (.int (pk a)), .val (.int (0 : Int32)), .val (.int (0 : Int32)), .val (.int (1 : Int32))] [] _
              refine XS.goto X195.here hx rfl (pc0 := 155) (pc' := 161) rfl (hb hby at_155) (by decide) (by decide) ?_
              show SS p e below T195 m 161 #[.val (.int a), .val (.int b), .val (.int c), .val (.int len), .val (.int idx), .val (.int (3 : Int32)), .val (.ref b185), .val (.ref b192), .val (.int (0 : Int32)), .val (.int (pk a)), .val (.int (0 : Int32)), .val (.int (0 : Int32)), .val (.int (1 : Int32))] [] _
              refine XS.aload X195.here hx rfl (hb hby at_161) rfl rfl ?_
              show SS p e below T195 m 163 #[.val (.int a), .val (.int b), .val (.int c), .val (.int len), .val (.int idx), .val (.int (3 : Int32)), .val (.ref b185), .val (.ref b192), .val (.int (0 : Int32)), .val (.int (pk a)), .val (.int (0 : Int32)), .val (.int (0 : Int32)), .val (.int (1 : Int32))] [(.ref b192)] _
              refine XS.iload X195.here hx rfl (hb hby at_163) rfl ?_
              show SS p e below T195 m 165 #[.val (.int a), .val (.int b), .val (.int c), .val (.int len), .val (.int idx), .val (.int (3 : Int32)), .val (.ref b185), .val (.ref b192), .val (.int (0 : Int32)), .val (.int (pk a)), .val (.int (0 : Int32)), .val (.int (0 : Int32)), .val (.int (1 : Int32))] [(.int (0 : Int32)), (.ref b192)] _
              refine st225 _ ?_
              show SS p e below T225 m 168 #[.val (.int a), .val (.int b), .val (.int c), .val (.int len), .val (.int idx), .val (.int (3 : Int32)), .val (.ref b185), .val (.ref b192), .val (.int (0 : Int32)), .val (.int (pk a)), .val (.int (0 : Int32)), .val (.int (0 : Int32)), .val (.int (1 : Int32))] [(.int (el [(pk a), (pk b), (pk c)] 0))] _
              refine XS.iload X225.here hx rfl (hb hby at_168) rfl ?_
              show SS p e below T225 m 170 #[.val (.int a), .val (.int b), .val (.int c), .val (.int len), .val (.int idx), .val (.int (3 : Int32)), .val (.ref b185), .val (.ref b192), .val (.int (0 : Int32)), .val (.int (pk a)), .val (.int (0 : Int32)), .val (.int (0 : Int32)), .val (.int (1 : Int32))] [(.int (1 : Int32)), (.int (el [(pk a), (pk b), (pk c)] 0))] _
              refine XS.icmpNo X225.here hx rfl (hb hby at_170) rfl (teq (by simp [el, hc203, hc218, hc223])).2 ?_
              show SS p e below T225 m 173 #[.val (.int a), .val (.int b), .val (.int c), .val (.int len), .val (.int idx), .val (.int (3 : Int32)), .val (.ref b185), .val (.ref b192), .val (.int (0 : Int32)), .val (.int (pk a)), .val (.int (0 : Int32)), .val (.int (0 : Int32)), .val (.int (1 : Int32))] [] _
              refine XS.iconst X225.here hx rfl (hb hby at_173) ?_
              show SS p e below T225 m 174 #[.val (.int a), .val (.int b), .val (.int c), .val (.int len), .val (.int idx), .val (.int (3 : Int32)), .val (.ref b185), .val (.ref b192), .val (.int (0 : Int32)), .val (.int (pk a)), .val (.int (0 : Int32)), .val (.int (0 : Int32)), .val (.int (1 : Int32))] [(.int (1 : Int32))] _
              refine XS.goto X225.here hx rfl (pc0 := 174) (pc' := 178) rfl (hb hby at_174) (by decide) (by decide) ?_
              show SS p e below T225 m 178 #[.val (.int a), .val (.int b), .val (.int c), .val (.int len), .val (.int idx), .val (.int (3 : Int32)), .val (.ref b185), .val (.ref b192), .val (.int (0 : Int32)), .val (.int (pk a)), .val (.int (0 : Int32)), .val (.int (0 : Int32)), .val (.int (1 : Int32))] [(.int (1 : Int32))] _
              exact kt
            obtain ⟨fs, hr, hrun, hended, hW, hsame⟩ := X225.leave (v := some (.int (nar .boolean (1 : Int32)))) (fun h => by rw [Bd.returns] at h; cases h)
            refine ⟨_, _, W226 _ (retN X225 hx (t := .boolean) Bd.returns (by simp) (hb hby at_178) hr), hrun, hended, _, _, rfl, ?_, ⟨_, rfl⟩, hW, hsame.mono (by decide) (by decide)⟩
            show Q_law Z a b c len idx cS fm h0 n0 _ T225.heap _
            rw [eq225]
            exact ⟨rfl, N225, (Keep.trans (Keep.trans (Keep.trans (Keep.trans (Keep.trans (Keep.trans (Keep.refl h0 []) K185 all0) K187 (allS (Or.inr (Nat.le_of_eq g185.symm)) all0)) K189 (allS (Or.inr (Nat.le_of_eq g185.symm)) all0)) K191 (allS (Or.inr (Nat.le_of_eq g185.symm)) all0)) K192 all0) K195 (allS (Or.inr (Nat.le_trans (Nat.le_trans (Nat.le_trans (Nat.le_trans K185.1 K187.1) K189.1) K191.1) (Nat.le_of_eq g192.symm))) all0))⟩
          ·
            have O227 : Old Z n0 T195.heap := (O194.keep K195 (allS (Nat.le_trans Z0 (Nat.le_trans (Nat.le_trans (Nat.le_trans (Nat.le_trans K185.1 K187.1) K189.1) K191.1) (Nat.le_of_eq g192.symm))) all0))
            obtain ⟨_, _, ⟨T228, L228, k228, n228⟩, -, X228, ⟨Lc228, hQ228, l228, y228, z228⟩, st228⟩ := Jvm.LawKit.callS X195 hx (y := (⟨"com/example/vestline/vestline/input/TextFiles", "endsLine", "(Ljava/lang/String;I)Z"⟩ : MethodName)) hown (mvT hZ (w35 hw)) (mvT hZ (w36 hw)) (mvT hZ (w37 hw)) (mvT hZ (w38 hw)) (by decide) (backOf (W := 0) (rm_endsLine l Z a0 hw [] b192 0 t_196 kb_197 [(pk a), (pk b), (pk c)] cS fm T195.heap n0 (Nat.le_trans Z0 (Nat.le_trans (Nat.le_trans (Nat.le_trans (Nat.le_trans (Nat.le_trans K185.1 K187.1) K189.1) K191.1) K192.1) K195.1)) O227 S_cs hcS S_fm hfm S_ad S_hi S_lo P195_1 (Nat.le_of_ble_eq_true rfl)) hZ (w38 hw) (w37 hw) (by decide) (by decide)) (g := (mkF m 165 #[.val (.int a), .val (.int b), .val (.int c), .val (.int len), .val (.int idx), .val (.int (3 : Int32)), .val (.ref b185), .val (.ref b192), .val (.int (0 : Int32)), .val (.int (pk a)), .val (.int (0 : Int32)), .val (.int (0 : Int32)), .val (.int (0 : Int32))] [(.int (0 : Int32)), (.ref b192)])) rfl (by rw [hml]; rfl) (argsL := [(.ref b192), (.int (0 : Int32))]) (rest := []) (lenOf pd__28_Ljava_2f_lang_2f_String_3b_I_29_Z rfl) rfl (by show 2 * 0 + _ ≤ _; exact Nat.le_of_eq rfl) (hb hby at_165) (fun _ _ => ⟨rfl, rfl, (Nat.le_of_ble_eq_true rfl), (Nat.le_of_ble_eq_true rfl)⟩)
            dsimp only [Pt.U, Pt.locs, Pt.cells, Pt.slots] at X228 l228 y228 z228 st228 hQ228
            subst l228 y228 z228
            obtain ⟨rfl, Nq228, eq228⟩ := hQ228
            have N228 := Fr.app N195 Nq228
            have W229 : ∀ zQ, SS p e below T228 m 178 #[.val (.int a), .val (.int b), .val (.int c), .val (.int len), .val (.int idx), .val (.int (3 : Int32)), .val (.ref b185), .val (.ref b192), .val (.int (0 : Int32)), .val (.int (pk a)), .val (.int (0 : Int32)), .val (.int (0 : Int32)), .val (.int (0 : Int32))] [(.int (1 : Int32))] zQ → Steps p.tables e below (s₁.setTop (entryFrame m #[(.int a), (.int b), (.int c), (.int len), (.int idx)] maxLocals)) zQ := by
              intro tt kt
              refine W222 tt ?_
              refine XS.icmpYes X195.here hx rfl (pc0 := 140) (pc' := 158) rfl (hb hby at_140) rfl (feq hc223).2 (by decide) (by decide) ?_
              show SS p e below T195 m 158 #[.val (.int a), .val (.int b), .val (.int c), .val (.int len), .val (.int idx), .val (.int (3 : Int32)), .val (.ref b185), .val (.ref b192), .val (.int (0 : Int32)), .val (.int (pk a)), .val (.int (0 : Int32)), .val (.int (0 : Int32)), .unset] [] _
              refine XS.iconst X195.here hx rfl (hb hby at_158) ?_
              show SS p e below T195 m 159 #[.val (.int a), .val (.int b), .val (.int c), .val (.int len), .val (.int idx), .val (.int (3 : Int32)), .val (.ref b185), .val (.ref b192), .val (.int (0 : Int32)), .val (.int (pk a)), .val (.int (0 : Int32)), .val (.int (0 : Int32)), .unset] [(.int (0 : Int32))] _
              refine XS.istore X195.here hx rfl (hb hby at_159) rfl (l' := #[.val (.int a), .val (.int b), .val (.int c), .val (.int len), .val (.int idx), .val (.int (3 : Int32)), .val (.ref b185), .val (.ref b192), .val (.int (0 : Int32)), .val (.int (pk a)), .val (.int (0 : Int32)), .val (.int (0 : Int32)), .val (.int (0 : Int32))]) rfl ?_
              show SS p e below T195 m 161 #[.val (.int a), .val (.int b), .val (.int c), .val (.int len), .val (.int idx), .val (.int (3 : Int32)), .val (.ref b185), .val (.ref b192), .val (.int (0 : Int32)), .val (.int (pk a)), .val (.int (0 : Int32)), .val (.int (0 : Int32)), .val (.int (0 : Int32))] [] _
              refine XS.aload X195.here hx rfl (hb hby at_161) rfl rfl ?_
              show SS p e below T195 m 163 #[.val (.int a), .val (.int b), .val (.int c), .val (.int len), .val (.int idx), .val (.int (3 : Int32)), .val (.ref b185), .val (.ref b192), .val (.int (0 : Int32)), .val (.int (pk a)), .val (.int (0 : Int32)), .val (.int (0 : Int32)), .val (.int (0 : Int32))] [(.ref b192)] _
              refine XS.iload X195.here hx rfl (hb hby at_163) rfl ?_
              show SS p e below T195 m 165 #[.val (.int a), .val (.int b), .val (.int c), .val (.int len), .val (.int idx), .val (.int (3 : Int32)), .val (.ref b185), .val (.ref b192), .val (.int (0 : Int32)), .val (.int (pk a)), .val (.int (0 : Int32)), .val (.int (0 : Int32)), .val (.int (0 : Int32))] [(.int (0 : Int32)), (.ref b192)] _
              refine st228 _ ?_
              show SS p e below T228 m 168 #[.val (.int a), .val (.int b), .val (.int c), .val (.int len), .val (.int idx), .val (.int (3 : Int32)), .val (.ref b185), .val (.ref b192), .val (.int (0 : Int32)), .val (.int (pk a)), .val (.int (0 : Int32)), .val (.int (0 : Int32)), .val (.int (0 : Int32))] [(.int (el [(pk a), (pk b), (pk c)] 0))] _
              refine XS.iload X228.here hx rfl (hb hby at_168) rfl ?_
              show SS p e below T228 m 170 #[.val (.int a), .val (.int b), .val (.int c), .val (.int len), .val (.int idx), .val (.int (3 : Int32)), .val (.ref b185), .val (.ref b192), .val (.int (0 : Int32)), .val (.int (pk a)), .val (.int (0 : Int32)), .val (.int (0 : Int32)), .val (.int (0 : Int32))] [(.int (0 : Int32)), (.int (el [(pk a), (pk b), (pk c)] 0))] _
              refine XS.icmpNo X228.here hx rfl (hb hby at_170) rfl (teq (by simp [el, hc203, hc218, hc223])).2 ?_
              show SS p e below T228 m 173 #[.val (.int a), .val (.int b), .val (.int c), .val (.int len), .val (.int idx), .val (.int (3 : Int32)), .val (.ref b185), .val (.ref b192), .val (.int (0 : Int32)), .val (.int (pk a)), .val (.int (0 : Int32)), .val (.int (0 : Int32)), .val (.int (0 : Int32))] [] _
              refine XS.iconst X228.here hx rfl (hb hby at_173) ?_
              show SS p e below T228 m 174 #[.val (.int a), .val (.int b), .val (.int c), .val (.int len), .val (.int idx), .val (.int (3 : Int32)), .val (.ref b185), .val (.ref b192), .val (.int (0 : Int32)), .val (.int (pk a)), .val (.int (0 : Int32)), .val (.int (0 : Int32)), .val (.int (0 : Int32))] [(.int (1 : Int32))] _
              refine XS.goto X228.here hx rfl (pc0 := 174) (pc' := 178) rfl (hb hby at_174) (by decide) (by decide) ?_
              show SS p e below T228 m 178 #[.val (.int a), .val (.int b), .val (.int c), .val (.int len), .val (.int idx), .val (.int (3 : Int32)), .val (.ref b185), .val (.ref b192), .val (.int (0 : Int32)), .val (.int (pk a)), .val (.int (0 : Int32)), .val (.int (0 : Int32)), .val (.int (0 : Int32))] [(.int (1 : Int32))] _
              exact kt
            obtain ⟨fs, hr, hrun, hended, hW, hsame⟩ := X228.leave (v := some (.int (nar .boolean (1 : Int32)))) (fun h => by rw [Bd.returns] at h; cases h)
            refine ⟨_, _, W229 _ (retN X228 hx (t := .boolean) Bd.returns (by simp) (hb hby at_178) hr), hrun, hended, _, _, rfl, ?_, ⟨_, rfl⟩, hW, hsame.mono (by decide) (by decide)⟩
            show Q_law Z a b c len idx cS fm h0 n0 _ T228.heap _
            rw [eq228]
            exact ⟨rfl, N228, (Keep.trans (Keep.trans (Keep.trans (Keep.trans (Keep.trans (Keep.trans (Keep.refl h0 []) K185 all0) K187 (allS (Or.inr (Nat.le_of_eq g185.symm)) all0)) K189 (allS (Or.inr (Nat.le_of_eq g185.symm)) all0)) K191 (allS (Or.inr (Nat.le_of_eq g185.symm)) all0)) K192 all0) K195 (allS (Or.inr (Nat.le_trans (Nat.le_trans (Nat.le_trans (Nat.le_trans K185.1 K187.1) K189.1) K191.1) (Nat.le_of_eq g192.symm))) all0))⟩
    ·
      have F230 : Arv Z T195.heap b185 k185 .char (3 : Int32) [(.int (pk a)), (.int (pk b)), (.int (pk c))] (.int (0 : Int32)) := (F193.keep K195 (ninS (Nat.ne_of_lt (Nat.lt_of_lt_of_le (Nat.lt_of_lt_of_le G185.lt (Nat.le_trans (Nat.le_trans K187.1 K189.1) K191.1)) (Nat.le_of_eq g192.symm))) nin0))
      obtain ⟨cl231, Ar231, q231, S231, M231, H231, F231g⟩ := id F230
      have hin231 : ¬ ((1 : Int32) < 0 ∨ cl231.slots.size ≤ ((1 : Int32)).toNatClampNeg) := inb_of S231 ⟨by decide, by decide⟩
      have hat231 : cl231.slots[((1 : Int32)).toNatClampNeg]? = some (.int (pk b)) := Has.at H231 hin231 rfl
      obtain ⟨cl232, Ar232, q232, S232, M232, H232, F232g⟩ := id F230
      have hin232 : ¬ ((2 : Int32) < 0 ∨ cl232.slots.size ≤ ((2 : Int32)).toNatClampNeg) := inb_of S232 ⟨by decide, by decide⟩
      have hat232 : cl232.slots[((2 : Int32)).toNatClampNeg]? = some (.int (pk c)) := Has.at H232 hin232 rfl
      have W233 : ∀ zQ, SS p e below T195 m 113 #[.val (.int a), .val (.int b), .val (.int c), .val (.int len), .val (.int idx), .val (.int (3 : Int32)), .val (.ref b185), .val (.ref b192), .val (.int (1 : Int32)), .val (.int (pk b)), .val (.int (0 : Int32)), .val (.int (0 : Int32)), .unset] [(.int (10 : Int32)), (.int (pk c))] zQ → Steps p.tables e below (s₁.setTop (entryFrame m #[(.int a), (.int b), (.int c), (.int len), (.int idx)] maxLocals)) zQ := by
        intro tt kt
        refine W198 tt ?_
        refine XS.istore X195.here hx rfl (hb hby at_71) rfl (l' := #[.val (.int a), .val (.int b), .val (.int c), .val (.int len), .val (.int idx), .val (.int (3 : Int32)), .val (.ref b185), .val (.ref b192), .val (.int (1 : Int32)), .unset, .unset, .unset, .unset]) rfl ?_
        show SS p e below T195 m 73 #[.val (.int a), .val (.int b), .val (.int c), .val (.int len), .val (.int idx), .val (.int (3 : Int32)), .val (.ref b185), .val (.ref b192), .val (.int (1 : Int32)), .unset, .unset, .unset, .unset] [] _
        refine XS.aload X195.here hx rfl (hb hby at_73) rfl rfl ?_
        show SS p e below T195 m 75 #[.val (.int a), .val (.int b), .val (.int c), .val (.int len), .val (.int idx), .val (.int (3 : Int32)), .val (.ref b185), .val (.ref b192), .val (.int (1 : Int32)), .unset, .unset, .unset, .unset] [(.ref b185)] _
        refine XS.iload X195.here hx rfl (hb hby at_75) rfl ?_
        show SS p e below T195 m 77 #[.val (.int a), .val (.int b), .val (.int c), .val (.int len), .val (.int idx), .val (.int (3 : Int32)), .val (.ref b185), .val (.ref b192), .val (.int (1 : Int32)), .unset, .unset, .unset, .unset] [(.int (1 : Int32)), (.ref b185)] _
        refine X195.caload hx (j := (1 : Int32)) (v := (.int (pk b))) (by first | exact Ar231.1 | (rw [rfl]; exact Ar231.1)) (State.isArrayOf_alike hZ.alike Ar231.2.1) Ar231.2.2 hin231 hat231 (g := (mkF m 77 #[.val (.int a), .val (.int b), .val (.int c), .val (.int len), .val (.int idx), .val (.int (3 : Int32)), .val (.ref b185), .val (.ref b192), .val (.int (1 : Int32)), .unset, .unset, .unset, .unset] [(.int (1 : Int32)), (.ref b185)])) rfl rfl (hb hby at_77) _ ?_
        show SS p e below T195 m 78 #[.val (.int a), .val (.int b), .val (.int c), .val (.int len), .val (.int idx), .val (.int (3 : Int32)), .val (.ref b185), .val (.ref b192), .val (.int (1 : Int32)), .unset, .unset, .unset, .unset] [(.int (pk b))] _
        refine XS.istore X195.here hx rfl (hb hby at_78) rfl (l' := #[.val (.int a), .val (.int b), .val (.int c), .val (.int len), .val (.int idx), .val (.int (3 : Int32)), .val (.ref b185), .val (.ref b192), .val (.int (1 : Int32)), .val (.int (pk b)), .unset, .unset, .unset]) rfl ?_
        show SS p e below T195 m 80 #[.val (.int a), .val (.int b), .val (.int c), .val (.int len), .val (.int idx), .val (.int (3 : Int32)), .val (.ref b185), .val (.ref b192), .val (.int (1 : Int32)), .val (.int (pk b)), .unset, .unset, .unset] [] _
        refine XS.iload X195.here hx rfl (hb hby at_80) rfl ?_
        show SS p e below T195 m 82 #[.val (.int a), .val (.int b), .val (.int c), .val (.int len), .val (.int idx), .val (.int (3 : Int32)), .val (.ref b185), .val (.ref b192), .val (.int (1 : Int32)), .val (.int (pk b)), .unset, .unset, .unset] [(.int (1 : Int32))] _
        refine XS.iload X195.here hx rfl (hb hby at_82) rfl ?_
        show SS p e below T195 m 84 #[.val (.int a), .val (.int b), .val (.int c), .val (.int len), .val (.int idx), .val (.int (3 : Int32)), .val (.ref b185), .val (.ref b192), .val (.int (1 : Int32)), .val (.int (pk b)), .unset, .unset, .unset] [(.int (3 : Int32)), (.int (1 : Int32))] _
        refine XS.iconst X195.here hx rfl (hb hby at_84) ?_
        show SS p e below T195 m 85 #[.val (.int a), .val (.int b), .val (.int c), .val (.int len), .val (.int idx), .val (.int (3 : Int32)), .val (.ref b185), .val (.ref b192), .val (.int (1 : Int32)), .val (.int (pk b)), .unset, .unset, .unset] [(.int (1 : Int32)), (.int (3 : Int32)), (.int (1 : Int32))] _
        refine XS.isub X195.here hx rfl (hb hby at_85) rfl ?_
        show SS p e below T195 m 86 #[.val (.int a), .val (.int b), .val (.int c), .val (.int len), .val (.int idx), .val (.int (3 : Int32)), .val (.ref b185), .val (.ref b192), .val (.int (1 : Int32)), .val (.int (pk b)), .unset, .unset, .unset] [(.int (2 : Int32)), (.int (1 : Int32))] _
        refine XS.icmpYes X195.here hx rfl (pc0 := 86) (pc' := 93) rfl (hb hby at_86) rfl (feq (by decide)).2 (by decide) (by decide) ?_
        show SS p e below T195 m 93 #[.val (.int a), .val (.int b), .val (.int c), .val (.int len), .val (.int idx), .val (.int (3 : Int32)), .val (.ref b185), .val (.ref b192), .val (.int (1 : Int32)), .val (.int (pk b)), .unset, .unset, .unset] [] _
        refine XS.iconst X195.here hx rfl (hb hby at_93) ?_
        show SS p e below T195 m 94 #[.val (.int a), .val (.int b), .val (.int c), .val (.int len), .val (.int idx), .val (.int (3 : Int32)), .val (.ref b185), .val (.ref b192), .val (.int (1 : Int32)), .val (.int (pk b)), .unset, .unset, .unset] [(.int (0 : Int32))] _
        refine XS.istore X195.here hx rfl (hb hby at_94) rfl (l' := #[.val (.int a), .val (.int b), .val (.int c), .val (.int len), .val (.int idx), .val (.int (3 : Int32)), .val (.ref b185), .val (.ref b192), .val (.int (1 : Int32)), .val (.int (pk b)), .val (.int (0 : Int32)), .unset, .unset]) rfl ?_
        show SS p e below T195 m 96 #[.val (.int a), .val (.int b), .val (.int c), .val (.int len), .val (.int idx), .val (.int (3 : Int32)), .val (.ref b185), .val (.ref b192), .val (.int (1 : Int32)), .val (.int (pk b)), .val (.int (0 : Int32)), .unset, .unset] [] _
        refine XS.iconst X195.here hx rfl (hb hby at_96) ?_
        show SS p e below T195 m 97 #[.val (.int a), .val (.int b), .val (.int c), .val (.int len), .val (.int idx), .val (.int (3 : Int32)), .val (.ref b185), .val (.ref b192), .val (.int (1 : Int32)), .val (.int (pk b)), .val (.int (0 : Int32)), .unset, .unset] [(.int (0 : Int32))] _
        refine XS.istore X195.here hx rfl (hb hby at_97) rfl (l' := #[.val (.int a), .val (.int b), .val (.int c), .val (.int len), .val (.int idx), .val (.int (3 : Int32)), .val (.ref b185), .val (.ref b192), .val (.int (1 : Int32)), .val (.int (pk b)), .val (.int (0 : Int32)), .val (.int (0 : Int32)), .unset]) rfl ?_
        show SS p e below T195 m 99 #[.val (.int a), .val (.int b), .val (.int c), .val (.int len), .val (.int idx), .val (.int (3 : Int32)), .val (.ref b185), .val (.ref b192), .val (.int (1 : Int32)), .val (.int (pk b)), .val (.int (0 : Int32)), .val (.int (0 : Int32)), .unset] [] _
        refine XS.iload X195.here hx rfl (hb hby at_99) rfl ?_
        show SS p e below T195 m 101 #[.val (.int a), .val (.int b), .val (.int c), .val (.int len), .val (.int idx), .val (.int (3 : Int32)), .val (.ref b185), .val (.ref b192), .val (.int (1 : Int32)), .val (.int (pk b)), .val (.int (0 : Int32)), .val (.int (0 : Int32)), .unset] [(.int (0 : Int32))] _
        refine XS.ifNo X195.here hx rfl (hb hby at_101) rfl ((if0 _ _).trans (teq (by decide)).2) ?_
        show SS p e below T195 m 104 #[.val (.int a), .val (.int b), .val (.int c), .val (.int len), .val (.int idx), .val (.int (3 : Int32)), .val (.ref b185), .val (.ref b192), .val (.int (1 : Int32)), .val (.int (pk b)), .val (.int (0 : Int32)), .val (.int (0 : Int32)), .unset] [] _
        refine XS.aload X195.here hx rfl (hb hby at_104) rfl rfl ?_
        show SS p e below T195 m 106 #[.val (.int a), .val (.int b), .val (.int c), .val (.int len), .val (.int idx), .val (.int (3 : Int32)), .val (.ref b185), .val (.ref b192), .val (.int (1 : Int32)), .val (.int (pk b)), .val (.int (0 : Int32)), .val (.int (0 : Int32)), .unset] [(.ref b185)] _
        refine XS.iload X195.here hx rfl (hb hby at_106) rfl ?_
        show SS p e below T195 m 108 #[.val (.int a), .val (.int b), .val (.int c), .val (.int len), .val (.int idx), .val (.int (3 : Int32)), .val (.ref b185), .val (.ref b192), .val (.int (1 : Int32)), .val (.int (pk b)), .val (.int (0 : Int32)), .val (.int (0 : Int32)), .unset] [(.int (1 : Int32)), (.ref b185)] _
        refine XS.iconst X195.here hx rfl (hb hby at_108) ?_
        show SS p e below T195 m 109 #[.val (.int a), .val (.int b), .val (.int c), .val (.int len), .val (.int idx), .val (.int (3 : Int32)), .val (.ref b185), .val (.ref b192), .val (.int (1 : Int32)), .val (.int (pk b)), .val (.int (0 : Int32)), .val (.int (0 : Int32)), .unset] [(.int (1 : Int32)), (.int (1 : Int32)), (.ref b185)] _
        refine XS.iadd X195.here hx rfl (hb hby at_109) rfl ?_
        show SS p e below T195 m 110 #[.val (.int a), .val (.int b), .val (.int c), .val (.int len), .val (.int idx), .val (.int (3 : Int32)), .val (.ref b185), .val (.ref b192), .val (.int (1 : Int32)), .val (.int (pk b)), .val (.int (0 : Int32)), .val (.int (0 : Int32)), .unset] [(.int (2 : Int32)), (.ref b185)] _
        refine X195.caload hx (j := (2 : Int32)) (v := (.int (pk c))) (by first | exact Ar232.1 | (rw [rfl]; exact Ar232.1)) (State.isArrayOf_alike hZ.alike Ar232.2.1) Ar232.2.2 hin232 hat232 (g := (mkF m 110 #[.val (.int a), .val (.int b), .val (.int c), .val (.int len), .val (.int idx), .val (.int (3 : Int32)), .val (.ref b185), .val (.ref b192), .val (.int (1 : Int32)), .val (.int (pk b)), .val (.int (0 : Int32)), .val (.int (0 : Int32)), .unset] [(.int (2 : Int32)), (.ref b185)])) rfl rfl (hb hby at_110) _ ?_
        show SS p e below T195 m 111 #[.val (.int a), .val (.int b), .val (.int c), .val (.int len), .val (.int idx), .val (.int (3 : Int32)), .val (.ref b185), .val (.ref b192), .val (.int (1 : Int32)), .val (.int (pk b)), .val (.int (0 : Int32)), .val (.int (0 : Int32)), .unset] [(.int (pk c))] _
        refine XS.bipush X195.here hx rfl (hb hby at_111) ?_
        show SS p e below T195 m 113 #[.val (.int a), .val (.int b), .val (.int c), .val (.int len), .val (.int idx), .val (.int (3 : Int32)), .val (.ref b185), .val (.ref b192), .val (.int (1 : Int32)), .val (.int (pk b)), .val (.int (0 : Int32)), .val (.int (0 : Int32)), .unset] [(.int (10 : Int32)), (.int (pk c))] _
        exact kt
      by_cases hc234 : (pk c) = (10 : Int32)
      ·
        have W235 : ∀ zQ, SS p e below T195 m 127 #[.val (.int a), .val (.int b), .val (.int c), .val (.int len), .val (.int idx), .val (.int (3 : Int32)), .val (.ref b185), .val (.ref b192), .val (.int (1 : Int32)), .val (.int (pk b)), .val (.int (0 : Int32)), .val (.int (1 : Int32)), .unset] [(.int (10 : Int32)), (.int (pk b))] zQ → Steps p.tables e below (s₁.setTop (entryFrame m #[(.int a), (.int b), (.int c), (.int len), (.int idx)] maxLocals)) zQ := by
          intro tt kt
          refine W233 tt ?_
          refine XS.icmpNo X195.here hx rfl (hb hby at_113) rfl (teq hc234).2 ?_
          show SS p e below T195 m 116 #[.val (.int a), .val (.int b), .val (.int c), .val (.int len), .val (.int idx), .val (.int (3 : Int32)), .val (.ref b185), .val (.ref b192), .val (.int (1 : Int32)), .val (.int (pk b)), .val (.int (0 : Int32)), .val (.int (0 : Int32)), .unset] [] _
          refine XS.iconst X195.here hx rfl (hb hby at_116) ?_
          show SS p e below T195 m 117 #[.val (.int a), .val (.int b), .val (.int c), .val (.int len), .val (.int idx), .val (.int (3 : Int32)), .val (.ref b185), .val (.ref b192), .val (.int (1 : Int32)), .val (.int (pk b)), .val (.int (0 : Int32)), .val (.int (0 : Int32)), .unset] [(.int (1 : Int32))] _
          refine XS.goto X195.here hx rfl (pc0 := 117) (pc' := 121) rfl (hb hby at_117) (by decide) (by decide) ?_
          show SS p e below T195 m 121 #[.val (.int a), .val (.int b), .val (.int c), .val (.int len), .val (.int idx), .val (.int (3 : Int32)), .val (.ref b185), .val (.ref b192), .val (.int (1 : Int32)), .val (.int (pk b)), .val (.int (0 : Int32)), .val (.int (0 : Int32)), .unset] [(.int (1 : Int32))] _
          refine XS.istore X195.here hx rfl (hb hby at_121) rfl (l' := #[.val (.int a), .val (.int b), .val (.int c), .val (.int len), .val (.int idx), .val (.int (3 : Int32)), .val (.ref b185), .val (.ref b192), .val (.int (1 : Int32)), .val (.int (pk b)), .val (.int (0 : Int32)), .val (.int (1 : Int32)), .unset]) rfl ?_
          show SS p e below T195 m 123 #[.val (.int a), .val (.int b), .val (.int c), .val (.int len), .val (.int idx), .val (.int (3 : Int32)), .val (.ref b185), .val (.ref b192), .val (.int (1 : Int32)), .val (.int (pk b)), .val (.int (0 : Int32)), .val (.int (1 : Int32)), .unset] [] _
          refine XS.iload X195.here hx rfl (hb hby at_123) rfl ?_
          show SS p e below T195 m 125 #[.val (.int a), .val (.int b), .val (.int c), .val (.int len), .val (.int idx), .val (.int (3 : Int32)), .val (.ref b185), .val (.ref b192), .val (.int (1 : Int32)), .val (.int (pk b)), .val (.int (0 : Int32)), .val (.int (1 : Int32)), .unset] [(.int (pk b))] _
          refine XS.bipush X195.here hx rfl (hb hby at_125) ?_
          show SS p e below T195 m 127 #[.val (.int a), .val (.int b), .val (.int c), .val (.int len), .val (.int idx), .val (.int (3 : Int32)), .val (.ref b185), .val (.ref b192), .val (.int (1 : Int32)), .val (.int (pk b)), .val (.int (0 : Int32)), .val (.int (1 : Int32)), .unset] [(.int (10 : Int32)), (.int (pk b))] _
          exact kt
        by_cases hc236 : (pk b) = (10 : Int32)
        ·
          have O237 : Old Z n0 T195.heap := (O194.keep K195 (allS (Nat.le_trans Z0 (Nat.le_trans (Nat.le_trans (Nat.le_trans (Nat.le_trans K185.1 K187.1) K189.1) K191.1) (Nat.le_of_eq g192.symm))) all0))
          obtain ⟨_, _, ⟨T238, L238, k238, n238⟩, -, X238, ⟨Lc238, hQ238, l238, y238, z238⟩, st238⟩ := Jvm.LawKit.callS X195 hx (y := (⟨"com/example/vestline/vestline/input/TextFiles", "endsLine", "(Ljava/lang/String;I)Z"⟩ : MethodName)) hown (mvT hZ (w35 hw)) (mvT hZ (w36 hw)) (mvT hZ (w37 hw)) (mvT hZ (w38 hw)) (by decide) (backOf (W := 0) (rm_endsLine l Z a0 hw [] b192 1 t_196 kb_197 [(pk a), (pk b), (pk c)] cS fm T195.heap n0 (Nat.le_trans Z0 (Nat.le_trans (Nat.le_trans (Nat.le_trans (Nat.le_trans (Nat.le_trans K185.1 K187.1) K189.1) K191.1) K192.1) K195.1)) O237 S_cs hcS S_fm hfm S_ad S_hi S_lo P195_1 (Nat.le_of_ble_eq_true rfl)) hZ (w38 hw) (w37 hw) (by decide) (by decide)) (g := (mkF m 165 #[.val (.int a), .val (.int b), .val (.int c), .val (.int len), .val (.int idx), .val (.int (3 : Int32)), .val (.ref b185), .val (.ref b192), .val (.int (1 : Int32)), .val (.int (pk b)), .val (.int (0 : Int32)), .val (.int (1 : Int32)), .val (.int (1 : Int32))] [(.int (1 : Int32)), (.ref b192)])) rfl (by rw [hml]; rfl) (argsL := [(.ref b192), (.int (1 : Int32))]) (rest := []) (lenOf pd__28_Ljava_2f_lang_2f_String_3b_I_29_Z rfl) rfl (by show 2 * 0 + _ ≤ _; exact Nat.le_of_eq rfl) (hb hby at_165) (fun _ _ => ⟨rfl, rfl, (Nat.le_of_ble_eq_true rfl), (Nat.le_of_ble_eq_true rfl)⟩)
          dsimp only [Pt.U, Pt.locs, Pt.cells, Pt.slots] at X238 l238 y238 z238 st238 hQ238
          subst l238 y238 z238
          obtain ⟨rfl, Nq238, eq238⟩ := hQ238
          have N238 := Fr.app N195 Nq238
          have W239 : ∀ zQ, SS p e below T238 m 178 #[.val (.int a), .val (.int b), .val (.int c), .val (.int len), .val (.int idx), .val (.int (3 : Int32)), .val (.ref b185), .val (.ref b192), .val (.int (1 : Int32)), .val (.int (pk b)), .val (.int (0 : Int32)), .val (.int (1 : Int32)), .val (.int (1 : Int32))] [(.int (1 : Int32))] zQ → Steps p.tables e below (s₁.setTop (entryFrame m #[(.int a), (.int b), (.int c), (.int len), (.int idx)] maxLocals)) zQ := by
            intro tt kt
            refine W235 tt ?_
            refine XS.icmpNo X195.here hx rfl (hb hby at_127) rfl (teq hc236).2 ?_
            show SS p e below T195 m 130 #[.val (.int a), .val (.int b), .val (.int c), .val (.int len), .val (.int idx), .val (.int (3 : Int32)), .val (.ref b185), .val (.ref b192), .val (.int (1 : Int32)), .val (.int (pk b)), .val (.int (0 : Int32)), .val (.int (1 : Int32)), .unset] [] _
            refine XS.iconst X195.here hx rfl (hb hby at_130) ?_
            show SS p e below T195 m 131 #[.val (.int a), .val (.int b), .val (.int c), .val (.int len), .val (.int idx), .val (.int (3 : Int32)), .val (.ref b185), .val (.ref b192), .val (.int (1 : Int32)), .val (.int (pk b)), .val (.int (0 : Int32)), .val (.int (1 : Int32)), .unset] [(.int (1 : Int32))] _
            refine XS.istore X195.here hx rfl (hb hby at_131) rfl (l' := #[.val (.int a), .val (.int b), .val (.int c), .val (.int len), .val (.int idx), .val (.int (3 : Int32)), .val (.ref b185), .val (.ref b192), .val (.int (1 : Int32)), .val (.int (pk b)), .val (.int (0 : Int32)), .val (.int (1 : Int32)), .val (.int (1 : Int32))]) rfl ?_
            show SS p e below T195 m 133 #[.val (.int a), .val (.int b), .val (.int c), .val (.int len), .val (.int idx), .val (.int (3 : Int32)), .val (.ref b185), .val (.ref b192), .val (.int (1 : Int32)), .val (.int (pk b)), .val (.int (0 : Int32)), .val (.int (1 : Int32)), .val (.int (1 : Int32))] [] _
            refine XS.goto X195.here hx rfl (pc0 := 133) (pc' := 161) rfl (hb hby at_133) (by decide) (by decide) ?_
            show SS p e below T195 m 161 #[.val (.int a), .val (.int b), .val (.int c), .val (.int len), .val (.int idx), .val (.int (3 : Int32)), .val (.ref b185), .val (.ref b192), .val (.int (1 : Int32)), .val (.int (pk b)), .val (.int (0 : Int32)), .val (.int (1 : Int32)), .val (.int (1 : Int32))] [] _
            refine XS.aload X195.here hx rfl (hb hby at_161) rfl rfl ?_
            show SS p e below T195 m 163 #[.val (.int a), .val (.int b), .val (.int c), .val (.int len), .val (.int idx), .val (.int (3 : Int32)), .val (.ref b185), .val (.ref b192), .val (.int (1 : Int32)), .val (.int (pk b)), .val (.int (0 : Int32)), .val (.int (1 : Int32)), .val (.int (1 : Int32))] [(.ref b192)] _
            refine XS.iload X195.here hx rfl (hb hby at_163) rfl ?_
            show SS p e below T195 m 165 #[.val (.int a), .val (.int b), .val (.int c), .val (.int len), .val (.int idx), .val (.int (3 : Int32)), .val (.ref b185), .val (.ref b192), .val (.int (1 : Int32)), .val (.int (pk b)), .val (.int (0 : Int32)), .val (.int (1 : Int32)), .val (.int (1 : Int32))] [(.int (1 : Int32)), (.ref b192)] _
            refine st238 _ ?_
            show SS p e below T238 m 168 #[.val (.int a), .val (.int b), .val (.int c), .val (.int len), .val (.int idx), .val (.int (3 : Int32)), .val (.ref b185), .val (.ref b192), .val (.int (1 : Int32)), .val (.int (pk b)), .val (.int (0 : Int32)), .val (.int (1 : Int32)), .val (.int (1 : Int32))] [(.int (el [(pk a), (pk b), (pk c)] 1))] _
            refine XS.iload X238.here hx rfl (hb hby at_168) rfl ?_
            show SS p e below T238 m 170 #[.val (.int a), .val (.int b), .val (.int c), .val (.int len), .val (.int idx), .val (.int (3 : Int32)), .val (.ref b185), .val (.ref b192), .val (.int (1 : Int32)), .val (.int (pk b)), .val (.int (0 : Int32)), .val (.int (1 : Int32)), .val (.int (1 : Int32))] [(.int (1 : Int32)), (.int (el [(pk a), (pk b), (pk c)] 1))] _
            refine XS.icmpNo X238.here hx rfl (hb hby at_170) rfl (teq (by simp [el, hc234, hc236])).2 ?_
            show SS p e below T238 m 173 #[.val (.int a), .val (.int b), .val (.int c), .val (.int len), .val (.int idx), .val (.int (3 : Int32)), .val (.ref b185), .val (.ref b192), .val (.int (1 : Int32)), .val (.int (pk b)), .val (.int (0 : Int32)), .val (.int (1 : Int32)), .val (.int (1 : Int32))] [] _
            refine XS.iconst X238.here hx rfl (hb hby at_173) ?_
            show SS p e below T238 m 174 #[.val (.int a), .val (.int b), .val (.int c), .val (.int len), .val (.int idx), .val (.int (3 : Int32)), .val (.ref b185), .val (.ref b192), .val (.int (1 : Int32)), .val (.int (pk b)), .val (.int (0 : Int32)), .val (.int (1 : Int32)), .val (.int (1 : Int32))] [(.int (1 : Int32))] _
            refine XS.goto X238.here hx rfl (pc0 := 174) (pc' := 178) rfl (hb hby at_174) (by decide) (by decide) ?_
            show SS p e below T238 m 178 #[.val (.int a), .val (.int b), .val (.int c), .val (.int len), .val (.int idx), .val (.int (3 : Int32)), .val (.ref b185), .val (.ref b192), .val (.int (1 : Int32)), .val (.int (pk b)), .val (.int (0 : Int32)), .val (.int (1 : Int32)), .val (.int (1 : Int32))] [(.int (1 : Int32))] _
            exact kt
          obtain ⟨fs, hr, hrun, hended, hW, hsame⟩ := X238.leave (v := some (.int (nar .boolean (1 : Int32)))) (fun h => by rw [Bd.returns] at h; cases h)
          refine ⟨_, _, W239 _ (retN X238 hx (t := .boolean) Bd.returns (by simp) (hb hby at_178) hr), hrun, hended, _, _, rfl, ?_, ⟨_, rfl⟩, hW, hsame.mono (by decide) (by decide)⟩
          show Q_law Z a b c len idx cS fm h0 n0 _ T238.heap _
          rw [eq238]
          exact ⟨rfl, N238, (Keep.trans (Keep.trans (Keep.trans (Keep.trans (Keep.trans (Keep.trans (Keep.refl h0 []) K185 all0) K187 (allS (Or.inr (Nat.le_of_eq g185.symm)) all0)) K189 (allS (Or.inr (Nat.le_of_eq g185.symm)) all0)) K191 (allS (Or.inr (Nat.le_of_eq g185.symm)) all0)) K192 all0) K195 (allS (Or.inr (Nat.le_trans (Nat.le_trans (Nat.le_trans (Nat.le_trans K185.1 K187.1) K189.1) K191.1) (Nat.le_of_eq g192.symm))) all0))⟩
        ·
          have W240 : ∀ zQ, SS p e below T195 m 140 #[.val (.int a), .val (.int b), .val (.int c), .val (.int len), .val (.int idx), .val (.int (3 : Int32)), .val (.ref b185), .val (.ref b192), .val (.int (1 : Int32)), .val (.int (pk b)), .val (.int (0 : Int32)), .val (.int (1 : Int32)), .unset] [(.int (13 : Int32)), (.int (pk b))] zQ → Steps p.tables e below (s₁.setTop (entryFrame m #[(.int a), (.int b), (.int c), (.int len), (.int idx)] maxLocals)) zQ := by
            intro tt kt
            refine W235 tt ?_
            refine XS.icmpYes X195.here hx rfl (pc0 := 127) (pc' := 136) rfl (hb hby at_127) rfl (feq hc236).2 (by decide) (by decide) ?_
            show SS p e below T195 m 136 #[.val (.int a), .val (.int b), .val (.int c), .val (.int len), .val (.int idx), .val (.int (3 : Int32)), .val (.ref b185), .val (.ref b192), .val (.int (1 : Int32)), .val (.int (pk b)), .val (.int (0 : Int32)), .val (.int (1 : Int32)), .unset] [] _
            refine XS.iload X195.here hx rfl (hb hby at_136) rfl ?_
            show SS p e below T195 m 138 #[.val (.int a), .val (.int b), .val (.int c), .val (.int len), .val (.int idx), .val (.int (3 : Int32)), .val (.ref b185), .val (.ref b192), .val (.int (1 : Int32)), .val (.int (pk b)), .val (.int (0 : Int32)), .val (.int (1 : Int32)), .unset] [(.int (pk b))] _
            refine XS.bipush X195.here hx rfl (hb hby at_138) ?_
            show SS p e below T195 m 140 #[.val (.int a), .val (.int b), .val (.int c), .val (.int len), .val (.int idx), .val (.int (3 : Int32)), .val (.ref b185), .val (.ref b192), .val (.int (1 : Int32)), .val (.int (pk b)), .val (.int (0 : Int32)), .val (.int (1 : Int32)), .unset] [(.int (13 : Int32)), (.int (pk b))] _
            exact kt
          by_cases hc241 : (pk b) = (13 : Int32)
          ·
            have O242 : Old Z n0 T195.heap := (O194.keep K195 (allS (Nat.le_trans Z0 (Nat.le_trans (Nat.le_trans (Nat.le_trans (Nat.le_trans K185.1 K187.1) K189.1) K191.1) (Nat.le_of_eq g192.symm))) all0))
            obtain ⟨_, _, ⟨T243, L243, k243, n243⟩, -, X243, ⟨Lc243, hQ243, l243, y243, z243⟩, st243⟩ := Jvm.LawKit.callS X195 hx (y := (⟨"com/example/vestline/vestline/input/TextFiles", "endsLine", "(Ljava/lang/String;I)Z"⟩ : MethodName)) hown (mvT hZ (w35 hw)) (mvT hZ (w36 hw)) (mvT hZ (w37 hw)) (mvT hZ (w38 hw)) (by decide) (backOf (W := 0) (rm_endsLine l Z a0 hw [] b192 1 t_196 kb_197 [(pk a), (pk b), (pk c)] cS fm T195.heap n0 (Nat.le_trans Z0 (Nat.le_trans (Nat.le_trans (Nat.le_trans (Nat.le_trans (Nat.le_trans K185.1 K187.1) K189.1) K191.1) K192.1) K195.1)) O242 S_cs hcS S_fm hfm S_ad S_hi S_lo P195_1 (Nat.le_of_ble_eq_true rfl)) hZ (w38 hw) (w37 hw) (by decide) (by decide)) (g := (mkF m 165 #[.val (.int a), .val (.int b), .val (.int c), .val (.int len), .val (.int idx), .val (.int (3 : Int32)), .val (.ref b185), .val (.ref b192), .val (.int (1 : Int32)), .val (.int (pk b)), .val (.int (0 : Int32)), .val (.int (1 : Int32)), .val (.int (0 : Int32))] [(.int (1 : Int32)), (.ref b192)])) rfl (by rw [hml]; rfl) (argsL := [(.ref b192), (.int (1 : Int32))]) (rest := []) (lenOf pd__28_Ljava_2f_lang_2f_String_3b_I_29_Z rfl) rfl (by show 2 * 0 + _ ≤ _; exact Nat.le_of_eq rfl) (hb hby at_165) (fun _ _ => ⟨rfl, rfl, (Nat.le_of_ble_eq_true rfl), (Nat.le_of_ble_eq_true rfl)⟩)
            dsimp only [Pt.U, Pt.locs, Pt.cells, Pt.slots] at X243 l243 y243 z243 st243 hQ243
            subst l243 y243 z243
            obtain ⟨rfl, Nq243, eq243⟩ := hQ243
            have N243 := Fr.app N195 Nq243
            have W244 : ∀ zQ, SS p e below T243 m 178 #[.val (.int a), .val (.int b), .val (.int c), .val (.int len), .val (.int idx), .val (.int (3 : Int32)), .val (.ref b185), .val (.ref b192), .val (.int (1 : Int32)), .val (.int (pk b)), .val (.int (0 : Int32)), .val (.int (1 : Int32)), .val (.int (0 : Int32))] [(.int (1 : Int32))] zQ → Steps p.tables e below (s₁.setTop (entryFrame m #[(.int a), (.int b), (.int c), (.int len), (.int idx)] maxLocals)) zQ := by
              intro tt kt
              refine W240 tt ?_
              refine XS.icmpNo X195.here hx rfl (hb hby at_140) rfl (teq hc241).2 ?_
              show SS p e below T195 m 143 #[.val (.int a), .val (.int b), .val (.int c), .val (.int len), .val (.int idx), .val (.int (3 : Int32)), .val (.ref b185), .val (.ref b192), .val (.int (1 : Int32)), .val (.int (pk b)), .val (.int (0 : Int32)), .val (.int (1 : Int32)), .unset] [] _
              refine XS.iload X195.here hx rfl (hb hby at_143) rfl ?_
              show SS p e below T195 m 145 #[.val (.int a), .val (.int b), .val (.int c), .val (.int len), .val (.int idx), .val (.int (3 : Int32)), .val (.ref b185), .val (.ref b192), .val (.int (1 : Int32)), .val (.int (pk b)), .val (.int (0 : Int32)), .val (.int (1 : Int32)), .unset] [(.int (1 : Int32))] _
              refine XS.ifYes X195.here hx rfl (pc0 := 145) (pc' := 152) rfl (hb hby at_145) rfl ((if0 _ _).trans (feq (by decide)).2) (by decide) (by decide) ?_
              show SS p e below T195 m 152 #[.val (.int a), .val (.int b), .val (.int c), .val (.int len), .val (.int idx), .val (.int (3 : Int32)), .val (.ref b185), .val (.ref b192), .val (.int (1 : Int32)), .val (.int (pk b)), .val (.int (0 : Int32)), .val (.int (1 : Int32)), .unset] [] _
              refine XS.iconst X195.here hx rfl (hb hby at_152) ?_
              show SS p e below T195 m 153 #[.val (.int a), .val (.int b), .val (.int c), .val (.int len), .val (.int idx), .val (.int (3 : Int32)), .val (.ref b185), .val (.ref b192), .val (.int (1 : Int32)), .val (.int (pk b)), .val (.int (0 : Int32)), .val (.int (1 : Int32)), .unset] [(.int (0 : Int32))] _
              refine XS.istore X195.here hx rfl (hb hby at_153) rfl (l' := #[.val (.int a), .val (.int b), .val (.int c), .val (.int len), .val (.int idx), .val (.int (3 : Int32)), .val (.ref b185), .val (.ref b192), .val (.int (1 : Int32)), .val (.int (pk b)), .val (.int (0 : Int32)), .val (.int (1 : Int32)), .val (.int (0 : Int32))]) rfl ?_
              show SS p e below T195 m 155 #[.val (.int a), .val (.int b), .val (.int c), .val (.int len), .val (.int idx), .val (.int (3 : Int32)), .val (.ref b185), .val (.ref b192), .val (.int (1 : Int32)), .val (.int (pk b)), .val (.int (0 : Int32)), .val (.int (1 : Int32)), .val (.int (0 : Int32))] [] _
              refine XS.goto X195.here hx rfl (pc0 := 155) (pc' := 161) rfl (hb hby at_155) (by decide) (by decide) ?_
              show SS p e below T195 m 161 #[.val (.int a), .val (.int b), .val (.int c), .val (.int len), .val (.int idx), .val (.int (3 : Int32)), .val (.ref b185), .val (.ref b192), .val (.int (1 : Int32)), .val (.int (pk b)), .val (.int (0 : Int32)), .val (.int (1 : Int32)), .val (.int (0 : Int32))] [] _
              refine XS.aload X195.here hx rfl (hb hby at_161) rfl rfl ?_
              show SS p e below T195 m 163 #[.val (.int a), .val (.int b), .val (.int c), .val (.int len), .val (.int idx), .val (.int (3 : Int32)), .val (.ref b185), .val (.ref b192), .val (.int (1 : Int32)), .val (.int (pk b)), .val (.int (0 : Int32)), .val (.int (1 : Int32)), .val (.int (0 : Int32))] [(.ref b192)] _
              refine XS.iload X195.here hx rfl (hb hby at_163) rfl ?_
              show SS p e below T195 m 165 #[.val (.int a), .val (.int b), .val (.int c), .val (.int len), .val (.int idx), .val (.int (3 : Int32)), .val (.ref b185), .val (.ref b192), .val (.int (1 : Int32)), .val (.int (pk b)), .val (.int (0 : Int32)), .val (.int (1 : Int32)), .val (.int (0 : Int32))] [(.int (1 : Int32)), (.ref b192)] _
              refine st243 _ ?_
              show SS p e below T243 m 168 #[.val (.int a), .val (.int b), .val (.int c), .val (.int len), .val (.int idx), .val (.int (3 : Int32)), .val (.ref b185), .val (.ref b192), .val (.int (1 : Int32)), .val (.int (pk b)), .val (.int (0 : Int32)), .val (.int (1 : Int32)), .val (.int (0 : Int32))] [(.int (el [(pk a), (pk b), (pk c)] 1))] _
              refine XS.iload X243.here hx rfl (hb hby at_168) rfl ?_
              show SS p e below T243 m 170 #[.val (.int a), .val (.int b), .val (.int c), .val (.int len), .val (.int idx), .val (.int (3 : Int32)), .val (.ref b185), .val (.ref b192), .val (.int (1 : Int32)), .val (.int (pk b)), .val (.int (0 : Int32)), .val (.int (1 : Int32)), .val (.int (0 : Int32))] [(.int (0 : Int32)), (.int (el [(pk a), (pk b), (pk c)] 1))] _
              refine XS.icmpNo X243.here hx rfl (hb hby at_170) rfl (teq (by simp [el, hc234, hc236, hc241])).2 ?_
              show SS p e below T243 m 173 #[.val (.int a), .val (.int b), .val (.int c), .val (.int len), .val (.int idx), .val (.int (3 : Int32)), .val (.ref b185), .val (.ref b192), .val (.int (1 : Int32)), .val (.int (pk b)), .val (.int (0 : Int32)), .val (.int (1 : Int32)), .val (.int (0 : Int32))] [] _
              refine XS.iconst X243.here hx rfl (hb hby at_173) ?_
              show SS p e below T243 m 174 #[.val (.int a), .val (.int b), .val (.int c), .val (.int len), .val (.int idx), .val (.int (3 : Int32)), .val (.ref b185), .val (.ref b192), .val (.int (1 : Int32)), .val (.int (pk b)), .val (.int (0 : Int32)), .val (.int (1 : Int32)), .val (.int (0 : Int32))] [(.int (1 : Int32))] _
              refine XS.goto X243.here hx rfl (pc0 := 174) (pc' := 178) rfl (hb hby at_174) (by decide) (by decide) ?_
              show SS p e below T243 m 178 #[.val (.int a), .val (.int b), .val (.int c), .val (.int len), .val (.int idx), .val (.int (3 : Int32)), .val (.ref b185), .val (.ref b192), .val (.int (1 : Int32)), .val (.int (pk b)), .val (.int (0 : Int32)), .val (.int (1 : Int32)), .val (.int (0 : Int32))] [(.int (1 : Int32))] _
              exact kt
            obtain ⟨fs, hr, hrun, hended, hW, hsame⟩ := X243.leave (v := some (.int (nar .boolean (1 : Int32)))) (fun h => by rw [Bd.returns] at h; cases h)
            refine ⟨_, _, W244 _ (retN X243 hx (t := .boolean) Bd.returns (by simp) (hb hby at_178) hr), hrun, hended, _, _, rfl, ?_, ⟨_, rfl⟩, hW, hsame.mono (by decide) (by decide)⟩
            show Q_law Z a b c len idx cS fm h0 n0 _ T243.heap _
            rw [eq243]
            exact ⟨rfl, N243, (Keep.trans (Keep.trans (Keep.trans (Keep.trans (Keep.trans (Keep.trans (Keep.refl h0 []) K185 all0) K187 (allS (Or.inr (Nat.le_of_eq g185.symm)) all0)) K189 (allS (Or.inr (Nat.le_of_eq g185.symm)) all0)) K191 (allS (Or.inr (Nat.le_of_eq g185.symm)) all0)) K192 all0) K195 (allS (Or.inr (Nat.le_trans (Nat.le_trans (Nat.le_trans (Nat.le_trans K185.1 K187.1) K189.1) K191.1) (Nat.le_of_eq g192.symm))) all0))⟩
          ·
            have O245 : Old Z n0 T195.heap := (O194.keep K195 (allS (Nat.le_trans Z0 (Nat.le_trans (Nat.le_trans (Nat.le_trans (Nat.le_trans K185.1 K187.1) K189.1) K191.1) (Nat.le_of_eq g192.symm))) all0))
            obtain ⟨_, _, ⟨T246, L246, k246, n246⟩, -, X246, ⟨Lc246, hQ246, l246, y246, z246⟩, st246⟩ := Jvm.LawKit.callS X195 hx (y := (⟨"com/example/vestline/vestline/input/TextFiles", "endsLine", "(Ljava/lang/String;I)Z"⟩ : MethodName)) hown (mvT hZ (w35 hw)) (mvT hZ (w36 hw)) (mvT hZ (w37 hw)) (mvT hZ (w38 hw)) (by decide) (backOf (W := 0) (rm_endsLine l Z a0 hw [] b192 1 t_196 kb_197 [(pk a), (pk b), (pk c)] cS fm T195.heap n0 (Nat.le_trans Z0 (Nat.le_trans (Nat.le_trans (Nat.le_trans (Nat.le_trans (Nat.le_trans K185.1 K187.1) K189.1) K191.1) K192.1) K195.1)) O245 S_cs hcS S_fm hfm S_ad S_hi S_lo P195_1 (Nat.le_of_ble_eq_true rfl)) hZ (w38 hw) (w37 hw) (by decide) (by decide)) (g := (mkF m 165 #[.val (.int a), .val (.int b), .val (.int c), .val (.int len), .val (.int idx), .val (.int (3 : Int32)), .val (.ref b185), .val (.ref b192), .val (.int (1 : Int32)), .val (.int (pk b)), .val (.int (0 : Int32)), .val (.int (1 : Int32)), .val (.int (0 : Int32))] [(.int (1 : Int32)), (.ref b192)])) rfl (by rw [hml]; rfl) (argsL := [(.ref b192), (.int (1 : Int32))]) (rest := []) (lenOf pd__28_Ljava_2f_lang_2f_String_3b_I_29_Z rfl) rfl (by show 2 * 0 + _ ≤ _; exact Nat.le_of_eq rfl) (hb hby at_165) (fun _ _ => ⟨rfl, rfl, (Nat.le_of_ble_eq_true rfl), (Nat.le_of_ble_eq_true rfl)⟩)
            dsimp only [Pt.U, Pt.locs, Pt.cells, Pt.slots] at X246 l246 y246 z246 st246 hQ246
            subst l246 y246 z246
            obtain ⟨rfl, Nq246, eq246⟩ := hQ246
            have N246 := Fr.app N195 Nq246
            have W247 : ∀ zQ, SS p e below T246 m 178 #[.val (.int a), .val (.int b), .val (.int c), .val (.int len), .val (.int idx), .val (.int (3 : Int32)), .val (.ref b185), .val (.ref b192), .val (.int (1 : Int32)), .val (.int (pk b)), .val (.int (0 : Int32)), .val (.int (1 : Int32)), .val (.int (0 : Int32))] [(.int (1 : Int32))] zQ → Steps p.tables e below (s₁.setTop (entryFrame m #[(.int a), (.int b), (.int c), (.int len), (.int idx)] maxLocals)) zQ := by
              intro tt kt
              refine W240 tt ?_
              refine XS.icmpYes X195.here hx rfl (pc0 := 140) (pc' := 158) rfl (hb hby at_140) rfl (feq hc241).2 (by decide) (by decide) ?_
              show SS p e below T195 m 158 #[.val (.int a), .val (.int b), .val (.int c), .val (.int len), .val (.int idx), .val (.int (3 : Int32)), .val (.ref b185), .val (.ref b192), .val (.int (1 : Int32)), .val (.int (pk b)), .val (.int (0 : Int32)), .val (.int (1 : Int32)), .unset] [] _
              refine XS.iconst X195.here hx rfl (hb hby at_158) ?_
              show SS p e below T195 m 159 #[.val (.int a), .val (.int b), .val (.int c), .val (.int len), .val (.int idx), .val (.int (3 : Int32)), .val (.ref b185), .val (.ref b192), .val (.int (1 : Int32)), .val (.int (pk b)), .val (.int (0 : Int32)), .val (.int (1 : Int32)), .unset] [(.int (0 : Int32))] _
              refine XS.istore X195.here hx rfl (hb hby at_159) rfl (l' := #[.val (.int a), .val (.int b), .val (.int c), .val (.int len), .val (.int idx), .val (.int (3 : Int32)), .val (.ref b185), .val (.ref b192), .val (.int (1 : Int32)), .val (.int (pk b)), .val (.int (0 : Int32)), .val (.int (1 : Int32)), .val (.int (0 : Int32))]) rfl ?_
              show SS p e below T195 m 161 #[.val (.int a), .val (.int b), .val (.int c), .val (.int len), .val (.int idx), .val (.int (3 : Int32)), .val (.ref b185), .val (.ref b192), .val (.int (1 : Int32)), .val (.int (pk b)), .val (.int (0 : Int32)), .val (.int (1 : Int32)), .val (.int (0 : Int32))] [] _
              refine XS.aload X195.here hx rfl (hb hby at_161) rfl rfl ?_
              show SS p e below T195 m 163 #[.val (.int a), .val (.int b), .val (.int c), .val (.int len), .val (.int idx), .val (.int (3 : Int32)), .val (.ref b185), .val (.ref b192), .val (.int (1 : Int32)), .val (.int (pk b)), .val (.int (0 : Int32)), .val (.int (1 : Int32)), .val (.int (0 : Int32))] [(.ref b192)] _
              refine XS.iload X195.here hx rfl (hb hby at_163) rfl ?_
              show SS p e below T195 m 165 #[.val (.int a), .val (.int b), .val (.int c), .val (.int len), .val (.int idx), .val (.int (3 : Int32)), .val (.ref b185), .val (.ref b192), .val (.int (1 : Int32)), .val (.int (pk b)), .val (.int (0 : Int32)), .val (.int (1 : Int32)), .val (.int (0 : Int32))] [(.int (1 : Int32)), (.ref b192)] _
              refine st246 _ ?_
              show SS p e below T246 m 168 #[.val (.int a), .val (.int b), .val (.int c), .val (.int len), .val (.int idx), .val (.int (3 : Int32)), .val (.ref b185), .val (.ref b192), .val (.int (1 : Int32)), .val (.int (pk b)), .val (.int (0 : Int32)), .val (.int (1 : Int32)), .val (.int (0 : Int32))] [(.int (el [(pk a), (pk b), (pk c)] 1))] _
              refine XS.iload X246.here hx rfl (hb hby at_168) rfl ?_
              show SS p e below T246 m 170 #[.val (.int a), .val (.int b), .val (.int c), .val (.int len), .val (.int idx), .val (.int (3 : Int32)), .val (.ref b185), .val (.ref b192), .val (.int (1 : Int32)), .val (.int (pk b)), .val (.int (0 : Int32)), .val (.int (1 : Int32)), .val (.int (0 : Int32))] [(.int (0 : Int32)), (.int (el [(pk a), (pk b), (pk c)] 1))] _
              refine XS.icmpNo X246.here hx rfl (hb hby at_170) rfl (teq (by simp [el, hc234, hc236, hc241])).2 ?_
              show SS p e below T246 m 173 #[.val (.int a), .val (.int b), .val (.int c), .val (.int len), .val (.int idx), .val (.int (3 : Int32)), .val (.ref b185), .val (.ref b192), .val (.int (1 : Int32)), .val (.int (pk b)), .val (.int (0 : Int32)), .val (.int (1 : Int32)), .val (.int (0 : Int32))] [] _
              refine XS.iconst X246.here hx rfl (hb hby at_173) ?_
              show SS p e below T246 m 174 #[.val (.int a), .val (.int b), .val (.int c), .val (.int len), .val (.int idx), .val (.int (3 : Int32)), .val (.ref b185), .val (.ref b192), .val (.int (1 : Int32)), .val (.int (pk b)), .val (.int (0 : Int32)), .val (.int (1 : Int32)), .val (.int (0 : Int32))] [(.int (1 : Int32))] _
              refine XS.goto X246.here hx rfl (pc0 := 174) (pc' := 178) rfl (hb hby at_174) (by decide) (by decide) ?_
              show SS p e below T246 m 178 #[.val (.int a), .val (.int b), .val (.int c), .val (.int len), .val (.int idx), .val (.int (3 : Int32)), .val (.ref b185), .val (.ref b192), .val (.int (1 : Int32)), .val (.int (pk b)), .val (.int (0 : Int32)), .val (.int (1 : Int32)), .val (.int (0 : Int32))] [(.int (1 : Int32))] _
              exact kt
            obtain ⟨fs, hr, hrun, hended, hW, hsame⟩ := X246.leave (v := some (.int (nar .boolean (1 : Int32)))) (fun h => by rw [Bd.returns] at h; cases h)
            refine ⟨_, _, W247 _ (retN X246 hx (t := .boolean) Bd.returns (by simp) (hb hby at_178) hr), hrun, hended, _, _, rfl, ?_, ⟨_, rfl⟩, hW, hsame.mono (by decide) (by decide)⟩
            show Q_law Z a b c len idx cS fm h0 n0 _ T246.heap _
            rw [eq246]
            exact ⟨rfl, N246, (Keep.trans (Keep.trans (Keep.trans (Keep.trans (Keep.trans (Keep.trans (Keep.refl h0 []) K185 all0) K187 (allS (Or.inr (Nat.le_of_eq g185.symm)) all0)) K189 (allS (Or.inr (Nat.le_of_eq g185.symm)) all0)) K191 (allS (Or.inr (Nat.le_of_eq g185.symm)) all0)) K192 all0) K195 (allS (Or.inr (Nat.le_trans (Nat.le_trans (Nat.le_trans (Nat.le_trans K185.1 K187.1) K189.1) K191.1) (Nat.le_of_eq g192.symm))) all0))⟩
      ·
        have W248 : ∀ zQ, SS p e below T195 m 127 #[.val (.int a), .val (.int b), .val (.int c), .val (.int len), .val (.int idx), .val (.int (3 : Int32)), .val (.ref b185), .val (.ref b192), .val (.int (1 : Int32)), .val (.int (pk b)), .val (.int (0 : Int32)), .val (.int (0 : Int32)), .unset] [(.int (10 : Int32)), (.int (pk b))] zQ → Steps p.tables e below (s₁.setTop (entryFrame m #[(.int a), (.int b), (.int c), (.int len), (.int idx)] maxLocals)) zQ := by
          intro tt kt
          refine W233 tt ?_
          refine XS.icmpYes X195.here hx rfl (pc0 := 113) (pc' := 120) rfl (hb hby at_113) rfl (feq hc234).2 (by decide) (by decide) ?_
          show SS p e below T195 m 120 #[.val (.int a), .val (.int b), .val (.int c), .val (.int len), .val (.int idx), .val (.int (3 : Int32)), .val (.ref b185), .val (.ref b192), .val (.int (1 : Int32)), .val (.int (pk b)), .val (.int (0 : Int32)), .val (.int (0 : Int32)), .unset] [] _
          refine XS.iconst X195.here hx rfl (hb hby at_120) ?_
          show SS p e below T195 m 121 #[.val (.int a), .val (.int b), .val (.int c), .val (.int len), .val (.int idx), .val (.int (3 : Int32)), .val (.ref b185), .val (.ref b192), .val (.int (1 : Int32)), .val (.int (pk b)), .val (.int (0 : Int32)), .val (.int (0 : Int32)), .unset] [(.int (0 : Int32))] _
          refine XS.istore X195.here hx rfl (hb hby at_121) rfl (l' := #[.val (.int a), .val (.int b), .val (.int c), .val (.int len), .val (.int idx), .val (.int (3 : Int32)), .val (.ref b185), .val (.ref b192), .val (.int (1 : Int32)), .val (.int (pk b)), .val (.int (0 : Int32)), .val (.int (0 : Int32)), .unset]) rfl ?_
          show SS p e below T195 m 123 #[.val (.int a), .val (.int b), .val (.int c), .val (.int len), .val (.int idx), .val (.int (3 : Int32)), .val (.ref b185), .val (.ref b192), .val (.int (1 : Int32)), .val (.int (pk b)), .val (.int (0 : Int32)), .val (.int (0 : Int32)), .unset] [] _
          refine XS.iload X195.here hx rfl (hb hby at_123) rfl ?_
          show SS p e below T195 m 125 #[.val (.int a), .val (.int b), .val (.int c), .val (.int len), .val (.int idx), .val (.int (3 : Int32)), .val (.ref b185), .val (.ref b192), .val (.int (1 : Int32)), .val (.int (pk b)), .val (.int (0 : Int32)), .val (.int (0 : Int32)), .unset] [(.int (pk b))] _
          refine XS.bipush X195.here hx rfl (hb hby at_125) ?_
          show SS p e below T195 m 127 #[.val (.int a), .val (.int b), .val (.int c), .val (.int len), .val (.int idx), .val (.int (3 : Int32)), .val (.ref b185), .val (.ref b192), .val (.int (1 : Int32)), .val (.int (pk b)), .val (.int (0 : Int32)), .val (.int (0 : Int32)), .unset] [(.int (10 : Int32)), (.int (pk b))] _
          exact kt
        by_cases hc249 : (pk b) = (10 : Int32)
        ·
          have O250 : Old Z n0 T195.heap := (O194.keep K195 (allS (Nat.le_trans Z0 (Nat.le_trans (Nat.le_trans (Nat.le_trans (Nat.le_trans K185.1 K187.1) K189.1) K191.1) (Nat.le_of_eq g192.symm))) all0))
          obtain ⟨_, _, ⟨T251, L251, k251, n251⟩, -, X251, ⟨Lc251, hQ251, l251, y251, z251⟩, st251⟩ := Jvm.LawKit.callS X195 hx (y := (⟨"com/example/vestline/vestline/input/TextFiles", "endsLine", "(Ljava/lang/String;I)Z"⟩ : MethodName)) hown (mvT hZ (w35 hw)) (mvT hZ (w36 hw)) (mvT hZ (w37 hw)) (mvT hZ (w38 hw)) (by decide) (backOf (W := 0) (rm_endsLine l Z a0 hw [] b192 1 t_196 kb_197 [(pk a), (pk b), (pk c)] cS fm T195.heap n0 (Nat.le_trans Z0 (Nat.le_trans (Nat.le_trans (Nat.le_trans (Nat.le_trans (Nat.le_trans K185.1 K187.1) K189.1) K191.1) K192.1) K195.1)) O250 S_cs hcS S_fm hfm S_ad S_hi S_lo P195_1 (Nat.le_of_ble_eq_true rfl)) hZ (w38 hw) (w37 hw) (by decide) (by decide)) (g := (mkF m 165 #[.val (.int a), .val (.int b), .val (.int c), .val (.int len), .val (.int idx), .val (.int (3 : Int32)), .val (.ref b185), .val (.ref b192), .val (.int (1 : Int32)), .val (.int (pk b)), .val (.int (0 : Int32)), .val (.int (0 : Int32)), .val (.int (1 : Int32))] [(.int (1 : Int32)), (.ref b192)])) rfl (by rw [hml]; rfl) (argsL := [(.ref b192), (.int (1 : Int32))]) (rest := []) (lenOf pd__28_Ljava_2f_lang_2f_String_3b_I_29_Z rfl) rfl (by show 2 * 0 + _ ≤ _; exact Nat.le_of_eq rfl) (hb hby at_165) (fun _ _ => ⟨rfl, rfl, (Nat.le_of_ble_eq_true rfl), (Nat.le_of_ble_eq_true rfl)⟩)
          dsimp only [Pt.U, Pt.locs, Pt.cells, Pt.slots] at X251 l251 y251 z251 st251 hQ251
          subst l251 y251 z251
          obtain ⟨rfl, Nq251, eq251⟩ := hQ251
          have N251 := Fr.app N195 Nq251
          have W252 : ∀ zQ, SS p e below T251 m 178 #[.val (.int a), .val (.int b), .val (.int c), .val (.int len), .val (.int idx), .val (.int (3 : Int32)), .val (.ref b185), .val (.ref b192), .val (.int (1 : Int32)), .val (.int (pk b)), .val (.int (0 : Int32)), .val (.int (0 : Int32)), .val (.int (1 : Int32))] [(.int (1 : Int32))] zQ → Steps p.tables e below (s₁.setTop (entryFrame m #[(.int a), (.int b), (.int c), (.int len), (.int idx)] maxLocals)) zQ := by
            intro tt kt
            refine W248 tt ?_
            refine XS.icmpNo X195.here hx rfl (hb hby at_127) rfl (teq hc249).2 ?_
            show SS p e below T195 m 130 #[.val (.int a), .val (.int b), .val (.int c), .val (.int len), .val (.int idx), .val (.int (3 : Int32)), .val (.ref b185), .val (.ref b192), .val (.int (1 : Int32)), .val (.int (pk b)), .val (.int (0 : Int32)), .val (.int (0 : Int32)), .unset] [] _
            refine XS.iconst X195.here hx rfl (hb hby at_130) ?_
            show SS p e below T195 m 131 #[.val (.int a), .val (.int b), .val (.int c), .val (.int len), .val (.int idx), .val (.int (3 : Int32)), .val (.ref b185), .val (.ref b192), .val (.int (1 : Int32)), .val (.int (pk b)), .val (.int (0 : Int32)), .val (.int (0 : Int32)), .unset] [(.int (1 : Int32))] _
            refine XS.istore X195.here hx rfl (hb hby at_131) rfl (l' := #[.val (.int a), .val (.int b), .val (.int c), .val (.int len), .val (.int idx), .val (.int (3 : Int32)), .val (.ref b185), .val (.ref b192), .val (.int (1 : Int32)), .val (.int (pk b)), .val (.int (0 : Int32)), .val (.int (0 : Int32)), .val (.int (1 : Int32))]) rfl ?_
            show SS p e below T195 m 133 #[.val (.int a), .val (.int b), .val (.int c), .val (.int len), .val (.int idx), .val (.int (3 : Int32)), .val (.ref b185), .val (.ref b192), .val (.int (1 : Int32)), .val (.int (pk b)), .val (.int (0 : Int32)), .val (.int (0 : Int32)), .val (.int (1 : Int32))] [] _
            refine XS.goto X195.here hx rfl (pc0 := 133) (pc' := 161) rfl (hb hby at_133) (by decide) (by decide) ?_
            show SS p e below T195 m 161 #[.val (.int a), .val (.int b), .val (.int c), .val (.int len), .val (.int idx), .val (.int (3 : Int32)), .val (.ref b185), .val (.ref b192), .val (.int (1 : Int32)), .val (.int (pk b)), .val (.int (0 : Int32)), .val (.int (0 : Int32)), .val (.int (1 : Int32))] [] _
            refine XS.aload X195.here hx rfl (hb hby at_161) rfl rfl ?_
            show SS p e below T195 m 163 #[.val (.int a), .val (.int b), .val (.int c), .val (.int len), .val (.int idx), .val (.int (3 : Int32)), .val (.ref b185), .val (.ref b192), .val (.int (1 : Int32)), .val (.int (pk b)), .val (.int (0 : Int32)), .val (.int (0 : Int32)), .val (.int (1 : Int32))] [(.ref b192)] _
            refine XS.iload X195.here hx rfl (hb hby at_163) rfl ?_
            show SS p e below T195 m 165 #[.val (.int a), .val (.int b), .val (.int c), .val (.int len), .val (.int idx), .val (.int (3 : Int32)), .val (.ref b185), .val (.ref b192), .val (.int (1 : Int32)), .val (.int (pk b)), .val (.int (0 : Int32)), .val (.int (0 : Int32)), .val (.int (1 : Int32))] [(.int (1 : Int32)), (.ref b192)] _
            refine st251 _ ?_
            show SS p e below T251 m 168 #[.val (.int a), .val (.int b), .val (.int c), .val (.int len), .val (.int idx), .val (.int (3 : Int32)), .val (.ref b185), .val (.ref b192), .val (.int (1 : Int32)), .val (.int (pk b)), .val (.int (0 : Int32)), .val (.int (0 : Int32)), .val (.int (1 : Int32))] [(.int (el [(pk a), (pk b), (pk c)] 1))] _
            refine XS.iload X251.here hx rfl (hb hby at_168) rfl ?_
            show SS p e below T251 m 170 #[.val (.int a), .val (.int b), .val (.int c), .val (.int len), .val (.int idx), .val (.int (3 : Int32)), .val (.ref b185), .val (.ref b192), .val (.int (1 : Int32)), .val (.int (pk b)), .val (.int (0 : Int32)), .val (.int (0 : Int32)), .val (.int (1 : Int32))] [(.int (1 : Int32)), (.int (el [(pk a), (pk b), (pk c)] 1))] _
            refine XS.icmpNo X251.here hx rfl (hb hby at_170) rfl (teq (by simp [el, hc234, hc249])).2 ?_
            show SS p e below T251 m 173 #[.val (.int a), .val (.int b), .val (.int c), .val (.int len), .val (.int idx), .val (.int (3 : Int32)), .val (.ref b185), .val (.ref b192), .val (.int (1 : Int32)), .val (.int (pk b)), .val (.int (0 : Int32)), .val (.int (0 : Int32)), .val (.int (1 : Int32))] [] _
            refine XS.iconst X251.here hx rfl (hb hby at_173) ?_
            show SS p e below T251 m 174 #[.val (.int a), .val (.int b), .val (.int c), .val (.int len), .val (.int idx), .val (.int (3 : Int32)), .val (.ref b185), .val (.ref b192), .val (.int (1 : Int32)), .val (.int (pk b)), .val (.int (0 : Int32)), .val (.int (0 : Int32)), .val (.int (1 : Int32))] [(.int (1 : Int32))] _
            refine XS.goto X251.here hx rfl (pc0 := 174) (pc' := 178) rfl (hb hby at_174) (by decide) (by decide) ?_
            show SS p e below T251 m 178 #[.val (.int a), .val (.int b), .val (.int c), .val (.int len), .val (.int idx), .val (.int (3 : Int32)), .val (.ref b185), .val (.ref b192), .val (.int (1 : Int32)), .val (.int (pk b)), .val (.int (0 : Int32)), .val (.int (0 : Int32)), .val (.int (1 : Int32))] [(.int (1 : Int32))] _
            exact kt
          obtain ⟨fs, hr, hrun, hended, hW, hsame⟩ := X251.leave (v := some (.int (nar .boolean (1 : Int32)))) (fun h => by rw [Bd.returns] at h; cases h)
          refine ⟨_, _, W252 _ (retN X251 hx (t := .boolean) Bd.returns (by simp) (hb hby at_178) hr), hrun, hended, _, _, rfl, ?_, ⟨_, rfl⟩, hW, hsame.mono (by decide) (by decide)⟩
          show Q_law Z a b c len idx cS fm h0 n0 _ T251.heap _
          rw [eq251]
          exact ⟨rfl, N251, (Keep.trans (Keep.trans (Keep.trans (Keep.trans (Keep.trans (Keep.trans (Keep.refl h0 []) K185 all0) K187 (allS (Or.inr (Nat.le_of_eq g185.symm)) all0)) K189 (allS (Or.inr (Nat.le_of_eq g185.symm)) all0)) K191 (allS (Or.inr (Nat.le_of_eq g185.symm)) all0)) K192 all0) K195 (allS (Or.inr (Nat.le_trans (Nat.le_trans (Nat.le_trans (Nat.le_trans K185.1 K187.1) K189.1) K191.1) (Nat.le_of_eq g192.symm))) all0))⟩
        ·
          have W253 : ∀ zQ, SS p e below T195 m 140 #[.val (.int a), .val (.int b), .val (.int c), .val (.int len), .val (.int idx), .val (.int (3 : Int32)), .val (.ref b185), .val (.ref b192), .val (.int (1 : Int32)), .val (.int (pk b)), .val (.int (0 : Int32)), .val (.int (0 : Int32)), .unset] [(.int (13 : Int32)), (.int (pk b))] zQ → Steps p.tables e below (s₁.setTop (entryFrame m #[(.int a), (.int b), (.int c), (.int len), (.int idx)] maxLocals)) zQ := by
            intro tt kt
            refine W248 tt ?_
            refine XS.icmpYes X195.here hx rfl (pc0 := 127) (pc' := 136) rfl (hb hby at_127) rfl (feq hc249).2 (by decide) (by decide) ?_
            show SS p e below T195 m 136 #[.val (.int a), .val (.int b), .val (.int c), .val (.int len), .val (.int idx), .val (.int (3 : Int32)), .val (.ref b185), .val (.ref b192), .val (.int (1 : Int32)), .val (.int (pk b)), .val (.int (0 : Int32)), .val (.int (0 : Int32)), .unset] [] _
            refine XS.iload X195.here hx rfl (hb hby at_136) rfl ?_
            show SS p e below T195 m 138 #[.val (.int a), .val (.int b), .val (.int c), .val (.int len), .val (.int idx), .val (.int (3 : Int32)), .val (.ref b185), .val (.ref b192), .val (.int (1 : Int32)), .val (.int (pk b)), .val (.int (0 : Int32)), .val (.int (0 : Int32)), .unset] [(.int (pk b))] _
            refine XS.bipush X195.here hx rfl (hb hby at_138) ?_
            show SS p e below T195 m 140 #[.val (.int a), .val (.int b), .val (.int c), .val (.int len), .val (.int idx), .val (.int (3 : Int32)), .val (.ref b185), .val (.ref b192), .val (.int (1 : Int32)), .val (.int (pk b)), .val (.int (0 : Int32)), .val (.int (0 : Int32)), .unset] [(.int (13 : Int32)), (.int (pk b))] _
            exact kt
          by_cases hc254 : (pk b) = (13 : Int32)
          ·
            have O255 : Old Z n0 T195.heap := (O194.keep K195 (allS (Nat.le_trans Z0 (Nat.le_trans (Nat.le_trans (Nat.le_trans (Nat.le_trans K185.1 K187.1) K189.1) K191.1) (Nat.le_of_eq g192.symm))) all0))
            obtain ⟨_, _, ⟨T256, L256, k256, n256⟩, -, X256, ⟨Lc256, hQ256, l256, y256, z256⟩, st256⟩ := Jvm.LawKit.callS X195 hx (y := (⟨"com/example/vestline/vestline/input/TextFiles", "endsLine", "(Ljava/lang/String;I)Z"⟩ : MethodName)) hown (mvT hZ (w35 hw)) (mvT hZ (w36 hw)) (mvT hZ (w37 hw)) (mvT hZ (w38 hw)) (by decide) (backOf (W := 0) (rm_endsLine l Z a0 hw [] b192 1 t_196 kb_197 [(pk a), (pk b), (pk c)] cS fm T195.heap n0 (Nat.le_trans Z0 (Nat.le_trans (Nat.le_trans (Nat.le_trans (Nat.le_trans (Nat.le_trans K185.1 K187.1) K189.1) K191.1) K192.1) K195.1)) O255 S_cs hcS S_fm hfm S_ad S_hi S_lo P195_1 (Nat.le_of_ble_eq_true rfl)) hZ (w38 hw) (w37 hw) (by decide) (by decide)) (g := (mkF m 165 #[.val (.int a), .val (.int b), .val (.int c), .val (.int len), .val (.int idx), .val (.int (3 : Int32)), .val (.ref b185), .val (.ref b192), .val (.int (1 : Int32)), .val (.int (pk b)), .val (.int (0 : Int32)), .val (.int (0 : Int32)), .val (.int (1 : Int32))] [(.int (1 : Int32)), (.ref b192)])) rfl (by rw [hml]; rfl) (argsL := [(.ref b192), (.int (1 : Int32))]) (rest := []) (lenOf pd__28_Ljava_2f_lang_2f_String_3b_I_29_Z rfl) rfl (by show 2 * 0 + _ ≤ _; exact Nat.le_of_eq rfl) (hb hby at_165) (fun _ _ => ⟨rfl, rfl, (Nat.le_of_ble_eq_true rfl), (Nat.le_of_ble_eq_true rfl)⟩)
            dsimp only [Pt.U, Pt.locs, Pt.cells, Pt.slots] at X256 l256 y256 z256 st256 hQ256
            subst l256 y256 z256
            obtain ⟨rfl, Nq256, eq256⟩ := hQ256
            have N256 := Fr.app N195 Nq256
            have W257 : ∀ zQ, SS p e below T256 m 178 #[.val (.int a), .val (.int b), .val (.int c), .val (.int len), .val (.int idx), .val (.int (3 : Int32)), .val (.ref b185), .val (.ref b192), .val (.int (1 : Int32)), .val (.int (pk b)), .val (.int (0 : Int32)), .val (.int (0 : Int32)), .val (.int (1 : Int32))] [(.int (1 : Int32))] zQ → Steps p.tables e below (s₁.setTop (entryFrame m #[(.int a), (.int b), (.int c), (.int len), (.int idx)] maxLocals)) zQ := by
              intro tt kt
              refine W253 tt ?_
              refine XS.icmpNo X195.here hx rfl (hb hby at_140) rfl (teq hc254).2 ?_
              show SS p e below T195 m 143 #[.val (.int a), .val (.int b), .val (.int c), .val (.int len), .val (.int idx), .val (.int (3 : Int32)), .val (.ref b185), .val (.ref b192), .val (.int (1 : Int32)), .val (.int (pk b)), .val (.int (0 : Int32)), .val (.int (0 : Int32)), .unset] [] _
              refine XS.iload X195.here hx rfl (hb hby at_143) rfl ?_
              show SS p e below T195 m 145 #[.val (.int a), .val (.int b), .val (.int c), .val (.int len), .val (.int idx), .val (.int (3 : Int32)), .val (.ref b185), .val (.ref b192), .val (.int (1 : Int32)), .val (.int (pk b)), .val (.int (0 : Int32)), .val (.int (0 : Int32)), .unset] [(.int (0 : Int32))] _
              refine XS.ifNo X195.here hx rfl (hb hby at_145) rfl ((if0 _ _).trans (teq (by decide)).2) ?_
              show SS p e below T195 m 148 #[.val (.int a), .val (.int b), .val (.int c), .val (.int len), .val (.int idx), .val (.int (3 : Int32)), .val (.ref b185), .val (.ref b192), .val (.int (1 : Int32)), .val (.int (pk b)), .val (.int (0 : Int32)), .val (.int (0 : Int32)), .unset] [] _
              refine XS.iconst X195.here hx rfl (hb hby at_148) ?_
              show SS p e below T195 m 149 #[.val (.int a), .val (.int b), .val (.int c), .val (.int len), .val (.int idx), .val (.int (3 : Int32)), .val (.ref b185), .val (.ref b192), .val (.int (1 : Int32)), .val (.int (pk b)), .val (.int (0 : Int32)), .val (.int (0 : Int32)), .unset] [(.int (1 : Int32))] _
              refine XS.goto X195.here hx rfl (pc0 := 149) (pc' := 153) rfl (hb hby at_149) (by decide) (by decide) ?_
              show SS p e below T195 m 153 #[.val (.int a), .val (.int b), .val (.int c), .val (.int len), .val (.int idx), .val (.int (3 : Int32)), .val (.ref b185), .val (.ref b192), .val (.int (1 : Int32)), .val (.int (pk b)), .val (.int (0 : Int32)), .val (.int (0 : Int32)), .unset] [(.int (1 : Int32))] _
              refine XS.istore X195.here hx rfl (hb hby at_153) rfl (l' := #[.val (.int a), .val (.int b), .val (.int c), .val (.int len), .val (.int idx), .val (.int (3 : Int32)), .val (.ref b185), .val (.ref b192), .val (.int (1 : Int32)), .val (.int (pk b)), .val (.int (0 : Int32)), .val (.int (0 : Int32)), .val (.int (1 : Int32))]) rfl ?_
              show SS p e below T195 m 155 #[.val (.int a), .val (.int b), .val (.int c), .val (.int len), .val (.int idx), .val (.int (3 : Int32)), .val (.ref b185), .val (.ref b192), .val (.int (1 : Int32)), .val (.int (pk b)), .val (.int (0 : Int32)), .val (.int (0 : Int32)), .val (.int (1 : Int32))] [] _
              refine XS.goto X195.here hx rfl (pc0 := 155) (pc' := 161) rfl (hb hby at_155) (by decide) (by decide) ?_
              show SS p e below T195 m 161 #[.val (.int a), .val (.int b), .val (.int c), .val (.int len), .val (.int idx), .val (.int (3 : Int32)), .val (.ref b185), .val (.ref b192), .val (.int (1 : Int32)), .val (.int (pk b)), .val (.int (0 : Int32)), .val (.int (0 : Int32)), .val (.int (1 : Int32))] [] _
              refine XS.aload X195.here hx rfl (hb hby at_161) rfl rfl ?_
              show SS p e below T195 m 163 #[.val (.int a), .val (.int b), .val (.int c), .val (.int len), .val (.int idx), .val (.int (3 : Int32)), .val (.ref b185), .val (.ref b192), .val (.int (1 : Int32)), .val (.int (pk b)), .val (.int (0 : Int32)), .val (.int (0 : Int32)), .val (.int (1 : Int32))] [(.ref b192)] _
              refine XS.iload X195.here hx rfl (hb hby at_163) rfl ?_
              show SS p e below T195 m 165 #[.val (.int a), .val (.int b), .val (.int c), .val (.int len), .val (.int idx), .val (.int (3 : Int32)), .val (.ref b185), .val (.ref b192), .val (.int (1 : Int32)), .val (.int (pk b)), .val (.int (0 : Int32)), .val (.int (0 : Int32)), .val (.int (1 : Int32))] [(.int (1 : Int32)), (.ref b192)] _
              refine st256 _ ?_
              show SS p e below T256 m 168 #[.val (.int a), .val (.int b), .val (.int c), .val (.int len), .val (.int idx), .val (.int (3 : Int32)), .val (.ref b185), .val (.ref b192), .val (.int (1 : Int32)), .val (.int (pk b)), .val (.int (0 : Int32)), .val (.int (0 : Int32)), .val (.int (1 : Int32))] [(.int (el [(pk a), (pk b), (pk c)] 1))] _
              refine XS.iload X256.here hx rfl (hb hby at_168) rfl ?_
              show SS p e below T256 m 170 #[.val (.int a), .val (.int b), .val (.int c), .val (.int len), .val (.int idx), .val (.int (3 : Int32)), .val (.ref b185), .val (.ref b192), .val (.int (1 : Int32)), .val (.int (pk b)), .val (.int (0 : Int32)), .val (.int (0 : Int32)), .val (.int (1 : Int32))] [(.int (1 : Int32)), (.int (el [(pk a), (pk b), (pk c)] 1))] _
              refine XS.icmpNo X256.here hx rfl (hb hby at_170) rfl (teq (by simp [el, hc234, hc249, hc254])).2 ?_
              show SS p e below T256 m 173 #[.val (.int a), .val (.int b), .val (.int c), .val (.int len), .val (.int idx), .val (.int (3 : Int32)), .val (.ref b185), .val (.ref b192), .val (.int (1 : Int32)), .val (.int (pk b)), .val (.int (0 : Int32)), .val (.int (0 : Int32)), .val (.int (1 : Int32))] [] _
              refine XS.iconst X256.here hx rfl (hb hby at_173) ?_
              show SS p e below T256 m 174 #[.val (.int a), .val (.int b), .val (.int c), .val (.int len), .val (.int idx), .val (.int (3 : Int32)), .val (.ref b185), .val (.ref b192), .val (.int (1 : Int32)), .val (.int (pk b)), .val (.int (0 : Int32)), .val (.int (0 : Int32)), .val (.int (1 : Int32))] [(.int (1 : Int32))] _
              refine XS.goto X256.here hx rfl (pc0 := 174) (pc' := 178) rfl (hb hby at_174) (by decide) (by decide) ?_
              show SS p e below T256 m 178 #[.val (.int a), .val (.int b), .val (.int c), .val (.int len), .val (.int idx), .val (.int (3 : Int32)), .val (.ref b185), .val (.ref b192), .val (.int (1 : Int32)), .val (.int (pk b)), .val (.int (0 : Int32)), .val (.int (0 : Int32)), .val (.int (1 : Int32))] [(.int (1 : Int32))] _
              exact kt
            obtain ⟨fs, hr, hrun, hended, hW, hsame⟩ := X256.leave (v := some (.int (nar .boolean (1 : Int32)))) (fun h => by rw [Bd.returns] at h; cases h)
            refine ⟨_, _, W257 _ (retN X256 hx (t := .boolean) Bd.returns (by simp) (hb hby at_178) hr), hrun, hended, _, _, rfl, ?_, ⟨_, rfl⟩, hW, hsame.mono (by decide) (by decide)⟩
            show Q_law Z a b c len idx cS fm h0 n0 _ T256.heap _
            rw [eq256]
            exact ⟨rfl, N256, (Keep.trans (Keep.trans (Keep.trans (Keep.trans (Keep.trans (Keep.trans (Keep.refl h0 []) K185 all0) K187 (allS (Or.inr (Nat.le_of_eq g185.symm)) all0)) K189 (allS (Or.inr (Nat.le_of_eq g185.symm)) all0)) K191 (allS (Or.inr (Nat.le_of_eq g185.symm)) all0)) K192 all0) K195 (allS (Or.inr (Nat.le_trans (Nat.le_trans (Nat.le_trans (Nat.le_trans K185.1 K187.1) K189.1) K191.1) (Nat.le_of_eq g192.symm))) all0))⟩
          ·
            have O258 : Old Z n0 T195.heap := (O194.keep K195 (allS (Nat.le_trans Z0 (Nat.le_trans (Nat.le_trans (Nat.le_trans (Nat.le_trans K185.1 K187.1) K189.1) K191.1) (Nat.le_of_eq g192.symm))) all0))
            obtain ⟨_, _, ⟨T259, L259, k259, n259⟩, -, X259, ⟨Lc259, hQ259, l259, y259, z259⟩, st259⟩ := Jvm.LawKit.callS X195 hx (y := (⟨"com/example/vestline/vestline/input/TextFiles", "endsLine", "(Ljava/lang/String;I)Z"⟩ : MethodName)) hown (mvT hZ (w35 hw)) (mvT hZ (w36 hw)) (mvT hZ (w37 hw)) (mvT hZ (w38 hw)) (by decide) (backOf (W := 0) (rm_endsLine l Z a0 hw [] b192 1 t_196 kb_197 [(pk a), (pk b), (pk c)] cS fm T195.heap n0 (Nat.le_trans Z0 (Nat.le_trans (Nat.le_trans (Nat.le_trans (Nat.le_trans (Nat.le_trans K185.1 K187.1) K189.1) K191.1) K192.1) K195.1)) O258 S_cs hcS S_fm hfm S_ad S_hi S_lo P195_1 (Nat.le_of_ble_eq_true rfl)) hZ (w38 hw) (w37 hw) (by decide) (by decide)) (g := (mkF m 165 #[.val (.int a), .val (.int b), .val (.int c), .val (.int len), .val (.int idx), .val (.int (3 : Int32)), .val (.ref b185), .val (.ref b192), .val (.int (1 : Int32)), .val (.int (pk b)), .val (.int (0 : Int32)), .val (.int (0 : Int32)), .val (.int (0 : Int32))] [(.int (1 : Int32)), (.ref b192)])) rfl (by rw [hml]; rfl) (argsL := [(.ref b192), (.int (1 : Int32))]) (rest := []) (lenOf pd__28_Ljava_2f_lang_2f_String_3b_I_29_Z rfl) rfl (by show 2 * 0 + _ ≤ _; exact Nat.le_of_eq rfl) (hb hby at_165) (fun _ _ => ⟨rfl, rfl, (Nat.le_of_ble_eq_true rfl), (Nat.le_of_ble_eq_true rfl)⟩)
            dsimp only [Pt.U, Pt.locs, Pt.cells, Pt.slots] at X259 l259 y259 z259 st259 hQ259
            subst l259 y259 z259
            obtain ⟨rfl, Nq259, eq259⟩ := hQ259
            have N259 := Fr.app N195 Nq259
            have W260 : ∀ zQ, SS p e below T259 m 178 #[.val (.int a), .val (.int b), .val (.int c), .val (.int len), .val (.int idx), .val (.int (3 : Int32)), .val (.ref b185), .val (.ref b192), .val (.int (1 : Int32)), .val (.int (pk b)), .val (.int (0 : Int32)), .val (.int (0 : Int32)), .val (.int (0 : Int32))] [(.int (1 : Int32))] zQ → Steps p.tables e below (s₁.setTop (entryFrame m #[(.int a), (.int b), (.int c), (.int len), (.int idx)] maxLocals)) zQ := by
              intro tt kt
              refine W253 tt ?_
              refine XS.icmpYes X195.here hx rfl (pc0 := 140) (pc' := 158) rfl (hb hby at_140) rfl (feq hc254).2 (by decide) (by decide) ?_
              show SS p e below T195 m 158 #[.val (.int a), .val (.int b), .val (.int c), .val (.int len), .val (.int idx), .val (.int (3 : Int32)), .val (.ref b185), .val (.ref b192), .val (.int (1 : Int32)), .val (.int (pk b)), .val (.int (0 : Int32)), .val (.int (0 : Int32)), .unset] [] _
              refine XS.iconst X195.here hx rfl (hb hby at_158) ?_
              show SS p e below T195 m 159 #[.val (.int a), .val (.int b), .val (.int c), .val (.int len), .val (.int idx), .val (.int (3 : Int32)), .val (.ref b185), .val (.ref b192), .val (.int (1 : Int32)), .val (.int (pk b)), .val (.int (0 : Int32)), .val (.int (0 : Int32)), .unset] [(.int (0 : Int32))] _
              refine XS.istore X195.here hx rfl (hb hby at_159) rfl (l' := #[.val (.int a), .val (.int b), .val (.int c), .val (.int len), .val (.int idx), .val (.int (3 : Int32)), .val (.ref b185), .val (.ref b192), .val (.int (1 : Int32)), .val (.int (pk b)), .val (.int (0 : Int32)), .val (.int (0 : Int32)), .val (.int (0 : Int32))]) rfl ?_
              show SS p e below T195 m 161 #[.val (.int a), .val (.int b), .val (.int c), .val (.int len), .val (.int idx), .val (.int (3 : Int32)), .val (.ref b185), .val (.ref b192), .val (.int (1 : Int32)), .val (.int (pk b)), .val (.int (0 : Int32)), .val (.int (0 : Int32)), .val (.int (0 : Int32))] [] _
              refine XS.aload X195.here hx rfl (hb hby at_161) rfl rfl ?_
              show SS p e below T195 m 163 #[.val (.int a), .val (.int b), .val (.int c), .val (.int len), .val (.int idx), .val (.int (3 : Int32)), .val (.ref b185), .val (.ref b192), .val (.int (1 : Int32)), .val (.int (pk b)), .val (.int (0 : Int32)), .val (.int (0 : Int32)), .val (.int (0 : Int32))] [(.ref b192)] _
              refine XS.iload X195.here hx rfl (hb hby at_163) rfl ?_
              show SS p e below T195 m 165 #[.val (.int a), .val (.int b), .val (.int c), .val (.int len), .val (.int idx), .val (.int (3 : Int32)), .val (.ref b185), .val (.ref b192), .val (.int (1 : Int32)), .val (.int (pk b)), .val (.int (0 : Int32)), .val (.int (0 : Int32)), .val (.int (0 : Int32))] [(.int (1 : Int32)), (.ref b192)] _
              refine st259 _ ?_
              show SS p e below T259 m 168 #[.val (.int a), .val (.int b), .val (.int c), .val (.int len), .val (.int idx), .val (.int (3 : Int32)), .val (.ref b185), .val (.ref b192), .val (.int (1 : Int32)), .val (.int (pk b)), .val (.int (0 : Int32)), .val (.int (0 : Int32)), .val (.int (0 : Int32))] [(.int (el [(pk a), (pk b), (pk c)] 1))] _
              refine XS.iload X259.here hx rfl (hb hby at_168) rfl ?_
              show SS p e below T259 m 170 #[.val (.int a), .val (.int b), .val (.int c), .val (.int len), .val (.int idx), .val (.int (3 : Int32)), .val (.ref b185), .val (.ref b192), .val (.int (1 : Int32)), .val (.int (pk b)), .val (.int (0 : Int32)), .val (.int (0 : Int32)), .val (.int (0 : Int32))] [(.int (0 : Int32)), (.int (el [(pk a), (pk b), (pk c)] 1))] _
              refine XS.icmpNo X259.here hx rfl (hb hby at_170) rfl (teq (by simp [el, hc234, hc249, hc254])).2 ?_
              show SS p e below T259 m 173 #[.val (.int a), .val (.int b), .val (.int c), .val (.int len), .val (.int idx), .val (.int (3 : Int32)), .val (.ref b185), .val (.ref b192), .val (.int (1 : Int32)), .val (.int (pk b)), .val (.int (0 : Int32)), .val (.int (0 : Int32)), .val (.int (0 : Int32))] [] _
              refine XS.iconst X259.here hx rfl (hb hby at_173) ?_
              show SS p e below T259 m 174 #[.val (.int a), .val (.int b), .val (.int c), .val (.int len), .val (.int idx), .val (.int (3 : Int32)), .val (.ref b185), .val (.ref b192), .val (.int (1 : Int32)), .val (.int (pk b)), .val (.int (0 : Int32)), .val (.int (0 : Int32)), .val (.int (0 : Int32))] [(.int (1 : Int32))] _
              refine XS.goto X259.here hx rfl (pc0 := 174) (pc' := 178) rfl (hb hby at_174) (by decide) (by decide) ?_
              show SS p e below T259 m 178 #[.val (.int a), .val (.int b), .val (.int c), .val (.int len), .val (.int idx), .val (.int (3 : Int32)), .val (.ref b185), .val (.ref b192), .val (.int (1 : Int32)), .val (.int (pk b)), .val (.int (0 : Int32)), .val (.int (0 : Int32)), .val (.int (0 : Int32))] [(.int (1 : Int32))] _
              exact kt
            obtain ⟨fs, hr, hrun, hended, hW, hsame⟩ := X259.leave (v := some (.int (nar .boolean (1 : Int32)))) (fun h => by rw [Bd.returns] at h; cases h)
            refine ⟨_, _, W260 _ (retN X259 hx (t := .boolean) Bd.returns (by simp) (hb hby at_178) hr), hrun, hended, _, _, rfl, ?_, ⟨_, rfl⟩, hW, hsame.mono (by decide) (by decide)⟩
            show Q_law Z a b c len idx cS fm h0 n0 _ T259.heap _
            rw [eq259]
            exact ⟨rfl, N259, (Keep.trans (Keep.trans (Keep.trans (Keep.trans (Keep.trans (Keep.trans (Keep.refl h0 []) K185 all0) K187 (allS (Or.inr (Nat.le_of_eq g185.symm)) all0)) K189 (allS (Or.inr (Nat.le_of_eq g185.symm)) all0)) K191 (allS (Or.inr (Nat.le_of_eq g185.symm)) all0)) K192 all0) K195 (allS (Or.inr (Nat.le_trans (Nat.le_trans (Nat.le_trans (Nat.le_trans K185.1 K187.1) K189.1) K191.1) (Nat.le_of_eq g192.symm))) all0))⟩
    ·
      have F261 : Arv Z T195.heap b185 k185 .char (3 : Int32) [(.int (pk a)), (.int (pk b)), (.int (pk c))] (.int (0 : Int32)) := (F193.keep K195 (ninS (Nat.ne_of_lt (Nat.lt_of_lt_of_le (Nat.lt_of_lt_of_le G185.lt (Nat.le_trans (Nat.le_trans K187.1 K189.1) K191.1)) (Nat.le_of_eq g192.symm))) nin0))
      obtain ⟨cl262, Ar262, q262, S262, M262, H262, F262g⟩ := id F261
      have hin262 : ¬ ((2 : Int32) < 0 ∨ cl262.slots.size ≤ ((2 : Int32)).toNatClampNeg) := inb_of S262 ⟨by decide, by decide⟩
      have hat262 : cl262.slots[((2 : Int32)).toNatClampNeg]? = some (.int (pk c)) := Has.at H262 hin262 rfl
      have W263 : ∀ zQ, SS p e below T195 m 127 #[.val (.int a), .val (.int b), .val (.int c), .val (.int len), .val (.int idx), .val (.int (3 : Int32)), .val (.ref b185), .val (.ref b192), .val (.int (2 : Int32)), .val (.int (pk c)), .val (.int (1 : Int32)), .val (.int (0 : Int32)), .unset] [(.int (10 : Int32)), (.int (pk c))] zQ → Steps p.tables e below (s₁.setTop (entryFrame m #[(.int a), (.int b), (.int c), (.int len), (.int idx)] maxLocals)) zQ := by
        intro tt kt
        refine W198 tt ?_
        refine XS.istore X195.here hx rfl (hb hby at_71) rfl (l' := #[.val (.int a), .val (.int b), .val (.int c), .val (.int len), .val (.int idx), .val (.int (3 : Int32)), .val (.ref b185), .val (.ref b192), .val (.int (2 : Int32)), .unset, .unset, .unset, .unset]) rfl ?_
        show SS p e below T195 m 73 #[.val (.int a), .val (.int b), .val (.int c), .val (.int len), .val (.int idx), .val (.int (3 : Int32)), .val (.ref b185), .val (.ref b192), .val (.int (2 : Int32)), .unset, .unset, .unset, .unset] [] _
        refine XS.aload X195.here hx rfl (hb hby at_73) rfl rfl ?_
        show SS p e below T195 m 75 #[.val (.int a), .val (.int b), .val (.int c), .val (.int len), .val (.int idx), .val (.int (3 : Int32)), .val (.ref b185), .val (.ref b192), .val (.int (2 : Int32)), .unset, .unset, .unset, .unset] [(.ref b185)] _
        refine XS.iload X195.here hx rfl (hb hby at_75) rfl ?_
        show SS p e below T195 m 77 #[.val (.int a), .val (.int b), .val (.int c), .val (.int len), .val (.int idx), .val (.int (3 : Int32)), .val (.ref b185), .val (.ref b192), .val (.int (2 : Int32)), .unset, .unset, .unset, .unset] [(.int (2 : Int32)), (.ref b185)] _
        refine X195.caload hx (j := (2 : Int32)) (v := (.int (pk c))) (by first | exact Ar262.1 | (rw [rfl]; exact Ar262.1)) (State.isArrayOf_alike hZ.alike Ar262.2.1) Ar262.2.2 hin262 hat262 (g := (mkF m 77 #[.val (.int a), .val (.int b), .val (.int c), .val (.int len), .val (.int idx), .val (.int (3 : Int32)), .val (.ref b185), .val (.ref b192), .val (.int (2 : Int32)), .unset, .unset, .unset, .unset] [(.int (2 : Int32)), (.ref b185)])) rfl rfl (hb hby at_77) _ ?_
        show SS p e below T195 m 78 #[.val (.int a), .val (.int b), .val (.int c), .val (.int len), .val (.int idx), .val (.int (3 : Int32)), .val (.ref b185), .val (.ref b192), .val (.int (2 : Int32)), .unset, .unset, .unset, .unset] [(.int (pk c))] _
        refine XS.istore X195.here hx rfl (hb hby at_78) rfl (l' := #[.val (.int a), .val (.int b), .val (.int c), .val (.int len), .val (.int idx), .val (.int (3 : Int32)), .val (.ref b185), .val (.ref b192), .val (.int (2 : Int32)), .val (.int (pk c)), .unset, .unset, .unset]) rfl ?_
        show SS p e below T195 m 80 #[.val (.int a), .val (.int b), .val (.int c), .val (.int len), .val (.int idx), .val (.int (3 : Int32)), .val (.ref b185), .val (.ref b192), .val (.int (2 : Int32)), .val (.int (pk c)), .unset, .unset, .unset] [] _
        refine XS.iload X195.here hx rfl (hb hby at_80) rfl ?_
        show SS p e below T195 m 82 #[.val (.int a), .val (.int b), .val (.int c), .val (.int len), .val (.int idx), .val (.int (3 : Int32)), .val (.ref b185), .val (.ref b192), .val (.int (2 : Int32)), .val (.int (pk c)), .unset, .unset, .unset] [(.int (2 : Int32))] _
        refine XS.iload X195.here hx rfl (hb hby at_82) rfl ?_
        show SS p e below T195 m 84 #[.val (.int a), .val (.int b), .val (.int c), .val (.int len), .val (.int idx), .val (.int (3 : Int32)), .val (.ref b185), .val (.ref b192), .val (.int (2 : Int32)), .val (.int (pk c)), .unset, .unset, .unset] [(.int (3 : Int32)), (.int (2 : Int32))] _
        refine XS.iconst X195.here hx rfl (hb hby at_84) ?_
        show SS p e below T195 m 85 #[.val (.int a), .val (.int b), .val (.int c), .val (.int len), .val (.int idx), .val (.int (3 : Int32)), .val (.ref b185), .val (.ref b192), .val (.int (2 : Int32)), .val (.int (pk c)), .unset, .unset, .unset] [(.int (1 : Int32)), (.int (3 : Int32)), (.int (2 : Int32))] _
        refine XS.isub X195.here hx rfl (hb hby at_85) rfl ?_
        show SS p e below T195 m 86 #[.val (.int a), .val (.int b), .val (.int c), .val (.int len), .val (.int idx), .val (.int (3 : Int32)), .val (.ref b185), .val (.ref b192), .val (.int (2 : Int32)), .val (.int (pk c)), .unset, .unset, .unset] [(.int (2 : Int32)), (.int (2 : Int32))] _
        refine XS.icmpNo X195.here hx rfl (hb hby at_86) rfl (teq (by decide)).2 ?_
        show SS p e below T195 m 89 #[.val (.int a), .val (.int b), .val (.int c), .val (.int len), .val (.int idx), .val (.int (3 : Int32)), .val (.ref b185), .val (.ref b192), .val (.int (2 : Int32)), .val (.int (pk c)), .unset, .unset, .unset] [] _
        refine XS.iconst X195.here hx rfl (hb hby at_89) ?_
        show SS p e below T195 m 90 #[.val (.int a), .val (.int b), .val (.int c), .val (.int len), .val (.int idx), .val (.int (3 : Int32)), .val (.ref b185), .val (.ref b192), .val (.int (2 : Int32)), .val (.int (pk c)), .unset, .unset, .unset] [(.int (1 : Int32))] _
        refine XS.goto X195.here hx rfl (pc0 := 90) (pc' := 94) rfl (hb hby at_90) (by decide) (by decide) ?_
        show SS p e below T195 m 94 #[.val (.int a), .val (.int b), .val (.int c), .val (.int len), .val (.int idx), .val (.int (3 : Int32)), .val (.ref b185), .val (.ref b192), .val (.int (2 : Int32)), .val (.int (pk c)), .unset, .unset, .unset] [(.int (1 : Int32))] _
        refine XS.istore X195.here hx rfl (hb hby at_94) rfl (l' := #[.val (.int a), .val (.int b), .val (.int c), .val (.int len), .val (.int idx), .val (.int (3 : Int32)), .val (.ref b185), .val (.ref b192), .val (.int (2 : Int32)), .val (.int (pk c)), .val (.int (1 : Int32)), .unset, .unset]) rfl ?_
        show SS p e below T195 m 96 #[.val (.int a), .val (.int b), .val (.int c), .val (.int len), .val (.int idx), .val (.int (3 : Int32)), .val (.ref b185), .val (.ref b192), .val (.int (2 : Int32)), .val (.int (pk c)), .val (.int (1 : Int32)), .unset, .unset] [] _
        refine XS.iconst X195.here hx rfl (hb hby at_96) ?_
        show SS p e below T195 m 97 #[.val (.int a), .val (.int b), .val (.int c), .val (.int len), .val (.int idx), .val (.int (3 : Int32)), .val (.ref b185), .val (.ref b192), .val (.int (2 : Int32)), .val (.int (pk c)), .val (.int (1 : Int32)), .unset, .unset] [(.int (0 : Int32))] _
        refine XS.istore X195.here hx rfl (hb hby at_97) rfl (l' := #[.val (.int a), .val (.int b), .val (.int c), .val (.int len), .val (.int idx), .val (.int (3 : Int32)), .val (.ref b185), .val (.ref b192), .val (.int (2 : Int32)), .val (.int (pk c)), .val (.int (1 : Int32)), .val (.int (0 : Int32)), .unset]) rfl ?_
        show SS p e below T195 m 99 #[.val (.int a), .val (.int b), .val (.int c), .val (.int len), .val (.int idx), .val (.int (3 : Int32)), .val (.ref b185), .val (.ref b192), .val (.int (2 : Int32)), .val (.int (pk c)), .val (.int (1 : Int32)), .val (.int (0 : Int32)), .unset] [] _
        refine XS.iload X195.here hx rfl (hb hby at_99) rfl ?_
        show SS p e below T195 m 101 #[.val (.int a), .val (.int b), .val (.int c), .val (.int len), .val (.int idx), .val (.int (3 : Int32)), .val (.ref b185), .val (.ref b192), .val (.int (2 : Int32)), .val (.int (pk c)), .val (.int (1 : Int32)), .val (.int (0 : Int32)), .unset] [(.int (1 : Int32))] _
        refine XS.ifYes X195.here hx rfl (pc0 := 101) (pc' := 123) rfl (hb hby at_101) rfl ((if0 _ _).trans (feq (by decide)).2) (by decide) (by decide) ?_
        show SS p e below T195 m 123 #[.val (.int a), .val (.int b), .val (.int c), .val (.int len), .val (.int idx), .val (.int (3 : Int32)), .val (.ref b185), .val (.ref b192), .val (.int (2 : Int32)), .val (.int (pk c)), .val (.int (1 : Int32)), .val (.int (0 : Int32)), .unset] [] _
        refine XS.iload X195.here hx rfl (hb hby at_123) rfl ?_
        show SS p e below T195 m 125 #[.val (.int a), .val (.int b), .val (.int c), .val (.int len), .val (.int idx), .val (.int (3 : Int32)), .val (.ref b185), .val (.ref b192), .val (.int (2 : Int32)), .val (.int (pk c)), .val (.int (1 : Int32)), .val (.int (0 : Int32)), .unset] [(.int (pk c))] _
        refine XS.bipush X195.here hx rfl (hb hby at_125) ?_
        show SS p e below T195 m 127 #[.val (.int a), .val (.int b), .val (.int c), .val (.int len), .val (.int idx), .val (.int (3 : Int32)), .val (.ref b185), .val (.ref b192), .val (.int (2 : Int32)), .val (.int (pk c)), .val (.int (1 : Int32)), .val (.int (0 : Int32)), .unset] [(.int (10 : Int32)), (.int (pk c))] _
        exact kt
      by_cases hc264 : (pk c) = (10 : Int32)
      ·
        have O265 : Old Z n0 T195.heap := (O194.keep K195 (allS (Nat.le_trans Z0 (Nat.le_trans (Nat.le_trans (Nat.le_trans (Nat.le_trans K185.1 K187.1) K189.1) K191.1) (Nat.le_of_eq g192.symm))) all0))
        obtain ⟨_, _, ⟨T266, L266, k266, n266⟩, -, X266, ⟨Lc266, hQ266, l266, y266, z266⟩, st266⟩ := Jvm.LawKit.callS X195 hx (y := (⟨"com/example/vestline/vestline/input/TextFiles", "endsLine", "(Ljava/lang/String;I)Z"⟩ : MethodName)) hown (mvT hZ (w35 hw)) (mvT hZ (w36 hw)) (mvT hZ (w37 hw)) (mvT hZ (w38 hw)) (by decide) (backOf (W := 0) (rm_endsLine l Z a0 hw [] b192 2 t_196 kb_197 [(pk a), (pk b), (pk c)] cS fm T195.heap n0 (Nat.le_trans Z0 (Nat.le_trans (Nat.le_trans (Nat.le_trans (Nat.le_trans (Nat.le_trans K185.1 K187.1) K189.1) K191.1) K192.1) K195.1)) O265 S_cs hcS S_fm hfm S_ad S_hi S_lo P195_1 (Nat.le_of_ble_eq_true rfl)) hZ (w38 hw) (w37 hw) (by decide) (by decide)) (g := (mkF m 165 #[.val (.int a), .val (.int b), .val (.int c), .val (.int len), .val (.int idx), .val (.int (3 : Int32)), .val (.ref b185), .val (.ref b192), .val (.int (2 : Int32)), .val (.int (pk c)), .val (.int (1 : Int32)), .val (.int (0 : Int32)), .val (.int (1 : Int32))] [(.int (2 : Int32)), (.ref b192)])) rfl (by rw [hml]; rfl) (argsL := [(.ref b192), (.int (2 : Int32))]) (rest := []) (lenOf pd__28_Ljava_2f_lang_2f_String_3b_I_29_Z rfl) rfl (by show 2 * 0 + _ ≤ _; exact Nat.le_of_eq rfl) (hb hby at_165) (fun _ _ => ⟨rfl, rfl, (Nat.le_of_ble_eq_true rfl), (Nat.le_of_ble_eq_true rfl)⟩)
        dsimp only [Pt.U, Pt.locs, Pt.cells, Pt.slots] at X266 l266 y266 z266 st266 hQ266
        subst l266 y266 z266
        obtain ⟨rfl, Nq266, eq266⟩ := hQ266
        have N266 := Fr.app N195 Nq266
        have W267 : ∀ zQ, SS p e below T266 m 178 #[.val (.int a), .val (.int b), .val (.int c), .val (.int len), .val (.int idx), .val (.int (3 : Int32)), .val (.ref b185), .val (.ref b192), .val (.int (2 : Int32)), .val (.int (pk c)), .val (.int (1 : Int32)), .val (.int (0 : Int32)), .val (.int (1 : Int32))] [(.int (1 : Int32))] zQ → Steps p.tables e below (s₁.setTop (entryFrame m #[(.int a), (.int b), (.int c), (.int len), (.int idx)] maxLocals)) zQ := by
          intro tt kt
          refine W263 tt ?_
          refine XS.icmpNo X195.here hx rfl (hb hby at_127) rfl (teq hc264).2 ?_
          show SS p e below T195 m 130 #[.val (.int a), .val (.int b), .val (.int c), .val (.int len), .val (.int idx), .val (.int (3 : Int32)), .val (.ref b185), .val (.ref b192), .val (.int (2 : Int32)), .val (.int (pk c)), .val (.int (1 : Int32)), .val (.int (0 : Int32)), .unset] [] _
          refine XS.iconst X195.here hx rfl (hb hby at_130) ?_
          show SS p e below T195 m 131 #[.val (.int a), .val (.int b), .val (.int c), .val (.int len), .val (.int idx), .val (.int (3 : Int32)), .val (.ref b185), .val (.ref b192), .val (.int (2 : Int32)), .val (.int (pk c)), .val (.int (1 : Int32)), .val (.int (0 : Int32)), .unset] [(.int (1 : Int32))] _
          refine XS.istore X195.here hx rfl (hb hby at_131) rfl (l' := #[.val (.int a), .val (.int b), .val (.int c), .val (.int len), .val (.int idx), .val (.int (3 : Int32)), .val (.ref b185), .val (.ref b192), .val (.int (2 : Int32)), .val (.int (pk c)), .val (.int (1 : Int32)), .val (.int (0 : Int32)), .val (.int (1 : Int32))]) rfl ?_
          show SS p e below T195 m 133 #[.val (.int a), .val (.int b), .val (.int c), .val (.int len), .val (.int idx), .val (.int (3 : Int32)), .val (.ref b185), .val (.ref b192), .val (.int (2 : Int32)), .val (.int (pk c)), .val (.int (1 : Int32)), .val (.int (0 : Int32)), .val (.int (1 : Int32))] [] _
          refine XS.goto X195.here hx rfl (pc0 := 133) (pc' := 161) rfl (hb hby at_133) (by decide) (by decide) ?_
          show SS p e below T195 m 161 #[.val (.int a), .val (.int b), .val (.int c), .val (.int len), .val (.int idx), .val (.int (3 : Int32)), .val (.ref b185), .val (.ref b192), .val (.int (2 : Int32)), .val (.int (pk c)), .val (.int (1 : Int32)), .val (.int (0 : Int32)), .val (.int (1 : Int32))] [] _
          refine XS.aload X195.here hx rfl (hb hby at_161) rfl rfl ?_
          show SS p e below T195 m 163 #[.val (.int a), .val (.int b), .val (.int c), .val (.int len), .val (.int idx), .val (.int (3 : Int32)), .val (.ref b185), .val (.ref b192), .val (.int (2 : Int32)), .val (.int (pk c)), .val (.int (1 : Int32)), .val (.int (0 : Int32)), .val (.int (1 : Int32))] [(.ref b192)] _
          refine XS.iload X195.here hx rfl (hb hby at_163) rfl ?_
          show SS p e below T195 m 165 #[.val (.int a), .val (.int b), .val (.int c), .val (.int len), .val (.int idx), .val (.int (3 : Int32)), .val (.ref b185), .val (.ref b192), .val (.int (2 : Int32)), .val (.int (pk c)), .val (.int (1 : Int32)), .val (.int (0 : Int32)), .val (.int (1 : Int32))] [(.int (2 : Int32)), (.ref b192)] _
          refine st266 _ ?_
          show SS p e below T266 m 168 #[.val (.int a), .val (.int b), .val (.int c), .val (.int len), .val (.int idx), .val (.int (3 : Int32)), .val (.ref b185), .val (.ref b192), .val (.int (2 : Int32)), .val (.int (pk c)), .val (.int (1 : Int32)), .val (.int (0 : Int32)), .val (.int (1 : Int32))] [(.int (el [(pk a), (pk b), (pk c)] 2))] _
          refine XS.iload X266.here hx rfl (hb hby at_168) rfl ?_
          show SS p e below T266 m 170 #[.val (.int a), .val (.int b), .val (.int c), .val (.int len), .val (.int idx), .val (.int (3 : Int32)), .val (.ref b185), .val (.ref b192), .val (.int (2 : Int32)), .val (.int (pk c)), .val (.int (1 : Int32)), .val (.int (0 : Int32)), .val (.int (1 : Int32))] [(.int (1 : Int32)), (.int (el [(pk a), (pk b), (pk c)] 2))] _
          refine XS.icmpNo X266.here hx rfl (hb hby at_170) rfl (teq (by simp [el, hc264])).2 ?_
          show SS p e below T266 m 173 #[.val (.int a), .val (.int b), .val (.int c), .val (.int len), .val (.int idx), .val (.int (3 : Int32)), .val (.ref b185), .val (.ref b192), .val (.int (2 : Int32)), .val (.int (pk c)), .val (.int (1 : Int32)), .val (.int (0 : Int32)), .val (.int (1 : Int32))] [] _
          refine XS.iconst X266.here hx rfl (hb hby at_173) ?_
          show SS p e below T266 m 174 #[.val (.int a), .val (.int b), .val (.int c), .val (.int len), .val (.int idx), .val (.int (3 : Int32)), .val (.ref b185), .val (.ref b192), .val (.int (2 : Int32)), .val (.int (pk c)), .val (.int (1 : Int32)), .val (.int (0 : Int32)), .val (.int (1 : Int32))] [(.int (1 : Int32))] _
          refine XS.goto X266.here hx rfl (pc0 := 174) (pc' := 178) rfl (hb hby at_174) (by decide) (by decide) ?_
          show SS p e below T266 m 178 #[.val (.int a), .val (.int b), .val (.int c), .val (.int len), .val (.int idx), .val (.int (3 : Int32)), .val (.ref b185), .val (.ref b192), .val (.int (2 : Int32)), .val (.int (pk c)), .val (.int (1 : Int32)), .val (.int (0 : Int32)), .val (.int (1 : Int32))] [(.int (1 : Int32))] _
          exact kt
        obtain ⟨fs, hr, hrun, hended, hW, hsame⟩ := X266.leave (v := some (.int (nar .boolean (1 : Int32)))) (fun h => by rw [Bd.returns] at h; cases h)
        refine ⟨_, _, W267 _ (retN X266 hx (t := .boolean) Bd.returns (by simp) (hb hby at_178) hr), hrun, hended, _, _, rfl, ?_, ⟨_, rfl⟩, hW, hsame.mono (by decide) (by decide)⟩
        show Q_law Z a b c len idx cS fm h0 n0 _ T266.heap _
        rw [eq266]
        exact ⟨rfl, N266, (Keep.trans (Keep.trans (Keep.trans (Keep.trans (Keep.trans (Keep.trans (Keep.refl h0 []) K185 all0) K187 (allS (Or.inr (Nat.le_of_eq g185.symm)) all0)) K189 (allS (Or.inr (Nat.le_of_eq g185.symm)) all0)) K191 (allS (Or.inr (Nat.le_of_eq g185.symm)) all0)) K192 all0) K195 (allS (Or.inr (Nat.le_trans (Nat.le_trans (Nat.le_trans (Nat.le_trans K185.1 K187.1) K189.1) K191.1) (Nat.le_of_eq g192.symm))) all0))⟩
      ·
        have W268 : ∀ zQ, SS p e below T195 m 140 #[.val (.int a), .val (.int b), .val (.int c), .val (.int len), .val (.int idx), .val (.int (3 : Int32)), .val (.ref b185), .val (.ref b192), .val (.int (2 : Int32)), .val (.int (pk c)), .val (.int (1 : Int32)), .val (.int (0 : Int32)), .unset] [(.int (13 : Int32)), (.int (pk c))] zQ → Steps p.tables e below (s₁.setTop (entryFrame m #[(.int a), (.int b), (.int c), (.int len), (.int idx)] maxLocals)) zQ := by
          intro tt kt
          refine W263 tt ?_
          refine XS.icmpYes X195.here hx rfl (pc0 := 127) (pc' := 136) rfl (hb hby at_127) rfl (feq hc264).2 (by decide) (by decide) ?_
          show SS p e below T195 m 136 #[.val (.int a), .val (.int b), .val (.int c), .val (.int len), .val (.int idx), .val (.int (3 : Int32)), .val (.ref b185), .val (.ref b192), .val (.int (2 : Int32)), .val (.int (pk c)), .val (.int (1 : Int32)), .val (.int (0 : Int32)), .unset] [] _
          refine XS.iload X195.here hx rfl (hb hby at_136) rfl ?_
          show SS p e below T195 m 138 #[.val (.int a), .val (.int b), .val (.int c), .val (.int len), .val (.int idx), .val (.int (3 : Int32)), .val (.ref b185), .val (.ref b192), .val (.int (2 : Int32)), .val (.int (pk c)), .val (.int (1 : Int32)), .val (.int (0 : Int32)), .unset] [(.int (pk c))] _
          refine XS.bipush X195.here hx rfl (hb hby at_138) ?_
          show SS p e below T195 m 140 #[.val (.int a), .val (.int b), .val (.int c), .val (.int len), .val (.int idx), .val (.int (3 : Int32)), .val (.ref b185), .val (.ref b192), .val (.int (2 : Int32)), .val (.int (pk c)), .val (.int (1 : Int32)), .val (.int (0 : Int32)), .unset] [(.int (13 : Int32)), (.int (pk c))] _
          exact kt
        by_cases hc269 : (pk c) = (13 : Int32)
        ·
          have O270 : Old Z n0 T195.heap := (O194.keep K195 (allS (Nat.le_trans Z0 (Nat.le_trans (Nat.le_trans (Nat.le_trans (Nat.le_trans K185.1 K187.1) K189.1) K191.1) (Nat.le_of_eq g192.symm))) all0))
          obtain ⟨_, _, ⟨T271, L271, k271, n271⟩, -, X271, ⟨Lc271, hQ271, l271, y271, z271⟩, st271⟩ := Jvm.LawKit.callS X195 hx (y := (⟨"com/example/vestline/vestline/input/TextFiles", "endsLine", "(Ljava/lang/String;I)Z"⟩ : MethodName)) hown (mvT hZ (w35 hw)) (mvT hZ (w36 hw)) (mvT hZ (w37 hw)) (mvT hZ (w38 hw)) (by decide) (backOf (W := 0) (rm_endsLine l Z a0 hw [] b192 2 t_196 kb_197 [(pk a), (pk b), (pk c)] cS fm T195.heap n0 (Nat.le_trans Z0 (Nat.le_trans (Nat.le_trans (Nat.le_trans (Nat.le_trans (Nat.le_trans K185.1 K187.1) K189.1) K191.1) K192.1) K195.1)) O270 S_cs hcS S_fm hfm S_ad S_hi S_lo P195_1 (Nat.le_of_ble_eq_true rfl)) hZ (w38 hw) (w37 hw) (by decide) (by decide)) (g := (mkF m 165 #[.val (.int a), .val (.int b), .val (.int c), .val (.int len), .val (.int idx), .val (.int (3 : Int32)), .val (.ref b185), .val (.ref b192), .val (.int (2 : Int32)), .val (.int (pk c)), .val (.int (1 : Int32)), .val (.int (0 : Int32)), .val (.int (1 : Int32))] [(.int (2 : Int32)), (.ref b192)])) rfl (by rw [hml]; rfl) (argsL := [(.ref b192), (.int (2 : Int32))]) (rest := []) (lenOf pd__28_Ljava_2f_lang_2f_String_3b_I_29_Z rfl) rfl (by show 2 * 0 + _ ≤ _; exact Nat.le_of_eq rfl) (hb hby at_165) (fun _ _ => ⟨rfl, rfl, (Nat.le_of_ble_eq_true rfl), (Nat.le_of_ble_eq_true rfl)⟩)
          dsimp only [Pt.U, Pt.locs, Pt.cells, Pt.slots] at X271 l271 y271 z271 st271 hQ271
          subst l271 y271 z271
          obtain ⟨rfl, Nq271, eq271⟩ := hQ271
          have N271 := Fr.app N195 Nq271
          have W272 : ∀ zQ, SS p e below T271 m 178 #[.val (.int a), .val (.int b), .val (.int c), .val (.int len), .val (.int idx), .val (.int (3 : Int32)), .val (.ref b185), .val (.ref b192), .val (.int (2 : Int32)), .val (.int (pk c)), .val (.int (1 : Int32)), .val (.int (0 : Int32)), .val (.int (1 : Int32))] [(.int (1 : Int32))] zQ → Steps p.tables e below (s₁.setTop (entryFrame m #[(.int a), (.int b), (.int c), (.int len), (.int idx)] maxLocals)) zQ := by
            intro tt kt
            refine W268 tt ?_
            refine XS.icmpNo X195.here hx rfl (hb hby at_140) rfl (teq hc269).2 ?_
            show SS p e below T195 m 143 #[.val (.int a), .val (.int b), .val (.int c), .val (.int len), .val (.int idx), .val (.int (3 : Int32)), .val (.ref b185), .val (.ref b192), .val (.int (2 : Int32)), .val (.int (pk c)), .val (.int (1 : Int32)), .val (.int (0 : Int32)), .unset] [] _
            refine XS.iload X195.here hx rfl (hb hby at_143) rfl ?_
            show SS p e below T195 m 145 #[.val (.int a), .val (.int b), .val (.int c), .val (.int len), .val (.int idx), .val (.int (3 : Int32)), .val (.ref b185), .val (.ref b192), .val (.int (2 : Int32)), .val (.int (pk c)), .val (.int (1 : Int32)), .val (.int (0 : Int32)), .unset] [(.int (0 : Int32))] _
            refine XS.ifNo X195.here hx rfl (hb hby at_145) rfl ((if0 _ _).trans (teq (by decide)).2) ?_
            show SS p e below T195 m 148 #[.val (.int a), .val (.int b), .val (.int c), .val (.int len), .val (.int idx), .val (.int (3 : Int32)), .val (.ref b185), .val (.ref b192), .val (.int (2 : Int32)), .val (.int (pk c)), .val (.int (1 : Int32)), .val (.int (0 : Int32)), .unset] [] _
            refine XS.iconst X195.here hx rfl (hb hby at_148) ?_
            show SS p e below T195 m 149 #[.val (.int a), .val (.int b), .val (.int c), .val (.int len), .val (.int idx), .val (.int (3 : Int32)), .val (.ref b185), .val (.ref b192), .val (.int (2 : Int32)), .val (.int (pk c)), .val (.int (1 : Int32)), .val (.int (0 : Int32)), .unset] [(.int (1 : Int32))] _
            refine XS.goto X195.here hx rfl (pc0 := 149) (pc' := 153) rfl (hb hby at_149) (by decide) (by decide) ?_
            show SS p e below T195 m 153 #[.val (.int a), .val (.int b), .val (.int c), .val (.int len), .val (.int idx), .val (.int (3 : Int32)), .val (.ref b185), .val (.ref b192), .val (.int (2 : Int32)), .val (.int (pk c)), .val (.int (1 : Int32)), .val (.int (0 : Int32)), .unset] [(.int (1 : Int32))] _
            refine XS.istore X195.here hx rfl (hb hby at_153) rfl (l' := #[.val (.int a), .val (.int b), .val (.int c), .val (.int len), .val (.int idx), .val (.int (3 : Int32)), .val (.ref b185), .val (.ref b192), .val (.int (2 : Int32)), .val (.int (pk c)), .val (.int (1 : Int32)), .val (.int (0 : Int32)), .val (.int (1 : Int32))]) rfl ?_
            show SS p e below T195 m 155 #[.val (.int a), .val (.int b), .val (.int c), .val (.int len), .val (.int idx), .val (.int (3 : Int32)), .val (.ref b185), .val (.ref b192), .val (.int (2 : Int32)), .val (.int (pk c)), .val (.int (1 : Int32)), .val (.int (0 : Int32)), .val (.int (1 : Int32))] [] _
            refine XS.goto X195.here hx rfl (pc0 := 155) (pc' := 161) rfl (hb hby at_155) (by decide) (by decide) ?_
            show SS p e below T195 m 161 #[.val (.int a), .val (.int b), .val (.int c), .val (.int len), .val (.int idx), .val (.int (3 : Int32)), .val (.ref b185), .val (.ref b192), .val (.int (2 : Int32)), .val (.int (pk c)), .val (.int (1 : Int32)), .val (.int (0 : Int32)), .val (.int (1 : Int32))] [] _
            refine XS.aload X195.here hx rfl (hb hby at_161) rfl rfl ?_
            show SS p e below T195 m 163 #[.val (.int a), .val (.int b), .val (.int c), .val (.int len), .val (.int idx), .val (.int (3 : Int32)), .val (.ref b185), .val (.ref b192), .val (.int (2 : Int32)), .val (.int (pk c)), .val (.int (1 : Int32)), .val (.int (0 : Int32)), .val (.int (1 : Int32))] [(.ref b192)] _
            refine XS.iload X195.here hx rfl (hb hby at_163) rfl ?_
            show SS p e below T195 m 165 #[.val (.int a), .val (.int b), .val (.int c), .val (.int len), .val (.int idx), .val (.int (3 : Int32)), .val (.ref b185), .val (.ref b192), .val (.int (2 : Int32)), .val (.int (pk c)), .val (.int (1 : Int32)), .val (.int (0 : Int32)), .val (.int (1 : Int32))] [(.int (2 : Int32)), (.ref b192)] _
            refine st271 _ ?_
            show SS p e below T271 m 168 #[.val (.int a), .val (.int b), .val (.int c), .val (.int len), .val (.int idx), .val (.int (3 : Int32)), .val (.ref b185), .val (.ref b192), .val (.int (2 : Int32)), .val (.int (pk c)), .val (.int (1 : Int32)), .val (.int (0 : Int32)), .val (.int (1 : Int32))] [(.int (el [(pk a), (pk b), (pk c)] 2))] _
            refine XS.iload X271.here hx rfl (hb hby at_168) rfl ?_
            show SS p e below T271 m 170 #[.val (.int a), .val (.int b), .val (.int c), .val (.int len), .val (.int idx), .val (.int (3 : Int32)), .val (.ref b185), .val (.ref b192), .val (.int (2 : Int32)), .val (.int (pk c)), .val (.int (1 : Int32)), .val (.int (0 : Int32)), .val (.int (1 : Int32))] [(.int (1 : Int32)), (.int (el [(pk a), (pk b), (pk c)] 2))] _
            refine XS.icmpNo X271.here hx rfl (hb hby at_170) rfl (teq (by simp [el, hc264, hc269])).2 ?_
            show SS p e below T271 m 173 #[.val (.int a), .val (.int b), .val (.int c), .val (.int len), .val (.int idx), .val (.int (3 : Int32)), .val (.ref b185), .val (.ref b192), .val (.int (2 : Int32)), .val (.int (pk c)), .val (.int (1 : Int32)), .val (.int (0 : Int32)), .val (.int (1 : Int32))] [] _
            refine XS.iconst X271.here hx rfl (hb hby at_173) ?_
            show SS p e below T271 m 174 #[.val (.int a), .val (.int b), .val (.int c), .val (.int len), .val (.int idx), .val (.int (3 : Int32)), .val (.ref b185), .val (.ref b192), .val (.int (2 : Int32)), .val (.int (pk c)), .val (.int (1 : Int32)), .val (.int (0 : Int32)), .val (.int (1 : Int32))] [(.int (1 : Int32))] _
            refine XS.goto X271.here hx rfl (pc0 := 174) (pc' := 178) rfl (hb hby at_174) (by decide) (by decide) ?_
            show SS p e below T271 m 178 #[.val (.int a), .val (.int b), .val (.int c), .val (.int len), .val (.int idx), .val (.int (3 : Int32)), .val (.ref b185), .val (.ref b192), .val (.int (2 : Int32)), .val (.int (pk c)), .val (.int (1 : Int32)), .val (.int (0 : Int32)), .val (.int (1 : Int32))] [(.int (1 : Int32))] _
            exact kt
          obtain ⟨fs, hr, hrun, hended, hW, hsame⟩ := X271.leave (v := some (.int (nar .boolean (1 : Int32)))) (fun h => by rw [Bd.returns] at h; cases h)
          refine ⟨_, _, W272 _ (retN X271 hx (t := .boolean) Bd.returns (by simp) (hb hby at_178) hr), hrun, hended, _, _, rfl, ?_, ⟨_, rfl⟩, hW, hsame.mono (by decide) (by decide)⟩
          show Q_law Z a b c len idx cS fm h0 n0 _ T271.heap _
          rw [eq271]
          exact ⟨rfl, N271, (Keep.trans (Keep.trans (Keep.trans (Keep.trans (Keep.trans (Keep.trans (Keep.refl h0 []) K185 all0) K187 (allS (Or.inr (Nat.le_of_eq g185.symm)) all0)) K189 (allS (Or.inr (Nat.le_of_eq g185.symm)) all0)) K191 (allS (Or.inr (Nat.le_of_eq g185.symm)) all0)) K192 all0) K195 (allS (Or.inr (Nat.le_trans (Nat.le_trans (Nat.le_trans (Nat.le_trans K185.1 K187.1) K189.1) K191.1) (Nat.le_of_eq g192.symm))) all0))⟩
        ·
          have O273 : Old Z n0 T195.heap := (O194.keep K195 (allS (Nat.le_trans Z0 (Nat.le_trans (Nat.le_trans (Nat.le_trans (Nat.le_trans K185.1 K187.1) K189.1) K191.1) (Nat.le_of_eq g192.symm))) all0))
          obtain ⟨_, _, ⟨T274, L274, k274, n274⟩, -, X274, ⟨Lc274, hQ274, l274, y274, z274⟩, st274⟩ := Jvm.LawKit.callS X195 hx (y := (⟨"com/example/vestline/vestline/input/TextFiles", "endsLine", "(Ljava/lang/String;I)Z"⟩ : MethodName)) hown (mvT hZ (w35 hw)) (mvT hZ (w36 hw)) (mvT hZ (w37 hw)) (mvT hZ (w38 hw)) (by decide) (backOf (W := 0) (rm_endsLine l Z a0 hw [] b192 2 t_196 kb_197 [(pk a), (pk b), (pk c)] cS fm T195.heap n0 (Nat.le_trans Z0 (Nat.le_trans (Nat.le_trans (Nat.le_trans (Nat.le_trans (Nat.le_trans K185.1 K187.1) K189.1) K191.1) K192.1) K195.1)) O273 S_cs hcS S_fm hfm S_ad S_hi S_lo P195_1 (Nat.le_of_ble_eq_true rfl)) hZ (w38 hw) (w37 hw) (by decide) (by decide)) (g := (mkF m 165 #[.val (.int a), .val (.int b), .val (.int c), .val (.int len), .val (.int idx), .val (.int (3 : Int32)), .val (.ref b185), .val (.ref b192), .val (.int (2 : Int32)), .val (.int (pk c)), .val (.int (1 : Int32)), .val (.int (0 : Int32)), .val (.int (0 : Int32))] [(.int (2 : Int32)), (.ref b192)])) rfl (by rw [hml]; rfl) (argsL := [(.ref b192), (.int (2 : Int32))]) (rest := []) (lenOf pd__28_Ljava_2f_lang_2f_String_3b_I_29_Z rfl) rfl (by show 2 * 0 + _ ≤ _; exact Nat.le_of_eq rfl) (hb hby at_165) (fun _ _ => ⟨rfl, rfl, (Nat.le_of_ble_eq_true rfl), (Nat.le_of_ble_eq_true rfl)⟩)
          dsimp only [Pt.U, Pt.locs, Pt.cells, Pt.slots] at X274 l274 y274 z274 st274 hQ274
          subst l274 y274 z274
          obtain ⟨rfl, Nq274, eq274⟩ := hQ274
          have N274 := Fr.app N195 Nq274
          have W275 : ∀ zQ, SS p e below T274 m 178 #[.val (.int a), .val (.int b), .val (.int c), .val (.int len), .val (.int idx), .val (.int (3 : Int32)), .val (.ref b185), .val (.ref b192), .val (.int (2 : Int32)), .val (.int (pk c)), .val (.int (1 : Int32)), .val (.int (0 : Int32)), .val (.int (0 : Int32))] [(.int (1 : Int32))] zQ → Steps p.tables e below (s₁.setTop (entryFrame m #[(.int a), (.int b), (.int c), (.int len), (.int idx)] maxLocals)) zQ := by
            intro tt kt
            refine W268 tt ?_
            refine XS.icmpYes X195.here hx rfl (pc0 := 140) (pc' := 158) rfl (hb hby at_140) rfl (feq hc269).2 (by decide) (by decide) ?_
            show SS p e below T195 m 158 #[.val (.int a), .val (.int b), .val (.int c), .val (.int len), .val (.int idx), .val (.int (3 : Int32)), .val (.ref b185), .val (.ref b192), .val (.int (2 : Int32)), .val (.int (pk c)), .val (.int (1 : Int32)), .val (.int (0 : Int32)), .unset] [] _
            refine XS.iconst X195.here hx rfl (hb hby at_158) ?_
            show SS p e below T195 m 159 #[.val (.int a), .val (.int b), .val (.int c), .val (.int len), .val (.int idx), .val (.int (3 : Int32)), .val (.ref b185), .val (.ref b192), .val (.int (2 : Int32)), .val (.int (pk c)), .val (.int (1 : Int32)), .val (.int (0 : Int32)), .unset] [(.int (0 : Int32))] _
            refine XS.istore X195.here hx rfl (hb hby at_159) rfl (l' := #[.val (.int a), .val (.int b), .val (.int c), .val (.int len), .val (.int idx), .val (.int (3 : Int32)), .val (.ref b185), .val (.ref b192), .val (.int (2 : Int32)), .val (.int (pk c)), .val (.int (1 : Int32)), .val (.int (0 : Int32)), .val (.int (0 : Int32))]) rfl ?_
            show SS p e below T195 m 161 #[.val (.int a), .val (.int b), .val (.int c), .val (.int len), .val (.int idx), .val (.int (3 : Int32)), .val (.ref b185), .val (.ref b192), .val (.int (2 : Int32)), .val (.int (pk c)), .val (.int (1 : Int32)), .val (.int (0 : Int32)), .val (.int (0 : Int32))] [] _
            refine XS.aload X195.here hx rfl (hb hby at_161) rfl rfl ?_
            show SS p e below T195 m 163 #[.val (.int a), .val (.int b), .val (.int c), .val (.int len), .val (.int idx), .val (.int (3 : Int32)), .val (.ref b185), .val (.ref b192), .val (.int (2 : Int32)), .val (.int (pk c)), .val (.int (1 : Int32)), .val (.int (0 : Int32)), .val (.int (0 : Int32))] [(.ref b192)] _
            refine XS.iload X195.here hx rfl (hb hby at_163) rfl ?_
            show SS p e below T195 m 165 #[.val (.int a), .val (.int b), .val (.int c), .val (.int len), .val (.int idx), .val (.int (3 : Int32)), .val (.ref b185), .val (.ref b192), .val (.int (2 : Int32)), .val (.int (pk c)), .val (.int (1 : Int32)), .val (.int (0 : Int32)), .val (.int (0 : Int32))] [(.int (2 : Int32)), (.ref b192)] _
            refine st274 _ ?_
            show SS p e below T274 m 168 #[.val (.int a), .val (.int b), .val (.int c), .val (.int len), .val (.int idx), .val (.int (3 : Int32)), .val (.ref b185), .val (.ref b192), .val (.int (2 : Int32)), .val (.int (pk c)), .val (.int (1 : Int32)), .val (.int (0 : Int32)), .val (.int (0 : Int32))] [(.int (el [(pk a), (pk b), (pk c)] 2))] _
            refine XS.iload X274.here hx rfl (hb hby at_168) rfl ?_
            show SS p e below T274 m 170 #[.val (.int a), .val (.int b), .val (.int c), .val (.int len), .val (.int idx), .val (.int (3 : Int32)), .val (.ref b185), .val (.ref b192), .val (.int (2 : Int32)), .val (.int (pk c)), .val (.int (1 : Int32)), .val (.int (0 : Int32)), .val (.int (0 : Int32))] [(.int (0 : Int32)), (.int (el [(pk a), (pk b), (pk c)] 2))] _
            refine XS.icmpNo X274.here hx rfl (hb hby at_170) rfl (teq (by simp [el, hc264, hc269])).2 ?_
            show SS p e below T274 m 173 #[.val (.int a), .val (.int b), .val (.int c), .val (.int len), .val (.int idx), .val (.int (3 : Int32)), .val (.ref b185), .val (.ref b192), .val (.int (2 : Int32)), .val (.int (pk c)), .val (.int (1 : Int32)), .val (.int (0 : Int32)), .val (.int (0 : Int32))] [] _
            refine XS.iconst X274.here hx rfl (hb hby at_173) ?_
            show SS p e below T274 m 174 #[.val (.int a), .val (.int b), .val (.int c), .val (.int len), .val (.int idx), .val (.int (3 : Int32)), .val (.ref b185), .val (.ref b192), .val (.int (2 : Int32)), .val (.int (pk c)), .val (.int (1 : Int32)), .val (.int (0 : Int32)), .val (.int (0 : Int32))] [(.int (1 : Int32))] _
            refine XS.goto X274.here hx rfl (pc0 := 174) (pc' := 178) rfl (hb hby at_174) (by decide) (by decide) ?_
            show SS p e below T274 m 178 #[.val (.int a), .val (.int b), .val (.int c), .val (.int len), .val (.int idx), .val (.int (3 : Int32)), .val (.ref b185), .val (.ref b192), .val (.int (2 : Int32)), .val (.int (pk c)), .val (.int (1 : Int32)), .val (.int (0 : Int32)), .val (.int (0 : Int32))] [(.int (1 : Int32))] _
            exact kt
          obtain ⟨fs, hr, hrun, hended, hW, hsame⟩ := X274.leave (v := some (.int (nar .boolean (1 : Int32)))) (fun h => by rw [Bd.returns] at h; cases h)
          refine ⟨_, _, W275 _ (retN X274 hx (t := .boolean) Bd.returns (by simp) (hb hby at_178) hr), hrun, hended, _, _, rfl, ?_, ⟨_, rfl⟩, hW, hsame.mono (by decide) (by decide)⟩
          show Q_law Z a b c len idx cS fm h0 n0 _ T274.heap _
          rw [eq274]
          exact ⟨rfl, N274, (Keep.trans (Keep.trans (Keep.trans (Keep.trans (Keep.trans (Keep.trans (Keep.refl h0 []) K185 all0) K187 (allS (Or.inr (Nat.le_of_eq g185.symm)) all0)) K189 (allS (Or.inr (Nat.le_of_eq g185.symm)) all0)) K191 (allS (Or.inr (Nat.le_of_eq g185.symm)) all0)) K192 all0) K195 (allS (Or.inr (Nat.le_trans (Nat.le_trans (Nat.le_trans (Nat.le_trans K185.1 K187.1) K189.1) K191.1) (Nat.le_of_eq g192.symm))) all0))⟩
theorem own_eqint {args : Array Value} {s : State} {t : Term} {n : Int32} (h : (Jvm.Cond.eq t (Jvm.Term.int n)).value args s none s [] = some true) : t.eval args s none [] s = some (.int n) := by
  simp only [Cond.value, Term.eval] at h
  cases ht : t.eval args s none [] s with
  | none => simp [ht] at h
  | some x => cases x <;> simp [ht] at h ⊢; exact h
theorem own_eqlong {args : Array Value} {s : State} {t : Term} {n : Int64} (h : (Jvm.Cond.eq t (Jvm.Term.long n)).value args s none s [] = some true) : t.eval args s none [] s = some (.long n) := by
  simp only [Cond.value, Term.eval] at h
  cases ht : t.eval args s none [] s with
  | none => simp [ht] at h
  | some x => cases x <;> simp [ht] at h ⊢; exact h
theorem own_neint {args : Array Value} {s : State} {t : Term} {n x : Int32} (h : (Jvm.Cond.not (Jvm.Cond.eq t (Jvm.Term.int n))).value args s none s [] = some true) (e : t.eval args s none [] s = some (.int x)) : ¬ (x = n) := by
  simpa [Cond.value, Term.eval, e] using h
theorem own_eqref {args : Array Value} {s : State} {t u : Term} {b : Addr} (h : (Jvm.Cond.eq t u).value args s none s [] = some true) (hu : u.eval args s none [] s = some (.ref b)) : t.eval args s none [] s = some (.ref b) := by
  simp only [Cond.value, hu] at h
  cases ht : t.eval args s none [] s with
  | none => simp [ht] at h
  | some x => cases x <;> simp [ht] at h ⊢; exact h
theorem own_arrlen {args : Array Value} {s : State} {t : Term} {a : Addr} {cl : Cell} {ty : FieldType} {z : Int32} (ev : t.eval args s none [] s = some (.ref a)) (A : Arr s s.heap a cl ty) (h : (Term.length t).eval args s none [] s = some (.int z)) : cl.slots.size < 2 ^ 31 ∧ cl.slots.size.toInt32 = z := by
  have e := Arr.fin (U := s) (Vm.Alike.refl _) A
  simp only [Term.eval, ev, Option.bind_eq_bind, Option.bind_some, e] at h
  by_cases q : cl.slots.size < 2 ^ 31
  · simp [q] at h; exact ⟨q, h⟩
  · simp [q] at h
set_option maxRecDepth 65536 in
set_option maxHeartbeats 40000000 in
theorem comes_1 {Post : Tables → Env → Array Value → State → Outcome → State → Prop} (hpost : ∀ tb e args s v u, (limb_1_1.after args s (.returned v) u = true ∧ limb_1_2.after args s (.returned v) u = true ∧ True) → FrameEnd s (.returned v) u (Jvm.fieldLocs frame_1_writes args s ++ Jvm.arrayLocs frame_1_arrays args s ++ Jvm.staticLocs frame_1_statics s) 16 128 → Post tb e args s (.returned v) u) :
    ArmFor flags0 classFile x code maxLocals ret World_1 tables_1 room_1 Calls_1 rest_1 Pre_1 Post := by
  intro l hfl _ _ p e ha hc hk s m args below hf hA hF happ hP
  obtain ⟨hcalls, hrest, hpre⟩ := hP
  obtain ⟨-, -, -, hnamed, -, -, -, hat⟩ := (Spec.applies_iff hf).mp happ
  obtain ⟨hg, hn⟩ := and_e (Cond.before_iff.mp (show (Jvm.Cond.and given_1 narrow_1).before args s = true from hpre))
  obtain ⟨g1, g2⟩ := and_e hg
  obtain ⟨g3, g4⟩ := and_e g2
  obtain ⟨g5, g6⟩ := and_e g4
  obtain ⟨g7, g8⟩ := and_e g6
  obtain ⟨g9, g10⟩ := and_e g8
  obtain ⟨w0, w1, w2, w3, w4, rfl⟩ : ∃ w0 w1 w2 w3 w4 : Value, args = #[w0, w1, w2, w3, w4] := by
    have hs : args.size = 5 := by simpa [Cond.value, given_1] using g1
    obtain ⟨L⟩ := args
    match L, hs with
    | [w0, w1, w2, w3, w4], _ => exact ⟨w0, w1, w2, w3, w4, rfl⟩
  have hw := fun d (hd : d ∈ tables_1) => atoms_spec (ws := Jvm.Cond.code x code maxLocals ret :: tables_1) hat d (List.mem_cons_of_mem _ hd)
  have hfit : Fit s := fun {y c} hc i hi => by
    obtain ⟨ha, rfl⟩ := Array.getElem?_eq_some_iff.mp hc
    have q := List.all_eq_true.mp ((Array.all_eq_true_iff_forall_mem.mp hF) _ (Array.getElem_mem ha)) i (List.mem_range.mpr hi)
    simpa [Array.getElem?_eq_getElem hi] using q
  obtain ⟨hsets, hown0⟩ := atoms_of _ (rest_1_c_eq ▸ (show rest_1_c.before _ s = true from hrest))
  obtain ⟨i0, ei0⟩ := is_v g3
  obtain rfl : w0 = (.int i0) := Option.some.inj ei0
  obtain ⟨i1, ei1⟩ := is_v g5
  obtain rfl : w1 = (.int i1) := Option.some.inj ei1
  obtain ⟨i2, ei2⟩ := is_v g7
  obtain rfl : w2 = (.int i2) := Option.some.inj ei2
  obtain ⟨i3, ei3⟩ := is_v g9
  obtain rfl : w3 = (.int i3) := Option.some.inj ei3
  obtain ⟨i4, ei4⟩ := is_v g10
  obtain rfl : w4 = (.int i4) := Option.some.inj ei4
  obtain ⟨A_cS, e11⟩ := is_v (Cond.before_iff.mp (hsets _ (List.mem_of_getElem? (i := 1) rfl)))
  have B12 : Sta s s.heap "java/lang/String" "COMPACT_STRINGS" "Z" (.int A_cS) := Sta.start e11 (Or.inl (hsets _ (List.mem_of_getElem? (i := 0) rfl)))
  have B13 : ¬ (A_cS = (0 : Int32)) := own_neint (Cond.before_iff.mp (hsets _ (List.mem_of_getElem? (i := 2) rfl))) e11
  obtain ⟨A_fm, e14, e14'⟩ := isR_v (Cond.before_iff.mp (hsets _ (List.mem_of_getElem? (i := 8) rfl)))
  have B15 : Sta s s.heap "jdk/internal/util/Preconditions" "SIOOBE_FORMATTER" "Ljava/util/function/BiFunction;" A_fm := Sta.start e14 (Or.inl (hsets _ (List.mem_of_getElem? (i := 7) rfl)))
  have B16 : A_fm.isRef = true := e14'
  have e17 := own_eqint (Cond.before_iff.mp (hsets _ (List.mem_of_getElem? (i := 12) rfl)))
  have B18 : Sta s s.heap "java/lang/StringUTF16" "$assertionsDisabled" "Z" (.int (1 : Int32)) := Sta.start e17 (Or.inl (hsets _ (List.mem_of_getElem? (i := 11) rfl)))
  have e19 := own_eqint (Cond.before_iff.mp (hsets _ (List.mem_of_getElem? (i := 15) rfl)))
  have B20 : Sta s s.heap "java/lang/StringUTF16" "HI_BYTE_SHIFT" "I" (.int (0 : Int32)) := Sta.start e19 (Or.inl (hsets _ (List.mem_of_getElem? (i := 14) rfl)))
  have e21 := own_eqint (Cond.before_iff.mp (hsets _ (List.mem_of_getElem? (i := 18) rfl)))
  have B22 : Sta s s.heap "java/lang/StringUTF16" "LO_BYTE_SHIFT" "I" (.int (8 : Int32)) := Sta.start e21 (Or.inl (hsets _ (List.mem_of_getElem? (i := 17) rfl)))
  obtain ⟨n, o, h1, h2, h3, _, L, rfl, ⟨rfl, N, _⟩, hq⟩ := rm_law l s _ hw tables_1 i0 i1 i2 i3 i4 A_cS A_fm s.heap s.heap.size (Nat.le_refl _) (Old.start s) B12 B13 B15 B16 B18 B20 B22 p e ha hc hk s m _ below hf ((Spec.applies_iff_loose hf).mp happ).1 ⟨rfl, State.Warmed39.refl s, rfl⟩ trivial
  refine ⟨n, _, h1, h2, h3, hpost _ _ _ _ _ _ ⟨Cond.after_iff.mpr rfl, Cond.after_iff.mpr (eq_i res_at (Term.int_eval (1)) rfl), trivial⟩ ⟨hq.1, hq.2.1, (hq.2.2.sift fun y hy => Or.inr (N y hy)).mono (by decide) (by decide)⟩⟩
theorem main_1_1 : Claimed_1_1 := comes_1 fun _ _ _ _ _ _ h hF => ⟨h.1, hF⟩
theorem main_1_2 : Claimed_1_2 := comes_1 fun _ _ _ _ _ _ h hF => ⟨h.2.1, hF⟩

end Jvm.Pilot.@@N@@
namespace Jvm.Pilot.@@N@@
open Jvm Jvm.ClassFile Sem Op Lib Jvm.Free Jvm.Stand Jvm.Pilot.@@N@@.Jvm.D
/-! MADE BY PROGRAM (witnessworld.py) out of the Statement's table words and the real class files: 20 classes; the members and pool entries that the words name. The judged class is class 1, her method 2. -/
namespace start1
open Jvm.ClassFile
def u (s : String) : CpInfo := .utf8 (stringToUtf16 s)
/-- a pool by its gaps: so many unusable entries, then the entry; so many at the end -/
def gap : Nat → List CpInfo → List CpInfo
  | 0, r => r
  | n + 1, r => .unusable :: gap n r
def poolList (es : List (Nat × CpInfo)) (last : Nat) : List CpInfo := es.foldr (fun e r => gap e.1 (e.2 :: r)) (gap last [])
def pool (es : List (Nat × CpInfo)) (last : Nat) : Array CpInfo := ⟨poolList es last⟩
def fileOf (pool : Array CpInfo) (this : Nat) (attrs : Array Attribute := #[]) (ms : Array MethodInfo := #[]) (fl : Nat := 33) (sup : Nat := 0) (ifs : Array Nat := #[]) (fds : Array FieldInfo := #[]) : ClassFile where
  minorVersion := 0
  majorVersion := 65
  constantPool := pool
  accessFlags := fl
  thisClass := this
  superClass := sup
  interfaces := ifs
  fields := fds
  methods := ms
  attributes := attrs
def plain (name : String) (sup : Option ClassId) : Class where
  name := name
  kind := .ordinary
  loader := none
  accessFlags := 33
  super := sup
  interfaces := #[]
  cf := none
  fields := #[]
  methods := #[]
  instanceTypes := #[]
  staticTypes := #[]
  resolved := #[]
  callSites := []
  init := .initialized
  statics := none
  mirror := none

def pool0 : Array CpInfo := pool [(5, u "<init>"), (0, u "()V"), (1, .class_ 10), (1, u "java/lang/Object")] 113

def k0c0 : Code := { maxStack := 0, maxLocals := 1, code := object_method_1_code, exceptionTable := #[], attributes := #[] }
def k0m0 : Method := { name := "<init>", desc := "()V", sig := { parameters := [], returnType := none }, accessFlags := 1, code := some k0c0 }
/-- java/lang/Object -/
def k0 : Class := { plain "java/lang/Object" none with
  accessFlags := 33
  interfaces := #[]
  cf := some (fileOf pool0 8 #[] #[{ accessFlags := 1, nameIndex := 5, descriptorIndex := 6, attributes := #[] }] 33 0 #[] #[])
  fields := #[]
  methods := #[k0m0]
  instanceTypes := #[]
  staticTypes := #[]
  resolved := Array.replicate 124 none
  statics := none }

def pool1 : Array CpInfo := pool [(2, .class_ 4), (1, u "java/lang/Object"), (0, u "<init>"), (0, u "()V"), (0, .integer 2147483647), (0, .methodref 9 10), (0, .class_ 11), (0, .nameAndType 12 13), (0, u "com/example/vestline/vestline/input/TextFilesEndsLinePinLaw"), (0, u "pick"), (0, u "(I)C"), (0, .class_ 15), (0, u "java/lang/String"), (0, .methodref 14 17), (0, .nameAndType 5 18), (0, u "([C)V"), (0, .methodref 20 21), (0, .class_ 22), (0, .nameAndType 23 24), (0, u "com/example/vestline/vestline/input/TextFiles"), (0, u "endsLine"), (0, u "(Ljava/lang/String;I)Z"), (3, u "law"), (0, u "(IIIII)Z")] 4

def k1m0 : Method := { name := "<init>", desc := "()V", sig := { parameters := [], returnType := none }, accessFlags := 2, code := none }
def k1c1 : Code := { maxStack := 2, maxLocals := 2, code := method_2_code, exceptionTable := #[], attributes := #[] }
def k1m1 : Method := { name := "pick", desc := "(I)C", sig := { parameters := [.int], returnType := some .char }, accessFlags := 10, code := some k1c1 }
def k1c2 : Code := { maxStack := 3, maxLocals := 13, code := code, exceptionTable := #[], attributes := #[] }
def k1m2 : Method := { name := "law", desc := "(IIIII)Z", sig := { parameters := [.int, .int, .int, .int, .int], returnType := some .boolean }, accessFlags := 9, code := some k1c2 }
/-- com/example/vestline/vestline/input/TextFilesEndsLinePinLaw -/
def k1 : Class := { plain "com/example/vestline/vestline/input/TextFilesEndsLinePinLaw" (some 0) with
  accessFlags := 49
  interfaces := #[]
  cf := some (fileOf pool1 9 #[] #[{ accessFlags := 2, nameIndex := 5, descriptorIndex := 6, attributes := #[] }, { accessFlags := 10, nameIndex := 12, descriptorIndex := 13, attributes := #[] }, { accessFlags := 9, nameIndex := 28, descriptorIndex := 29, attributes := #[] }] 49 2 #[] #[])
  fields := #[]
  methods := #[k1m0, k1m1, k1m2]
  instanceTypes := #[]
  staticTypes := #[]
  resolved := Array.replicate 34 none
  statics := none }

def pool2 : Array CpInfo := pool [(1, .class_ 2), (0, u "java/io/Serializable"), (0, .class_ 4), (0, u "java/lang/Object")] 2

/-- java/io/Serializable -/
def k2 : Class := { plain "java/io/Serializable" (some 0) with
  accessFlags := 1537
  interfaces := #[]
  cf := some (fileOf pool2 1 #[] #[] 1537 3 #[] #[])
  fields := #[]
  methods := #[]
  instanceTypes := #[]
  staticTypes := #[]
  resolved := Array.replicate 7 none
  statics := none }

def pool3 : Array CpInfo := pool [(1, .class_ 2), (0, u "java/lang/Comparable"), (0, .class_ 4), (0, u "java/lang/Object")] 7

/-- java/lang/Comparable -/
def k3 : Class := { plain "java/lang/Comparable" (some 0) with
  accessFlags := 1537
  interfaces := #[]
  cf := some (fileOf pool3 1 #[] #[] 1537 3 #[] #[])
  fields := #[]
  methods := #[]
  instanceTypes := #[]
  staticTypes := #[]
  resolved := Array.replicate 12 none
  statics := none }

def pool4 : Array CpInfo := pool [(2, .class_ 4), (1, u "java/lang/CharSequence"), (42, .class_ 48), (0, u "java/lang/CharSequence$1CodePointIterator"), (10, .class_ 60), (0, u "java/lang/CharSequence$1CharIterator"), (5, .class_ 67), (0, u "java/lang/Object")] 63

/-- java/lang/CharSequence -/
def k4 : Class := { plain "java/lang/CharSequence" (some 0) with
  accessFlags := 1537
  interfaces := #[]
  cf := some (fileOf pool4 2 #[.nestMembers #[47, 59]] #[] 1537 66 #[] #[])
  fields := #[]
  methods := #[]
  instanceTypes := #[]
  staticTypes := #[]
  resolved := Array.replicate 131 none
  statics := none }

def pool5 : Array CpInfo := pool [(1, .class_ 2), (0, u "java/lang/constant/Constable"), (0, .class_ 4), (0, u "java/lang/Object")] 6

/-- java/lang/constant/Constable -/
def k5 : Class := { plain "java/lang/constant/Constable" (some 0) with
  accessFlags := 1537
  interfaces := #[]
  cf := some (fileOf pool5 1 #[] #[] 1537 3 #[] #[])
  fields := #[]
  methods := #[]
  instanceTypes := #[]
  staticTypes := #[]
  resolved := Array.replicate 11 none
  statics := none }

def pool6 : Array CpInfo := pool [(1, .class_ 2), (0, u "java/lang/constant/ConstantDesc"), (0, .class_ 4), (0, u "java/lang/Object")] 32

/-- java/lang/constant/ConstantDesc -/
def k6 : Class := { plain "java/lang/constant/ConstantDesc" (some 0) with
  accessFlags := 1537
  interfaces := #[]
  cf := some (fileOf pool6 1 #[] #[] 1537 3 #[] #[])
  fields := #[]
  methods := #[]
  instanceTypes := #[]
  staticTypes := #[]
  resolved := Array.replicate 37 none
  statics := none }

def pool7 : Array CpInfo := pool [(1, .methodref 2 3), (0, .class_ 4), (0, .nameAndType 5 6), (0, u "java/lang/Object"), (0, u "<init>"), (0, u "()V"), (2, .fieldref 10 11), (0, .class_ 12), (0, .nameAndType 13 14), (0, u "java/lang/String"), (0, u "value"), (0, u "[B"), (0, .fieldref 10 16), (0, .nameAndType 17 18), (0, u "coder"), (0, u "B"), (2, u "hash"), (0, u "I"), (2, u "hashIsZero"), (0, u "Z"), (0, .methodref 10 28), (0, .nameAndType 5 29), (0, u "([CIILjava/lang/Void;)V"), (8, .fieldref 10 39), (0, .nameAndType 40 26), (0, u "COMPACT_STRINGS"), (1, .class_ 44), (1, u "java/lang/StringUTF16"), (0, u "compress"), (1, .methodref 42 48), (0, .nameAndType 49 50), (0, u "coderFromArrayLen"), (0, u "([BI)B"), (56, .class_ 109), (1, u "java/lang/StringLatin1"), (32, u "()Z"), (34, .methodref 42 178), (0, .nameAndType 45 179), (0, u "([CII)[B"), (154, u "()I"), (0, .methodref 10 336), (0, .nameAndType 17 337), (0, u "()B"), (25, u "([BI)C"), (27, u "(II)V"), (35, u "(I)C"), (64, .methodref 10 493), (0, .nameAndType 494 142), (0, u "isLatin1"), (0, .methodref 107 496), (0, .nameAndType 497 363), (0, u "charAt"), (0, .methodref 42 496), (2, u "checkIndex"), (5, u "length"), (67, .class_ 576), (0, u "java/lang/CharSequence"), (22, u "CASE_INSENSITIVE_ORDER"), (0, u "Ljava/util/Comparator;"), (409, u "([C)V"), (42, .fieldref 1054 1055), (0, .class_ 1056), (0, .nameAndType 1057 1058), (0, u "jdk/internal/util/Preconditions"), (0, u "SIOOBE_FORMATTER"), (0, u "Ljava/util/function/BiFunction;"), (0, .methodref 1054 1060), (0, .nameAndType 501 1061), (0, u "(IILjava/util/function/BiFunction;)I"), (39, u "serialPersistentFields"), (0, u "[Ljava/io/ObjectStreamField;"), (0, .class_ 1104), (0, u "java/lang/String$CaseInsensitiveComparator"), (1, .class_ 1107), (0, u "java/io/Serializable"), (0, .class_ 1109), (0, u "java/lang/Comparable"), (0, .class_ 1111), (0, u "java/lang/constant/Constable"), (0, .class_ 1113), (0, u "java/lang/constant/ConstantDesc"), (2, u "serialVersionUID"), (0, u "J"), (3, u "REPL"), (0, u "C"), (2, u "LATIN1"), (1, u "UTF16")] 323

def k7m0 : Method := { name := "<init>", desc := "()V", sig := { parameters := [], returnType := none }, accessFlags := 1, code := none }
def k7c1 : Code := { maxStack := 5, maxLocals := 2, code := jdk_42_method_3_code, exceptionTable := #[], attributes := #[] }
def k7m1 : Method := { name := "<init>", desc := "([C)V", sig := { parameters := [(.array .char)], returnType := none }, accessFlags := 1, code := some k7c1 }
def k7c2 : Code := { maxStack := 2, maxLocals := 1, code := jdk_42_method_54_code, exceptionTable := #[], attributes := #[] }
def k7m2 : Method := { name := "length", desc := "()I", sig := { parameters := [], returnType := some .int }, accessFlags := 1, code := some k7c2 }
def k7c3 : Code := { maxStack := 2, maxLocals := 2, code := jdk_42_method_56_code, exceptionTable := #[], attributes := #[] }
def k7m3 : Method := { name := "charAt", desc := "(I)C", sig := { parameters := [.int], returnType := some .char }, accessFlags := 1, code := some k7c3 }
def k7c4 : Code := { maxStack := 4, maxLocals := 6, code := jdk_42_method_149_code, exceptionTable := #[], attributes := #[] }
def k7m4 : Method := { name := "<init>", desc := "([CIILjava/lang/Void;)V", sig := { parameters := [(.array .char), .int, .int, (.object "java/lang/Void")], returnType := none }, accessFlags := 2, code := some k7c4 }
def k7c5 : Code := { maxStack := 1, maxLocals := 1, code := jdk_42_method_152_code, exceptionTable := #[], attributes := #[] }
def k7m5 : Method := { name := "coder", desc := "()B", sig := { parameters := [], returnType := some .byte }, accessFlags := 0, code := some k7c5 }
def k7c6 : Code := { maxStack := 1, maxLocals := 1, code := jdk_42_method_154_code, exceptionTable := #[], attributes := #[] }
def k7m6 : Method := { name := "isLatin1", desc := "()Z", sig := { parameters := [], returnType := some .boolean }, accessFlags := 0, code := some k7c6 }
def k7c7 : Code := { maxStack := 3, maxLocals := 2, code := jdk_42_method_155_code, exceptionTable := #[], attributes := #[] }
def k7m7 : Method := { name := "checkIndex", desc := "(II)V", sig := { parameters := [.int, .int], returnType := none }, accessFlags := 8, code := some k7c7 }
/-- java/lang/String -/
def k7 : Class := { plain "java/lang/String" (some 0) with
  accessFlags := 49
  interfaces := #[2, 3, 4, 5, 6]
  cf := some (fileOf pool7 10 #[.nestMembers #[1103]] #[{ accessFlags := 1, nameIndex := 5, descriptorIndex := 6, attributes := #[] }, { accessFlags := 1, nameIndex := 5, descriptorIndex := 1010, attributes := #[] }, { accessFlags := 1, nameIndex := 507, descriptorIndex := 334, attributes := #[] }, { accessFlags := 1, nameIndex := 497, descriptorIndex := 427, attributes := #[] }, { accessFlags := 2, nameIndex := 5, descriptorIndex := 29, attributes := #[] }, { accessFlags := 0, nameIndex := 17, descriptorIndex := 337, attributes := #[] }, { accessFlags := 0, nameIndex := 494, descriptorIndex := 142, attributes := #[] }, { accessFlags := 8, nameIndex := 501, descriptorIndex := 391, attributes := #[] }] 49 2 #[1106, 1108, 575, 1110, 1112] #[{ accessFlags := 18, nameIndex := 13, descriptorIndex := 14, attributes := #[] }, { accessFlags := 18, nameIndex := 17, descriptorIndex := 18, attributes := #[] }, { accessFlags := 2, nameIndex := 21, descriptorIndex := 22, attributes := #[] }, { accessFlags := 2, nameIndex := 25, descriptorIndex := 26, attributes := #[] }, { accessFlags := 26, nameIndex := 1116, descriptorIndex := 1117, attributes := #[] }, { accessFlags := 24, nameIndex := 40, descriptorIndex := 26, attributes := #[] }, { accessFlags := 26, nameIndex := 1101, descriptorIndex := 1102, attributes := #[] }, { accessFlags := 26, nameIndex := 1121, descriptorIndex := 1122, attributes := #[] }, { accessFlags := 25, nameIndex := 599, descriptorIndex := 600, attributes := #[] }, { accessFlags := 24, nameIndex := 1125, descriptorIndex := 18, attributes := #[] }, { accessFlags := 24, nameIndex := 1127, descriptorIndex := 18, attributes := #[] }])
  fields := #[{ name := "value", type := (.array .byte), accessFlags := 18, slot := 0, constantValue := 0 }, { name := "coder", type := .byte, accessFlags := 18, slot := 1, constantValue := 0 }, { name := "hash", type := .int, accessFlags := 2, slot := 2, constantValue := 0 }, { name := "hashIsZero", type := .boolean, accessFlags := 2, slot := 3, constantValue := 0 }, { name := "serialVersionUID", type := .long, accessFlags := 26, slot := 0, constantValue := 0 }, { name := "COMPACT_STRINGS", type := .boolean, accessFlags := 24, slot := 1, constantValue := 0 }, { name := "serialPersistentFields", type := (.array (.object "java/io/ObjectStreamField")), accessFlags := 26, slot := 2, constantValue := 0 }, { name := "REPL", type := .char, accessFlags := 26, slot := 3, constantValue := 0 }, { name := "CASE_INSENSITIVE_ORDER", type := (.object "java/util/Comparator"), accessFlags := 25, slot := 4, constantValue := 0 }, { name := "LATIN1", type := .byte, accessFlags := 24, slot := 5, constantValue := 0 }, { name := "UTF16", type := .byte, accessFlags := 24, slot := 6, constantValue := 0 }]
  methods := #[k7m0, k7m1, k7m2, k7m3, k7m4, k7m5, k7m6, k7m7]
  instanceTypes := #[(.array .byte), .byte, .int, .boolean]
  staticTypes := #[.long, .boolean, (.array (.object "java/io/ObjectStreamField")), .char, (.object "java/util/Comparator"), .byte, .byte]
  resolved := Array.replicate 1451 none
  statics := some 0 }

def pool8 : Array CpInfo := pool [(3, .class_ 4), (0, u "java/lang/String"), (1, .class_ 8), (1, u "java/lang/Object"), (0, u "<init>"), (0, u "()V"), (0, .methodref 12 13), (0, .class_ 14), (0, .nameAndType 15 16), (0, u "java/lang/StringUTF16"), (0, u "newBytesLength"), (0, u "(I)I"), (3, .integer 1073741823), (23, .fieldref 12 45), (0, .nameAndType 46 47), (0, u "$assertionsDisabled"), (0, u "Z"), (0, .methodref 12 49), (0, .nameAndType 50 51), (0, u "length"), (0, u "([B)I"), (7, .fieldref 12 60), (0, .nameAndType 61 62), (0, u "HI_BYTE_SHIFT"), (0, u "I"), (0, .fieldref 12 64), (0, .nameAndType 65 62), (0, u "LO_BYTE_SHIFT"), (1, .methodref 12 68), (0, .nameAndType 69 70), (0, u "checkIndex"), (0, u "(I[B)V"), (0, .methodref 12 72), (0, .nameAndType 73 74), (0, u "getChar"), (0, u "([BI)C"), (32, .methodref 12 108), (0, .nameAndType 109 110), (0, u "newBytesFor"), (0, u "(I)[B"), (0, .methodref 12 112), (0, .nameAndType 113 114), (0, u "putChar"), (0, u "([BII)V"), (0, .methodref 12 116), (0, .nameAndType 117 118), (0, u "compress"), (0, u "([CI[BII)I"), (0, .methodref 12 120), (0, .nameAndType 121 122), (0, u "toBytes"), (0, u "([CII)[B"), (138, u "coderFromArrayLen"), (0, u "([BI)B"), (106, .class_ 371), (1, u "java/lang/StringUTF16$LinesSpliterator"), (20, u "charAt"), (21, .methodref 3 415), (0, .nameAndType 69 416), (0, u "(II)V"), (13, u "MAX_LENGTH"), (196, .class_ 628), (0, u "java/lang/StringUTF16$CodePointsSpliterator"), (0, .class_ 630), (0, u "java/lang/StringUTF16$CharsSpliterator")] 4

def k8m0 : Method := { name := "<init>", desc := "()V", sig := { parameters := [], returnType := none }, accessFlags := 0, code := none }
def k8c1 : Code := { maxStack := 1, maxLocals := 1, code := jdk_52_method_2_code, exceptionTable := #[], attributes := #[] }
def k8m1 : Method := { name := "newBytesFor", desc := "(I)[B", sig := { parameters := [.int], returnType := some (.array .byte) }, accessFlags := 9, code := some k8c1 }
def k8c2 : Code := { maxStack := 4, maxLocals := 1, code := jdk_52_method_3_code, exceptionTable := #[], attributes := #[] }
def k8m2 : Method := { name := "newBytesLength", desc := "(I)I", sig := { parameters := [.int], returnType := some .int }, accessFlags := 9, code := some k8c2 }
def k8c3 : Code := { maxStack := 4, maxLocals := 3, code := jdk_52_method_4_code, exceptionTable := #[], attributes := #[] }
def k8m3 : Method := { name := "putChar", desc := "([BII)V", sig := { parameters := [(.array .byte), .int, .int], returnType := none }, accessFlags := 8, code := some k8c3 }
def k8c4 : Code := { maxStack := 3, maxLocals := 2, code := jdk_52_method_5_code, exceptionTable := #[], attributes := #[] }
def k8m4 : Method := { name := "getChar", desc := "([BI)C", sig := { parameters := [(.array .byte), .int], returnType := some .char }, accessFlags := 8, code := some k8c4 }
def k8c5 : Code := { maxStack := 2, maxLocals := 1, code := jdk_52_method_6_code, exceptionTable := #[], attributes := #[] }
def k8m5 : Method := { name := "length", desc := "([B)I", sig := { parameters := [(.array .byte)], returnType := some .int }, accessFlags := 9, code := some k8c5 }
def k8c6 : Code := { maxStack := 4, maxLocals := 5, code := jdk_52_method_14_code, exceptionTable := #[], attributes := #[] }
def k8m6 : Method := { name := "toBytes", desc := "([CII)[B", sig := { parameters := [(.array .char), .int, .int], returnType := some (.array .byte) }, accessFlags := 9, code := some k8c6 }
def k8c7 : Code := { maxStack := 2, maxLocals := 2, code := jdk_52_method_15_code, exceptionTable := #[], attributes := #[] }
def k8m7 : Method := { name := "coderFromArrayLen", desc := "([BI)B", sig := { parameters := [(.array .byte), .int], returnType := some .byte }, accessFlags := 8, code := some k8c7 }
def k8c8 : Code := { maxStack := 5, maxLocals := 6, code := jdk_52_method_16_code, exceptionTable := #[], attributes := #[] }
def k8m8 : Method := { name := "compress", desc := "([CII)[B", sig := { parameters := [(.array .char), .int, .int], returnType := some (.array .byte) }, accessFlags := 9, code := some k8c8 }
def k8c9 : Code := { maxStack := 3, maxLocals := 7, code := jdk_52_method_21_code, exceptionTable := #[], attributes := #[] }
def k8m9 : Method := { name := "compress", desc := "([CI[BII)I", sig := { parameters := [(.array .char), .int, (.array .byte), .int, .int], returnType := some .int }, accessFlags := 9, code := some k8c9 }
def k8c10 : Code := { maxStack := 2, maxLocals := 2, code := jdk_52_method_83_code, exceptionTable := #[], attributes := #[] }
def k8m10 : Method := { name := "charAt", desc := "([BI)C", sig := { parameters := [(.array .byte), .int], returnType := some .char }, accessFlags := 9, code := some k8c10 }
def k8c11 : Code := { maxStack := 2, maxLocals := 2, code := jdk_52_method_91_code, exceptionTable := #[], attributes := #[] }
def k8m11 : Method := { name := "checkIndex", desc := "(I[B)V", sig := { parameters := [.int, (.array .byte)], returnType := none }, accessFlags := 9, code := some k8c11 }
/-- java/lang/StringUTF16 -/
def k8 : Class := { plain "java/lang/StringUTF16" (some 0) with
  accessFlags := 48
  interfaces := #[]
  cf := some (fileOf pool8 12 #[.nestMembers #[627, 629, 369]] #[{ accessFlags := 0, nameIndex := 9, descriptorIndex := 10, attributes := #[] }, { accessFlags := 9, nameIndex := 109, descriptorIndex := 110, attributes := #[] }, { accessFlags := 9, nameIndex := 15, descriptorIndex := 16, attributes := #[] }, { accessFlags := 8, nameIndex := 113, descriptorIndex := 114, attributes := #[] }, { accessFlags := 8, nameIndex := 73, descriptorIndex := 74, attributes := #[] }, { accessFlags := 9, nameIndex := 50, descriptorIndex := 51, attributes := #[] }, { accessFlags := 9, nameIndex := 121, descriptorIndex := 122, attributes := #[] }, { accessFlags := 8, nameIndex := 261, descriptorIndex := 262, attributes := #[] }, { accessFlags := 9, nameIndex := 117, descriptorIndex := 122, attributes := #[] }, { accessFlags := 9, nameIndex := 117, descriptorIndex := 118, attributes := #[] }, { accessFlags := 9, nameIndex := 392, descriptorIndex := 74, attributes := #[] }, { accessFlags := 9, nameIndex := 69, descriptorIndex := 70, attributes := #[] }] 48 6 #[] #[{ accessFlags := 26, nameIndex := 61, descriptorIndex := 62, attributes := #[] }, { accessFlags := 26, nameIndex := 65, descriptorIndex := 62, attributes := #[] }, { accessFlags := 24, nameIndex := 430, descriptorIndex := 62, attributes := #[] }, { accessFlags := 4120, nameIndex := 46, descriptorIndex := 47, attributes := #[] }])
  fields := #[{ name := "HI_BYTE_SHIFT", type := .int, accessFlags := 26, slot := 0, constantValue := 0 }, { name := "LO_BYTE_SHIFT", type := .int, accessFlags := 26, slot := 1, constantValue := 0 }, { name := "MAX_LENGTH", type := .int, accessFlags := 24, slot := 2, constantValue := 0 }, { name := "$assertionsDisabled", type := .boolean, accessFlags := 4120, slot := 3, constantValue := 0 }]
  methods := #[k8m0, k8m1, k8m2, k8m3, k8m4, k8m5, k8m6, k8m7, k8m8, k8m9, k8m10, k8m11]
  instanceTypes := #[]
  staticTypes := #[.int, .int, .int, .boolean]
  resolved := Array.replicate 635 none
  statics := some 1 }

def pool9 : Array CpInfo := pool [(2, .class_ 4), (1, u "java/lang/Object"), (0, u "<init>"), (0, u "()V"), (0, .class_ 8), (0, u "com/example/vestline/vestline/input/TextFiles"), (117, .methodref 127 128), (0, .class_ 129), (0, .nameAndType 130 131), (0, u "java/lang/String"), (0, u "charAt"), (0, u "(I)C"), (0, .methodref 127 133), (0, .nameAndType 134 135), (0, u "length"), (0, u "()I"), (0, u "MEBIBYTE"), (0, u "I"), (9, u "endsLine"), (0, u "(Ljava/lang/String;I)Z")] 19

def k9m0 : Method := { name := "<init>", desc := "()V", sig := { parameters := [], returnType := none }, accessFlags := 2, code := none }
def k9c1 : Code := { maxStack := 3, maxLocals := 3, code := prog_12_method_5_code, exceptionTable := #[], attributes := #[] }
def k9m1 : Method := { name := "endsLine", desc := "(Ljava/lang/String;I)Z", sig := { parameters := [(.object "java/lang/String"), .int], returnType := some .boolean }, accessFlags := 8, code := some k9c1 }
/-- com/example/vestline/vestline/input/TextFiles -/
def k9 : Class := { plain "com/example/vestline/vestline/input/TextFiles" (some 0) with
  accessFlags := 48
  interfaces := #[]
  cf := some (fileOf pool9 7 #[] #[{ accessFlags := 2, nameIndex := 5, descriptorIndex := 6, attributes := #[] }, { accessFlags := 8, nameIndex := 147, descriptorIndex := 148, attributes := #[] }] 48 2 #[] #[{ accessFlags := 26, nameIndex := 136, descriptorIndex := 137, attributes := #[] }])
  fields := #[{ name := "MEBIBYTE", type := .int, accessFlags := 26, slot := 0, constantValue := 0 }]
  methods := #[k9m0, k9m1]
  instanceTypes := #[]
  staticTypes := #[.int]
  resolved := Array.replicate 168 none
  statics := none }

def pool10 : Array CpInfo := pool [(1, .class_ 2), (0, u "java/lang/String"), (1, .class_ 6), (1, u "java/lang/Object"), (0, u "<init>"), (0, u "()V"), (0, .methodref 1 10), (0, .nameAndType 11 12), (0, u "checkIndex"), (0, u "(II)V"), (1, .class_ 16), (1, u "java/lang/StringLatin1"), (36, u "([BI)C"), (67, u "$assertionsDisabled"), (0, u "Z"), (98, .class_ 223), (1, u "java/lang/StringLatin1$LinesSpliterator"), (28, u "charAt"), (137, .class_ 391), (0, u "java/lang/StringLatin1$CharsSpliterator")] 3

def k10m0 : Method := { name := "<init>", desc := "()V", sig := { parameters := [], returnType := none }, accessFlags := 0, code := none }
def k10c1 : Code := { maxStack := 2, maxLocals := 2, code := jdk_43_method_2_code, exceptionTable := #[], attributes := #[] }
def k10m1 : Method := { name := "charAt", desc := "([BI)C", sig := { parameters := [(.array .byte), .int], returnType := some .char }, accessFlags := 9, code := some k10c1 }
/-- java/lang/StringLatin1 -/
def k10 : Class := { plain "java/lang/StringLatin1" (some 0) with
  accessFlags := 48
  interfaces := #[]
  cf := some (fileOf pool10 14 #[.nestMembers #[390, 221]] #[{ accessFlags := 0, nameIndex := 7, descriptorIndex := 8, attributes := #[] }, { accessFlags := 9, nameIndex := 252, descriptorIndex := 53, attributes := #[] }] 48 4 #[] #[{ accessFlags := 4120, nameIndex := 121, descriptorIndex := 122, attributes := #[] }])
  fields := #[{ name := "$assertionsDisabled", type := .boolean, accessFlags := 4120, slot := 0, constantValue := 0 }]
  methods := #[k10m0, k10m1]
  instanceTypes := #[]
  staticTypes := #[.boolean]
  resolved := Array.replicate 395 none
  statics := none }

def pool11 : Array CpInfo := pool [(2, .class_ 4), (1, u "java/lang/Object"), (0, u "<init>"), (0, u "()V"), (17, .class_ 26), (1, u "jdk/internal/util/Preconditions"), (6, u "checkIndex"), (21, .class_ 56), (0, u "jdk/internal/util/Preconditions$4"), (57, .class_ 115), (0, u "jdk/internal/util/Preconditions$1"), (7, u "SIOOBE_FORMATTER"), (0, u "Ljava/util/function/BiFunction;"), (0, .class_ 126), (0, u "jdk/internal/util/Preconditions$2"), (3, u "AIOOBE_FORMATTER"), (0, .class_ 132), (0, u "jdk/internal/util/Preconditions$3"), (3, u "IOOBE_FORMATTER"), (41, u "(IILjava/util/function/BiFunction;)I")] 15

def k11m0 : Method := { name := "<init>", desc := "()V", sig := { parameters := [], returnType := none }, accessFlags := 1, code := none }
def k11c1 : Code := { maxStack := 3, maxLocals := 3, code := jdk_41_method_11_code, exceptionTable := #[], attributes := #[] }
def k11m1 : Method := { name := "checkIndex", desc := "(IILjava/util/function/BiFunction;)I", sig := { parameters := [.int, .int, (.object "java/util/function/BiFunction")], returnType := some .int }, accessFlags := 9, code := some k11c1 }
/-- jdk/internal/util/Preconditions -/
def k11 : Class := { plain "jdk/internal/util/Preconditions" (some 0) with
  accessFlags := 33
  interfaces := #[]
  cf := some (fileOf pool11 24 #[.nestMembers #[55, 131, 125, 114]] #[{ accessFlags := 1, nameIndex := 5, descriptorIndex := 6, attributes := #[] }, { accessFlags := 9, nameIndex := 33, descriptorIndex := 178, attributes := #[] }] 33 2 #[] #[{ accessFlags := 25, nameIndex := 123, descriptorIndex := 124, attributes := #[] }, { accessFlags := 25, nameIndex := 130, descriptorIndex := 124, attributes := #[] }, { accessFlags := 25, nameIndex := 136, descriptorIndex := 124, attributes := #[] }])
  fields := #[{ name := "SIOOBE_FORMATTER", type := (.object "java/util/function/BiFunction"), accessFlags := 25, slot := 0, constantValue := 0 }, { name := "AIOOBE_FORMATTER", type := (.object "java/util/function/BiFunction"), accessFlags := 25, slot := 1, constantValue := 0 }, { name := "IOOBE_FORMATTER", type := (.object "java/util/function/BiFunction"), accessFlags := 25, slot := 2, constantValue := 0 }]
  methods := #[k11m0, k11m1]
  instanceTypes := #[]
  staticTypes := #[(.object "java/util/function/BiFunction"), (.object "java/util/function/BiFunction"), (.object "java/util/function/BiFunction")]
  resolved := Array.replicate 194 none
  statics := some 2 }

def pool12 : Array CpInfo := pool [(9, u "<init>"), (6, .class_ 18), (1, u "java/lang/Object"), (0, u "()V"), (1, .class_ 23), (1, u "jdk/internal/util/ArraysSupport"), (0, u "LOG2_ARRAY_LONG_INDEX_SCALE"), (0, u "I"), (2, u "U"), (0, u "Ljdk/internal/misc/Unsafe;"), (8, u "BIG_ENDIAN"), (0, u "Z"), (8, u "LOG2_BYTE_BIT_SIZE"), (4, u "LOG2_ARRAY_INT_INDEX_SCALE"), (54, u "JLA"), (0, u "Ljdk/internal/access/JavaLangAccess;"), (11, u "LOG2_ARRAY_BOOLEAN_INDEX_SCALE"), (9, u "LOG2_ARRAY_BYTE_INDEX_SCALE"), (5, u "LOG2_ARRAY_CHAR_INDEX_SCALE"), (5, u "LOG2_ARRAY_SHORT_INDEX_SCALE"), (18, u "LOG2_ARRAY_FLOAT_INDEX_SCALE"), (24, u "LOG2_ARRAY_DOUBLE_INDEX_SCALE"), (89, u "T_BOOLEAN"), (2, u "T_CHAR"), (1, u "T_FLOAT"), (1, u "T_DOUBLE"), (1, u "T_BYTE"), (1, u "T_SHORT"), (1, u "T_INT"), (1, u "T_LONG"), (1, u "SOFT_MAX_ARRAY_LENGTH")] 83

def k12m0 : Method := { name := "<init>", desc := "()V", sig := { parameters := [], returnType := none }, accessFlags := 2, code := none }
/-- jdk/internal/util/ArraysSupport -/
def k12 : Class := { plain "jdk/internal/util/ArraysSupport" (some 0) with
  accessFlags := 33
  interfaces := #[]
  cf := some (fileOf pool12 21 #[] #[{ accessFlags := 2, nameIndex := 9, descriptorIndex := 19, attributes := #[] }] 33 16 #[] #[{ accessFlags := 24, nameIndex := 28, descriptorIndex := 29, attributes := #[] }, { accessFlags := 26, nameIndex := 38, descriptorIndex := 39, attributes := #[] }, { accessFlags := 25, nameIndex := 121, descriptorIndex := 25, attributes := #[] }, { accessFlags := 25, nameIndex := 131, descriptorIndex := 25, attributes := #[] }, { accessFlags := 25, nameIndex := 137, descriptorIndex := 25, attributes := #[] }, { accessFlags := 25, nameIndex := 143, descriptorIndex := 25, attributes := #[] }, { accessFlags := 25, nameIndex := 53, descriptorIndex := 25, attributes := #[] }, { accessFlags := 25, nameIndex := 24, descriptorIndex := 25, attributes := #[] }, { accessFlags := 25, nameIndex := 162, descriptorIndex := 25, attributes := #[] }, { accessFlags := 25, nameIndex := 187, descriptorIndex := 25, attributes := #[] }, { accessFlags := 26, nameIndex := 48, descriptorIndex := 25, attributes := #[] }, { accessFlags := 25, nameIndex := 277, descriptorIndex := 25, attributes := #[] }, { accessFlags := 25, nameIndex := 280, descriptorIndex := 25, attributes := #[] }, { accessFlags := 25, nameIndex := 282, descriptorIndex := 25, attributes := #[] }, { accessFlags := 25, nameIndex := 284, descriptorIndex := 25, attributes := #[] }, { accessFlags := 25, nameIndex := 286, descriptorIndex := 25, attributes := #[] }, { accessFlags := 25, nameIndex := 288, descriptorIndex := 25, attributes := #[] }, { accessFlags := 25, nameIndex := 290, descriptorIndex := 25, attributes := #[] }, { accessFlags := 25, nameIndex := 292, descriptorIndex := 25, attributes := #[] }, { accessFlags := 26, nameIndex := 108, descriptorIndex := 109, attributes := #[] }, { accessFlags := 25, nameIndex := 294, descriptorIndex := 25, attributes := #[] }])
  fields := #[{ name := "U", type := (.object "jdk/internal/misc/Unsafe"), accessFlags := 24, slot := 0, constantValue := 0 }, { name := "BIG_ENDIAN", type := .boolean, accessFlags := 26, slot := 1, constantValue := 0 }, { name := "LOG2_ARRAY_BOOLEAN_INDEX_SCALE", type := .int, accessFlags := 25, slot := 2, constantValue := 0 }, { name := "LOG2_ARRAY_BYTE_INDEX_SCALE", type := .int, accessFlags := 25, slot := 3, constantValue := 0 }, { name := "LOG2_ARRAY_CHAR_INDEX_SCALE", type := .int, accessFlags := 25, slot := 4, constantValue := 0 }, { name := "LOG2_ARRAY_SHORT_INDEX_SCALE", type := .int, accessFlags := 25, slot := 5, constantValue := 0 }, { name := "LOG2_ARRAY_INT_INDEX_SCALE", type := .int, accessFlags := 25, slot := 6, constantValue := 0 }, { name := "LOG2_ARRAY_LONG_INDEX_SCALE", type := .int, accessFlags := 25, slot := 7, constantValue := 0 }, { name := "LOG2_ARRAY_FLOAT_INDEX_SCALE", type := .int, accessFlags := 25, slot := 8, constantValue := 0 }, { name := "LOG2_ARRAY_DOUBLE_INDEX_SCALE", type := .int, accessFlags := 25, slot := 9, constantValue := 0 }, { name := "LOG2_BYTE_BIT_SIZE", type := .int, accessFlags := 26, slot := 10, constantValue := 0 }, { name := "T_BOOLEAN", type := .int, accessFlags := 25, slot := 11, constantValue := 0 }, { name := "T_CHAR", type := .int, accessFlags := 25, slot := 12, constantValue := 0 }, { name := "T_FLOAT", type := .int, accessFlags := 25, slot := 13, constantValue := 0 }, { name := "T_DOUBLE", type := .int, accessFlags := 25, slot := 14, constantValue := 0 }, { name := "T_BYTE", type := .int, accessFlags := 25, slot := 15, constantValue := 0 }, { name := "T_SHORT", type := .int, accessFlags := 25, slot := 16, constantValue := 0 }, { name := "T_INT", type := .int, accessFlags := 25, slot := 17, constantValue := 0 }, { name := "T_LONG", type := .int, accessFlags := 25, slot := 18, constantValue := 0 }, { name := "JLA", type := (.object "jdk/internal/access/JavaLangAccess"), accessFlags := 26, slot := 19, constantValue := 0 }, { name := "SOFT_MAX_ARRAY_LENGTH", type := .int, accessFlags := 25, slot := 20, constantValue := 0 }]
  methods := #[k12m0]
  instanceTypes := #[]
  staticTypes := #[(.object "jdk/internal/misc/Unsafe"), .boolean, .int, .int, .int, .int, .int, .int, .int, .int, .int, .int, .int, .int, .int, .int, .int, .int, .int, (.object "jdk/internal/access/JavaLangAccess"), .int]
  resolved := Array.replicate 378 none
  statics := none }

def pool13 : Array CpInfo := pool [(1, u "java/lang/Cloneable"), (0, .class_ 1), (0, u "java/lang/Object"), (0, .class_ 3)] 3

/-- java/lang/Cloneable -/
def k13 : Class := { plain "java/lang/Cloneable" (some 0) with
  accessFlags := 1537
  interfaces := #[]
  cf := some (fileOf pool13 2 #[] #[] 1537 4 #[] #[])
  fields := #[]
  methods := #[]
  instanceTypes := #[]
  staticTypes := #[]
  resolved := Array.replicate 8 none
  statics := none }

/-- the primitive byte -/
def k14 : Class := { plain "byte" none with kind := .primitive 'B', accessFlags := 0x411 }
/-- [B -/
def k15 : Class := { plain "[B" (some 0) with kind := .array 14 .byte, interfaces := #[13, 2], accessFlags := 1041 }

/-- the primitive char -/
def k16 : Class := { plain "char" none with kind := .primitive 'C', accessFlags := 0x411 }
/-- [C -/
def k17 : Class := { plain "[C" (some 0) with kind := .array 16 .char, interfaces := #[13, 2], accessFlags := 1041 }

/-- the primitive int -/
def k18 : Class := { plain "int" none with kind := .primitive 'I', accessFlags := 0x411 }
/-- [I -/
def k19 : Class := { plain "[I" (some 0) with kind := .array 18 .int, interfaces := #[13, 2], accessFlags := 1041 }

def heap : Heap := #[{ cls := 7, slots := #[.long 0, .int 1, .null, .int 0, .null, .int 0, .int 0], vm := .statics 7 },
  { cls := 8, slots := #[.int 0, .int 8, .int 0, .int 1], vm := .statics 8 },
  { cls := 11, slots := #[.null, .null, .null], vm := .statics 11 }]
def classes : Array Class := #[k0, k1, k2, k3, k4, k5, k6, k7, k8, k9, k10, k11, k12, k13, k14, k15, k16, k17, k18, k19]
def interned : List (Array UInt16 × Addr) := []
def slotsUsed : Nat := 14
def theMethod : MethodId := ⟨1, 2⟩
def args0 : Array Value := #[.int 5, .int 5, .int 5, .int 5, .int 5]
def aboutOver (below : List Frame) : State where
  vm := { classes := classes, interned := interned.toArray }
  heap := heap
  slotsUsed := slotsUsed
  threads := #[{ frames := .invoking theMethod args0 :: below }]
def below0 : List Frame := [.native { method := ⟨0, 0⟩, args := #[] }]
def about1 : State := aboutOver below0
def p0 : Program := .bare "" "" ""
def e0 : Env := launch0.env 0 0 0
theorem w_frames : about1.frames = Frame.invoking theMethod args0 :: below0 := rfl
set_option maxRecDepth 65536 in
theorem w_args : argsFit about1.vm theMethod args0 = true := by decide +kernel
set_option maxRecDepth 65536 in
theorem w_heap : heapFits about1 = true := by decide +kernel
set_option maxRecDepth 65536 in
theorem w_runnable : about1.curStatus? = some .runnable := by decide +kernel
set_option maxRecDepth 65536 in
theorem w_alone : about1.alone = true := by decide +kernel
set_option maxRecDepth 65536 in
theorem w_named : about1.methodNamed? x = some theMethod := by decide +kernel
set_option maxRecDepth 65536 in
theorem w_hears : about1.hears theMethod below0 = true := by decide +kernel
set_option maxRecDepth 65536 in
theorem w_ripe : about1.ripe theMethod args0 below0 = true := by decide +kernel
theorem w_running : about1.status = .running := rfl
set_option maxRecDepth 65536 in
theorem w_room : about1.hasRoom e0.platform room_1 = true :=
  launch0.hasRoom_least _ room_1 (by decide +kernel) (by decide +kernel) (by decide +kernel) (by decide +kernel) (by decide +kernel) (by decide +kernel)
theorem allAtoms_all (ts : List Jvm.Cond) (a : Array Jvm.Value) (st : Jvm.State) : (allAtoms ts).before a st = ts.all (fun c => c.before a st) := by
  induction ts with
  | nil => rfl
  | cons c t ih =>
    show (Jvm.Cond.and c (allAtoms t)).before a st = _
    rw [Jvm.Cond.before_and, ih, List.all_cons]
def words1 : List Jvm.Cond := Jvm.Cond.code x code maxLocals ret :: tables_1
/-- a 'code' word, met by the world's own term for the bytes: nothing is compared byte by byte -/
theorem code_word {y : MethodName} {bytes : ByteArray} {mx : Nat} {rt : Option FieldType} {a : Array Value} {s : State} {m : MethodId} {meth : Method} {c : Code} (h1 : s.methodNamed? y = some m) (h2 : s.vm.method? m = some meth) (h3 : meth.code = some c) (h4 : c.code = bytes)
    (h5 : (c.maxLocals == mx && c.exceptionTable.isEmpty && decide (c.maxStack ≤ mostOperands) && decide (meth.sig.returnType = rt) && !meth.locks && decide (parseMethodDescriptor y.desc = some meth.sig)) = true) : (Jvm.Cond.code y bytes mx rt).before a s = true := by
  simp only [Bool.and_eq_true, beq_iff_eq, Bool.not_eq_true', decide_eq_true_eq] at h5
  obtain ⟨⟨⟨⟨⟨g1, g2⟩, g3⟩, g4⟩, g5⟩, g6⟩ := h5
  simp [Cond.before, Cond.holds, Cond.value, h1, h2, h3, h4, g1, g2, g3, g4, g5, g6]
def isCode : Jvm.Cond → Bool
  | .code _ _ _ _ => true
  | _ => false
theorem all_split {L : List Jvm.Cond} {P : Jvm.Cond → Bool} (h1 : L.all (fun c => isCode c || P c) = true) (h2 : ∀ c ∈ L.filter isCode, P c = true) : L.all P = true := by
  refine List.all_eq_true.mpr fun c hc => ?_
  have h := List.all_eq_true.mp h1 c hc
  rcases Bool.eq_false_or_eq_true (isCode c) with hi | hi
  · exact h2 c (List.mem_filter.mpr ⟨hc, hi⟩)
  · simpa [hi] using h
set_option maxRecDepth 65536 in
theorem w_c0 : (Jvm.Cond.code x code maxLocals ret).before args0 about1 = true := code_word (m := ⟨1, 2⟩) (meth := k1m2) (c := k1c2) (by decide +kernel) rfl rfl rfl (by decide +kernel)
set_option maxRecDepth 65536 in
theorem w_c1 : (Jvm.Cond.code ({ cls := "com/example/vestline/vestline/input/TextFilesEndsLinePinLaw", name := "pick", desc := "(I)C" } : Jvm.MethodName) method_2_code (2 : Nat) (Option.some Jvm.ClassFile.FieldType.char)).before args0 about1 = true := code_word (m := ⟨1, 1⟩) (meth := k1m1) (c := k1c1) (by decide +kernel) rfl rfl rfl (by decide +kernel)
set_option maxRecDepth 65536 in
theorem w_c2 : (Jvm.Cond.code ({ cls := "java/lang/String", name := "<init>", desc := "([C)V" } : Jvm.MethodName) jdk_42_method_3_code (2 : Nat) (Option.none : Option Jvm.ClassFile.FieldType)).before args0 about1 = true := code_word (m := ⟨7, 1⟩) (meth := k7m1) (c := k7c1) (by decide +kernel) rfl rfl rfl (by decide +kernel)
set_option maxRecDepth 65536 in
theorem w_c3 : (Jvm.Cond.code ({ cls := "java/lang/String", name := "<init>", desc := "([CIILjava/lang/Void;)V" } : Jvm.MethodName) jdk_42_method_149_code (6 : Nat) (Option.none : Option Jvm.ClassFile.FieldType)).before args0 about1 = true := code_word (m := ⟨7, 4⟩) (meth := k7m4) (c := k7c4) (by decide +kernel) rfl rfl rfl (by decide +kernel)
set_option maxRecDepth 65536 in
theorem w_c4 : (Jvm.Cond.code ({ cls := "java/lang/Object", name := "<init>", desc := "()V" } : Jvm.MethodName) object_method_1_code (1 : Nat) (Option.none : Option Jvm.ClassFile.FieldType)).before args0 about1 = true := code_word (m := ⟨0, 0⟩) (meth := k0m0) (c := k0c0) (by decide +kernel) rfl rfl rfl (by decide +kernel)
set_option maxRecDepth 65536 in
theorem w_c5 : (Jvm.Cond.code ({ cls := "java/lang/StringUTF16", name := "compress", desc := "([CII)[B" } : Jvm.MethodName) jdk_52_method_16_code (6 : Nat) (Option.some (Jvm.ClassFile.FieldType.array Jvm.ClassFile.FieldType.byte))).before args0 about1 = true := code_word (m := ⟨8, 8⟩) (meth := k8m8) (c := k8c8) (by decide +kernel) rfl rfl rfl (by decide +kernel)
set_option maxRecDepth 65536 in
theorem w_c6 : (Jvm.Cond.code ({ cls := "java/lang/StringUTF16", name := "compress", desc := "([CI[BII)I" } : Jvm.MethodName) jdk_52_method_21_code (7 : Nat) (Option.some Jvm.ClassFile.FieldType.int)).before args0 about1 = true := code_word (m := ⟨8, 9⟩) (meth := k8m9) (c := k8c9) (by decide +kernel) rfl rfl rfl (by decide +kernel)
set_option maxRecDepth 65536 in
theorem w_c7 : (Jvm.Cond.code ({ cls := "java/lang/StringUTF16", name := "coderFromArrayLen", desc := "([BI)B" } : Jvm.MethodName) jdk_52_method_15_code (2 : Nat) (Option.some Jvm.ClassFile.FieldType.byte)).before args0 about1 = true := code_word (m := ⟨8, 7⟩) (meth := k8m7) (c := k8c7) (by decide +kernel) rfl rfl rfl (by decide +kernel)
set_option maxRecDepth 65536 in
theorem w_c8 : (Jvm.Cond.code ({ cls := "com/example/vestline/vestline/input/TextFiles", name := "endsLine", desc := "(Ljava/lang/String;I)Z" } : Jvm.MethodName) prog_12_method_5_code (3 : Nat) (Option.some Jvm.ClassFile.FieldType.boolean)).before args0 about1 = true := code_word (m := ⟨9, 1⟩) (meth := k9m1) (c := k9c1) (by decide +kernel) rfl rfl rfl (by decide +kernel)
set_option maxRecDepth 65536 in
theorem w_c9 : (Jvm.Cond.code ({ cls := "java/lang/String", name := "charAt", desc := "(I)C" } : Jvm.MethodName) jdk_42_method_56_code (2 : Nat) (Option.some Jvm.ClassFile.FieldType.char)).before args0 about1 = true := code_word (m := ⟨7, 3⟩) (meth := k7m3) (c := k7c3) (by decide +kernel) rfl rfl rfl (by decide +kernel)
set_option maxRecDepth 65536 in
theorem w_c10 : (Jvm.Cond.code ({ cls := "java/lang/String", name := "isLatin1", desc := "()Z" } : Jvm.MethodName) jdk_42_method_154_code (1 : Nat) (Option.some Jvm.ClassFile.FieldType.boolean)).before args0 about1 = true := code_word (m := ⟨7, 6⟩) (meth := k7m6) (c := k7c6) (by decide +kernel) rfl rfl rfl (by decide +kernel)
set_option maxRecDepth 65536 in
theorem w_c11 : (Jvm.Cond.code ({ cls := "java/lang/StringLatin1", name := "charAt", desc := "([BI)C" } : Jvm.MethodName) jdk_43_method_2_code (2 : Nat) (Option.some Jvm.ClassFile.FieldType.char)).before args0 about1 = true := code_word (m := ⟨10, 1⟩) (meth := k10m1) (c := k10c1) (by decide +kernel) rfl rfl rfl (by decide +kernel)
set_option maxRecDepth 65536 in
theorem w_c12 : (Jvm.Cond.code ({ cls := "java/lang/String", name := "checkIndex", desc := "(II)V" } : Jvm.MethodName) jdk_42_method_155_code (2 : Nat) (Option.none : Option Jvm.ClassFile.FieldType)).before args0 about1 = true := code_word (m := ⟨7, 7⟩) (meth := k7m7) (c := k7c7) (by decide +kernel) rfl rfl rfl (by decide +kernel)
set_option maxRecDepth 65536 in
theorem w_c13 : (Jvm.Cond.code ({ cls := "jdk/internal/util/Preconditions", name := "checkIndex", desc := "(IILjava/util/function/BiFunction;)I" } : Jvm.MethodName) jdk_41_method_11_code (3 : Nat) (Option.some Jvm.ClassFile.FieldType.int)).before args0 about1 = true := code_word (m := ⟨11, 1⟩) (meth := k11m1) (c := k11c1) (by decide +kernel) rfl rfl rfl (by decide +kernel)
set_option maxRecDepth 65536 in
theorem w_c14 : (Jvm.Cond.code ({ cls := "java/lang/String", name := "length", desc := "()I" } : Jvm.MethodName) jdk_42_method_54_code (1 : Nat) (Option.some Jvm.ClassFile.FieldType.int)).before args0 about1 = true := code_word (m := ⟨7, 2⟩) (meth := k7m2) (c := k7c2) (by decide +kernel) rfl rfl rfl (by decide +kernel)
set_option maxRecDepth 65536 in
theorem w_c15 : (Jvm.Cond.code ({ cls := "java/lang/String", name := "coder", desc := "()B" } : Jvm.MethodName) jdk_42_method_152_code (1 : Nat) (Option.some Jvm.ClassFile.FieldType.byte)).before args0 about1 = true := code_word (m := ⟨7, 5⟩) (meth := k7m5) (c := k7c5) (by decide +kernel) rfl rfl rfl (by decide +kernel)
set_option maxRecDepth 65536 in
theorem w_c16 : (Jvm.Cond.code ({ cls := "java/lang/StringUTF16", name := "toBytes", desc := "([CII)[B" } : Jvm.MethodName) jdk_52_method_14_code (5 : Nat) (Option.some (Jvm.ClassFile.FieldType.array Jvm.ClassFile.FieldType.byte))).before args0 about1 = true := code_word (m := ⟨8, 6⟩) (meth := k8m6) (c := k8c6) (by decide +kernel) rfl rfl rfl (by decide +kernel)
set_option maxRecDepth 65536 in
theorem w_c17 : (Jvm.Cond.code ({ cls := "java/lang/StringUTF16", name := "newBytesFor", desc := "(I)[B" } : Jvm.MethodName) jdk_52_method_2_code (1 : Nat) (Option.some (Jvm.ClassFile.FieldType.array Jvm.ClassFile.FieldType.byte))).before args0 about1 = true := code_word (m := ⟨8, 1⟩) (meth := k8m1) (c := k8c1) (by decide +kernel) rfl rfl rfl (by decide +kernel)
set_option maxRecDepth 65536 in
theorem w_c18 : (Jvm.Cond.code ({ cls := "java/lang/StringUTF16", name := "newBytesLength", desc := "(I)I" } : Jvm.MethodName) jdk_52_method_3_code (1 : Nat) (Option.some Jvm.ClassFile.FieldType.int)).before args0 about1 = true := code_word (m := ⟨8, 2⟩) (meth := k8m2) (c := k8c2) (by decide +kernel) rfl rfl rfl (by decide +kernel)
set_option maxRecDepth 65536 in
theorem w_c19 : (Jvm.Cond.code ({ cls := "java/lang/StringUTF16", name := "putChar", desc := "([BII)V" } : Jvm.MethodName) jdk_52_method_4_code (3 : Nat) (Option.none : Option Jvm.ClassFile.FieldType)).before args0 about1 = true := code_word (m := ⟨8, 3⟩) (meth := k8m3) (c := k8c3) (by decide +kernel) rfl rfl rfl (by decide +kernel)
set_option maxRecDepth 65536 in
theorem w_c20 : (Jvm.Cond.code ({ cls := "java/lang/StringUTF16", name := "getChar", desc := "([BI)C" } : Jvm.MethodName) jdk_52_method_5_code (2 : Nat) (Option.some Jvm.ClassFile.FieldType.char)).before args0 about1 = true := code_word (m := ⟨8, 4⟩) (meth := k8m4) (c := k8c4) (by decide +kernel) rfl rfl rfl (by decide +kernel)
set_option maxRecDepth 65536 in
theorem w_c21 : (Jvm.Cond.code ({ cls := "java/lang/StringUTF16", name := "charAt", desc := "([BI)C" } : Jvm.MethodName) jdk_52_method_83_code (2 : Nat) (Option.some Jvm.ClassFile.FieldType.char)).before args0 about1 = true := code_word (m := ⟨8, 10⟩) (meth := k8m10) (c := k8c10) (by decide +kernel) rfl rfl rfl (by decide +kernel)
set_option maxRecDepth 65536 in
theorem w_c22 : (Jvm.Cond.code ({ cls := "java/lang/StringUTF16", name := "checkIndex", desc := "(I[B)V" } : Jvm.MethodName) jdk_52_method_91_code (2 : Nat) (Option.none : Option Jvm.ClassFile.FieldType)).before args0 about1 = true := code_word (m := ⟨8, 11⟩) (meth := k8m11) (c := k8c11) (by decide +kernel) rfl rfl rfl (by decide +kernel)
set_option maxRecDepth 65536 in
theorem w_c23 : (Jvm.Cond.code ({ cls := "java/lang/StringUTF16", name := "length", desc := "([B)I" } : Jvm.MethodName) jdk_52_method_6_code (1 : Nat) (Option.some Jvm.ClassFile.FieldType.int)).before args0 about1 = true := code_word (m := ⟨8, 5⟩) (meth := k8m5) (c := k8c5) (by decide +kernel) rfl rfl rfl (by decide +kernel)
def codes1 : List Jvm.Cond := [Jvm.Cond.code x code maxLocals ret, Jvm.Cond.code ({ cls := "com/example/vestline/vestline/input/TextFilesEndsLinePinLaw", name := "pick", desc := "(I)C" } : Jvm.MethodName) method_2_code (2 : Nat) (Option.some Jvm.ClassFile.FieldType.char), Jvm.Cond.code ({ cls := "java/lang/String", name := "<init>", desc := "([C)V" } : Jvm.MethodName) jdk_42_method_3_code (2 : Nat) (Option.none : Option Jvm.ClassFile.FieldType), Jvm.Cond.code ({ cls := "java/lang/String", name := "<init>", desc := "([CIILjava/lang/Void;)V" } : Jvm.MethodName) jdk_42_method_149_code (6 : Nat) (Option.none : Option Jvm.ClassFile.FieldType), Jvm.Cond.code ({ cls := "java/lang/Object", name := "<init>", desc := "()V" } : Jvm.MethodName) object_method_1_code (1 : Nat) (Option.none : Option Jvm.ClassFile.FieldType), Jvm.Cond.code ({ cls := "java/lang/StringUTF16", name := "compress", desc := "([CII)[B" } : Jvm.MethodName) jdk_52_method_16_code (6 : Nat) (Option.some (Jvm.ClassFile.FieldType.array Jvm.ClassFile.FieldType.byte)), Jvm.Cond.code ({ cls := "java/lang/StringUTF16", name := "compress", desc := "([CI[BII)I" } : Jvm.MethodName) jdk_52_method_21_code (7 : Nat) (Option.some Jvm.ClassFile.FieldType.int), Jvm.Cond.code ({ cls := "java/lang/StringUTF16", name := "coderFromArrayLen", desc := "([BI)B" } : Jvm.MethodName) jdk_52_method_15_code (2 : Nat) (Option.some Jvm.ClassFile.FieldType.byte), Jvm.Cond.code ({ cls := "com/example/vestline/vestline/input/TextFiles", name := "endsLine", desc := "(Ljava/lang/String;I)Z" } : Jvm.MethodName) prog_12_method_5_code (3 : Nat) (Option.some Jvm.ClassFile.FieldType.boolean), Jvm.Cond.code ({ cls := "java/lang/String", name := "charAt", desc := "(I)C" } : Jvm.MethodName) jdk_42_method_56_code (2 : Nat) (Option.some Jvm.ClassFile.FieldType.char), Jvm.Cond.code ({ cls := "java/lang/String", name := "isLatin1", desc := "()Z" } : Jvm.MethodName) jdk_42_method_154_code (1 : Nat) (Option.some Jvm.ClassFile.FieldType.boolean), Jvm.Cond.code ({ cls := "java/lang/StringLatin1", name := "charAt", desc := "([BI)C" } : Jvm.MethodName) jdk_43_method_2_code (2 : Nat) (Option.some Jvm.ClassFile.FieldType.char), Jvm.Cond.code ({ cls := "java/lang/String", name := "checkIndex", desc := "(II)V" } : Jvm.MethodName) jdk_42_method_155_code (2 : Nat) (Option.none : Option Jvm.ClassFile.FieldType), Jvm.Cond.code ({ cls := "jdk/internal/util/Preconditions", name := "checkIndex", desc := "(IILjava/util/function/BiFunction;)I" } : Jvm.MethodName) jdk_41_method_11_code (3 : Nat) (Option.some Jvm.ClassFile.FieldType.int), Jvm.Cond.code ({ cls := "java/lang/String", name := "length", desc := "()I" } : Jvm.MethodName) jdk_42_method_54_code (1 : Nat) (Option.some Jvm.ClassFile.FieldType.int), Jvm.Cond.code ({ cls := "java/lang/String", name := "coder", desc := "()B" } : Jvm.MethodName) jdk_42_method_152_code (1 : Nat) (Option.some Jvm.ClassFile.FieldType.byte), Jvm.Cond.code ({ cls := "java/lang/StringUTF16", name := "toBytes", desc := "([CII)[B" } : Jvm.MethodName) jdk_52_method_14_code (5 : Nat) (Option.some (Jvm.ClassFile.FieldType.array Jvm.ClassFile.FieldType.byte)), Jvm.Cond.code ({ cls := "java/lang/StringUTF16", name := "newBytesFor", desc := "(I)[B" } : Jvm.MethodName) jdk_52_method_2_code (1 : Nat) (Option.some (Jvm.ClassFile.FieldType.array Jvm.ClassFile.FieldType.byte)), Jvm.Cond.code ({ cls := "java/lang/StringUTF16", name := "newBytesLength", desc := "(I)I" } : Jvm.MethodName) jdk_52_method_3_code (1 : Nat) (Option.some Jvm.ClassFile.FieldType.int), Jvm.Cond.code ({ cls := "java/lang/StringUTF16", name := "putChar", desc := "([BII)V" } : Jvm.MethodName) jdk_52_method_4_code (3 : Nat) (Option.none : Option Jvm.ClassFile.FieldType), Jvm.Cond.code ({ cls := "java/lang/StringUTF16", name := "getChar", desc := "([BI)C" } : Jvm.MethodName) jdk_52_method_5_code (2 : Nat) (Option.some Jvm.ClassFile.FieldType.char), Jvm.Cond.code ({ cls := "java/lang/StringUTF16", name := "charAt", desc := "([BI)C" } : Jvm.MethodName) jdk_52_method_83_code (2 : Nat) (Option.some Jvm.ClassFile.FieldType.char), Jvm.Cond.code ({ cls := "java/lang/StringUTF16", name := "checkIndex", desc := "(I[B)V" } : Jvm.MethodName) jdk_52_method_91_code (2 : Nat) (Option.none : Option Jvm.ClassFile.FieldType), Jvm.Cond.code ({ cls := "java/lang/StringUTF16", name := "length", desc := "([B)I" } : Jvm.MethodName) jdk_52_method_6_code (1 : Nat) (Option.some Jvm.ClassFile.FieldType.int)]
set_option maxRecDepth 65536 in
theorem codes_eq : words1.filter isCode = codes1 := rfl
theorem w_codes : ∀ c ∈ words1.filter isCode, c.before args0 about1 = true := by
  rw [codes_eq]
  intro c hc
  simp only [codes1, List.mem_cons, List.not_mem_nil, or_false] at hc
  rcases hc with rfl | rfl | rfl | rfl | rfl | rfl | rfl | rfl | rfl | rfl | rfl | rfl | rfl | rfl | rfl | rfl | rfl | rfl | rfl | rfl | rfl | rfl | rfl | rfl
  · exact w_c0
  · exact w_c1
  · exact w_c2
  · exact w_c3
  · exact w_c4
  · exact w_c5
  · exact w_c6
  · exact w_c7
  · exact w_c8
  · exact w_c9
  · exact w_c10
  · exact w_c11
  · exact w_c12
  · exact w_c13
  · exact w_c14
  · exact w_c15
  · exact w_c16
  · exact w_c17
  · exact w_c18
  · exact w_c19
  · exact w_c20
  · exact w_c21
  · exact w_c22
  · exact w_c23
set_option maxRecDepth 65536 in
theorem w_t1 : (words1.take 24).all (fun c => isCode c || c.before args0 about1) = true := by decide +kernel
set_option maxRecDepth 65536 in
theorem w_t2 : ((words1.drop 24).take 24).all (fun c => isCode c || c.before args0 about1) = true := by decide +kernel
set_option maxRecDepth 65536 in
theorem w_t3 : (((words1.drop 24).drop 24).take 24).all (fun c => isCode c || c.before args0 about1) = true := by decide +kernel
set_option maxRecDepth 65536 in
theorem w_t4 : ((((words1.drop 24).drop 24).drop 24).take 24).all (fun c => isCode c || c.before args0 about1) = true := by decide +kernel
set_option maxRecDepth 65536 in
theorem w_t5 : ((((words1.drop 24).drop 24).drop 24).drop 24).all (fun c => isCode c || c.before args0 about1) = true := by decide +kernel
theorem w_tables : (allAtoms (Jvm.Cond.code x code maxLocals ret :: tables_1)).before args0 about1 = true := by
  rw [allAtoms_all]
  show words1.all (fun c => c.before args0 about1) = true
  refine all_split ?_ w_codes
  rw [← List.take_append_drop 24 words1, List.all_append, w_t1, ← List.take_append_drop 24 (words1.drop 24), List.all_append, w_t2, ← List.take_append_drop 24 ((words1.drop 24).drop 24), List.all_append, w_t3, ← List.take_append_drop 24 (((words1.drop 24).drop 24).drop 24), List.all_append, w_t4, w_t5]
  rfl
set_option maxRecDepth 65536 in
theorem w_rest : rest_1_c.before args0 about1 = true := by decide +kernel
set_option maxRecDepth 65536 in
theorem w_case : (Jvm.Cond.and given_1 narrow_1).before args0 about1 = true := by decide +kernel
theorem w_applies : (headSpec (Jvm.Cond.code x code maxLocals ret :: tables_1) room_1).applies x e0.platform about1 = true :=
  (Spec.applies_iff w_frames).mpr ⟨w_running, w_runnable, w_alone, w_named, w_hears, w_ripe, w_room, w_tables⟩
theorem atStart : AtStart classFile x code maxLocals ret World_1 tables_1 room_1 Calls_1 rest_1 Pre_1 launch0 p0 e0 about1 theMethod args0 below0 :=
  ⟨lists_1, trivial, launch0.admits_env _ _ _, launch0.least_env, fairChoices_fair.cas, fairChoices_fair.clock, w_frames, w_args, w_heap, w_applies, trivial, w_rest, w_case⟩
end start1
theorem witness_1 : WitnessClaimed_1 := ⟨start1.p0, start1.e0, start1.about1, start1.theMethod, start1.args0, start1.below0, start1.atStart⟩
end Jvm.Pilot.@@N@@
