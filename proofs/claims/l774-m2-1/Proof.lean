import JvmDerived
import JvmDerived.Pilot.@@N@@Statement
import JvmDerived.Pilot.@@N@@Code
set_option linter.unusedVariables false
set_option linter.unusedSimpArgs false
namespace Jvm.RoadKit
open Sem ClassFile Op Lib Jvm.Stand Jvm.Free Jvm.LawKit
section New
variable {p : Program} {l : Launch} {e : Env} {R : Room} {s : State} {m : MethodId} {args : Array Value} {below : List Frame} {meth : Method} {c : Code} {T : State} {locs : List Loc} {cells slots : Nat}
theorem retI (X : Stand p l e R s m args below meth c T locs cells slots) (hx : p.tables.exec = Jvm.exec) {pc : Nat} {Ls : Array Slot} {z : Int32} {rest : List Value} (hret : meth.sig.returnType = some .int) (hd : decode c.code pc = .ok (.ireturn, 1)) {fs : List Frame}
    (hl : ∀ (f : JFrame) (acts : List Action), f.method = m → f.locked = none → f.entered = [] → (doReturn e (T.setTop f) acts (some (.int z))).1 = T.setFrames fs) : Steps p.tables e below (T.setTop (mkF m pc Ls (.int z :: rest))) (T.setFrames fs) := by
  have hm' : T.vm.method? m = some meth := X.method'
  have hn : narrow .int (.int z) = .int z := rfl
  show Steps p.tables e below (T.setTop { method := m, pc := pc, locals := Ls, stack := _ :: rest, locked := none }) _
  jvm_step X.here [X.here.top, hx, hd, hm', hret, hn]
  first | (intro acts; rw [hl _ acts rfl rfl rfl]) | rw [hl _ _ rfl rfl rfl]
  exact Steps.refl _
theorem own_retJ (X : Stand p l e R s m args below meth c T locs cells slots) (hx : p.tables.exec = Jvm.exec) {pc : Nat} {Ls : Array Slot} {z : Int64} {rest : List Value} (hret : meth.sig.returnType = some .long) (hd : decode c.code pc = .ok (.lreturn, 1)) {fs : List Frame}
    (hl : ∀ (f : JFrame) (acts : List Action), f.method = m → f.locked = none → f.entered = [] → (doReturn e (T.setTop f) acts (some (.long z))).1 = T.setFrames fs) : Steps p.tables e below (T.setTop (mkF m pc Ls (.long z :: rest))) (T.setFrames fs) := by
  have hm' : T.vm.method? m = some meth := X.method'
  have hn : narrow .long (.long z) = .long z := rfl
  show Steps p.tables e below (T.setTop { method := m, pc := pc, locals := Ls, stack := _ :: rest, locked := none }) _
  jvm_step X.here [X.here.top, hx, hd, hm', hret, hn]
  first | (intro acts; rw [hl _ acts rfl rfl rfl]) | rw [hl _ _ rfl rfl rfl]
  exact Steps.refl _
theorem own_retD (X : Stand p l e R s m args below meth c T locs cells slots) (hx : p.tables.exec = Jvm.exec) {pc : Nat} {Ls : Array Slot} {z : UInt64} {rest : List Value} (hret : meth.sig.returnType = some .double) (hd : decode c.code pc = .ok (.dreturn, 1)) {fs : List Frame}
    (hl : ∀ (f : JFrame) (acts : List Action), f.method = m → f.locked = none → f.entered = [] → (doReturn e (T.setTop f) acts (some (.double z))).1 = T.setFrames fs) : Steps p.tables e below (T.setTop (mkF m pc Ls (.double z :: rest))) (T.setFrames fs) := by
  have hm' : T.vm.method? m = some meth := X.method'
  have hn : narrow .double (.double z) = .double z := rfl
  show Steps p.tables e below (T.setTop { method := m, pc := pc, locals := Ls, stack := _ :: rest, locked := none }) _
  jvm_step X.here [X.here.top, hx, hd, hm', hret, hn]
  first | (intro acts; rw [hl _ acts rfl rfl rfl]) | rw [hl _ _ rfl rfl rfl]
  exact Steps.refl _
theorem own_retR (X : Stand p l e R s m args below meth c T locs cells slots) (hx : p.tables.exec = Jvm.exec) {pc : Nat} {Ls : Array Slot} {w : Value} {t : FieldType} {rest : List Value} (hret : meth.sig.returnType = some t) (ht : t.isReference = true) (hw : w.isRef = true) (hd : decode c.code pc = .ok (.areturn, 1)) {fs : List Frame}
    (hl : ∀ (f : JFrame) (acts : List Action), f.method = m → f.locked = none → f.entered = [] → (doReturn e (T.setTop f) acts (some w)).1 = T.setFrames fs) : Steps p.tables e below (T.setTop (mkF m pc Ls (w :: rest))) (T.setFrames fs) := by
  have hm' : T.vm.method? m = some meth := X.method'
  rcases ref_cases hw with rfl | ⟨a, rfl⟩
  all_goals
    show Steps p.tables e below (T.setTop { method := m, pc := pc, locals := Ls, stack := _ :: rest, locked := none }) _
    jvm_step X.here [X.here.top, hx, hd, hm', hret, ht, Value.isRef]
    first | (intro acts; rw [hl _ acts rfl rfl rfl]) | rw [hl _ _ rfl rfl rfl]
    exact Steps.refl _
end New
end Jvm.RoadKit
namespace Jvm.Pilot.@@N@@
open Jvm Jvm.ClassFile Sem Op Lib Jvm.Free Jvm.Stand Jvm.LawKit Jvm.RoadKit Bundle Jvm.Pilot.@@N@@.Jvm.D
abbrev SS (p : Program) (e : Env) (below : List Frame) (T : State) (m : MethodId) (pc : Nat) (ls : Array Slot) (st : List Value) (t : State) : Prop := Steps p.tables e below (T.setTop (mkF m pc ls st)) t
theorem own_bool {P : Prop} [Decidable P] : nar .boolean (if P then (1 : Int32) else (0 : Int32)) = if P then (1 : Int32) else (0 : Int32) := by split <;> decide
abbrev HW (a0 : Array Value) (Z : State) : Prop := ∀ d ∈ tables_1, d.before a0 Z = true
section
variable {a0 : Array Value} {Z : State}
theorem mw (hw : HW a0 Z) {d : Jvm.Cond} (i : Nat) (h : tables_1[i]? = some d) : d.before a0 Z = true := hw d (List.mem_of_getElem? h)
theorem w0 (hw : HW a0 Z) : (Jvm.Cond.arrayClass Jvm.ClassFile.FieldType.char).before a0 Z = true := mw hw 0 rfl
theorem w1 (hw : HW a0 Z) : (Jvm.Cond.methodLink "com/example/vestline/vestline/input/TextPositionAfterPinLaw" (8 : Nat) ({ cls := "com/example/vestline/vestline/input/TextPositionAfterPinLaw", name := "pick", desc := "(I)C" } : Jvm.MethodName)).before a0 Z = true := mw hw 1 rfl
theorem w2 (hw : HW a0 Z) : (Jvm.Cond.static ({ cls := "com/example/vestline/vestline/input/TextPositionAfterPinLaw", name := "pick", desc := "(I)C" } : Jvm.MethodName)).before a0 Z = true := mw hw 2 rfl
theorem w3 (hw : HW a0 Z) : (Jvm.Cond.initialized "com/example/vestline/vestline/input/TextPositionAfterPinLaw").before a0 Z = true := mw hw 3 rfl
theorem w4 (hw : HW a0 Z) : (Jvm.Cond.code ({ cls := "com/example/vestline/vestline/input/TextPositionAfterPinLaw", name := "pick", desc := "(I)C" } : Jvm.MethodName) method_2_code (2 : Nat) (Option.some Jvm.ClassFile.FieldType.char)).before a0 Z = true := mw hw 4 rfl
theorem w5 (hw : HW a0 Z) : (Jvm.Cond.constant "com/example/vestline/vestline/input/TextPositionAfterPinLaw" (7 : Nat) (65535 : Int32)).before a0 Z = true := mw hw 5 rfl
theorem w6 (hw : HW a0 Z) : (Jvm.Cond.classLink "com/example/vestline/vestline/input/TextPositionAfterPinLaw" (14 : Nat) "java/lang/String").before a0 Z = true := mw hw 6 rfl
theorem w7 (hw : HW a0 Z) : (Jvm.Cond.instantiable "java/lang/String" (4 : Nat)).before a0 Z = true := mw hw 7 rfl
theorem w8 (hw : HW a0 Z) : (Jvm.Cond.initialized "java/lang/String").before a0 Z = true := mw hw 8 rfl
theorem w9 (hw : HW a0 Z) : (Jvm.Cond.methodLink "com/example/vestline/vestline/input/TextPositionAfterPinLaw" (16 : Nat) ({ cls := "java/lang/String", name := "<init>", desc := "([C)V" } : Jvm.MethodName)).before a0 Z = true := mw hw 9 rfl
theorem w10 (hw : HW a0 Z) : (Jvm.Cond.instanceMethod ({ cls := "java/lang/String", name := "<init>", desc := "([C)V" } : Jvm.MethodName)).before a0 Z = true := mw hw 10 rfl
theorem w11 (hw : HW a0 Z) : (Jvm.Cond.code ({ cls := "java/lang/String", name := "<init>", desc := "([C)V" } : Jvm.MethodName) jdk_42_method_3_code (2 : Nat) (Option.none : Option Jvm.ClassFile.FieldType)).before a0 Z = true := mw hw 11 rfl
theorem w12 (hw : HW a0 Z) : (Jvm.Cond.methodLink "java/lang/String" (27 : Nat) ({ cls := "java/lang/String", name := "<init>", desc := "([CIILjava/lang/Void;)V" } : Jvm.MethodName)).before a0 Z = true := mw hw 12 rfl
theorem w13 (hw : HW a0 Z) : (Jvm.Cond.instanceMethod ({ cls := "java/lang/String", name := "<init>", desc := "([CIILjava/lang/Void;)V" } : Jvm.MethodName)).before a0 Z = true := mw hw 13 rfl
theorem w15 (hw : HW a0 Z) : (Jvm.Cond.code ({ cls := "java/lang/String", name := "<init>", desc := "([CIILjava/lang/Void;)V" } : Jvm.MethodName) jdk_42_method_149_code (6 : Nat) (Option.none : Option Jvm.ClassFile.FieldType)).before a0 Z = true := mw hw 15 rfl
theorem w16 (hw : HW a0 Z) : (Jvm.Cond.methodLink "java/lang/String" (1 : Nat) ({ cls := "java/lang/Object", name := "<init>", desc := "()V" } : Jvm.MethodName)).before a0 Z = true := mw hw 16 rfl
theorem w17 (hw : HW a0 Z) : (Jvm.Cond.instanceMethod ({ cls := "java/lang/Object", name := "<init>", desc := "()V" } : Jvm.MethodName)).before a0 Z = true := mw hw 17 rfl
theorem w18 (hw : HW a0 Z) : (Jvm.Cond.code ({ cls := "java/lang/Object", name := "<init>", desc := "()V" } : Jvm.MethodName) object_method_1_code (1 : Nat) (Option.none : Option Jvm.ClassFile.FieldType)).before a0 Z = true := mw hw 18 rfl
theorem w19 (hw : HW a0 Z) : (Jvm.Cond.fieldLink "java/lang/String" (38 : Nat) "java/lang/String" "COMPACT_STRINGS" "Z").before a0 Z = true := mw hw 19 rfl
theorem w20 (hw : HW a0 Z) : (Jvm.Cond.methodLink "java/lang/String" (177 : Nat) ({ cls := "java/lang/StringUTF16", name := "compress", desc := "([CII)[B" } : Jvm.MethodName)).before a0 Z = true := mw hw 20 rfl
theorem w21 (hw : HW a0 Z) : (Jvm.Cond.static ({ cls := "java/lang/StringUTF16", name := "compress", desc := "([CII)[B" } : Jvm.MethodName)).before a0 Z = true := mw hw 21 rfl
theorem w22 (hw : HW a0 Z) : (Jvm.Cond.initialized "java/lang/StringUTF16").before a0 Z = true := mw hw 22 rfl
theorem w23 (hw : HW a0 Z) : (Jvm.Cond.code ({ cls := "java/lang/StringUTF16", name := "compress", desc := "([CII)[B" } : Jvm.MethodName) jdk_52_method_16_code (6 : Nat) (Option.some (Jvm.ClassFile.FieldType.array Jvm.ClassFile.FieldType.byte))).before a0 Z = true := mw hw 23 rfl
theorem w24 (hw : HW a0 Z) : (Jvm.Cond.arrayClass Jvm.ClassFile.FieldType.byte).before a0 Z = true := mw hw 24 rfl
theorem w25 (hw : HW a0 Z) : (Jvm.Cond.methodLink "java/lang/StringUTF16" (115 : Nat) ({ cls := "java/lang/StringUTF16", name := "compress", desc := "([CI[BII)I" } : Jvm.MethodName)).before a0 Z = true := mw hw 25 rfl
theorem w26 (hw : HW a0 Z) : (Jvm.Cond.static ({ cls := "java/lang/StringUTF16", name := "compress", desc := "([CI[BII)I" } : Jvm.MethodName)).before a0 Z = true := mw hw 26 rfl
theorem w27 (hw : HW a0 Z) : (Jvm.Cond.code ({ cls := "java/lang/StringUTF16", name := "compress", desc := "([CI[BII)I" } : Jvm.MethodName) jdk_52_method_21_code (7 : Nat) (Option.some Jvm.ClassFile.FieldType.int)).before a0 Z = true := mw hw 27 rfl
theorem w28 (hw : HW a0 Z) : (Jvm.Cond.methodLink "java/lang/String" (47 : Nat) ({ cls := "java/lang/StringUTF16", name := "coderFromArrayLen", desc := "([BI)B" } : Jvm.MethodName)).before a0 Z = true := mw hw 28 rfl
theorem w29 (hw : HW a0 Z) : (Jvm.Cond.static ({ cls := "java/lang/StringUTF16", name := "coderFromArrayLen", desc := "([BI)B" } : Jvm.MethodName)).before a0 Z = true := mw hw 29 rfl
theorem w30 (hw : HW a0 Z) : (Jvm.Cond.code ({ cls := "java/lang/StringUTF16", name := "coderFromArrayLen", desc := "([BI)B" } : Jvm.MethodName) jdk_52_method_15_code (2 : Nat) (Option.some Jvm.ClassFile.FieldType.byte)).before a0 Z = true := mw hw 30 rfl
theorem w31 (hw : HW a0 Z) : (Jvm.Cond.fieldLink "java/lang/String" (15 : Nat) "java/lang/String" "coder" "B").before a0 Z = true := mw hw 31 rfl
theorem w32 (hw : HW a0 Z) : (Jvm.Cond.laysFinal "java/lang/String" "java/lang/String" "coder" "B").before a0 Z = true := mw hw 32 rfl
theorem w33 (hw : HW a0 Z) : (Jvm.Cond.fieldLink "java/lang/String" (9 : Nat) "java/lang/String" "value" "[B").before a0 Z = true := mw hw 33 rfl
theorem w34 (hw : HW a0 Z) : (Jvm.Cond.laysFinal "java/lang/String" "java/lang/String" "value" "[B").before a0 Z = true := mw hw 34 rfl
theorem w35 (hw : HW a0 Z) : (Jvm.Cond.constant "com/example/vestline/vestline/input/TextPositionAfterPinLaw" (19 : Nat) (2147483647 : Int32)).before a0 Z = true := mw hw 35 rfl
theorem w36 (hw : HW a0 Z) : (Jvm.Cond.methodLink "com/example/vestline/vestline/input/TextPositionAfterPinLaw" (20 : Nat) ({ cls := "com/example/vestline/vestline/input/TextPositionAfterPinLaw", name := "ends", desc := "([CII)Z" } : Jvm.MethodName)).before a0 Z = true := mw hw 36 rfl
theorem w37 (hw : HW a0 Z) : (Jvm.Cond.static ({ cls := "com/example/vestline/vestline/input/TextPositionAfterPinLaw", name := "ends", desc := "([CII)Z" } : Jvm.MethodName)).before a0 Z = true := mw hw 37 rfl
theorem w38 (hw : HW a0 Z) : (Jvm.Cond.code ({ cls := "com/example/vestline/vestline/input/TextPositionAfterPinLaw", name := "ends", desc := "([CII)Z" } : Jvm.MethodName) method_3_code (3 : Nat) (Option.some Jvm.ClassFile.FieldType.boolean)).before a0 Z = true := mw hw 38 rfl
theorem w39 (hw : HW a0 Z) : (Jvm.Cond.methodLink "com/example/vestline/vestline/input/TextPositionAfterPinLaw" (24 : Nat) ({ cls := "com/example/vestline/vestline/input/TextPosition", name := "after", desc := "(Ljava/lang/String;I)Lcom/example/vestline/vestline/input/TextPosition;" } : Jvm.MethodName)).before a0 Z = true := mw hw 39 rfl
theorem w40 (hw : HW a0 Z) : (Jvm.Cond.static ({ cls := "com/example/vestline/vestline/input/TextPosition", name := "after", desc := "(Ljava/lang/String;I)Lcom/example/vestline/vestline/input/TextPosition;" } : Jvm.MethodName)).before a0 Z = true := mw hw 40 rfl
theorem w41 (hw : HW a0 Z) : (Jvm.Cond.initialized "com/example/vestline/vestline/input/TextPosition").before a0 Z = true := mw hw 41 rfl
theorem w42 (hw : HW a0 Z) : (Jvm.Cond.code ({ cls := "com/example/vestline/vestline/input/TextPosition", name := "after", desc := "(Ljava/lang/String;I)Lcom/example/vestline/vestline/input/TextPosition;" } : Jvm.MethodName) prog_13_method_2_code (6 : Nat) (Option.some (Jvm.ClassFile.FieldType.object "com/example/vestline/vestline/input/TextPosition"))).before a0 Z = true := mw hw 42 rfl
theorem w43 (hw : HW a0 Z) : (Jvm.Cond.methodLink "com/example/vestline/vestline/input/TextPosition" (16 : Nat) ({ cls := "java/lang/String", name := "substring", desc := "(II)Ljava/lang/String;" } : Jvm.MethodName)).before a0 Z = true := mw hw 43 rfl
theorem w44 (hw : HW a0 Z) : (Jvm.Cond.declares ({ cls := "java/lang/String", name := "substring", desc := "(II)Ljava/lang/String;" } : Jvm.MethodName)).before a0 Z = true := mw hw 44 rfl
theorem w45 (hw : HW a0 Z) : (Jvm.Cond.instanceMethod ({ cls := "java/lang/String", name := "substring", desc := "(II)Ljava/lang/String;" } : Jvm.MethodName)).before a0 Z = true := mw hw 45 rfl
theorem w46 (hw : HW a0 Z) : (Jvm.Cond.selects "java/lang/String" ({ cls := "java/lang/String", name := "substring", desc := "(II)Ljava/lang/String;" } : Jvm.MethodName) ({ cls := "java/lang/String", name := "substring", desc := "(II)Ljava/lang/String;" } : Jvm.MethodName)).before a0 Z = true := mw hw 46 rfl
theorem w47 (hw : HW a0 Z) : (Jvm.Cond.code ({ cls := "java/lang/String", name := "substring", desc := "(II)Ljava/lang/String;" } : Jvm.MethodName) jdk_42_method_92_code (5 : Nat) (Option.some (Jvm.ClassFile.FieldType.object "java/lang/String"))).before a0 Z = true := mw hw 47 rfl
theorem w48 (hw : HW a0 Z) : (Jvm.Cond.methodLink "java/lang/String" (505 : Nat) ({ cls := "java/lang/String", name := "length", desc := "()I" } : Jvm.MethodName)).before a0 Z = true := mw hw 48 rfl
theorem w49 (hw : HW a0 Z) : (Jvm.Cond.declares ({ cls := "java/lang/String", name := "length", desc := "()I" } : Jvm.MethodName)).before a0 Z = true := mw hw 49 rfl
theorem w50 (hw : HW a0 Z) : (Jvm.Cond.instanceMethod ({ cls := "java/lang/String", name := "length", desc := "()I" } : Jvm.MethodName)).before a0 Z = true := mw hw 50 rfl
theorem w51 (hw : HW a0 Z) : (Jvm.Cond.selects "java/lang/String" ({ cls := "java/lang/String", name := "length", desc := "()I" } : Jvm.MethodName) ({ cls := "java/lang/String", name := "length", desc := "()I" } : Jvm.MethodName)).before a0 Z = true := mw hw 51 rfl
theorem w52 (hw : HW a0 Z) : (Jvm.Cond.code ({ cls := "java/lang/String", name := "length", desc := "()I" } : Jvm.MethodName) jdk_42_method_54_code (1 : Nat) (Option.some Jvm.ClassFile.FieldType.int)).before a0 Z = true := mw hw 52 rfl
theorem w53 (hw : HW a0 Z) : (Jvm.Cond.methodLink "java/lang/String" (335 : Nat) ({ cls := "java/lang/String", name := "coder", desc := "()B" } : Jvm.MethodName)).before a0 Z = true := mw hw 53 rfl
theorem w54 (hw : HW a0 Z) : (Jvm.Cond.declares ({ cls := "java/lang/String", name := "coder", desc := "()B" } : Jvm.MethodName)).before a0 Z = true := mw hw 54 rfl
theorem w55 (hw : HW a0 Z) : (Jvm.Cond.instanceMethod ({ cls := "java/lang/String", name := "coder", desc := "()B" } : Jvm.MethodName)).before a0 Z = true := mw hw 55 rfl
theorem w56 (hw : HW a0 Z) : (Jvm.Cond.selects "java/lang/String" ({ cls := "java/lang/String", name := "coder", desc := "()B" } : Jvm.MethodName) ({ cls := "java/lang/String", name := "coder", desc := "()B" } : Jvm.MethodName)).before a0 Z = true := mw hw 56 rfl
theorem w57 (hw : HW a0 Z) : (Jvm.Cond.code ({ cls := "java/lang/String", name := "coder", desc := "()B" } : Jvm.MethodName) jdk_42_method_152_code (1 : Nat) (Option.some Jvm.ClassFile.FieldType.byte)).before a0 Z = true := mw hw 57 rfl
theorem w58 (hw : HW a0 Z) : (Jvm.Cond.methodLink "java/lang/String" (521 : Nat) ({ cls := "java/lang/String", name := "checkBoundsBeginEnd", desc := "(III)V" } : Jvm.MethodName)).before a0 Z = true := mw hw 58 rfl
theorem w59 (hw : HW a0 Z) : (Jvm.Cond.static ({ cls := "java/lang/String", name := "checkBoundsBeginEnd", desc := "(III)V" } : Jvm.MethodName)).before a0 Z = true := mw hw 59 rfl
theorem w60 (hw : HW a0 Z) : (Jvm.Cond.code ({ cls := "java/lang/String", name := "checkBoundsBeginEnd", desc := "(III)V" } : Jvm.MethodName) jdk_42_method_158_code (3 : Nat) (Option.none : Option Jvm.ClassFile.FieldType)).before a0 Z = true := mw hw 60 rfl
theorem w61 (hw : HW a0 Z) : (Jvm.Cond.fieldLink "java/lang/String" (1053 : Nat) "jdk/internal/util/Preconditions" "SIOOBE_FORMATTER" "Ljava/util/function/BiFunction;").before a0 Z = true := mw hw 61 rfl
theorem w62 (hw : HW a0 Z) : (Jvm.Cond.initialized "jdk/internal/util/Preconditions").before a0 Z = true := mw hw 62 rfl
theorem w63 (hw : HW a0 Z) : (Jvm.Cond.methodLink "java/lang/String" (1062 : Nat) ({ cls := "jdk/internal/util/Preconditions", name := "checkFromToIndex", desc := "(IIILjava/util/function/BiFunction;)I" } : Jvm.MethodName)).before a0 Z = true := mw hw 63 rfl
theorem w64 (hw : HW a0 Z) : (Jvm.Cond.static ({ cls := "jdk/internal/util/Preconditions", name := "checkFromToIndex", desc := "(IIILjava/util/function/BiFunction;)I" } : Jvm.MethodName)).before a0 Z = true := mw hw 64 rfl
theorem w65 (hw : HW a0 Z) : (Jvm.Cond.code ({ cls := "jdk/internal/util/Preconditions", name := "checkFromToIndex", desc := "(IIILjava/util/function/BiFunction;)I" } : Jvm.MethodName) jdk_41_method_12_code (4 : Nat) (Option.some Jvm.ClassFile.FieldType.int)).before a0 Z = true := mw hw 65 rfl
theorem w66 (hw : HW a0 Z) : (Jvm.Cond.methodLink "java/lang/String" (492 : Nat) ({ cls := "java/lang/String", name := "isLatin1", desc := "()Z" } : Jvm.MethodName)).before a0 Z = true := mw hw 66 rfl
theorem w67 (hw : HW a0 Z) : (Jvm.Cond.declares ({ cls := "java/lang/String", name := "isLatin1", desc := "()Z" } : Jvm.MethodName)).before a0 Z = true := mw hw 67 rfl
theorem w68 (hw : HW a0 Z) : (Jvm.Cond.instanceMethod ({ cls := "java/lang/String", name := "isLatin1", desc := "()Z" } : Jvm.MethodName)).before a0 Z = true := mw hw 68 rfl
theorem w69 (hw : HW a0 Z) : (Jvm.Cond.selects "java/lang/String" ({ cls := "java/lang/String", name := "isLatin1", desc := "()Z" } : Jvm.MethodName) ({ cls := "java/lang/String", name := "isLatin1", desc := "()Z" } : Jvm.MethodName)).before a0 Z = true := mw hw 69 rfl
theorem w70 (hw : HW a0 Z) : (Jvm.Cond.code ({ cls := "java/lang/String", name := "isLatin1", desc := "()Z" } : Jvm.MethodName) jdk_42_method_154_code (1 : Nat) (Option.some Jvm.ClassFile.FieldType.boolean)).before a0 Z = true := mw hw 70 rfl
theorem w71 (hw : HW a0 Z) : (Jvm.Cond.methodLink "java/lang/String" (685 : Nat) ({ cls := "java/lang/StringLatin1", name := "newString", desc := "([BII)Ljava/lang/String;" } : Jvm.MethodName)).before a0 Z = true := mw hw 71 rfl
theorem w72 (hw : HW a0 Z) : (Jvm.Cond.static ({ cls := "java/lang/StringLatin1", name := "newString", desc := "([BII)Ljava/lang/String;" } : Jvm.MethodName)).before a0 Z = true := mw hw 72 rfl
theorem w73 (hw : HW a0 Z) : (Jvm.Cond.initialized "java/lang/StringLatin1").before a0 Z = true := mw hw 73 rfl
theorem w74 (hw : HW a0 Z) : (Jvm.Cond.code ({ cls := "java/lang/StringLatin1", name := "newString", desc := "([BII)Ljava/lang/String;" } : Jvm.MethodName) jdk_43_method_47_code (3 : Nat) (Option.some (Jvm.ClassFile.FieldType.object "java/lang/String"))).before a0 Z = true := mw hw 74 rfl
theorem w75 (hw : HW a0 Z) : (Jvm.Cond.stringLink "java/lang/StringLatin1" (151 : Nat) "").before a0 Z = true := mw hw 75 rfl
theorem w76 (hw : HW a0 Z) : (Jvm.Cond.soleField "java/lang/String" "value").before a0 Z = true := mw hw 76 rfl
theorem w77 (hw : HW a0 Z) : (Jvm.Cond.soleField "java/lang/String" "coder").before a0 Z = true := mw hw 77 rfl
theorem w78 (hw : HW a0 Z) : (Jvm.Cond.classLink "com/example/vestline/vestline/input/TextPosition" (8 : Nat) "com/example/vestline/vestline/input/TextPosition").before a0 Z = true := mw hw 78 rfl
theorem w79 (hw : HW a0 Z) : (Jvm.Cond.instantiable "com/example/vestline/vestline/input/TextPosition" (2 : Nat)).before a0 Z = true := mw hw 79 rfl
theorem w80 (hw : HW a0 Z) : (Jvm.Cond.methodLink "com/example/vestline/vestline/input/TextPosition" (28 : Nat) ({ cls := "com/example/vestline/vestline/input/TextPosition", name := "<init>", desc := "(II)V" } : Jvm.MethodName)).before a0 Z = true := mw hw 80 rfl
theorem w81 (hw : HW a0 Z) : (Jvm.Cond.instanceMethod ({ cls := "com/example/vestline/vestline/input/TextPosition", name := "<init>", desc := "(II)V" } : Jvm.MethodName)).before a0 Z = true := mw hw 81 rfl
theorem w82 (hw : HW a0 Z) : (Jvm.Cond.code ({ cls := "com/example/vestline/vestline/input/TextPosition", name := "<init>", desc := "(II)V" } : Jvm.MethodName) prog_13_method_1_code (3 : Nat) (Option.none : Option Jvm.ClassFile.FieldType)).before a0 Z = true := mw hw 82 rfl
theorem w83 (hw : HW a0 Z) : (Jvm.Cond.methodLink "com/example/vestline/vestline/input/TextPosition" (1 : Nat) ({ cls := "java/lang/Record", name := "<init>", desc := "()V" } : Jvm.MethodName)).before a0 Z = true := mw hw 83 rfl
theorem w84 (hw : HW a0 Z) : (Jvm.Cond.instanceMethod ({ cls := "java/lang/Record", name := "<init>", desc := "()V" } : Jvm.MethodName)).before a0 Z = true := mw hw 84 rfl
theorem w86 (hw : HW a0 Z) : (Jvm.Cond.initialized "java/lang/Record").before a0 Z = true := mw hw 86 rfl
theorem w87 (hw : HW a0 Z) : (Jvm.Cond.code ({ cls := "java/lang/Record", name := "<init>", desc := "()V" } : Jvm.MethodName) jdk_30_method_1_code (1 : Nat) (Option.none : Option Jvm.ClassFile.FieldType)).before a0 Z = true := mw hw 87 rfl
theorem w88 (hw : HW a0 Z) : (Jvm.Cond.methodLink "java/lang/Record" (1 : Nat) ({ cls := "java/lang/Object", name := "<init>", desc := "()V" } : Jvm.MethodName)).before a0 Z = true := mw hw 88 rfl
theorem w89 (hw : HW a0 Z) : (Jvm.Cond.fieldLink "com/example/vestline/vestline/input/TextPosition" (7 : Nat) "com/example/vestline/vestline/input/TextPosition" "line" "I").before a0 Z = true := mw hw 89 rfl
theorem w90 (hw : HW a0 Z) : (Jvm.Cond.laysFinal "com/example/vestline/vestline/input/TextPosition" "com/example/vestline/vestline/input/TextPosition" "line" "I").before a0 Z = true := mw hw 90 rfl
theorem w91 (hw : HW a0 Z) : (Jvm.Cond.fieldLink "com/example/vestline/vestline/input/TextPosition" (13 : Nat) "com/example/vestline/vestline/input/TextPosition" "character" "I").before a0 Z = true := mw hw 91 rfl
theorem w92 (hw : HW a0 Z) : (Jvm.Cond.laysFinal "com/example/vestline/vestline/input/TextPosition" "com/example/vestline/vestline/input/TextPosition" "character" "I").before a0 Z = true := mw hw 92 rfl
theorem w93 (hw : HW a0 Z) : (Jvm.Cond.methodLink "com/example/vestline/vestline/input/TextPositionAfterPinLaw" (30 : Nat) ({ cls := "com/example/vestline/vestline/input/TextPosition", name := "line", desc := "()I" } : Jvm.MethodName)).before a0 Z = true := mw hw 93 rfl
theorem w94 (hw : HW a0 Z) : (Jvm.Cond.declares ({ cls := "com/example/vestline/vestline/input/TextPosition", name := "line", desc := "()I" } : Jvm.MethodName)).before a0 Z = true := mw hw 94 rfl
theorem w95 (hw : HW a0 Z) : (Jvm.Cond.instanceMethod ({ cls := "com/example/vestline/vestline/input/TextPosition", name := "line", desc := "()I" } : Jvm.MethodName)).before a0 Z = true := mw hw 95 rfl
theorem w96 (hw : HW a0 Z) : (Jvm.Cond.selects "com/example/vestline/vestline/input/TextPosition" ({ cls := "com/example/vestline/vestline/input/TextPosition", name := "line", desc := "()I" } : Jvm.MethodName) ({ cls := "com/example/vestline/vestline/input/TextPosition", name := "line", desc := "()I" } : Jvm.MethodName)).before a0 Z = true := mw hw 96 rfl
theorem w97 (hw : HW a0 Z) : (Jvm.Cond.code ({ cls := "com/example/vestline/vestline/input/TextPosition", name := "line", desc := "()I" } : Jvm.MethodName) prog_13_method_6_code (1 : Nat) (Option.some Jvm.ClassFile.FieldType.int)).before a0 Z = true := mw hw 97 rfl
theorem w98 (hw : HW a0 Z) : (Jvm.Cond.methodLink "com/example/vestline/vestline/input/TextPositionAfterPinLaw" (34 : Nat) ({ cls := "com/example/vestline/vestline/input/TextPosition", name := "character", desc := "()I" } : Jvm.MethodName)).before a0 Z = true := mw hw 98 rfl
theorem w99 (hw : HW a0 Z) : (Jvm.Cond.declares ({ cls := "com/example/vestline/vestline/input/TextPosition", name := "character", desc := "()I" } : Jvm.MethodName)).before a0 Z = true := mw hw 99 rfl
theorem w100 (hw : HW a0 Z) : (Jvm.Cond.instanceMethod ({ cls := "com/example/vestline/vestline/input/TextPosition", name := "character", desc := "()I" } : Jvm.MethodName)).before a0 Z = true := mw hw 100 rfl
theorem w101 (hw : HW a0 Z) : (Jvm.Cond.selects "com/example/vestline/vestline/input/TextPosition" ({ cls := "com/example/vestline/vestline/input/TextPosition", name := "character", desc := "()I" } : Jvm.MethodName) ({ cls := "com/example/vestline/vestline/input/TextPosition", name := "character", desc := "()I" } : Jvm.MethodName)).before a0 Z = true := mw hw 101 rfl
theorem w102 (hw : HW a0 Z) : (Jvm.Cond.code ({ cls := "com/example/vestline/vestline/input/TextPosition", name := "character", desc := "()I" } : Jvm.MethodName) prog_13_method_7_code (1 : Nat) (Option.some Jvm.ClassFile.FieldType.int)).before a0 Z = true := mw hw 102 rfl
theorem w103 (hw : HW a0 Z) : (Jvm.Cond.classLink "java/lang/StringLatin1" (1 : Nat) "java/lang/String").before a0 Z = true := mw hw 103 rfl
theorem w104 (hw : HW a0 Z) : (Jvm.Cond.methodLink "java/lang/StringLatin1" (232 : Nat) ({ cls := "java/util/Arrays", name := "copyOfRange", desc := "([BII)[B" } : Jvm.MethodName)).before a0 Z = true := mw hw 104 rfl
theorem w105 (hw : HW a0 Z) : (Jvm.Cond.static ({ cls := "java/util/Arrays", name := "copyOfRange", desc := "([BII)[B" } : Jvm.MethodName)).before a0 Z = true := mw hw 105 rfl
theorem w106 (hw : HW a0 Z) : (Jvm.Cond.initialized "java/util/Arrays").before a0 Z = true := mw hw 106 rfl
theorem w107 (hw : HW a0 Z) : (Jvm.Cond.code ({ cls := "java/util/Arrays", name := "copyOfRange", desc := "([BII)[B" } : Jvm.MethodName) jdk_65_method_132_code (3 : Nat) (Option.some (Jvm.ClassFile.FieldType.array Jvm.ClassFile.FieldType.byte))).before a0 Z = true := mw hw 107 rfl
theorem w108 (hw : HW a0 Z) : (Jvm.Cond.methodLink "java/util/Arrays" (339 : Nat) ({ cls := "java/util/Arrays", name := "copyOfRangeByte", desc := "([BII)[B" } : Jvm.MethodName)).before a0 Z = true := mw hw 108 rfl
theorem w109 (hw : HW a0 Z) : (Jvm.Cond.static ({ cls := "java/util/Arrays", name := "copyOfRangeByte", desc := "([BII)[B" } : Jvm.MethodName)).before a0 Z = true := mw hw 109 rfl
theorem w110 (hw : HW a0 Z) : (Jvm.Cond.code ({ cls := "java/util/Arrays", name := "copyOfRangeByte", desc := "([BII)[B" } : Jvm.MethodName) jdk_65_method_133_code (5 : Nat) (Option.some (Jvm.ClassFile.FieldType.array Jvm.ClassFile.FieldType.byte))).before a0 Z = true := mw hw 110 rfl
theorem w111 (hw : HW a0 Z) : (Jvm.Cond.methodLink "java/util/Arrays" (343 : Nat) ({ cls := "java/util/Arrays", name := "checkLength", desc := "(II)V" } : Jvm.MethodName)).before a0 Z = true := mw hw 111 rfl
theorem w112 (hw : HW a0 Z) : (Jvm.Cond.static ({ cls := "java/util/Arrays", name := "checkLength", desc := "(II)V" } : Jvm.MethodName)).before a0 Z = true := mw hw 112 rfl
theorem w113 (hw : HW a0 Z) : (Jvm.Cond.code ({ cls := "java/util/Arrays", name := "checkLength", desc := "(II)V" } : Jvm.MethodName) jdk_65_method_131_code (2 : Nat) (Option.none : Option Jvm.ClassFile.FieldType)).before a0 Z = true := mw hw 113 rfl
theorem w114 (hw : HW a0 Z) : (Jvm.Cond.methodLink "java/util/Arrays" (304 : Nat) ({ cls := "java/lang/Math", name := "min", desc := "(II)I" } : Jvm.MethodName)).before a0 Z = true := mw hw 114 rfl
theorem w115 (hw : HW a0 Z) : (Jvm.Cond.static ({ cls := "java/lang/Math", name := "min", desc := "(II)I" } : Jvm.MethodName)).before a0 Z = true := mw hw 115 rfl
theorem w116 (hw : HW a0 Z) : (Jvm.Cond.initialized "java/lang/Math").before a0 Z = true := mw hw 116 rfl
theorem w117 (hw : HW a0 Z) : (Jvm.Cond.code ({ cls := "java/lang/Math", name := "min", desc := "(II)I" } : Jvm.MethodName) jdk_29_method_69_code (2 : Nat) (Option.some Jvm.ClassFile.FieldType.int)).before a0 Z = true := mw hw 117 rfl
theorem w118 (hw : HW a0 Z) : (Jvm.Cond.methodLink "java/util/Arrays" (150 : Nat) ({ cls := "java/lang/System", name := "arraycopy", desc := "(Ljava/lang/Object;ILjava/lang/Object;II)V" } : Jvm.MethodName)).before a0 Z = true := mw hw 118 rfl
theorem w119 (hw : HW a0 Z) : (Jvm.Cond.static ({ cls := "java/lang/System", name := "arraycopy", desc := "(Ljava/lang/Object;ILjava/lang/Object;II)V" } : Jvm.MethodName)).before a0 Z = true := mw hw 119 rfl
theorem w120 (hw : HW a0 Z) : (Jvm.Cond.initialized "java/lang/System").before a0 Z = true := mw hw 120 rfl
theorem w121 (hw : HW a0 Z) : (Jvm.Cond.native ({ cls := "java/lang/System", name := "arraycopy", desc := "(Ljava/lang/Object;ILjava/lang/Object;II)V" } : Jvm.MethodName)).before a0 Z = true := mw hw 121 rfl
theorem w122 (hw : HW a0 Z) : (Jvm.Cond.methodLink "java/lang/StringLatin1" (112 : Nat) ({ cls := "java/lang/String", name := "<init>", desc := "([BB)V" } : Jvm.MethodName)).before a0 Z = true := mw hw 122 rfl
theorem w123 (hw : HW a0 Z) : (Jvm.Cond.instanceMethod ({ cls := "java/lang/String", name := "<init>", desc := "([BB)V" } : Jvm.MethodName)).before a0 Z = true := mw hw 123 rfl
theorem w124 (hw : HW a0 Z) : (Jvm.Cond.code ({ cls := "java/lang/String", name := "<init>", desc := "([BB)V" } : Jvm.MethodName) jdk_42_method_151_code (3 : Nat) (Option.none : Option Jvm.ClassFile.FieldType)).before a0 Z = true := mw hw 124 rfl
theorem w125 (hw : HW a0 Z) : (Jvm.Cond.methodLink "com/example/vestline/vestline/input/TextPosition" (22 : Nat) ({ cls := "com/example/vestline/vestline/input/TextFiles", name := "endsLine", desc := "(Ljava/lang/String;I)Z" } : Jvm.MethodName)).before a0 Z = true := mw hw 125 rfl
theorem w126 (hw : HW a0 Z) : (Jvm.Cond.static ({ cls := "com/example/vestline/vestline/input/TextFiles", name := "endsLine", desc := "(Ljava/lang/String;I)Z" } : Jvm.MethodName)).before a0 Z = true := mw hw 126 rfl
theorem w127 (hw : HW a0 Z) : (Jvm.Cond.initialized "com/example/vestline/vestline/input/TextFiles").before a0 Z = true := mw hw 127 rfl
theorem w128 (hw : HW a0 Z) : (Jvm.Cond.code ({ cls := "com/example/vestline/vestline/input/TextFiles", name := "endsLine", desc := "(Ljava/lang/String;I)Z" } : Jvm.MethodName) prog_12_method_5_code (3 : Nat) (Option.some Jvm.ClassFile.FieldType.boolean)).before a0 Z = true := mw hw 128 rfl
theorem w129 (hw : HW a0 Z) : (Jvm.Cond.methodLink "com/example/vestline/vestline/input/TextFiles" (126 : Nat) ({ cls := "java/lang/String", name := "charAt", desc := "(I)C" } : Jvm.MethodName)).before a0 Z = true := mw hw 129 rfl
theorem w130 (hw : HW a0 Z) : (Jvm.Cond.declares ({ cls := "java/lang/String", name := "charAt", desc := "(I)C" } : Jvm.MethodName)).before a0 Z = true := mw hw 130 rfl
theorem w131 (hw : HW a0 Z) : (Jvm.Cond.instanceMethod ({ cls := "java/lang/String", name := "charAt", desc := "(I)C" } : Jvm.MethodName)).before a0 Z = true := mw hw 131 rfl
theorem w132 (hw : HW a0 Z) : (Jvm.Cond.selects "java/lang/String" ({ cls := "java/lang/String", name := "charAt", desc := "(I)C" } : Jvm.MethodName) ({ cls := "java/lang/String", name := "charAt", desc := "(I)C" } : Jvm.MethodName)).before a0 Z = true := mw hw 132 rfl
theorem w133 (hw : HW a0 Z) : (Jvm.Cond.code ({ cls := "java/lang/String", name := "charAt", desc := "(I)C" } : Jvm.MethodName) jdk_42_method_56_code (2 : Nat) (Option.some Jvm.ClassFile.FieldType.char)).before a0 Z = true := mw hw 133 rfl
theorem w134 (hw : HW a0 Z) : (Jvm.Cond.methodLink "java/lang/String" (495 : Nat) ({ cls := "java/lang/StringLatin1", name := "charAt", desc := "([BI)C" } : Jvm.MethodName)).before a0 Z = true := mw hw 134 rfl
theorem w135 (hw : HW a0 Z) : (Jvm.Cond.static ({ cls := "java/lang/StringLatin1", name := "charAt", desc := "([BI)C" } : Jvm.MethodName)).before a0 Z = true := mw hw 135 rfl
theorem w136 (hw : HW a0 Z) : (Jvm.Cond.code ({ cls := "java/lang/StringLatin1", name := "charAt", desc := "([BI)C" } : Jvm.MethodName) jdk_43_method_2_code (2 : Nat) (Option.some Jvm.ClassFile.FieldType.char)).before a0 Z = true := mw hw 136 rfl
theorem w137 (hw : HW a0 Z) : (Jvm.Cond.methodLink "java/lang/StringLatin1" (9 : Nat) ({ cls := "java/lang/String", name := "checkIndex", desc := "(II)V" } : Jvm.MethodName)).before a0 Z = true := mw hw 137 rfl
theorem w138 (hw : HW a0 Z) : (Jvm.Cond.static ({ cls := "java/lang/String", name := "checkIndex", desc := "(II)V" } : Jvm.MethodName)).before a0 Z = true := mw hw 138 rfl
theorem w139 (hw : HW a0 Z) : (Jvm.Cond.code ({ cls := "java/lang/String", name := "checkIndex", desc := "(II)V" } : Jvm.MethodName) jdk_42_method_155_code (2 : Nat) (Option.none : Option Jvm.ClassFile.FieldType)).before a0 Z = true := mw hw 139 rfl
theorem w140 (hw : HW a0 Z) : (Jvm.Cond.methodLink "java/lang/String" (1059 : Nat) ({ cls := "jdk/internal/util/Preconditions", name := "checkIndex", desc := "(IILjava/util/function/BiFunction;)I" } : Jvm.MethodName)).before a0 Z = true := mw hw 140 rfl
theorem w141 (hw : HW a0 Z) : (Jvm.Cond.static ({ cls := "jdk/internal/util/Preconditions", name := "checkIndex", desc := "(IILjava/util/function/BiFunction;)I" } : Jvm.MethodName)).before a0 Z = true := mw hw 141 rfl
theorem w142 (hw : HW a0 Z) : (Jvm.Cond.code ({ cls := "jdk/internal/util/Preconditions", name := "checkIndex", desc := "(IILjava/util/function/BiFunction;)I" } : Jvm.MethodName) jdk_41_method_11_code (3 : Nat) (Option.some Jvm.ClassFile.FieldType.int)).before a0 Z = true := mw hw 142 rfl
theorem w143 (hw : HW a0 Z) : (Jvm.Cond.methodLink "java/lang/StringUTF16" (119 : Nat) ({ cls := "java/lang/StringUTF16", name := "toBytes", desc := "([CII)[B" } : Jvm.MethodName)).before a0 Z = true := mw hw 143 rfl
theorem w144 (hw : HW a0 Z) : (Jvm.Cond.static ({ cls := "java/lang/StringUTF16", name := "toBytes", desc := "([CII)[B" } : Jvm.MethodName)).before a0 Z = true := mw hw 144 rfl
theorem w145 (hw : HW a0 Z) : (Jvm.Cond.code ({ cls := "java/lang/StringUTF16", name := "toBytes", desc := "([CII)[B" } : Jvm.MethodName) jdk_52_method_14_code (5 : Nat) (Option.some (Jvm.ClassFile.FieldType.array Jvm.ClassFile.FieldType.byte))).before a0 Z = true := mw hw 145 rfl
theorem w146 (hw : HW a0 Z) : (Jvm.Cond.methodLink "java/lang/StringUTF16" (107 : Nat) ({ cls := "java/lang/StringUTF16", name := "newBytesFor", desc := "(I)[B" } : Jvm.MethodName)).before a0 Z = true := mw hw 146 rfl
theorem w147 (hw : HW a0 Z) : (Jvm.Cond.static ({ cls := "java/lang/StringUTF16", name := "newBytesFor", desc := "(I)[B" } : Jvm.MethodName)).before a0 Z = true := mw hw 147 rfl
theorem w148 (hw : HW a0 Z) : (Jvm.Cond.code ({ cls := "java/lang/StringUTF16", name := "newBytesFor", desc := "(I)[B" } : Jvm.MethodName) jdk_52_method_2_code (1 : Nat) (Option.some (Jvm.ClassFile.FieldType.array Jvm.ClassFile.FieldType.byte))).before a0 Z = true := mw hw 148 rfl
theorem w149 (hw : HW a0 Z) : (Jvm.Cond.methodLink "java/lang/StringUTF16" (11 : Nat) ({ cls := "java/lang/StringUTF16", name := "newBytesLength", desc := "(I)I" } : Jvm.MethodName)).before a0 Z = true := mw hw 149 rfl
theorem w150 (hw : HW a0 Z) : (Jvm.Cond.static ({ cls := "java/lang/StringUTF16", name := "newBytesLength", desc := "(I)I" } : Jvm.MethodName)).before a0 Z = true := mw hw 150 rfl
theorem w151 (hw : HW a0 Z) : (Jvm.Cond.code ({ cls := "java/lang/StringUTF16", name := "newBytesLength", desc := "(I)I" } : Jvm.MethodName) jdk_52_method_3_code (1 : Nat) (Option.some Jvm.ClassFile.FieldType.int)).before a0 Z = true := mw hw 151 rfl
theorem w152 (hw : HW a0 Z) : (Jvm.Cond.constant "java/lang/StringUTF16" (20 : Nat) (1073741823 : Int32)).before a0 Z = true := mw hw 152 rfl
theorem w153 (hw : HW a0 Z) : (Jvm.Cond.methodLink "java/lang/StringUTF16" (111 : Nat) ({ cls := "java/lang/StringUTF16", name := "putChar", desc := "([BII)V" } : Jvm.MethodName)).before a0 Z = true := mw hw 153 rfl
theorem w154 (hw : HW a0 Z) : (Jvm.Cond.static ({ cls := "java/lang/StringUTF16", name := "putChar", desc := "([BII)V" } : Jvm.MethodName)).before a0 Z = true := mw hw 154 rfl
theorem w155 (hw : HW a0 Z) : (Jvm.Cond.code ({ cls := "java/lang/StringUTF16", name := "putChar", desc := "([BII)V" } : Jvm.MethodName) jdk_52_method_4_code (3 : Nat) (Option.none : Option Jvm.ClassFile.FieldType)).before a0 Z = true := mw hw 155 rfl
theorem w156 (hw : HW a0 Z) : (Jvm.Cond.fieldLink "java/lang/StringUTF16" (44 : Nat) "java/lang/StringUTF16" "$assertionsDisabled" "Z").before a0 Z = true := mw hw 156 rfl
theorem w157 (hw : HW a0 Z) : (Jvm.Cond.fieldLink "java/lang/StringUTF16" (59 : Nat) "java/lang/StringUTF16" "HI_BYTE_SHIFT" "I").before a0 Z = true := mw hw 157 rfl
theorem w158 (hw : HW a0 Z) : (Jvm.Cond.fieldLink "java/lang/StringUTF16" (63 : Nat) "java/lang/StringUTF16" "LO_BYTE_SHIFT" "I").before a0 Z = true := mw hw 158 rfl
theorem w159 (hw : HW a0 Z) : (Jvm.Cond.methodLink "java/lang/StringUTF16" (71 : Nat) ({ cls := "java/lang/StringUTF16", name := "getChar", desc := "([BI)C" } : Jvm.MethodName)).before a0 Z = true := mw hw 159 rfl
theorem w160 (hw : HW a0 Z) : (Jvm.Cond.static ({ cls := "java/lang/StringUTF16", name := "getChar", desc := "([BI)C" } : Jvm.MethodName)).before a0 Z = true := mw hw 160 rfl
theorem w161 (hw : HW a0 Z) : (Jvm.Cond.code ({ cls := "java/lang/StringUTF16", name := "getChar", desc := "([BI)C" } : Jvm.MethodName) jdk_52_method_5_code (2 : Nat) (Option.some Jvm.ClassFile.FieldType.char)).before a0 Z = true := mw hw 161 rfl
theorem w162 (hw : HW a0 Z) : (Jvm.Cond.methodLink "java/lang/String" (498 : Nat) ({ cls := "java/lang/StringUTF16", name := "charAt", desc := "([BI)C" } : Jvm.MethodName)).before a0 Z = true := mw hw 162 rfl
theorem w163 (hw : HW a0 Z) : (Jvm.Cond.static ({ cls := "java/lang/StringUTF16", name := "charAt", desc := "([BI)C" } : Jvm.MethodName)).before a0 Z = true := mw hw 163 rfl
theorem w164 (hw : HW a0 Z) : (Jvm.Cond.code ({ cls := "java/lang/StringUTF16", name := "charAt", desc := "([BI)C" } : Jvm.MethodName) jdk_52_method_83_code (2 : Nat) (Option.some Jvm.ClassFile.FieldType.char)).before a0 Z = true := mw hw 164 rfl
theorem w165 (hw : HW a0 Z) : (Jvm.Cond.methodLink "java/lang/StringUTF16" (67 : Nat) ({ cls := "java/lang/StringUTF16", name := "checkIndex", desc := "(I[B)V" } : Jvm.MethodName)).before a0 Z = true := mw hw 165 rfl
theorem w166 (hw : HW a0 Z) : (Jvm.Cond.static ({ cls := "java/lang/StringUTF16", name := "checkIndex", desc := "(I[B)V" } : Jvm.MethodName)).before a0 Z = true := mw hw 166 rfl
theorem w167 (hw : HW a0 Z) : (Jvm.Cond.code ({ cls := "java/lang/StringUTF16", name := "checkIndex", desc := "(I[B)V" } : Jvm.MethodName) jdk_52_method_91_code (2 : Nat) (Option.none : Option Jvm.ClassFile.FieldType)).before a0 Z = true := mw hw 167 rfl
theorem w168 (hw : HW a0 Z) : (Jvm.Cond.methodLink "java/lang/StringUTF16" (48 : Nat) ({ cls := "java/lang/StringUTF16", name := "length", desc := "([B)I" } : Jvm.MethodName)).before a0 Z = true := mw hw 168 rfl
theorem w169 (hw : HW a0 Z) : (Jvm.Cond.static ({ cls := "java/lang/StringUTF16", name := "length", desc := "([B)I" } : Jvm.MethodName)).before a0 Z = true := mw hw 169 rfl
theorem w170 (hw : HW a0 Z) : (Jvm.Cond.code ({ cls := "java/lang/StringUTF16", name := "length", desc := "([B)I" } : Jvm.MethodName) jdk_52_method_6_code (1 : Nat) (Option.some Jvm.ClassFile.FieldType.int)).before a0 Z = true := mw hw 170 rfl
theorem w171 (hw : HW a0 Z) : (Jvm.Cond.methodLink "java/lang/StringUTF16" (414 : Nat) ({ cls := "java/lang/String", name := "checkIndex", desc := "(II)V" } : Jvm.MethodName)).before a0 Z = true := mw hw 171 rfl
theorem w172 (hw : HW a0 Z) : (Jvm.Cond.methodLink "java/lang/String" (689 : Nat) ({ cls := "java/lang/StringUTF16", name := "newString", desc := "([BII)Ljava/lang/String;" } : Jvm.MethodName)).before a0 Z = true := mw hw 172 rfl
theorem w173 (hw : HW a0 Z) : (Jvm.Cond.static ({ cls := "java/lang/StringUTF16", name := "newString", desc := "([BII)Ljava/lang/String;" } : Jvm.MethodName)).before a0 Z = true := mw hw 173 rfl
theorem w174 (hw : HW a0 Z) : (Jvm.Cond.code ({ cls := "java/lang/StringUTF16", name := "newString", desc := "([BII)Ljava/lang/String;" } : Jvm.MethodName) jdk_52_method_69_code (5 : Nat) (Option.some (Jvm.ClassFile.FieldType.object "java/lang/String"))).before a0 Z = true := mw hw 174 rfl
theorem w175 (hw : HW a0 Z) : (Jvm.Cond.stringLink "java/lang/StringUTF16" (295 : Nat) "").before a0 Z = true := mw hw 175 rfl
theorem w176 (hw : HW a0 Z) : (Jvm.Cond.methodLink "com/example/vestline/vestline/input/TextFiles" (132 : Nat) ({ cls := "java/lang/String", name := "length", desc := "()I" } : Jvm.MethodName)).before a0 Z = true := mw hw 176 rfl
theorem w177 (hw : HW a0 Z) : (Jvm.Cond.fieldLink "java/lang/StringUTF16" (251 : Nat) "java/lang/String" "COMPACT_STRINGS" "Z").before a0 Z = true := mw hw 177 rfl
theorem w178 (hw : HW a0 Z) : (Jvm.Cond.methodLink "java/lang/StringUTF16" (257 : Nat) ({ cls := "java/lang/StringUTF16", name := "compress", desc := "([BII)[B" } : Jvm.MethodName)).before a0 Z = true := mw hw 178 rfl
theorem w179 (hw : HW a0 Z) : (Jvm.Cond.static ({ cls := "java/lang/StringUTF16", name := "compress", desc := "([BII)[B" } : Jvm.MethodName)).before a0 Z = true := mw hw 179 rfl
theorem w180 (hw : HW a0 Z) : (Jvm.Cond.code ({ cls := "java/lang/StringUTF16", name := "compress", desc := "([BII)[B" } : Jvm.MethodName) jdk_52_method_17_code (6 : Nat) (Option.some (Jvm.ClassFile.FieldType.array Jvm.ClassFile.FieldType.byte))).before a0 Z = true := mw hw 180 rfl
theorem w181 (hw : HW a0 Z) : (Jvm.Cond.methodLink "java/lang/StringUTF16" (123 : Nat) ({ cls := "java/lang/StringUTF16", name := "compress", desc := "([BI[BII)I" } : Jvm.MethodName)).before a0 Z = true := mw hw 181 rfl
theorem w182 (hw : HW a0 Z) : (Jvm.Cond.static ({ cls := "java/lang/StringUTF16", name := "compress", desc := "([BI[BII)I" } : Jvm.MethodName)).before a0 Z = true := mw hw 182 rfl
theorem w183 (hw : HW a0 Z) : (Jvm.Cond.code ({ cls := "java/lang/StringUTF16", name := "compress", desc := "([BI[BII)I" } : Jvm.MethodName) jdk_52_method_22_code (7 : Nat) (Option.some Jvm.ClassFile.FieldType.int)).before a0 Z = true := mw hw 183 rfl
theorem w184 (hw : HW a0 Z) : (Jvm.Cond.methodLink "java/lang/StringUTF16" (173 : Nat) ({ cls := "java/lang/StringUTF16", name := "checkBoundsOffCount", desc := "(II[B)V" } : Jvm.MethodName)).before a0 Z = true := mw hw 184 rfl
theorem w185 (hw : HW a0 Z) : (Jvm.Cond.static ({ cls := "java/lang/StringUTF16", name := "checkBoundsOffCount", desc := "(II[B)V" } : Jvm.MethodName)).before a0 Z = true := mw hw 185 rfl
theorem w186 (hw : HW a0 Z) : (Jvm.Cond.code ({ cls := "java/lang/StringUTF16", name := "checkBoundsOffCount", desc := "(II[B)V" } : Jvm.MethodName) jdk_52_method_94_code (3 : Nat) (Option.none : Option Jvm.ClassFile.FieldType)).before a0 Z = true := mw hw 186 rfl
theorem w187 (hw : HW a0 Z) : (Jvm.Cond.methodLink "java/lang/StringUTF16" (419 : Nat) ({ cls := "java/lang/String", name := "checkBoundsOffCount", desc := "(III)I" } : Jvm.MethodName)).before a0 Z = true := mw hw 187 rfl
theorem w188 (hw : HW a0 Z) : (Jvm.Cond.static ({ cls := "java/lang/String", name := "checkBoundsOffCount", desc := "(III)I" } : Jvm.MethodName)).before a0 Z = true := mw hw 188 rfl
theorem w189 (hw : HW a0 Z) : (Jvm.Cond.code ({ cls := "java/lang/String", name := "checkBoundsOffCount", desc := "(III)I" } : Jvm.MethodName) jdk_42_method_157_code (3 : Nat) (Option.some Jvm.ClassFile.FieldType.int)).before a0 Z = true := mw hw 189 rfl
theorem w190 (hw : HW a0 Z) : (Jvm.Cond.methodLink "java/lang/String" (1065 : Nat) ({ cls := "jdk/internal/util/Preconditions", name := "checkFromIndexSize", desc := "(IIILjava/util/function/BiFunction;)I" } : Jvm.MethodName)).before a0 Z = true := mw hw 190 rfl
theorem w191 (hw : HW a0 Z) : (Jvm.Cond.static ({ cls := "jdk/internal/util/Preconditions", name := "checkFromIndexSize", desc := "(IIILjava/util/function/BiFunction;)I" } : Jvm.MethodName)).before a0 Z = true := mw hw 191 rfl
theorem w192 (hw : HW a0 Z) : (Jvm.Cond.code ({ cls := "jdk/internal/util/Preconditions", name := "checkFromIndexSize", desc := "(IIILjava/util/function/BiFunction;)I" } : Jvm.MethodName) jdk_41_method_13_code (4 : Nat) (Option.some Jvm.ClassFile.FieldType.int)).before a0 Z = true := mw hw 192 rfl
theorem w193 (hw : HW a0 Z) : (Jvm.Cond.methodLink "java/lang/StringUTF16" (126 : Nat) ({ cls := "java/util/Arrays", name := "copyOfRange", desc := "([BII)[B" } : Jvm.MethodName)).before a0 Z = true := mw hw 193 rfl
theorem w194 (hw : HW a0 Z) : (Jvm.Cond.methodLink "java/lang/StringUTF16" (259 : Nat) ({ cls := "java/lang/StringUTF16", name := "coderFromArrayLen", desc := "([BI)B" } : Jvm.MethodName)).before a0 Z = true := mw hw 194 rfl
theorem w195 (hw : HW a0 Z) : (Jvm.Cond.classLink "java/lang/StringUTF16" (3 : Nat) "java/lang/String").before a0 Z = true := mw hw 195 rfl
theorem w196 (hw : HW a0 Z) : (Jvm.Cond.methodLink "java/lang/StringUTF16" (263 : Nat) ({ cls := "java/lang/String", name := "<init>", desc := "([BB)V" } : Jvm.MethodName)).before a0 Z = true := mw hw 196 rfl
end
theorem ef_pick (m : MethodId) (x0 : Int32) : entryFrame m #[(.int x0)] 2 = mkF m 0 #[.val (.int x0), .unset] [] := by first | (simp [entryFrame, mkF, argsToLocals, Value.category]; done) | rfl
theorem pn_com_example_vestline_vestline_input_TextPositionAfterPinLaw : plainName "com/example/vestline/vestline/input/TextPositionAfterPinLaw" = true := by first | (simp [plainName, overriddenIn]; done) | decide +kernel
theorem d_method_2_0 : decode method_2_code 0 = .ok (.iload_n 0, 1) := by decide +kernel
theorem d_method_2_1 : decode method_2_code 1 = .ok (.iconst 3, 1) := by decide +kernel
theorem d_method_2_2 : decode method_2_code 2 = .ok (.iand, 1) := by decide +kernel
theorem d_method_2_3 : decode method_2_code 3 = .ok (.istore_n 1, 1) := by decide +kernel
theorem d_method_2_4 : decode method_2_code 4 = .ok (.iload_n 1, 1) := by decide +kernel
theorem d_method_2_5 : decode method_2_code 5 = .ok (.ifCond .ne 6, 3) := by decide +kernel
theorem d_method_2_8 : decode method_2_code 8 = .ok (.bipush 10, 2) := by decide +kernel
theorem d_method_2_10 : decode method_2_code 10 = .ok (.ireturn, 1) := by decide +kernel
theorem d_method_2_11 : decode method_2_code 11 = .ok (.iload_n 1, 1) := by decide +kernel
theorem d_method_2_12 : decode method_2_code 12 = .ok (.iconst 1, 1) := by decide +kernel
theorem d_method_2_13 : decode method_2_code 13 = .ok (.if_icmp .ne 6, 3) := by decide +kernel
theorem d_method_2_16 : decode method_2_code 16 = .ok (.bipush 13, 2) := by decide +kernel
theorem d_method_2_18 : decode method_2_code 18 = .ok (.ireturn, 1) := by decide +kernel
theorem d_method_2_19 : decode method_2_code 19 = .ok (.iload_n 0, 1) := by decide +kernel
theorem d_method_2_20 : decode method_2_code 20 = .ok (.iconst 2, 1) := by decide +kernel
theorem d_method_2_21 : decode method_2_code 21 = .ok (.iushr, 1) := by decide +kernel
theorem d_method_2_22 : decode method_2_code 22 = .ok (.ldc 7, 2) := by decide +kernel
theorem d_method_2_24 : decode method_2_code 24 = .ok (.iand, 1) := by decide +kernel
theorem d_method_2_25 : decode method_2_code 25 = .ok (.i2c, 1) := by decide +kernel
theorem d_method_2_26 : decode method_2_code 26 = .ok (.ireturn, 1) := by decide +kernel
abbrev yn0 : MethodName := ⟨"com/example/vestline/vestline/input/TextPositionAfterPinLaw", "pick", "(I)C"⟩
theorem ef_pcheck (m : MethodId) (x0 : Int32) (x1 : Int32) (x2 : Value) (hx2 : x2.category = 1) : entryFrame m #[(.int x0), (.int x1), x2] 3 = mkF m 0 #[.val (.int x0), .val (.int x1), .val x2] [] := by first | (simp [entryFrame, mkF, argsToLocals, Value.category, hx2]; done) | rfl | (cases x2 <;> first | rfl | (simp [Value.category] at hx2))
theorem pn_jdk_internal_util_Preconditions : plainName "jdk/internal/util/Preconditions" = true := by first | (simp [plainName, overriddenIn]; done) | decide +kernel
theorem d_jdk_41_method_11_0 : decode jdk_41_method_11_code 0 = .ok (.iload_n 0, 1) := by decide +kernel
theorem d_jdk_41_method_11_1 : decode jdk_41_method_11_code 1 = .ok (.ifCond .lt 8, 3) := by decide +kernel
theorem d_jdk_41_method_11_4 : decode jdk_41_method_11_code 4 = .ok (.iload_n 0, 1) := by decide +kernel
theorem d_jdk_41_method_11_5 : decode jdk_41_method_11_code 5 = .ok (.iload_n 1, 1) := by decide +kernel
theorem d_jdk_41_method_11_6 : decode jdk_41_method_11_code 6 = .ok (.if_icmp .lt 10, 3) := by decide +kernel
theorem d_jdk_41_method_11_16 : decode jdk_41_method_11_code 16 = .ok (.iload_n 0, 1) := by decide +kernel
theorem d_jdk_41_method_11_17 : decode jdk_41_method_11_code 17 = .ok (.ireturn, 1) := by decide +kernel
abbrev yn1 : MethodName := ⟨"jdk/internal/util/Preconditions", "checkIndex", "(IILjava/util/function/BiFunction;)I"⟩
theorem ef_scheck (m : MethodId) (x0 : Int32) (x1 : Int32) : entryFrame m #[(.int x0), (.int x1)] 2 = mkF m 0 #[.val (.int x0), .val (.int x1)] [] := by first | (simp [entryFrame, mkF, argsToLocals, Value.category]; done) | rfl
theorem pn_java_lang_String : plainName "java/lang/String" = true := by first | (simp [plainName, overriddenIn]; done) | decide +kernel
theorem d_jdk_42_method_155_0 : decode jdk_42_method_155_code 0 = .ok (.iload_n 0, 1) := by decide +kernel
theorem d_jdk_42_method_155_1 : decode jdk_42_method_155_code 1 = .ok (.iload_n 1, 1) := by decide +kernel
theorem d_jdk_42_method_155_2 : decode jdk_42_method_155_code 2 = .ok (.getstatic 1053, 3) := by decide +kernel
theorem d_jdk_42_method_155_5 : decode jdk_42_method_155_code 5 = .ok (.invokestatic 1059, 3) := by decide +kernel
theorem pd__28_IILjava_2f_util_2f_function_2f_BiFunction_3b__29_I : parseMethodDescriptor "(IILjava/util/function/BiFunction;)I" = some ⟨[.int, .int, (.object "java/util/function/BiFunction")], some .int⟩ := by decide +kernel
theorem d_jdk_42_method_155_8 : decode jdk_42_method_155_code 8 = .ok (.pop, 1) := by decide +kernel
theorem d_jdk_42_method_155_9 : decode jdk_42_method_155_code 9 = .ok (.return_, 1) := by decide +kernel
abbrev yn2 : MethodName := ⟨"java/lang/String", "checkIndex", "(II)V"⟩
theorem ef_l1charAt (m : MethodId) (x0 : Addr) (x1 : Int32) : entryFrame m #[(.ref x0), (.int x1)] 2 = mkF m 0 #[.val (.ref x0), .val (.int x1)] [] := by first | (simp [entryFrame, mkF, argsToLocals, Value.category]; done) | rfl
theorem pn_java_lang_StringLatin1 : plainName "java/lang/StringLatin1" = true := by first | (simp [plainName, overriddenIn]; done) | decide +kernel
theorem d_jdk_43_method_2_0 : decode jdk_43_method_2_code 0 = .ok (.iload_n 1, 1) := by decide +kernel
theorem d_jdk_43_method_2_1 : decode jdk_43_method_2_code 1 = .ok (.aload_n 0, 1) := by decide +kernel
theorem d_jdk_43_method_2_2 : decode jdk_43_method_2_code 2 = .ok (.arraylength, 1) := by decide +kernel
theorem d_jdk_43_method_2_3 : decode jdk_43_method_2_code 3 = .ok (.invokestatic 9, 3) := by decide +kernel
theorem pd__28_II_29_V : parseMethodDescriptor "(II)V" = some ⟨[.int, .int], none⟩ := by decide +kernel
theorem d_jdk_43_method_2_6 : decode jdk_43_method_2_code 6 = .ok (.aload_n 0, 1) := by decide +kernel
theorem d_jdk_43_method_2_7 : decode jdk_43_method_2_code 7 = .ok (.iload_n 1, 1) := by decide +kernel
theorem d_jdk_43_method_2_8 : decode jdk_43_method_2_code 8 = .ok (.baload, 1) := by decide +kernel
theorem d_jdk_43_method_2_9 : decode jdk_43_method_2_code 9 = .ok (.sipush 255, 3) := by decide +kernel
theorem d_jdk_43_method_2_12 : decode jdk_43_method_2_code 12 = .ok (.iand, 1) := by decide +kernel
theorem d_jdk_43_method_2_13 : decode jdk_43_method_2_code 13 = .ok (.i2c, 1) := by decide +kernel
theorem d_jdk_43_method_2_14 : decode jdk_43_method_2_code 14 = .ok (.ireturn, 1) := by decide +kernel
abbrev yn3 : MethodName := ⟨"java/lang/StringLatin1", "charAt", "([BI)C"⟩
theorem ef_u16length (m : MethodId) (x0 : Addr) : entryFrame m #[(.ref x0)] 1 = mkF m 0 #[.val (.ref x0)] [] := by first | (simp [entryFrame, mkF, argsToLocals, Value.category]; done) | rfl
theorem pn_java_lang_StringUTF16 : plainName "java/lang/StringUTF16" = true := by first | (simp [plainName, overriddenIn]; done) | decide +kernel
theorem d_jdk_52_method_6_0 : decode jdk_52_method_6_code 0 = .ok (.aload_n 0, 1) := by decide +kernel
theorem d_jdk_52_method_6_1 : decode jdk_52_method_6_code 1 = .ok (.arraylength, 1) := by decide +kernel
theorem d_jdk_52_method_6_2 : decode jdk_52_method_6_code 2 = .ok (.iconst 1, 1) := by decide +kernel
theorem d_jdk_52_method_6_3 : decode jdk_52_method_6_code 3 = .ok (.ishr, 1) := by decide +kernel
theorem d_jdk_52_method_6_4 : decode jdk_52_method_6_code 4 = .ok (.ireturn, 1) := by decide +kernel
abbrev yn4 : MethodName := ⟨"java/lang/StringUTF16", "length", "([B)I"⟩
theorem ef_u16check (m : MethodId) (x0 : Int32) (x1 : Addr) : entryFrame m #[(.int x0), (.ref x1)] 2 = mkF m 0 #[.val (.int x0), .val (.ref x1)] [] := by first | (simp [entryFrame, mkF, argsToLocals, Value.category]; done) | rfl
theorem d_jdk_52_method_91_0 : decode jdk_52_method_91_code 0 = .ok (.iload_n 0, 1) := by decide +kernel
theorem d_jdk_52_method_91_1 : decode jdk_52_method_91_code 1 = .ok (.aload_n 1, 1) := by decide +kernel
theorem d_jdk_52_method_91_2 : decode jdk_52_method_91_code 2 = .ok (.invokestatic 48, 3) := by decide +kernel
theorem pd__28__5b_B_29_I : parseMethodDescriptor "([B)I" = some ⟨[(.array .byte)], some .int⟩ := by decide +kernel
theorem d_jdk_52_method_91_5 : decode jdk_52_method_91_code 5 = .ok (.invokestatic 414, 3) := by decide +kernel
theorem d_jdk_52_method_91_8 : decode jdk_52_method_91_code 8 = .ok (.return_, 1) := by decide +kernel
abbrev yn5 : MethodName := ⟨"java/lang/StringUTF16", "checkIndex", "(I[B)V"⟩
theorem ef_getChar (m : MethodId) (x0 : Addr) (x1 : Int32) : entryFrame m #[(.ref x0), (.int x1)] 2 = mkF m 0 #[.val (.ref x0), .val (.int x1)] [] := by first | (simp [entryFrame, mkF, argsToLocals, Value.category]; done) | rfl
theorem d_jdk_52_method_5_0 : decode jdk_52_method_5_code 0 = .ok (.getstatic 44, 3) := by decide +kernel
theorem d_jdk_52_method_5_3 : decode jdk_52_method_5_code 3 = .ok (.ifCond .ne 25, 3) := by decide +kernel
theorem d_jdk_52_method_5_28 : decode jdk_52_method_5_code 28 = .ok (.iload_n 1, 1) := by decide +kernel
theorem d_jdk_52_method_5_29 : decode jdk_52_method_5_code 29 = .ok (.iconst 1, 1) := by decide +kernel
theorem d_jdk_52_method_5_30 : decode jdk_52_method_5_code 30 = .ok (.ishl, 1) := by decide +kernel
theorem d_jdk_52_method_5_31 : decode jdk_52_method_5_code 31 = .ok (.istore_n 1, 1) := by decide +kernel
theorem d_jdk_52_method_5_32 : decode jdk_52_method_5_code 32 = .ok (.aload_n 0, 1) := by decide +kernel
theorem d_jdk_52_method_5_33 : decode jdk_52_method_5_code 33 = .ok (.iload_n 1, 1) := by decide +kernel
theorem d_jdk_52_method_5_34 : decode jdk_52_method_5_code 34 = .ok (.iinc 1 1, 3) := by decide +kernel
theorem d_jdk_52_method_5_37 : decode jdk_52_method_5_code 37 = .ok (.baload, 1) := by decide +kernel
theorem d_jdk_52_method_5_38 : decode jdk_52_method_5_code 38 = .ok (.sipush 255, 3) := by decide +kernel
theorem d_jdk_52_method_5_41 : decode jdk_52_method_5_code 41 = .ok (.iand, 1) := by decide +kernel
theorem d_jdk_52_method_5_42 : decode jdk_52_method_5_code 42 = .ok (.getstatic 59, 3) := by decide +kernel
theorem d_jdk_52_method_5_45 : decode jdk_52_method_5_code 45 = .ok (.ishl, 1) := by decide +kernel
theorem d_jdk_52_method_5_46 : decode jdk_52_method_5_code 46 = .ok (.aload_n 0, 1) := by decide +kernel
theorem d_jdk_52_method_5_47 : decode jdk_52_method_5_code 47 = .ok (.iload_n 1, 1) := by decide +kernel
theorem d_jdk_52_method_5_48 : decode jdk_52_method_5_code 48 = .ok (.baload, 1) := by decide +kernel
theorem d_jdk_52_method_5_49 : decode jdk_52_method_5_code 49 = .ok (.sipush 255, 3) := by decide +kernel
theorem d_jdk_52_method_5_52 : decode jdk_52_method_5_code 52 = .ok (.iand, 1) := by decide +kernel
theorem d_jdk_52_method_5_53 : decode jdk_52_method_5_code 53 = .ok (.getstatic 63, 3) := by decide +kernel
theorem d_jdk_52_method_5_56 : decode jdk_52_method_5_code 56 = .ok (.ishl, 1) := by decide +kernel
theorem d_jdk_52_method_5_57 : decode jdk_52_method_5_code 57 = .ok (.ior, 1) := by decide +kernel
theorem d_jdk_52_method_5_58 : decode jdk_52_method_5_code 58 = .ok (.i2c, 1) := by decide +kernel
theorem d_jdk_52_method_5_59 : decode jdk_52_method_5_code 59 = .ok (.ireturn, 1) := by decide +kernel
abbrev yn6 : MethodName := ⟨"java/lang/StringUTF16", "getChar", "([BI)C"⟩
theorem ef_u16charAt (m : MethodId) (x0 : Addr) (x1 : Int32) : entryFrame m #[(.ref x0), (.int x1)] 2 = mkF m 0 #[.val (.ref x0), .val (.int x1)] [] := by first | (simp [entryFrame, mkF, argsToLocals, Value.category]; done) | rfl
theorem d_jdk_52_method_83_0 : decode jdk_52_method_83_code 0 = .ok (.iload_n 1, 1) := by decide +kernel
theorem d_jdk_52_method_83_1 : decode jdk_52_method_83_code 1 = .ok (.aload_n 0, 1) := by decide +kernel
theorem d_jdk_52_method_83_2 : decode jdk_52_method_83_code 2 = .ok (.invokestatic 67, 3) := by decide +kernel
theorem pd__28_I_5b_B_29_V : parseMethodDescriptor "(I[B)V" = some ⟨[.int, (.array .byte)], none⟩ := by decide +kernel
theorem d_jdk_52_method_83_5 : decode jdk_52_method_83_code 5 = .ok (.aload_n 0, 1) := by decide +kernel
theorem d_jdk_52_method_83_6 : decode jdk_52_method_83_code 6 = .ok (.iload_n 1, 1) := by decide +kernel
theorem d_jdk_52_method_83_7 : decode jdk_52_method_83_code 7 = .ok (.invokestatic 71, 3) := by decide +kernel
theorem pd__28__5b_BI_29_C : parseMethodDescriptor "([BI)C" = some ⟨[(.array .byte), .int], some .char⟩ := by decide +kernel
theorem d_jdk_52_method_83_10 : decode jdk_52_method_83_code 10 = .ok (.ireturn, 1) := by decide +kernel
abbrev yn7 : MethodName := ⟨"java/lang/StringUTF16", "charAt", "([BI)C"⟩
theorem ef_isLatin1 (m : MethodId) (x0 : Addr) : entryFrame m #[(.ref x0)] 1 = mkF m 0 #[.val (.ref x0)] [] := by first | (simp [entryFrame, mkF, argsToLocals, Value.category]; done) | rfl
theorem d_jdk_42_method_154_0 : decode jdk_42_method_154_code 0 = .ok (.getstatic 38, 3) := by decide +kernel
theorem d_jdk_42_method_154_3 : decode jdk_42_method_154_code 3 = .ok (.ifCond .eq 14, 3) := by decide +kernel
theorem d_jdk_42_method_154_6 : decode jdk_42_method_154_code 6 = .ok (.aload_n 0, 1) := by decide +kernel
theorem d_jdk_42_method_154_7 : decode jdk_42_method_154_code 7 = .ok (.getfield 15, 3) := by decide +kernel
theorem d_jdk_42_method_154_10 : decode jdk_42_method_154_code 10 = .ok (.ifCond .ne 7, 3) := by decide +kernel
theorem d_jdk_42_method_154_13 : decode jdk_42_method_154_code 13 = .ok (.iconst 1, 1) := by decide +kernel
theorem d_jdk_42_method_154_14 : decode jdk_42_method_154_code 14 = .ok (.goto 4, 3) := by decide +kernel
theorem d_jdk_42_method_154_17 : decode jdk_42_method_154_code 17 = .ok (.iconst 0, 1) := by decide +kernel
theorem d_jdk_42_method_154_18 : decode jdk_42_method_154_code 18 = .ok (.ireturn, 1) := by decide +kernel
abbrev yn8 : MethodName := ⟨"java/lang/String", "isLatin1", "()Z"⟩
theorem ef_charAt (m : MethodId) (x0 : Addr) (x1 : Int32) : entryFrame m #[(.ref x0), (.int x1)] 2 = mkF m 0 #[.val (.ref x0), .val (.int x1)] [] := by first | (simp [entryFrame, mkF, argsToLocals, Value.category]; done) | rfl
theorem d_jdk_42_method_56_0 : decode jdk_42_method_56_code 0 = .ok (.aload_n 0, 1) := by decide +kernel
theorem d_jdk_42_method_56_1 : decode jdk_42_method_56_code 1 = .ok (.invokevirtual 492, 3) := by decide +kernel
theorem pd__28__29_Z : parseMethodDescriptor "()Z" = some ⟨[], some .boolean⟩ := by decide +kernel
theorem d_jdk_42_method_56_4 : decode jdk_42_method_56_code 4 = .ok (.ifCond .eq 12, 3) := by decide +kernel
theorem d_jdk_42_method_56_7 : decode jdk_42_method_56_code 7 = .ok (.aload_n 0, 1) := by decide +kernel
theorem d_jdk_42_method_56_8 : decode jdk_42_method_56_code 8 = .ok (.getfield 9, 3) := by decide +kernel
theorem d_jdk_42_method_56_11 : decode jdk_42_method_56_code 11 = .ok (.iload_n 1, 1) := by decide +kernel
theorem d_jdk_42_method_56_12 : decode jdk_42_method_56_code 12 = .ok (.invokestatic 495, 3) := by decide +kernel
theorem d_jdk_42_method_56_15 : decode jdk_42_method_56_code 15 = .ok (.ireturn, 1) := by decide +kernel
theorem d_jdk_42_method_56_16 : decode jdk_42_method_56_code 16 = .ok (.aload_n 0, 1) := by decide +kernel
theorem d_jdk_42_method_56_17 : decode jdk_42_method_56_code 17 = .ok (.getfield 9, 3) := by decide +kernel
theorem d_jdk_42_method_56_20 : decode jdk_42_method_56_code 20 = .ok (.iload_n 1, 1) := by decide +kernel
theorem d_jdk_42_method_56_21 : decode jdk_42_method_56_code 21 = .ok (.invokestatic 498, 3) := by decide +kernel
theorem d_jdk_42_method_56_24 : decode jdk_42_method_56_code 24 = .ok (.ireturn, 1) := by decide +kernel
abbrev yn9 : MethodName := ⟨"java/lang/String", "charAt", "(I)C"⟩
theorem ef_coder (m : MethodId) (x0 : Addr) : entryFrame m #[(.ref x0)] 1 = mkF m 0 #[.val (.ref x0)] [] := by first | (simp [entryFrame, mkF, argsToLocals, Value.category]; done) | rfl
theorem d_jdk_42_method_152_0 : decode jdk_42_method_152_code 0 = .ok (.getstatic 38, 3) := by decide +kernel
theorem d_jdk_42_method_152_3 : decode jdk_42_method_152_code 3 = .ok (.ifCond .eq 10, 3) := by decide +kernel
theorem d_jdk_42_method_152_6 : decode jdk_42_method_152_code 6 = .ok (.aload_n 0, 1) := by decide +kernel
theorem d_jdk_42_method_152_7 : decode jdk_42_method_152_code 7 = .ok (.getfield 15, 3) := by decide +kernel
theorem d_jdk_42_method_152_10 : decode jdk_42_method_152_code 10 = .ok (.goto 4, 3) := by decide +kernel
theorem d_jdk_42_method_152_14 : decode jdk_42_method_152_code 14 = .ok (.ireturn, 1) := by decide +kernel
abbrev yn10 : MethodName := ⟨"java/lang/String", "coder", "()B"⟩
theorem ef_length (m : MethodId) (x0 : Addr) : entryFrame m #[(.ref x0)] 1 = mkF m 0 #[.val (.ref x0)] [] := by first | (simp [entryFrame, mkF, argsToLocals, Value.category]; done) | rfl
theorem d_jdk_42_method_54_0 : decode jdk_42_method_54_code 0 = .ok (.aload_n 0, 1) := by decide +kernel
theorem d_jdk_42_method_54_1 : decode jdk_42_method_54_code 1 = .ok (.getfield 9, 3) := by decide +kernel
theorem d_jdk_42_method_54_4 : decode jdk_42_method_54_code 4 = .ok (.arraylength, 1) := by decide +kernel
theorem d_jdk_42_method_54_5 : decode jdk_42_method_54_code 5 = .ok (.aload_n 0, 1) := by decide +kernel
theorem d_jdk_42_method_54_6 : decode jdk_42_method_54_code 6 = .ok (.invokevirtual 335, 3) := by decide +kernel
theorem pd__28__29_B : parseMethodDescriptor "()B" = some ⟨[], some .byte⟩ := by decide +kernel
theorem d_jdk_42_method_54_9 : decode jdk_42_method_54_code 9 = .ok (.ishr, 1) := by decide +kernel
theorem d_jdk_42_method_54_10 : decode jdk_42_method_54_code 10 = .ok (.ireturn, 1) := by decide +kernel
abbrev yn11 : MethodName := ⟨"java/lang/String", "length", "()I"⟩
theorem d_jdk_52_method_21_3 : decode jdk_52_method_21_code 3 = .ok (.iload 5, 2) := by decide +kernel
theorem d_jdk_52_method_21_5 : decode jdk_52_method_21_code 5 = .ok (.iload 4, 2) := by decide +kernel
theorem d_jdk_52_method_21_7 : decode jdk_52_method_21_code 7 = .ok (.if_icmp .ge 37, 3) := by decide +kernel
theorem d_jdk_52_method_21_44 : decode jdk_52_method_21_code 44 = .ok (.iload 4, 2) := by decide +kernel
theorem d_jdk_52_method_21_46 : decode jdk_52_method_21_code 46 = .ok (.ireturn, 1) := by decide +kernel
theorem d_jdk_52_method_21_10 : decode jdk_52_method_21_code 10 = .ok (.aload_n 0, 1) := by decide +kernel
theorem d_jdk_52_method_21_11 : decode jdk_52_method_21_code 11 = .ok (.iload_n 1, 1) := by decide +kernel
theorem d_jdk_52_method_21_12 : decode jdk_52_method_21_code 12 = .ok (.caload, 1) := by decide +kernel
theorem d_jdk_52_method_21_13 : decode jdk_52_method_21_code 13 = .ok (.istore 6, 2) := by decide +kernel
theorem d_jdk_52_method_21_15 : decode jdk_52_method_21_code 15 = .ok (.iload 6, 2) := by decide +kernel
theorem d_jdk_52_method_21_17 : decode jdk_52_method_21_code 17 = .ok (.sipush 255, 3) := by decide +kernel
theorem d_jdk_52_method_21_20 : decode jdk_52_method_21_code 20 = .ok (.if_icmp .le 6, 3) := by decide +kernel
theorem d_jdk_52_method_21_23 : decode jdk_52_method_21_code 23 = .ok (.iload 5, 2) := by decide +kernel
theorem d_jdk_52_method_21_25 : decode jdk_52_method_21_code 25 = .ok (.ireturn, 1) := by decide +kernel
theorem d_jdk_52_method_21_26 : decode jdk_52_method_21_code 26 = .ok (.aload_n 2, 1) := by decide +kernel
theorem d_jdk_52_method_21_27 : decode jdk_52_method_21_code 27 = .ok (.iload_n 3, 1) := by decide +kernel
theorem d_jdk_52_method_21_28 : decode jdk_52_method_21_code 28 = .ok (.iload 6, 2) := by decide +kernel
theorem d_jdk_52_method_21_30 : decode jdk_52_method_21_code 30 = .ok (.i2b, 1) := by decide +kernel
theorem d_jdk_52_method_21_31 : decode jdk_52_method_21_code 31 = .ok (.bastore, 1) := by decide +kernel
theorem d_jdk_52_method_21_32 : decode jdk_52_method_21_code 32 = .ok (.iinc 1 1, 3) := by decide +kernel
theorem d_jdk_52_method_21_35 : decode jdk_52_method_21_code 35 = .ok (.iinc 3 1, 3) := by decide +kernel
theorem d_jdk_52_method_21_38 : decode jdk_52_method_21_code 38 = .ok (.iinc 5 1, 3) := by decide +kernel
theorem d_jdk_52_method_21_41 : decode jdk_52_method_21_code 41 = .ok (.goto (-38), 3) := by decide +kernel
theorem ef_compress21 (m : MethodId) (x0 : Addr) (x1 : Int32) (x2 : Addr) (x3 : Int32) (x4 : Int32) : entryFrame m #[(.ref x0), (.int x3), (.ref x2), (.int x3), (.int x4)] 7 = mkF m 0 #[.val (.ref x0), .val (.int x3), .val (.ref x2), .val (.int x3), .val (.int x4), .unset, .unset] [] := by first | (simp [entryFrame, mkF, argsToLocals, Value.category]; done) | rfl
theorem d_jdk_52_method_21_0 : decode jdk_52_method_21_code 0 = .ok (.iconst 0, 1) := by decide +kernel
theorem d_jdk_52_method_21_1 : decode jdk_52_method_21_code 1 = .ok (.istore 5, 2) := by decide +kernel
abbrev yn12 : MethodName := ⟨"java/lang/StringUTF16", "compress", "([CI[BII)I"⟩
theorem ef_coderOf (m : MethodId) (x0 : Addr) (x1 : Int32) : entryFrame m #[(.ref x0), (.int x1)] 2 = mkF m 0 #[.val (.ref x0), .val (.int x1)] [] := by first | (simp [entryFrame, mkF, argsToLocals, Value.category]; done) | rfl
theorem d_jdk_52_method_15_0 : decode jdk_52_method_15_code 0 = .ok (.iload_n 1, 1) := by decide +kernel
theorem d_jdk_52_method_15_1 : decode jdk_52_method_15_code 1 = .ok (.aload_n 0, 1) := by decide +kernel
theorem d_jdk_52_method_15_2 : decode jdk_52_method_15_code 2 = .ok (.arraylength, 1) := by decide +kernel
theorem d_jdk_52_method_15_3 : decode jdk_52_method_15_code 3 = .ok (.isub, 1) := by decide +kernel
theorem d_jdk_52_method_15_4 : decode jdk_52_method_15_code 4 = .ok (.bipush 31, 2) := by decide +kernel
theorem d_jdk_52_method_15_6 : decode jdk_52_method_15_code 6 = .ok (.iushr, 1) := by decide +kernel
theorem d_jdk_52_method_15_7 : decode jdk_52_method_15_code 7 = .ok (.i2b, 1) := by decide +kernel
theorem d_jdk_52_method_15_8 : decode jdk_52_method_15_code 8 = .ok (.ireturn, 1) := by decide +kernel
abbrev yn13 : MethodName := ⟨"java/lang/StringUTF16", "coderFromArrayLen", "([BI)B"⟩
theorem ef_nbl (m : MethodId) (x0 : Int32) : entryFrame m #[(.int x0)] 1 = mkF m 0 #[.val (.int x0)] [] := by first | (simp [entryFrame, mkF, argsToLocals, Value.category]; done) | rfl
theorem d_jdk_52_method_3_0 : decode jdk_52_method_3_code 0 = .ok (.iload_n 0, 1) := by decide +kernel
theorem d_jdk_52_method_3_1 : decode jdk_52_method_3_code 1 = .ok (.ifCond .ge 11, 3) := by decide +kernel
theorem d_jdk_52_method_3_12 : decode jdk_52_method_3_code 12 = .ok (.iload_n 0, 1) := by decide +kernel
theorem d_jdk_52_method_3_13 : decode jdk_52_method_3_code 13 = .ok (.ldc 20, 2) := by decide +kernel
theorem d_jdk_52_method_3_15 : decode jdk_52_method_3_code 15 = .ok (.if_icmp .lt 40, 3) := by decide +kernel
theorem d_jdk_52_method_3_55 : decode jdk_52_method_3_code 55 = .ok (.iload_n 0, 1) := by decide +kernel
theorem d_jdk_52_method_3_56 : decode jdk_52_method_3_code 56 = .ok (.iconst 1, 1) := by decide +kernel
theorem d_jdk_52_method_3_57 : decode jdk_52_method_3_code 57 = .ok (.ishl, 1) := by decide +kernel
theorem d_jdk_52_method_3_58 : decode jdk_52_method_3_code 58 = .ok (.ireturn, 1) := by decide +kernel
abbrev yn14 : MethodName := ⟨"java/lang/StringUTF16", "newBytesLength", "(I)I"⟩
theorem ef_nbf (m : MethodId) (x0 : Int32) : entryFrame m #[(.int x0)] 1 = mkF m 0 #[.val (.int x0)] [] := by first | (simp [entryFrame, mkF, argsToLocals, Value.category]; done) | rfl
theorem d_jdk_52_method_2_0 : decode jdk_52_method_2_code 0 = .ok (.iload_n 0, 1) := by decide +kernel
theorem d_jdk_52_method_2_1 : decode jdk_52_method_2_code 1 = .ok (.invokestatic 11, 3) := by decide +kernel
theorem pd__28_I_29_I : parseMethodDescriptor "(I)I" = some ⟨[.int], some .int⟩ := by decide +kernel
theorem d_jdk_52_method_2_4 : decode jdk_52_method_2_code 4 = .ok (.newarray .byte, 2) := by decide +kernel
theorem d_jdk_52_method_2_6 : decode jdk_52_method_2_code 6 = .ok (.areturn, 1) := by decide +kernel
abbrev yn15 : MethodName := ⟨"java/lang/StringUTF16", "newBytesFor", "(I)[B"⟩
theorem ef_putChar (m : MethodId) (x0 : Addr) (x1 : Int32) (x2 : Int32) : entryFrame m #[(.ref x0), (.int x1), (.int x2)] 3 = mkF m 0 #[.val (.ref x0), .val (.int x1), .val (.int x2)] [] := by first | (simp [entryFrame, mkF, argsToLocals, Value.category]; done) | rfl
theorem d_jdk_52_method_4_0 : decode jdk_52_method_4_code 0 = .ok (.getstatic 44, 3) := by decide +kernel
theorem d_jdk_52_method_4_3 : decode jdk_52_method_4_code 3 = .ok (.ifCond .ne 25, 3) := by decide +kernel
theorem d_jdk_52_method_4_28 : decode jdk_52_method_4_code 28 = .ok (.iload_n 1, 1) := by decide +kernel
theorem d_jdk_52_method_4_29 : decode jdk_52_method_4_code 29 = .ok (.iconst 1, 1) := by decide +kernel
theorem d_jdk_52_method_4_30 : decode jdk_52_method_4_code 30 = .ok (.ishl, 1) := by decide +kernel
theorem d_jdk_52_method_4_31 : decode jdk_52_method_4_code 31 = .ok (.istore_n 1, 1) := by decide +kernel
theorem d_jdk_52_method_4_32 : decode jdk_52_method_4_code 32 = .ok (.aload_n 0, 1) := by decide +kernel
theorem d_jdk_52_method_4_33 : decode jdk_52_method_4_code 33 = .ok (.iload_n 1, 1) := by decide +kernel
theorem d_jdk_52_method_4_34 : decode jdk_52_method_4_code 34 = .ok (.iinc 1 1, 3) := by decide +kernel
theorem d_jdk_52_method_4_37 : decode jdk_52_method_4_code 37 = .ok (.iload_n 2, 1) := by decide +kernel
theorem d_jdk_52_method_4_38 : decode jdk_52_method_4_code 38 = .ok (.getstatic 59, 3) := by decide +kernel
theorem d_jdk_52_method_4_41 : decode jdk_52_method_4_code 41 = .ok (.ishr, 1) := by decide +kernel
theorem d_jdk_52_method_4_42 : decode jdk_52_method_4_code 42 = .ok (.i2b, 1) := by decide +kernel
theorem d_jdk_52_method_4_43 : decode jdk_52_method_4_code 43 = .ok (.bastore, 1) := by decide +kernel
theorem d_jdk_52_method_4_44 : decode jdk_52_method_4_code 44 = .ok (.aload_n 0, 1) := by decide +kernel
theorem d_jdk_52_method_4_45 : decode jdk_52_method_4_code 45 = .ok (.iload_n 1, 1) := by decide +kernel
theorem d_jdk_52_method_4_46 : decode jdk_52_method_4_code 46 = .ok (.iload_n 2, 1) := by decide +kernel
theorem d_jdk_52_method_4_47 : decode jdk_52_method_4_code 47 = .ok (.getstatic 63, 3) := by decide +kernel
theorem d_jdk_52_method_4_50 : decode jdk_52_method_4_code 50 = .ok (.ishr, 1) := by decide +kernel
theorem d_jdk_52_method_4_51 : decode jdk_52_method_4_code 51 = .ok (.i2b, 1) := by decide +kernel
theorem d_jdk_52_method_4_52 : decode jdk_52_method_4_code 52 = .ok (.bastore, 1) := by decide +kernel
theorem d_jdk_52_method_4_53 : decode jdk_52_method_4_code 53 = .ok (.return_, 1) := by decide +kernel
abbrev yn16 : MethodName := ⟨"java/lang/StringUTF16", "putChar", "([BII)V"⟩
theorem d_jdk_52_method_14_8 : decode jdk_52_method_14_code 8 = .ok (.iload 4, 2) := by decide +kernel
theorem d_jdk_52_method_14_10 : decode jdk_52_method_14_code 10 = .ok (.iload_n 2, 1) := by decide +kernel
theorem d_jdk_52_method_14_11 : decode jdk_52_method_14_code 11 = .ok (.if_icmp .ge 21, 3) := by decide +kernel
theorem d_jdk_52_method_14_14 : decode jdk_52_method_14_code 14 = .ok (.aload_n 3, 1) := by decide +kernel
theorem d_jdk_52_method_14_15 : decode jdk_52_method_14_code 15 = .ok (.iload 4, 2) := by decide +kernel
theorem d_jdk_52_method_14_17 : decode jdk_52_method_14_code 17 = .ok (.aload_n 0, 1) := by decide +kernel
theorem d_jdk_52_method_14_18 : decode jdk_52_method_14_code 18 = .ok (.iload_n 1, 1) := by decide +kernel
theorem d_jdk_52_method_14_19 : decode jdk_52_method_14_code 19 = .ok (.caload, 1) := by decide +kernel
theorem d_jdk_52_method_14_20 : decode jdk_52_method_14_code 20 = .ok (.invokestatic 111, 3) := by decide +kernel
theorem pd__28__5b_BII_29_V : parseMethodDescriptor "([BII)V" = some ⟨[(.array .byte), .int, .int], none⟩ := by decide +kernel
theorem d_jdk_52_method_14_23 : decode jdk_52_method_14_code 23 = .ok (.iinc 1 1, 3) := by decide +kernel
theorem d_jdk_52_method_14_26 : decode jdk_52_method_14_code 26 = .ok (.iinc 4 1, 3) := by decide +kernel
theorem d_jdk_52_method_14_29 : decode jdk_52_method_14_code 29 = .ok (.goto (-21), 3) := by decide +kernel
theorem ef_toBytes (m : MethodId) (x0 : Addr) (x1 : Int32) (x2 : Int32) : entryFrame m #[(.ref x0), (.int x1), (.int x2)] 5 = mkF m 0 #[.val (.ref x0), .val (.int x1), .val (.int x2), .unset, .unset] [] := by first | (simp [entryFrame, mkF, argsToLocals, Value.category]; done) | rfl
theorem d_jdk_52_method_14_0 : decode jdk_52_method_14_code 0 = .ok (.iload_n 2, 1) := by decide +kernel
theorem d_jdk_52_method_14_1 : decode jdk_52_method_14_code 1 = .ok (.invokestatic 107, 3) := by decide +kernel
theorem pd__28_I_29__5b_B : parseMethodDescriptor "(I)[B" = some ⟨[.int], some (.array .byte)⟩ := by decide +kernel
theorem d_jdk_52_method_14_4 : decode jdk_52_method_14_code 4 = .ok (.astore_n 3, 1) := by decide +kernel
theorem d_jdk_52_method_14_5 : decode jdk_52_method_14_code 5 = .ok (.iconst 0, 1) := by decide +kernel
theorem d_jdk_52_method_14_6 : decode jdk_52_method_14_code 6 = .ok (.istore 4, 2) := by decide +kernel
theorem d_jdk_52_method_14_32 : decode jdk_52_method_14_code 32 = .ok (.aload_n 3, 1) := by decide +kernel
theorem d_jdk_52_method_14_33 : decode jdk_52_method_14_code 33 = .ok (.areturn, 1) := by decide +kernel
abbrev yn17 : MethodName := ⟨"java/lang/StringUTF16", "toBytes", "([CII)[B"⟩
theorem ef_compress16 (m : MethodId) (x0 : Addr) (x1 : Int32) (x2 : Int32) : entryFrame m #[(.ref x0), (.int x1), (.int x2)] 6 = mkF m 0 #[.val (.ref x0), .val (.int x1), .val (.int x2), .unset, .unset, .unset] [] := by first | (simp [entryFrame, mkF, argsToLocals, Value.category]; done) | rfl
theorem d_jdk_52_method_16_0 : decode jdk_52_method_16_code 0 = .ok (.iload_n 2, 1) := by decide +kernel
theorem d_jdk_52_method_16_1 : decode jdk_52_method_16_code 1 = .ok (.newarray .byte, 2) := by decide +kernel
theorem d_jdk_52_method_16_3 : decode jdk_52_method_16_code 3 = .ok (.astore_n 3, 1) := by decide +kernel
theorem d_jdk_52_method_16_4 : decode jdk_52_method_16_code 4 = .ok (.aload_n 0, 1) := by decide +kernel
theorem d_jdk_52_method_16_5 : decode jdk_52_method_16_code 5 = .ok (.iload_n 1, 1) := by decide +kernel
theorem d_jdk_52_method_16_6 : decode jdk_52_method_16_code 6 = .ok (.aload_n 3, 1) := by decide +kernel
theorem d_jdk_52_method_16_7 : decode jdk_52_method_16_code 7 = .ok (.iconst 0, 1) := by decide +kernel
theorem d_jdk_52_method_16_8 : decode jdk_52_method_16_code 8 = .ok (.iload_n 2, 1) := by decide +kernel
theorem d_jdk_52_method_16_9 : decode jdk_52_method_16_code 9 = .ok (.invokestatic 115, 3) := by decide +kernel
theorem pd__28__5b_CI_5b_BII_29_I : parseMethodDescriptor "([CI[BII)I" = some ⟨[(.array .char), .int, (.array .byte), .int, .int], some .int⟩ := by decide +kernel
theorem d_jdk_52_method_16_12 : decode jdk_52_method_16_code 12 = .ok (.istore 4, 2) := by decide +kernel
theorem d_jdk_52_method_16_14 : decode jdk_52_method_16_code 14 = .ok (.iload 4, 2) := by decide +kernel
theorem d_jdk_52_method_16_16 : decode jdk_52_method_16_code 16 = .ok (.iload_n 2, 1) := by decide +kernel
theorem d_jdk_52_method_16_17 : decode jdk_52_method_16_code 17 = .ok (.if_icmp .eq 40, 3) := by decide +kernel
theorem d_jdk_52_method_16_57 : decode jdk_52_method_16_code 57 = .ok (.aload_n 3, 1) := by decide +kernel
theorem d_jdk_52_method_16_58 : decode jdk_52_method_16_code 58 = .ok (.areturn, 1) := by decide +kernel
theorem d_jdk_52_method_16_20 : decode jdk_52_method_16_code 20 = .ok (.aload_n 0, 1) := by decide +kernel
theorem d_jdk_52_method_16_21 : decode jdk_52_method_16_code 21 = .ok (.iload_n 1, 1) := by decide +kernel
theorem d_jdk_52_method_16_22 : decode jdk_52_method_16_code 22 = .ok (.iload_n 2, 1) := by decide +kernel
theorem d_jdk_52_method_16_23 : decode jdk_52_method_16_code 23 = .ok (.invokestatic 119, 3) := by decide +kernel
theorem pd__28__5b_CII_29__5b_B : parseMethodDescriptor "([CII)[B" = some ⟨[(.array .char), .int, .int], some (.array .byte)⟩ := by decide +kernel
theorem d_jdk_52_method_16_26 : decode jdk_52_method_16_code 26 = .ok (.astore 5, 2) := by decide +kernel
theorem d_jdk_52_method_16_28 : decode jdk_52_method_16_code 28 = .ok (.aload 5, 2) := by decide +kernel
theorem d_jdk_52_method_16_30 : decode jdk_52_method_16_code 30 = .ok (.iload 4, 2) := by decide +kernel
theorem d_jdk_52_method_16_32 : decode jdk_52_method_16_code 32 = .ok (.invokestatic 71, 3) := by decide +kernel
theorem d_jdk_52_method_16_35 : decode jdk_52_method_16_code 35 = .ok (.sipush 255, 3) := by decide +kernel
theorem d_jdk_52_method_16_38 : decode jdk_52_method_16_code 38 = .ok (.if_icmp .gt 16, 3) := by decide +kernel
theorem d_jdk_52_method_16_54 : decode jdk_52_method_16_code 54 = .ok (.aload 5, 2) := by decide +kernel
theorem d_jdk_52_method_16_56 : decode jdk_52_method_16_code 56 = .ok (.areturn, 1) := by decide +kernel
abbrev yn18 : MethodName := ⟨"java/lang/StringUTF16", "compress", "([CII)[B"⟩
theorem ef_sinitV (m : MethodId) (x0 : Addr) (x1 : Addr) (x2 : Int32) (x3 : Int32) : entryFrame m #[(.ref x0), (.ref x1), (.int x2), (.int x3), .null] 6 = mkF m 0 #[.val (.ref x0), .val (.ref x1), .val (.int x2), .val (.int x3), .val .null, .unset] [] := by first | (simp [entryFrame, mkF, argsToLocals, Value.category]; done) | rfl
theorem d_jdk_42_method_149_0 : decode jdk_42_method_149_code 0 = .ok (.aload_n 0, 1) := by decide +kernel
theorem d_jdk_42_method_149_1 : decode jdk_42_method_149_code 1 = .ok (.invokespecial 1, 3) := by decide +kernel
theorem d_jdk_42_method_149_4 : decode jdk_42_method_149_code 4 = .ok (.iload_n 3, 1) := by decide +kernel
theorem d_jdk_42_method_149_5 : decode jdk_42_method_149_code 5 = .ok (.ifCond .ne 22, 3) := by decide +kernel
theorem d_jdk_42_method_149_27 : decode jdk_42_method_149_code 27 = .ok (.getstatic 38, 3) := by decide +kernel
theorem d_jdk_42_method_149_30 : decode jdk_42_method_149_code 30 = .ok (.ifCond .eq 28, 3) := by decide +kernel
theorem d_jdk_42_method_149_33 : decode jdk_42_method_149_code 33 = .ok (.aload_n 1, 1) := by decide +kernel
theorem d_jdk_42_method_149_34 : decode jdk_42_method_149_code 34 = .ok (.iload_n 2, 1) := by decide +kernel
theorem d_jdk_42_method_149_35 : decode jdk_42_method_149_code 35 = .ok (.iload_n 3, 1) := by decide +kernel
theorem d_jdk_42_method_149_36 : decode jdk_42_method_149_code 36 = .ok (.invokestatic 177, 3) := by decide +kernel
theorem d_jdk_42_method_149_39 : decode jdk_42_method_149_code 39 = .ok (.astore 5, 2) := by decide +kernel
theorem d_jdk_42_method_149_41 : decode jdk_42_method_149_code 41 = .ok (.aload_n 0, 1) := by decide +kernel
theorem d_jdk_42_method_149_42 : decode jdk_42_method_149_code 42 = .ok (.aload 5, 2) := by decide +kernel
theorem d_jdk_42_method_149_44 : decode jdk_42_method_149_code 44 = .ok (.iload_n 3, 1) := by decide +kernel
theorem d_jdk_42_method_149_45 : decode jdk_42_method_149_code 45 = .ok (.invokestatic 47, 3) := by decide +kernel
theorem pd__28__5b_BI_29_B : parseMethodDescriptor "([BI)B" = some ⟨[(.array .byte), .int], some .byte⟩ := by decide +kernel
theorem d_jdk_42_method_149_48 : decode jdk_42_method_149_code 48 = .ok (.putfield 15, 3) := by decide +kernel
theorem d_jdk_42_method_149_51 : decode jdk_42_method_149_code 51 = .ok (.aload_n 0, 1) := by decide +kernel
theorem d_jdk_42_method_149_52 : decode jdk_42_method_149_code 52 = .ok (.aload 5, 2) := by decide +kernel
theorem d_jdk_42_method_149_54 : decode jdk_42_method_149_code 54 = .ok (.putfield 9, 3) := by decide +kernel
theorem d_jdk_42_method_149_57 : decode jdk_42_method_149_code 57 = .ok (.return_, 1) := by decide +kernel
abbrev yn19 : MethodName := ⟨"java/lang/String", "<init>", "([CIILjava/lang/Void;)V"⟩
theorem ef_sinit (m : MethodId) (x0 : Addr) (x1 : Addr) : entryFrame m #[(.ref x0), (.ref x1)] 2 = mkF m 0 #[.val (.ref x0), .val (.ref x1)] [] := by first | (simp [entryFrame, mkF, argsToLocals, Value.category]; done) | rfl
theorem d_jdk_42_method_3_0 : decode jdk_42_method_3_code 0 = .ok (.aload_n 0, 1) := by decide +kernel
theorem d_jdk_42_method_3_1 : decode jdk_42_method_3_code 1 = .ok (.aload_n 1, 1) := by decide +kernel
theorem d_jdk_42_method_3_2 : decode jdk_42_method_3_code 2 = .ok (.iconst 0, 1) := by decide +kernel
theorem d_jdk_42_method_3_3 : decode jdk_42_method_3_code 3 = .ok (.aload_n 1, 1) := by decide +kernel
theorem d_jdk_42_method_3_4 : decode jdk_42_method_3_code 4 = .ok (.arraylength, 1) := by decide +kernel
theorem d_jdk_42_method_3_5 : decode jdk_42_method_3_code 5 = .ok (.aconst_null, 1) := by decide +kernel
theorem d_jdk_42_method_3_6 : decode jdk_42_method_3_code 6 = .ok (.invokespecial 27, 3) := by decide +kernel
theorem pd__28__5b_CIILjava_2f_lang_2f_Void_3b__29_V : parseMethodDescriptor "([CIILjava/lang/Void;)V" = some ⟨[(.array .char), .int, .int, (.object "java/lang/Void")], none⟩ := by decide +kernel
theorem d_jdk_42_method_3_9 : decode jdk_42_method_3_code 9 = .ok (.return_, 1) := by decide +kernel
abbrev yn20 : MethodName := ⟨"java/lang/String", "<init>", "([C)V"⟩
theorem ef_pcheckFT (m : MethodId) (x0 : Int32) (x1 : Int32) (x2 : Int32) (x3 : Value) (hx3 : x3.category = 1) : entryFrame m #[(.int x0), (.int x1), (.int x2), x3] 4 = mkF m 0 #[.val (.int x0), .val (.int x1), .val (.int x2), .val x3] [] := by first | (simp [entryFrame, mkF, argsToLocals, Value.category, hx3]; done) | rfl | (cases x3 <;> first | rfl | (simp [Value.category] at hx3))
theorem d_jdk_41_method_12_0 : decode jdk_41_method_12_code 0 = .ok (.iload_n 0, 1) := by decide +kernel
theorem d_jdk_41_method_12_1 : decode jdk_41_method_12_code 1 = .ok (.ifCond .lt 13, 3) := by decide +kernel
theorem d_jdk_41_method_12_4 : decode jdk_41_method_12_code 4 = .ok (.iload_n 0, 1) := by decide +kernel
theorem d_jdk_41_method_12_5 : decode jdk_41_method_12_code 5 = .ok (.iload_n 1, 1) := by decide +kernel
theorem d_jdk_41_method_12_6 : decode jdk_41_method_12_code 6 = .ok (.if_icmp .gt 8, 3) := by decide +kernel
theorem d_jdk_41_method_12_9 : decode jdk_41_method_12_code 9 = .ok (.iload_n 1, 1) := by decide +kernel
theorem d_jdk_41_method_12_10 : decode jdk_41_method_12_code 10 = .ok (.iload_n 2, 1) := by decide +kernel
theorem d_jdk_41_method_12_11 : decode jdk_41_method_12_code 11 = .ok (.if_icmp .le 11, 3) := by decide +kernel
theorem d_jdk_41_method_12_22 : decode jdk_41_method_12_code 22 = .ok (.iload_n 0, 1) := by decide +kernel
theorem d_jdk_41_method_12_23 : decode jdk_41_method_12_code 23 = .ok (.ireturn, 1) := by decide +kernel
abbrev yn21 : MethodName := ⟨"jdk/internal/util/Preconditions", "checkFromToIndex", "(IIILjava/util/function/BiFunction;)I"⟩
theorem ef_scheckBE (m : MethodId) (x0 : Int32) (x1 : Int32) (x2 : Int32) : entryFrame m #[(.int x0), (.int x1), (.int x2)] 3 = mkF m 0 #[.val (.int x0), .val (.int x1), .val (.int x2)] [] := by first | (simp [entryFrame, mkF, argsToLocals, Value.category]; done) | rfl
theorem d_jdk_42_method_158_0 : decode jdk_42_method_158_code 0 = .ok (.iload_n 0, 1) := by decide +kernel
theorem d_jdk_42_method_158_1 : decode jdk_42_method_158_code 1 = .ok (.iload_n 1, 1) := by decide +kernel
theorem d_jdk_42_method_158_2 : decode jdk_42_method_158_code 2 = .ok (.iload_n 2, 1) := by decide +kernel
theorem d_jdk_42_method_158_3 : decode jdk_42_method_158_code 3 = .ok (.getstatic 1053, 3) := by decide +kernel
theorem d_jdk_42_method_158_6 : decode jdk_42_method_158_code 6 = .ok (.invokestatic 1062, 3) := by decide +kernel
theorem pd__28_IIILjava_2f_util_2f_function_2f_BiFunction_3b__29_I : parseMethodDescriptor "(IIILjava/util/function/BiFunction;)I" = some ⟨[.int, .int, .int, (.object "java/util/function/BiFunction")], some .int⟩ := by decide +kernel
theorem d_jdk_42_method_158_9 : decode jdk_42_method_158_code 9 = .ok (.pop, 1) := by decide +kernel
theorem d_jdk_42_method_158_10 : decode jdk_42_method_158_code 10 = .ok (.return_, 1) := by decide +kernel
abbrev yn22 : MethodName := ⟨"java/lang/String", "checkBoundsBeginEnd", "(III)V"⟩
theorem ef_pcheckFIS (m : MethodId) (x0 : Int32) (x1 : Int32) (x2 : Int32) (x3 : Value) (hx3 : x3.category = 1) : entryFrame m #[(.int x0), (.int x1), (.int x2), x3] 4 = mkF m 0 #[.val (.int x0), .val (.int x1), .val (.int x2), .val x3] [] := by first | (simp [entryFrame, mkF, argsToLocals, Value.category, hx3]; done) | rfl | (cases x3 <;> first | rfl | (simp [Value.category] at hx3))
theorem d_jdk_41_method_13_0 : decode jdk_41_method_13_code 0 = .ok (.iload_n 2, 1) := by decide +kernel
theorem d_jdk_41_method_13_1 : decode jdk_41_method_13_code 1 = .ok (.iload_n 0, 1) := by decide +kernel
theorem d_jdk_41_method_13_2 : decode jdk_41_method_13_code 2 = .ok (.ior, 1) := by decide +kernel
theorem d_jdk_41_method_13_3 : decode jdk_41_method_13_code 3 = .ok (.iload_n 1, 1) := by decide +kernel
theorem d_jdk_41_method_13_4 : decode jdk_41_method_13_code 4 = .ok (.ior, 1) := by decide +kernel
theorem d_jdk_41_method_13_5 : decode jdk_41_method_13_code 5 = .ok (.ifCond .lt 10, 3) := by decide +kernel
theorem d_jdk_41_method_13_8 : decode jdk_41_method_13_code 8 = .ok (.iload_n 1, 1) := by decide +kernel
theorem d_jdk_41_method_13_9 : decode jdk_41_method_13_code 9 = .ok (.iload_n 2, 1) := by decide +kernel
theorem d_jdk_41_method_13_10 : decode jdk_41_method_13_code 10 = .ok (.iload_n 0, 1) := by decide +kernel
theorem d_jdk_41_method_13_11 : decode jdk_41_method_13_code 11 = .ok (.isub, 1) := by decide +kernel
theorem d_jdk_41_method_13_12 : decode jdk_41_method_13_code 12 = .ok (.if_icmp .le 11, 3) := by decide +kernel
theorem d_jdk_41_method_13_23 : decode jdk_41_method_13_code 23 = .ok (.iload_n 0, 1) := by decide +kernel
theorem d_jdk_41_method_13_24 : decode jdk_41_method_13_code 24 = .ok (.ireturn, 1) := by decide +kernel
abbrev yn23 : MethodName := ⟨"jdk/internal/util/Preconditions", "checkFromIndexSize", "(IIILjava/util/function/BiFunction;)I"⟩
theorem ef_scheckOC (m : MethodId) (x0 : Int32) (x1 : Int32) (x2 : Int32) : entryFrame m #[(.int x0), (.int x1), (.int x2)] 3 = mkF m 0 #[.val (.int x0), .val (.int x1), .val (.int x2)] [] := by first | (simp [entryFrame, mkF, argsToLocals, Value.category]; done) | rfl
theorem d_jdk_42_method_157_0 : decode jdk_42_method_157_code 0 = .ok (.iload_n 0, 1) := by decide +kernel
theorem d_jdk_42_method_157_1 : decode jdk_42_method_157_code 1 = .ok (.iload_n 1, 1) := by decide +kernel
theorem d_jdk_42_method_157_2 : decode jdk_42_method_157_code 2 = .ok (.iload_n 2, 1) := by decide +kernel
theorem d_jdk_42_method_157_3 : decode jdk_42_method_157_code 3 = .ok (.getstatic 1053, 3) := by decide +kernel
theorem d_jdk_42_method_157_6 : decode jdk_42_method_157_code 6 = .ok (.invokestatic 1065, 3) := by decide +kernel
theorem d_jdk_42_method_157_9 : decode jdk_42_method_157_code 9 = .ok (.ireturn, 1) := by decide +kernel
abbrev yn24 : MethodName := ⟨"java/lang/String", "checkBoundsOffCount", "(III)I"⟩
theorem ef_u16checkOC (m : MethodId) (x0 : Int32) (x1 : Int32) (x2 : Addr) : entryFrame m #[(.int x0), (.int x1), (.ref x2)] 3 = mkF m 0 #[.val (.int x0), .val (.int x1), .val (.ref x2)] [] := by first | (simp [entryFrame, mkF, argsToLocals, Value.category]; done) | rfl
theorem d_jdk_52_method_94_0 : decode jdk_52_method_94_code 0 = .ok (.iload_n 0, 1) := by decide +kernel
theorem d_jdk_52_method_94_1 : decode jdk_52_method_94_code 1 = .ok (.iload_n 1, 1) := by decide +kernel
theorem d_jdk_52_method_94_2 : decode jdk_52_method_94_code 2 = .ok (.aload_n 2, 1) := by decide +kernel
theorem d_jdk_52_method_94_3 : decode jdk_52_method_94_code 3 = .ok (.invokestatic 48, 3) := by decide +kernel
theorem d_jdk_52_method_94_6 : decode jdk_52_method_94_code 6 = .ok (.invokestatic 419, 3) := by decide +kernel
theorem pd__28_III_29_I : parseMethodDescriptor "(III)I" = some ⟨[.int, .int, .int], some .int⟩ := by decide +kernel
theorem d_jdk_52_method_94_9 : decode jdk_52_method_94_code 9 = .ok (.pop, 1) := by decide +kernel
theorem d_jdk_52_method_94_10 : decode jdk_52_method_94_code 10 = .ok (.return_, 1) := by decide +kernel
abbrev yn25 : MethodName := ⟨"java/lang/StringUTF16", "checkBoundsOffCount", "(II[B)V"⟩
theorem ef_checkLength (m : MethodId) (x0 : Int32) (x1 : Int32) : entryFrame m #[(.int x0), (.int x1)] 2 = mkF m 0 #[.val (.int x0), .val (.int x1)] [] := by first | (simp [entryFrame, mkF, argsToLocals, Value.category]; done) | rfl
theorem pn_java_util_Arrays : plainName "java/util/Arrays" = true := by first | (simp [plainName, overriddenIn]; done) | decide +kernel
theorem d_jdk_65_method_131_0 : decode jdk_65_method_131_code 0 = .ok (.iload_n 1, 1) := by decide +kernel
theorem d_jdk_65_method_131_1 : decode jdk_65_method_131_code 1 = .ok (.iload_n 0, 1) := by decide +kernel
theorem d_jdk_65_method_131_2 : decode jdk_65_method_131_code 2 = .ok (.if_icmp .ge 35, 3) := by decide +kernel
theorem d_jdk_65_method_131_37 : decode jdk_65_method_131_code 37 = .ok (.return_, 1) := by decide +kernel
abbrev yn26 : MethodName := ⟨"java/util/Arrays", "checkLength", "(II)V"⟩
theorem ef_mini (m : MethodId) (x0 : Int32) (x1 : Int32) : entryFrame m #[(.int x0), (.int x1)] 2 = mkF m 0 #[.val (.int x0), .val (.int x1)] [] := by first | (simp [entryFrame, mkF, argsToLocals, Value.category]; done) | rfl
theorem d_jdk_29_method_69_0 : decode jdk_29_method_69_code 0 = .ok (.iload_n 0, 1) := by decide +kernel
theorem d_jdk_29_method_69_1 : decode jdk_29_method_69_code 1 = .ok (.iload_n 1, 1) := by decide +kernel
theorem d_jdk_29_method_69_2 : decode jdk_29_method_69_code 2 = .ok (.if_icmp .gt 7, 3) := by decide +kernel
theorem d_jdk_29_method_69_9 : decode jdk_29_method_69_code 9 = .ok (.iload_n 1, 1) := by decide +kernel
theorem d_jdk_29_method_69_5 : decode jdk_29_method_69_code 5 = .ok (.iload_n 0, 1) := by decide +kernel
theorem d_jdk_29_method_69_6 : decode jdk_29_method_69_code 6 = .ok (.goto 4, 3) := by decide +kernel
theorem d_jdk_29_method_69_10 : decode jdk_29_method_69_code 10 = .ok (.ireturn, 1) := by decide +kernel
abbrev yn27 : MethodName := ⟨"java/lang/Math", "min", "(II)I"⟩
theorem ef_corb (m : MethodId) (x0 : Addr) (x1 : Int32) (x2 : Int32) : entryFrame m #[(.ref x0), (.int x1), (.int x2)] 5 = mkF m 0 #[.val (.ref x0), .val (.int x1), .val (.int x2), .unset, .unset] [] := by first | (simp [entryFrame, mkF, argsToLocals, Value.category]; done) | rfl
theorem d_jdk_65_method_133_0 : decode jdk_65_method_133_code 0 = .ok (.iload_n 1, 1) := by decide +kernel
theorem d_jdk_65_method_133_1 : decode jdk_65_method_133_code 1 = .ok (.iload_n 2, 1) := by decide +kernel
theorem d_jdk_65_method_133_2 : decode jdk_65_method_133_code 2 = .ok (.invokestatic 343, 3) := by decide +kernel
theorem d_jdk_65_method_133_5 : decode jdk_65_method_133_code 5 = .ok (.iload_n 2, 1) := by decide +kernel
theorem d_jdk_65_method_133_6 : decode jdk_65_method_133_code 6 = .ok (.iload_n 1, 1) := by decide +kernel
theorem d_jdk_65_method_133_7 : decode jdk_65_method_133_code 7 = .ok (.isub, 1) := by decide +kernel
theorem d_jdk_65_method_133_8 : decode jdk_65_method_133_code 8 = .ok (.istore_n 3, 1) := by decide +kernel
theorem d_jdk_65_method_133_9 : decode jdk_65_method_133_code 9 = .ok (.iload_n 3, 1) := by decide +kernel
theorem d_jdk_65_method_133_10 : decode jdk_65_method_133_code 10 = .ok (.newarray .byte, 2) := by decide +kernel
theorem d_jdk_65_method_133_12 : decode jdk_65_method_133_code 12 = .ok (.astore 4, 2) := by decide +kernel
theorem d_jdk_65_method_133_14 : decode jdk_65_method_133_code 14 = .ok (.aload_n 0, 1) := by decide +kernel
theorem d_jdk_65_method_133_15 : decode jdk_65_method_133_code 15 = .ok (.iload_n 1, 1) := by decide +kernel
theorem d_jdk_65_method_133_16 : decode jdk_65_method_133_code 16 = .ok (.aload 4, 2) := by decide +kernel
theorem d_jdk_65_method_133_18 : decode jdk_65_method_133_code 18 = .ok (.iconst 0, 1) := by decide +kernel
theorem d_jdk_65_method_133_19 : decode jdk_65_method_133_code 19 = .ok (.aload_n 0, 1) := by decide +kernel
theorem d_jdk_65_method_133_20 : decode jdk_65_method_133_code 20 = .ok (.arraylength, 1) := by decide +kernel
theorem d_jdk_65_method_133_21 : decode jdk_65_method_133_code 21 = .ok (.iload_n 1, 1) := by decide +kernel
theorem d_jdk_65_method_133_22 : decode jdk_65_method_133_code 22 = .ok (.isub, 1) := by decide +kernel
theorem d_jdk_65_method_133_23 : decode jdk_65_method_133_code 23 = .ok (.iload_n 3, 1) := by decide +kernel
theorem d_jdk_65_method_133_24 : decode jdk_65_method_133_code 24 = .ok (.invokestatic 304, 3) := by decide +kernel
theorem pd__28_II_29_I : parseMethodDescriptor "(II)I" = some ⟨[.int, .int], some .int⟩ := by decide +kernel
theorem d_jdk_65_method_133_27 : decode jdk_65_method_133_code 27 = .ok (.invokestatic 150, 3) := by decide +kernel
theorem d_jdk_65_method_133_30 : decode jdk_65_method_133_code 30 = .ok (.aload 4, 2) := by decide +kernel
theorem d_jdk_65_method_133_32 : decode jdk_65_method_133_code 32 = .ok (.areturn, 1) := by decide +kernel
abbrev yn28 : MethodName := ⟨"java/util/Arrays", "copyOfRangeByte", "([BII)[B"⟩
theorem ef_cor (m : MethodId) (x0 : Addr) (x1 : Int32) (x2 : Int32) : entryFrame m #[(.ref x0), (.int x1), (.int x2)] 3 = mkF m 0 #[.val (.ref x0), .val (.int x1), .val (.int x2)] [] := by first | (simp [entryFrame, mkF, argsToLocals, Value.category]; done) | rfl
theorem d_jdk_65_method_132_0 : decode jdk_65_method_132_code 0 = .ok (.iload_n 1, 1) := by decide +kernel
theorem d_jdk_65_method_132_1 : decode jdk_65_method_132_code 1 = .ok (.ifCond .ne 9, 3) := by decide +kernel
theorem d_jdk_65_method_132_4 : decode jdk_65_method_132_code 4 = .ok (.iload_n 2, 1) := by decide +kernel
theorem d_jdk_65_method_132_5 : decode jdk_65_method_132_code 5 = .ok (.aload_n 0, 1) := by decide +kernel
theorem d_jdk_65_method_132_6 : decode jdk_65_method_132_code 6 = .ok (.arraylength, 1) := by decide +kernel
theorem d_jdk_65_method_132_7 : decode jdk_65_method_132_code 7 = .ok (.if_icmp .eq 10, 3) := by decide +kernel
theorem d_jdk_65_method_132_10 : decode jdk_65_method_132_code 10 = .ok (.aload_n 0, 1) := by decide +kernel
theorem d_jdk_65_method_132_11 : decode jdk_65_method_132_code 11 = .ok (.iload_n 1, 1) := by decide +kernel
theorem d_jdk_65_method_132_12 : decode jdk_65_method_132_code 12 = .ok (.iload_n 2, 1) := by decide +kernel
theorem d_jdk_65_method_132_13 : decode jdk_65_method_132_code 13 = .ok (.invokestatic 339, 3) := by decide +kernel
theorem pd__28__5b_BII_29__5b_B : parseMethodDescriptor "([BII)[B" = some ⟨[(.array .byte), .int, .int], some (.array .byte)⟩ := by decide +kernel
theorem d_jdk_65_method_132_16 : decode jdk_65_method_132_code 16 = .ok (.areturn, 1) := by decide +kernel
abbrev yn29 : MethodName := ⟨"java/util/Arrays", "copyOfRange", "([BII)[B"⟩
theorem ef_sinitB (m : MethodId) (x0 : Addr) (x1 : Addr) (x2 : Int32) : entryFrame m #[(.ref x0), (.ref x1), (.int x2)] 3 = mkF m 0 #[.val (.ref x0), .val (.ref x1), .val (.int x2)] [] := by first | (simp [entryFrame, mkF, argsToLocals, Value.category]; done) | rfl
theorem d_jdk_42_method_151_0 : decode jdk_42_method_151_code 0 = .ok (.aload_n 0, 1) := by decide +kernel
theorem d_jdk_42_method_151_1 : decode jdk_42_method_151_code 1 = .ok (.invokespecial 1, 3) := by decide +kernel
theorem d_jdk_42_method_151_4 : decode jdk_42_method_151_code 4 = .ok (.aload_n 0, 1) := by decide +kernel
theorem d_jdk_42_method_151_5 : decode jdk_42_method_151_code 5 = .ok (.aload_n 1, 1) := by decide +kernel
theorem d_jdk_42_method_151_6 : decode jdk_42_method_151_code 6 = .ok (.putfield 9, 3) := by decide +kernel
theorem d_jdk_42_method_151_9 : decode jdk_42_method_151_code 9 = .ok (.aload_n 0, 1) := by decide +kernel
theorem d_jdk_42_method_151_10 : decode jdk_42_method_151_code 10 = .ok (.iload_n 2, 1) := by decide +kernel
theorem d_jdk_42_method_151_11 : decode jdk_42_method_151_code 11 = .ok (.putfield 15, 3) := by decide +kernel
theorem d_jdk_42_method_151_14 : decode jdk_42_method_151_code 14 = .ok (.return_, 1) := by decide +kernel
abbrev yn30 : MethodName := ⟨"java/lang/String", "<init>", "([BB)V"⟩
theorem ef_l1new (m : MethodId) (x0 : Addr) (x1 : Int32) (x2 : Int32) : entryFrame m #[(.ref x0), (.int x1), (.int x2)] 3 = mkF m 0 #[.val (.ref x0), .val (.int x1), .val (.int x2)] [] := by first | (simp [entryFrame, mkF, argsToLocals, Value.category]; done) | rfl
theorem d_jdk_43_method_47_0 : decode jdk_43_method_47_code 0 = .ok (.iload_n 2, 1) := by decide +kernel
theorem d_jdk_43_method_47_1 : decode jdk_43_method_47_code 1 = .ok (.ifCond .ne 6, 3) := by decide +kernel
theorem d_jdk_43_method_47_7 : decode jdk_43_method_47_code 7 = .ok (.new 1, 3) := by decide +kernel
theorem d_jdk_43_method_47_10 : decode jdk_43_method_47_code 10 = .ok (.dup, 1) := by decide +kernel
theorem d_jdk_43_method_47_11 : decode jdk_43_method_47_code 11 = .ok (.aload_n 0, 1) := by decide +kernel
theorem d_jdk_43_method_47_12 : decode jdk_43_method_47_code 12 = .ok (.iload_n 1, 1) := by decide +kernel
theorem d_jdk_43_method_47_13 : decode jdk_43_method_47_code 13 = .ok (.iload_n 1, 1) := by decide +kernel
theorem d_jdk_43_method_47_14 : decode jdk_43_method_47_code 14 = .ok (.iload_n 2, 1) := by decide +kernel
theorem d_jdk_43_method_47_15 : decode jdk_43_method_47_code 15 = .ok (.iadd, 1) := by decide +kernel
theorem d_jdk_43_method_47_16 : decode jdk_43_method_47_code 16 = .ok (.invokestatic 232, 3) := by decide +kernel
theorem d_jdk_43_method_47_19 : decode jdk_43_method_47_code 19 = .ok (.iconst 0, 1) := by decide +kernel
theorem d_jdk_43_method_47_20 : decode jdk_43_method_47_code 20 = .ok (.invokespecial 112, 3) := by decide +kernel
theorem pd__28__5b_BB_29_V : parseMethodDescriptor "([BB)V" = some ⟨[(.array .byte), .byte], none⟩ := by decide +kernel
theorem d_jdk_43_method_47_23 : decode jdk_43_method_47_code 23 = .ok (.areturn, 1) := by decide +kernel
abbrev yn31 : MethodName := ⟨"java/lang/StringLatin1", "newString", "([BII)Ljava/lang/String;"⟩
theorem d_jdk_52_method_22_10 : decode jdk_52_method_22_code 10 = .ok (.iload 5, 2) := by decide +kernel
theorem d_jdk_52_method_22_12 : decode jdk_52_method_22_code 12 = .ok (.iload 4, 2) := by decide +kernel
theorem d_jdk_52_method_22_14 : decode jdk_52_method_22_code 14 = .ok (.if_icmp .ge 39, 3) := by decide +kernel
theorem d_jdk_52_method_22_53 : decode jdk_52_method_22_code 53 = .ok (.iload 4, 2) := by decide +kernel
theorem d_jdk_52_method_22_55 : decode jdk_52_method_22_code 55 = .ok (.ireturn, 1) := by decide +kernel
theorem d_jdk_52_method_22_17 : decode jdk_52_method_22_code 17 = .ok (.aload_n 0, 1) := by decide +kernel
theorem d_jdk_52_method_22_18 : decode jdk_52_method_22_code 18 = .ok (.iload_n 1, 1) := by decide +kernel
theorem d_jdk_52_method_22_19 : decode jdk_52_method_22_code 19 = .ok (.invokestatic 71, 3) := by decide +kernel
theorem d_jdk_52_method_22_22 : decode jdk_52_method_22_code 22 = .ok (.istore 6, 2) := by decide +kernel
theorem d_jdk_52_method_22_24 : decode jdk_52_method_22_code 24 = .ok (.iload 6, 2) := by decide +kernel
theorem d_jdk_52_method_22_26 : decode jdk_52_method_22_code 26 = .ok (.sipush 255, 3) := by decide +kernel
theorem d_jdk_52_method_22_29 : decode jdk_52_method_22_code 29 = .ok (.if_icmp .le 6, 3) := by decide +kernel
theorem d_jdk_52_method_22_32 : decode jdk_52_method_22_code 32 = .ok (.iload 5, 2) := by decide +kernel
theorem d_jdk_52_method_22_34 : decode jdk_52_method_22_code 34 = .ok (.ireturn, 1) := by decide +kernel
theorem d_jdk_52_method_22_35 : decode jdk_52_method_22_code 35 = .ok (.aload_n 2, 1) := by decide +kernel
theorem d_jdk_52_method_22_36 : decode jdk_52_method_22_code 36 = .ok (.iload_n 3, 1) := by decide +kernel
theorem d_jdk_52_method_22_37 : decode jdk_52_method_22_code 37 = .ok (.iload 6, 2) := by decide +kernel
theorem d_jdk_52_method_22_39 : decode jdk_52_method_22_code 39 = .ok (.i2b, 1) := by decide +kernel
theorem d_jdk_52_method_22_40 : decode jdk_52_method_22_code 40 = .ok (.bastore, 1) := by decide +kernel
theorem d_jdk_52_method_22_41 : decode jdk_52_method_22_code 41 = .ok (.iinc 1 1, 3) := by decide +kernel
theorem d_jdk_52_method_22_44 : decode jdk_52_method_22_code 44 = .ok (.iinc 3 1, 3) := by decide +kernel
theorem d_jdk_52_method_22_47 : decode jdk_52_method_22_code 47 = .ok (.iinc 5 1, 3) := by decide +kernel
theorem d_jdk_52_method_22_50 : decode jdk_52_method_22_code 50 = .ok (.goto (-40), 3) := by decide +kernel
theorem ef_compress22 (m : MethodId) (x0 : Addr) (x1 : Int32) (x2 : Addr) (x3 : Int32) (x4 : Int32) : entryFrame m #[(.ref x0), (.int x1), (.ref x2), (.int x3), (.int x4)] 7 = mkF m 0 #[.val (.ref x0), .val (.int x1), .val (.ref x2), .val (.int x3), .val (.int x4), .unset, .unset] [] := by first | (simp [entryFrame, mkF, argsToLocals, Value.category]; done) | rfl
theorem d_jdk_52_method_22_0 : decode jdk_52_method_22_code 0 = .ok (.iload_n 1, 1) := by decide +kernel
theorem d_jdk_52_method_22_1 : decode jdk_52_method_22_code 1 = .ok (.iload 4, 2) := by decide +kernel
theorem d_jdk_52_method_22_3 : decode jdk_52_method_22_code 3 = .ok (.aload_n 0, 1) := by decide +kernel
theorem d_jdk_52_method_22_4 : decode jdk_52_method_22_code 4 = .ok (.invokestatic 173, 3) := by decide +kernel
theorem pd__28_II_5b_B_29_V : parseMethodDescriptor "(II[B)V" = some ⟨[.int, .int, (.array .byte)], none⟩ := by decide +kernel
theorem d_jdk_52_method_22_7 : decode jdk_52_method_22_code 7 = .ok (.iconst 0, 1) := by decide +kernel
theorem d_jdk_52_method_22_8 : decode jdk_52_method_22_code 8 = .ok (.istore 5, 2) := by decide +kernel
abbrev yn32 : MethodName := ⟨"java/lang/StringUTF16", "compress", "([BI[BII)I"⟩
theorem ef_compress17 (m : MethodId) (x0 : Addr) (x1 : Int32) (x2 : Int32) : entryFrame m #[(.ref x0), (.int x1), (.int x2)] 6 = mkF m 0 #[.val (.ref x0), .val (.int x1), .val (.int x2), .unset, .unset, .unset] [] := by first | (simp [entryFrame, mkF, argsToLocals, Value.category]; done) | rfl
theorem d_jdk_52_method_17_0 : decode jdk_52_method_17_code 0 = .ok (.iload_n 2, 1) := by decide +kernel
theorem d_jdk_52_method_17_1 : decode jdk_52_method_17_code 1 = .ok (.newarray .byte, 2) := by decide +kernel
theorem d_jdk_52_method_17_3 : decode jdk_52_method_17_code 3 = .ok (.astore_n 3, 1) := by decide +kernel
theorem d_jdk_52_method_17_4 : decode jdk_52_method_17_code 4 = .ok (.aload_n 0, 1) := by decide +kernel
theorem d_jdk_52_method_17_5 : decode jdk_52_method_17_code 5 = .ok (.iload_n 1, 1) := by decide +kernel
theorem d_jdk_52_method_17_6 : decode jdk_52_method_17_code 6 = .ok (.aload_n 3, 1) := by decide +kernel
theorem d_jdk_52_method_17_7 : decode jdk_52_method_17_code 7 = .ok (.iconst 0, 1) := by decide +kernel
theorem d_jdk_52_method_17_8 : decode jdk_52_method_17_code 8 = .ok (.iload_n 2, 1) := by decide +kernel
theorem d_jdk_52_method_17_9 : decode jdk_52_method_17_code 9 = .ok (.invokestatic 123, 3) := by decide +kernel
theorem pd__28__5b_BI_5b_BII_29_I : parseMethodDescriptor "([BI[BII)I" = some ⟨[(.array .byte), .int, (.array .byte), .int, .int], some .int⟩ := by decide +kernel
theorem d_jdk_52_method_17_12 : decode jdk_52_method_17_code 12 = .ok (.istore 4, 2) := by decide +kernel
theorem d_jdk_52_method_17_14 : decode jdk_52_method_17_code 14 = .ok (.iload 4, 2) := by decide +kernel
theorem d_jdk_52_method_17_16 : decode jdk_52_method_17_code 16 = .ok (.iload_n 2, 1) := by decide +kernel
theorem d_jdk_52_method_17_17 : decode jdk_52_method_17_code 17 = .ok (.if_icmp .eq 47, 3) := by decide +kernel
theorem d_jdk_52_method_17_64 : decode jdk_52_method_17_code 64 = .ok (.aload_n 3, 1) := by decide +kernel
theorem d_jdk_52_method_17_65 : decode jdk_52_method_17_code 65 = .ok (.areturn, 1) := by decide +kernel
theorem d_jdk_52_method_17_20 : decode jdk_52_method_17_code 20 = .ok (.aload_n 0, 1) := by decide +kernel
theorem d_jdk_52_method_17_21 : decode jdk_52_method_17_code 21 = .ok (.iload_n 1, 1) := by decide +kernel
theorem d_jdk_52_method_17_22 : decode jdk_52_method_17_code 22 = .ok (.iconst 1, 1) := by decide +kernel
theorem d_jdk_52_method_17_23 : decode jdk_52_method_17_code 23 = .ok (.ishl, 1) := by decide +kernel
theorem d_jdk_52_method_17_24 : decode jdk_52_method_17_code 24 = .ok (.iload_n 1, 1) := by decide +kernel
theorem d_jdk_52_method_17_25 : decode jdk_52_method_17_code 25 = .ok (.iload_n 2, 1) := by decide +kernel
theorem d_jdk_52_method_17_26 : decode jdk_52_method_17_code 26 = .ok (.iadd, 1) := by decide +kernel
theorem d_jdk_52_method_17_27 : decode jdk_52_method_17_code 27 = .ok (.invokestatic 11, 3) := by decide +kernel
theorem d_jdk_52_method_17_30 : decode jdk_52_method_17_code 30 = .ok (.invokestatic 126, 3) := by decide +kernel
theorem d_jdk_52_method_17_33 : decode jdk_52_method_17_code 33 = .ok (.astore 5, 2) := by decide +kernel
theorem d_jdk_52_method_17_35 : decode jdk_52_method_17_code 35 = .ok (.aload 5, 2) := by decide +kernel
theorem d_jdk_52_method_17_37 : decode jdk_52_method_17_code 37 = .ok (.iload 4, 2) := by decide +kernel
theorem d_jdk_52_method_17_39 : decode jdk_52_method_17_code 39 = .ok (.invokestatic 71, 3) := by decide +kernel
theorem d_jdk_52_method_17_42 : decode jdk_52_method_17_code 42 = .ok (.sipush 255, 3) := by decide +kernel
theorem d_jdk_52_method_17_45 : decode jdk_52_method_17_code 45 = .ok (.if_icmp .gt 16, 3) := by decide +kernel
theorem d_jdk_52_method_17_61 : decode jdk_52_method_17_code 61 = .ok (.aload 5, 2) := by decide +kernel
theorem d_jdk_52_method_17_63 : decode jdk_52_method_17_code 63 = .ok (.areturn, 1) := by decide +kernel
abbrev yn33 : MethodName := ⟨"java/lang/StringUTF16", "compress", "([BII)[B"⟩
theorem ef_u16new (m : MethodId) (x0 : Addr) (x1 : Int32) (x2 : Int32) : entryFrame m #[(.ref x0), (.int x1), (.int x2)] 5 = mkF m 0 #[.val (.ref x0), .val (.int x1), .val (.int x2), .unset, .unset] [] := by first | (simp [entryFrame, mkF, argsToLocals, Value.category]; done) | rfl
theorem d_jdk_52_method_69_0 : decode jdk_52_method_69_code 0 = .ok (.iload_n 2, 1) := by decide +kernel
theorem d_jdk_52_method_69_1 : decode jdk_52_method_69_code 1 = .ok (.ifCond .ne 7, 3) := by decide +kernel
theorem d_jdk_52_method_69_8 : decode jdk_52_method_69_code 8 = .ok (.getstatic 251, 3) := by decide +kernel
theorem d_jdk_52_method_69_11 : decode jdk_52_method_69_code 11 = .ok (.ifCond .eq 28, 3) := by decide +kernel
theorem d_jdk_52_method_69_14 : decode jdk_52_method_69_code 14 = .ok (.aload_n 0, 1) := by decide +kernel
theorem d_jdk_52_method_69_15 : decode jdk_52_method_69_code 15 = .ok (.iload_n 1, 1) := by decide +kernel
theorem d_jdk_52_method_69_16 : decode jdk_52_method_69_code 16 = .ok (.iload_n 2, 1) := by decide +kernel
theorem d_jdk_52_method_69_17 : decode jdk_52_method_69_code 17 = .ok (.invokestatic 257, 3) := by decide +kernel
theorem d_jdk_52_method_69_20 : decode jdk_52_method_69_code 20 = .ok (.astore_n 3, 1) := by decide +kernel
theorem d_jdk_52_method_69_21 : decode jdk_52_method_69_code 21 = .ok (.aload_n 3, 1) := by decide +kernel
theorem d_jdk_52_method_69_22 : decode jdk_52_method_69_code 22 = .ok (.iload_n 2, 1) := by decide +kernel
theorem d_jdk_52_method_69_23 : decode jdk_52_method_69_code 23 = .ok (.invokestatic 259, 3) := by decide +kernel
theorem d_jdk_52_method_69_26 : decode jdk_52_method_69_code 26 = .ok (.istore 4, 2) := by decide +kernel
theorem d_jdk_52_method_69_28 : decode jdk_52_method_69_code 28 = .ok (.new 3, 3) := by decide +kernel
theorem d_jdk_52_method_69_31 : decode jdk_52_method_69_code 31 = .ok (.dup, 1) := by decide +kernel
theorem d_jdk_52_method_69_32 : decode jdk_52_method_69_code 32 = .ok (.aload_n 3, 1) := by decide +kernel
theorem d_jdk_52_method_69_33 : decode jdk_52_method_69_code 33 = .ok (.iload 4, 2) := by decide +kernel
theorem d_jdk_52_method_69_35 : decode jdk_52_method_69_code 35 = .ok (.invokespecial 263, 3) := by decide +kernel
theorem d_jdk_52_method_69_38 : decode jdk_52_method_69_code 38 = .ok (.areturn, 1) := by decide +kernel
abbrev yn34 : MethodName := ⟨"java/lang/StringUTF16", "newString", "([BII)Ljava/lang/String;"⟩
theorem ef_subMid (m : MethodId) (x0 : Addr) (x1 : Int32) (x2 : Int32) : entryFrame m #[(.ref x0), (.int x1), (.int x2)] 5 = mkF m 0 #[.val (.ref x0), .val (.int x1), .val (.int x2), .unset, .unset] [] := by first | (simp [entryFrame, mkF, argsToLocals, Value.category]; done) | rfl
theorem d_jdk_42_method_92_0 : decode jdk_42_method_92_code 0 = .ok (.aload_n 0, 1) := by decide +kernel
theorem d_jdk_42_method_92_1 : decode jdk_42_method_92_code 1 = .ok (.invokevirtual 505, 3) := by decide +kernel
theorem pd__28__29_I : parseMethodDescriptor "()I" = some ⟨[], some .int⟩ := by decide +kernel
theorem d_jdk_42_method_92_4 : decode jdk_42_method_92_code 4 = .ok (.istore_n 3, 1) := by decide +kernel
theorem d_jdk_42_method_92_5 : decode jdk_42_method_92_code 5 = .ok (.iload_n 1, 1) := by decide +kernel
theorem d_jdk_42_method_92_6 : decode jdk_42_method_92_code 6 = .ok (.iload_n 2, 1) := by decide +kernel
theorem d_jdk_42_method_92_7 : decode jdk_42_method_92_code 7 = .ok (.iload_n 3, 1) := by decide +kernel
theorem d_jdk_42_method_92_8 : decode jdk_42_method_92_code 8 = .ok (.invokestatic 521, 3) := by decide +kernel
theorem pd__28_III_29_V : parseMethodDescriptor "(III)V" = some ⟨[.int, .int, .int], none⟩ := by decide +kernel
theorem d_jdk_42_method_92_11 : decode jdk_42_method_92_code 11 = .ok (.iload_n 1, 1) := by decide +kernel
theorem d_jdk_42_method_92_12 : decode jdk_42_method_92_code 12 = .ok (.ifCond .ne 10, 3) := by decide +kernel
theorem d_jdk_42_method_92_15 : decode jdk_42_method_92_code 15 = .ok (.iload_n 2, 1) := by decide +kernel
theorem d_jdk_42_method_92_16 : decode jdk_42_method_92_code 16 = .ok (.iload_n 3, 1) := by decide +kernel
theorem d_jdk_42_method_92_17 : decode jdk_42_method_92_code 17 = .ok (.if_icmp .ne 5, 3) := by decide +kernel
theorem d_jdk_42_method_92_22 : decode jdk_42_method_92_code 22 = .ok (.iload_n 2, 1) := by decide +kernel
theorem d_jdk_42_method_92_23 : decode jdk_42_method_92_code 23 = .ok (.iload_n 1, 1) := by decide +kernel
theorem d_jdk_42_method_92_24 : decode jdk_42_method_92_code 24 = .ok (.isub, 1) := by decide +kernel
theorem d_jdk_42_method_92_25 : decode jdk_42_method_92_code 25 = .ok (.istore 4, 2) := by decide +kernel
theorem d_jdk_42_method_92_27 : decode jdk_42_method_92_code 27 = .ok (.aload_n 0, 1) := by decide +kernel
theorem d_jdk_42_method_92_28 : decode jdk_42_method_92_code 28 = .ok (.invokevirtual 492, 3) := by decide +kernel
theorem d_jdk_42_method_92_31 : decode jdk_42_method_92_code 31 = .ok (.ifCond .eq 16, 3) := by decide +kernel
theorem d_jdk_42_method_92_34 : decode jdk_42_method_92_code 34 = .ok (.aload_n 0, 1) := by decide +kernel
theorem d_jdk_42_method_92_35 : decode jdk_42_method_92_code 35 = .ok (.getfield 9, 3) := by decide +kernel
theorem d_jdk_42_method_92_38 : decode jdk_42_method_92_code 38 = .ok (.iload_n 1, 1) := by decide +kernel
theorem d_jdk_42_method_92_39 : decode jdk_42_method_92_code 39 = .ok (.iload 4, 2) := by decide +kernel
theorem d_jdk_42_method_92_41 : decode jdk_42_method_92_code 41 = .ok (.invokestatic 685, 3) := by decide +kernel
theorem pd__28__5b_BII_29_Ljava_2f_lang_2f_String_3b_ : parseMethodDescriptor "([BII)Ljava/lang/String;" = some ⟨[(.array .byte), .int, .int], some (.object "java/lang/String")⟩ := by decide +kernel
theorem d_jdk_42_method_92_44 : decode jdk_42_method_92_code 44 = .ok (.goto 13, 3) := by decide +kernel
theorem d_jdk_42_method_92_57 : decode jdk_42_method_92_code 57 = .ok (.areturn, 1) := by decide +kernel
theorem d_jdk_42_method_92_47 : decode jdk_42_method_92_code 47 = .ok (.aload_n 0, 1) := by decide +kernel
theorem d_jdk_42_method_92_48 : decode jdk_42_method_92_code 48 = .ok (.getfield 9, 3) := by decide +kernel
theorem d_jdk_42_method_92_51 : decode jdk_42_method_92_code 51 = .ok (.iload_n 1, 1) := by decide +kernel
theorem d_jdk_42_method_92_52 : decode jdk_42_method_92_code 52 = .ok (.iload 4, 2) := by decide +kernel
theorem d_jdk_42_method_92_54 : decode jdk_42_method_92_code 54 = .ok (.invokestatic 689, 3) := by decide +kernel
abbrev yn35 : MethodName := ⟨"java/lang/String", "substring", "(II)Ljava/lang/String;"⟩
theorem ef_subAll (m : MethodId) (x0 : Addr) (x1 : Int32) (x2 : Int32) : entryFrame m #[(.ref x0), (.int x1), (.int x2)] 5 = mkF m 0 #[.val (.ref x0), .val (.int x1), .val (.int x2), .unset, .unset] [] := by first | (simp [entryFrame, mkF, argsToLocals, Value.category]; done) | rfl
theorem d_jdk_42_method_92_20 : decode jdk_42_method_92_code 20 = .ok (.aload_n 0, 1) := by decide +kernel
theorem d_jdk_42_method_92_21 : decode jdk_42_method_92_code 21 = .ok (.areturn, 1) := by decide +kernel
theorem ef_endsLine (m : MethodId) (x0 : Addr) (x1 : Int32) : entryFrame m #[(.ref x0), (.int x1)] 3 = mkF m 0 #[.val (.ref x0), .val (.int x1), .unset] [] := by first | (simp [entryFrame, mkF, argsToLocals, Value.category]; done) | rfl
theorem pn_com_example_vestline_vestline_input_TextFiles : plainName "com/example/vestline/vestline/input/TextFiles" = true := by first | (simp [plainName, overriddenIn]; done) | decide +kernel
theorem d_prog_12_method_5_0 : decode prog_12_method_5_code 0 = .ok (.aload_n 0, 1) := by decide +kernel
theorem d_prog_12_method_5_1 : decode prog_12_method_5_code 1 = .ok (.iload_n 1, 1) := by decide +kernel
theorem d_prog_12_method_5_2 : decode prog_12_method_5_code 2 = .ok (.invokevirtual 126, 3) := by decide +kernel
theorem pd__28_I_29_C : parseMethodDescriptor "(I)C" = some ⟨[.int], some .char⟩ := by decide +kernel
theorem d_prog_12_method_5_5 : decode prog_12_method_5_code 5 = .ok (.istore_n 2, 1) := by decide +kernel
theorem d_prog_12_method_5_6 : decode prog_12_method_5_code 6 = .ok (.iload_n 2, 1) := by decide +kernel
theorem d_prog_12_method_5_7 : decode prog_12_method_5_code 7 = .ok (.bipush 10, 2) := by decide +kernel
theorem d_prog_12_method_5_9 : decode prog_12_method_5_code 9 = .ok (.if_icmp .eq 31, 3) := by decide +kernel
theorem d_prog_12_method_5_40 : decode prog_12_method_5_code 40 = .ok (.iconst 1, 1) := by decide +kernel
theorem d_prog_12_method_5_41 : decode prog_12_method_5_code 41 = .ok (.goto 4, 3) := by decide +kernel
theorem d_prog_12_method_5_45 : decode prog_12_method_5_code 45 = .ok (.ireturn, 1) := by decide +kernel
theorem d_prog_12_method_5_12 : decode prog_12_method_5_code 12 = .ok (.iload_n 2, 1) := by decide +kernel
theorem d_prog_12_method_5_13 : decode prog_12_method_5_code 13 = .ok (.bipush 13, 2) := by decide +kernel
theorem d_prog_12_method_5_15 : decode prog_12_method_5_code 15 = .ok (.if_icmp .ne 29, 3) := by decide +kernel
theorem d_prog_12_method_5_18 : decode prog_12_method_5_code 18 = .ok (.iload_n 1, 1) := by decide +kernel
theorem d_prog_12_method_5_19 : decode prog_12_method_5_code 19 = .ok (.iconst 1, 1) := by decide +kernel
theorem d_prog_12_method_5_20 : decode prog_12_method_5_code 20 = .ok (.iadd, 1) := by decide +kernel
theorem d_prog_12_method_5_21 : decode prog_12_method_5_code 21 = .ok (.aload_n 0, 1) := by decide +kernel
theorem d_prog_12_method_5_22 : decode prog_12_method_5_code 22 = .ok (.invokevirtual 132, 3) := by decide +kernel
theorem d_prog_12_method_5_25 : decode prog_12_method_5_code 25 = .ok (.if_icmp .eq 15, 3) := by decide +kernel
theorem d_prog_12_method_5_28 : decode prog_12_method_5_code 28 = .ok (.aload_n 0, 1) := by decide +kernel
theorem d_prog_12_method_5_29 : decode prog_12_method_5_code 29 = .ok (.iload_n 1, 1) := by decide +kernel
theorem d_prog_12_method_5_30 : decode prog_12_method_5_code 30 = .ok (.iconst 1, 1) := by decide +kernel
theorem d_prog_12_method_5_31 : decode prog_12_method_5_code 31 = .ok (.iadd, 1) := by decide +kernel
theorem d_prog_12_method_5_32 : decode prog_12_method_5_code 32 = .ok (.invokevirtual 126, 3) := by decide +kernel
theorem d_prog_12_method_5_35 : decode prog_12_method_5_code 35 = .ok (.bipush 10, 2) := by decide +kernel
theorem d_prog_12_method_5_37 : decode prog_12_method_5_code 37 = .ok (.if_icmp .eq 7, 3) := by decide +kernel
theorem d_prog_12_method_5_44 : decode prog_12_method_5_code 44 = .ok (.iconst 0, 1) := by decide +kernel
abbrev yn36 : MethodName := ⟨"com/example/vestline/vestline/input/TextFiles", "endsLine", "(Ljava/lang/String;I)Z"⟩
theorem ef_l1new0 (m : MethodId) (x0 : Addr) (x1 : Int32) (x2 : Int32) : entryFrame m #[(.ref x0), (.int x1), (.int x2)] 3 = mkF m 0 #[.val (.ref x0), .val (.int x1), .val (.int x2)] [] := by first | (simp [entryFrame, mkF, argsToLocals, Value.category]; done) | rfl
theorem d_jdk_43_method_47_4 : decode jdk_43_method_47_code 4 = .ok (.ldc 151, 2) := by decide +kernel
theorem d_jdk_43_method_47_6 : decode jdk_43_method_47_code 6 = .ok (.areturn, 1) := by decide +kernel
theorem ef_u16new0 (m : MethodId) (x0 : Addr) (x1 : Int32) (x2 : Int32) : entryFrame m #[(.ref x0), (.int x1), (.int x2)] 5 = mkF m 0 #[.val (.ref x0), .val (.int x1), .val (.int x2), .unset, .unset] [] := by first | (simp [entryFrame, mkF, argsToLocals, Value.category]; done) | rfl
theorem d_jdk_52_method_69_4 : decode jdk_52_method_69_code 4 = .ok (.ldc_w 295, 3) := by decide +kernel
theorem d_jdk_52_method_69_7 : decode jdk_52_method_69_code 7 = .ok (.areturn, 1) := by decide +kernel
theorem ef_sub0 (m : MethodId) (x0 : Addr) (x1 : Int32) (x2 : Int32) : entryFrame m #[(.ref x0), (.int x2), (.int x2)] 5 = mkF m 0 #[.val (.ref x0), .val (.int x2), .val (.int x2), .unset, .unset] [] := by first | (simp [entryFrame, mkF, argsToLocals, Value.category]; done) | rfl
theorem ef_recinit (m : MethodId) (x0 : Addr) : entryFrame m #[(.ref x0)] 1 = mkF m 0 #[.val (.ref x0)] [] := by first | (simp [entryFrame, mkF, argsToLocals, Value.category]; done) | rfl
theorem pn_java_lang_Record : plainName "java/lang/Record" = true := by first | (simp [plainName, overriddenIn]; done) | decide +kernel
theorem d_jdk_30_method_1_0 : decode jdk_30_method_1_code 0 = .ok (.aload_n 0, 1) := by decide +kernel
theorem d_jdk_30_method_1_1 : decode jdk_30_method_1_code 1 = .ok (.invokespecial 1, 3) := by decide +kernel
theorem d_jdk_30_method_1_4 : decode jdk_30_method_1_code 4 = .ok (.return_, 1) := by decide +kernel
abbrev yn37 : MethodName := ⟨"java/lang/Record", "<init>", "()V"⟩
theorem ef_tpinit (m : MethodId) (x0 : Addr) (x1 : Int32) (x2 : Int32) : entryFrame m #[(.ref x0), (.int x1), (.int x2)] 3 = mkF m 0 #[.val (.ref x0), .val (.int x1), .val (.int x2)] [] := by first | (simp [entryFrame, mkF, argsToLocals, Value.category]; done) | rfl
theorem pn_com_example_vestline_vestline_input_TextPosition : plainName "com/example/vestline/vestline/input/TextPosition" = true := by first | (simp [plainName, overriddenIn]; done) | decide +kernel
theorem d_prog_13_method_1_0 : decode prog_13_method_1_code 0 = .ok (.aload_n 0, 1) := by decide +kernel
theorem d_prog_13_method_1_1 : decode prog_13_method_1_code 1 = .ok (.invokespecial 1, 3) := by decide +kernel
theorem pd__28__29_V : parseMethodDescriptor "()V" = some ⟨[], none⟩ := by decide +kernel
theorem d_prog_13_method_1_4 : decode prog_13_method_1_code 4 = .ok (.aload_n 0, 1) := by decide +kernel
theorem d_prog_13_method_1_5 : decode prog_13_method_1_code 5 = .ok (.iload_n 1, 1) := by decide +kernel
theorem d_prog_13_method_1_6 : decode prog_13_method_1_code 6 = .ok (.putfield 7, 3) := by decide +kernel
theorem d_prog_13_method_1_9 : decode prog_13_method_1_code 9 = .ok (.aload_n 0, 1) := by decide +kernel
theorem d_prog_13_method_1_10 : decode prog_13_method_1_code 10 = .ok (.iload_n 2, 1) := by decide +kernel
theorem d_prog_13_method_1_11 : decode prog_13_method_1_code 11 = .ok (.putfield 13, 3) := by decide +kernel
theorem d_prog_13_method_1_14 : decode prog_13_method_1_code 14 = .ok (.return_, 1) := by decide +kernel
abbrev yn38 : MethodName := ⟨"com/example/vestline/vestline/input/TextPosition", "<init>", "(II)V"⟩
theorem ef_line (m : MethodId) (x0 : Addr) : entryFrame m #[(.ref x0)] 1 = mkF m 0 #[.val (.ref x0)] [] := by first | (simp [entryFrame, mkF, argsToLocals, Value.category]; done) | rfl
theorem d_prog_13_method_6_0 : decode prog_13_method_6_code 0 = .ok (.aload_n 0, 1) := by decide +kernel
theorem d_prog_13_method_6_1 : decode prog_13_method_6_code 1 = .ok (.getfield 7, 3) := by decide +kernel
theorem d_prog_13_method_6_4 : decode prog_13_method_6_code 4 = .ok (.ireturn, 1) := by decide +kernel
abbrev yn39 : MethodName := ⟨"com/example/vestline/vestline/input/TextPosition", "line", "()I"⟩
theorem ef_character (m : MethodId) (x0 : Addr) : entryFrame m #[(.ref x0)] 1 = mkF m 0 #[.val (.ref x0)] [] := by first | (simp [entryFrame, mkF, argsToLocals, Value.category]; done) | rfl
theorem d_prog_13_method_7_0 : decode prog_13_method_7_code 0 = .ok (.aload_n 0, 1) := by decide +kernel
theorem d_prog_13_method_7_1 : decode prog_13_method_7_code 1 = .ok (.getfield 13, 3) := by decide +kernel
theorem d_prog_13_method_7_4 : decode prog_13_method_7_code 4 = .ok (.ireturn, 1) := by decide +kernel
abbrev yn40 : MethodName := ⟨"com/example/vestline/vestline/input/TextPosition", "character", "()I"⟩
theorem ef_after0 (m : MethodId) (x0 : Addr) (x1 : Int32) : entryFrame m #[(.ref x0), (.int x1)] 6 = mkF m 0 #[.val (.ref x0), .val (.int x1), .unset, .unset, .unset, .unset] [] := by first | (simp [entryFrame, mkF, argsToLocals, Value.category]; done) | rfl
theorem d_prog_13_method_2_0 : decode prog_13_method_2_code 0 = .ok (.aload_n 0, 1) := by decide +kernel
theorem d_prog_13_method_2_1 : decode prog_13_method_2_code 1 = .ok (.iconst 0, 1) := by decide +kernel
theorem d_prog_13_method_2_2 : decode prog_13_method_2_code 2 = .ok (.iload_n 1, 1) := by decide +kernel
theorem d_prog_13_method_2_3 : decode prog_13_method_2_code 3 = .ok (.invokevirtual 16, 3) := by decide +kernel
theorem pd__28_II_29_Ljava_2f_lang_2f_String_3b_ : parseMethodDescriptor "(II)Ljava/lang/String;" = some ⟨[.int, .int], some (.object "java/lang/String")⟩ := by decide +kernel
theorem d_prog_13_method_2_6 : decode prog_13_method_2_code 6 = .ok (.astore_n 2, 1) := by decide +kernel
theorem d_prog_13_method_2_7 : decode prog_13_method_2_code 7 = .ok (.iconst 1, 1) := by decide +kernel
theorem d_prog_13_method_2_8 : decode prog_13_method_2_code 8 = .ok (.istore_n 3, 1) := by decide +kernel
theorem d_prog_13_method_2_9 : decode prog_13_method_2_code 9 = .ok (.iconst 0, 1) := by decide +kernel
theorem d_prog_13_method_2_10 : decode prog_13_method_2_code 10 = .ok (.istore 4, 2) := by decide +kernel
theorem d_prog_13_method_2_12 : decode prog_13_method_2_code 12 = .ok (.iconst 0, 1) := by decide +kernel
theorem d_prog_13_method_2_13 : decode prog_13_method_2_code 13 = .ok (.istore 5, 2) := by decide +kernel
theorem d_prog_13_method_2_15 : decode prog_13_method_2_code 15 = .ok (.iload 5, 2) := by decide +kernel
theorem d_prog_13_method_2_17 : decode prog_13_method_2_code 17 = .ok (.iload_n 1, 1) := by decide +kernel
theorem d_prog_13_method_2_18 : decode prog_13_method_2_code 18 = .ok (.if_icmp .ge 27, 3) := by decide +kernel
theorem d_prog_13_method_2_45 : decode prog_13_method_2_code 45 = .ok (.new 8, 3) := by decide +kernel
theorem d_prog_13_method_2_48 : decode prog_13_method_2_code 48 = .ok (.dup, 1) := by decide +kernel
theorem d_prog_13_method_2_49 : decode prog_13_method_2_code 49 = .ok (.iload_n 3, 1) := by decide +kernel
theorem d_prog_13_method_2_50 : decode prog_13_method_2_code 50 = .ok (.iload_n 1, 1) := by decide +kernel
theorem d_prog_13_method_2_51 : decode prog_13_method_2_code 51 = .ok (.iload 4, 2) := by decide +kernel
theorem d_prog_13_method_2_53 : decode prog_13_method_2_code 53 = .ok (.isub, 1) := by decide +kernel
theorem d_prog_13_method_2_54 : decode prog_13_method_2_code 54 = .ok (.invokespecial 28, 3) := by decide +kernel
theorem d_prog_13_method_2_57 : decode prog_13_method_2_code 57 = .ok (.areturn, 1) := by decide +kernel
abbrev yn41 : MethodName := ⟨"com/example/vestline/vestline/input/TextPosition", "after", "(Ljava/lang/String;I)Lcom/example/vestline/vestline/input/TextPosition;"⟩
theorem ef_after1 (m : MethodId) (x0 : Addr) (x1 : Int32) : entryFrame m #[(.ref x0), (.int x1)] 6 = mkF m 0 #[.val (.ref x0), .val (.int x1), .unset, .unset, .unset, .unset] [] := by first | (simp [entryFrame, mkF, argsToLocals, Value.category]; done) | rfl
theorem d_prog_13_method_2_21 : decode prog_13_method_2_code 21 = .ok (.aload_n 2, 1) := by decide +kernel
theorem d_prog_13_method_2_22 : decode prog_13_method_2_code 22 = .ok (.iload 5, 2) := by decide +kernel
theorem d_prog_13_method_2_24 : decode prog_13_method_2_code 24 = .ok (.invokestatic 22, 3) := by decide +kernel
theorem pd__28_Ljava_2f_lang_2f_String_3b_I_29_Z : parseMethodDescriptor "(Ljava/lang/String;I)Z" = some ⟨[(.object "java/lang/String"), .int], some .boolean⟩ := by decide +kernel
theorem d_prog_13_method_2_27 : decode prog_13_method_2_code 27 = .ok (.ifCond .eq 12, 3) := by decide +kernel
theorem d_prog_13_method_2_30 : decode prog_13_method_2_code 30 = .ok (.iinc 3 1, 3) := by decide +kernel
theorem d_prog_13_method_2_33 : decode prog_13_method_2_code 33 = .ok (.iload 5, 2) := by decide +kernel
theorem d_prog_13_method_2_35 : decode prog_13_method_2_code 35 = .ok (.iconst 1, 1) := by decide +kernel
theorem d_prog_13_method_2_36 : decode prog_13_method_2_code 36 = .ok (.iadd, 1) := by decide +kernel
theorem d_prog_13_method_2_37 : decode prog_13_method_2_code 37 = .ok (.istore 4, 2) := by decide +kernel
theorem d_prog_13_method_2_39 : decode prog_13_method_2_code 39 = .ok (.iinc 5 1, 3) := by decide +kernel
theorem d_prog_13_method_2_42 : decode prog_13_method_2_code 42 = .ok (.goto (-27), 3) := by decide +kernel
theorem ef_after2 (m : MethodId) (x0 : Addr) (x1 : Int32) : entryFrame m #[(.ref x0), (.int x1)] 6 = mkF m 0 #[.val (.ref x0), .val (.int x1), .unset, .unset, .unset, .unset] [] := by first | (simp [entryFrame, mkF, argsToLocals, Value.category]; done) | rfl
theorem ef_after3 (m : MethodId) (x0 : Addr) (x1 : Int32) : entryFrame m #[(.ref x0), (.int x1)] 6 = mkF m 0 #[.val (.ref x0), .val (.int x1), .unset, .unset, .unset, .unset] [] := by first | (simp [entryFrame, mkF, argsToLocals, Value.category]; done) | rfl
theorem ef_after4 (m : MethodId) (x0 : Addr) (x1 : Int32) : entryFrame m #[(.ref x0), (.int x1)] 6 = mkF m 0 #[.val (.ref x0), .val (.int x1), .unset, .unset, .unset, .unset] [] := by first | (simp [entryFrame, mkF, argsToLocals, Value.category]; done) | rfl
theorem ef_endsNo (m : MethodId) (x0 : Addr) (x1 : Int32) (x2 : Int32) : entryFrame m #[(.ref x0), (.int x1), (.int x2)] 3 = mkF m 0 #[.val (.ref x0), .val (.int x1), .val (.int x2)] [] := by first | (simp [entryFrame, mkF, argsToLocals, Value.category]; done) | rfl
theorem d_method_3_0 : decode method_3_code 0 = .ok (.iload_n 1, 1) := by decide +kernel
theorem d_method_3_1 : decode method_3_code 1 = .ok (.iload_n 2, 1) := by decide +kernel
theorem d_method_3_2 : decode method_3_code 2 = .ok (.if_icmp .lt 5, 3) := by decide +kernel
theorem d_method_3_5 : decode method_3_code 5 = .ok (.iconst 0, 1) := by decide +kernel
theorem d_method_3_6 : decode method_3_code 6 = .ok (.ireturn, 1) := by decide +kernel
abbrev yn42 : MethodName := ⟨"com/example/vestline/vestline/input/TextPositionAfterPinLaw", "ends", "([CII)Z"⟩
theorem ef_endsYes (m : MethodId) (x0 : Addr) (x1 : Int32) (x2 : Int32) : entryFrame m #[(.ref x0), (.int x1), (.int x2)] 3 = mkF m 0 #[.val (.ref x0), .val (.int x1), .val (.int x2)] [] := by first | (simp [entryFrame, mkF, argsToLocals, Value.category]; done) | rfl
theorem d_method_3_7 : decode method_3_code 7 = .ok (.aload_n 0, 1) := by decide +kernel
theorem d_method_3_8 : decode method_3_code 8 = .ok (.iload_n 1, 1) := by decide +kernel
theorem d_method_3_9 : decode method_3_code 9 = .ok (.caload, 1) := by decide +kernel
theorem d_method_3_10 : decode method_3_code 10 = .ok (.bipush 10, 2) := by decide +kernel
theorem d_method_3_12 : decode method_3_code 12 = .ok (.if_icmp .ne 5, 3) := by decide +kernel
theorem d_method_3_15 : decode method_3_code 15 = .ok (.iconst 1, 1) := by decide +kernel
theorem d_method_3_16 : decode method_3_code 16 = .ok (.ireturn, 1) := by decide +kernel
theorem d_method_3_17 : decode method_3_code 17 = .ok (.aload_n 0, 1) := by decide +kernel
theorem d_method_3_18 : decode method_3_code 18 = .ok (.iload_n 1, 1) := by decide +kernel
theorem d_method_3_19 : decode method_3_code 19 = .ok (.caload, 1) := by decide +kernel
theorem d_method_3_20 : decode method_3_code 20 = .ok (.bipush 13, 2) := by decide +kernel
theorem d_method_3_22 : decode method_3_code 22 = .ok (.if_icmp .ne 28, 3) := by decide +kernel
theorem d_method_3_25 : decode method_3_code 25 = .ok (.iload_n 1, 1) := by decide +kernel
theorem d_method_3_26 : decode method_3_code 26 = .ok (.iconst 1, 1) := by decide +kernel
theorem d_method_3_27 : decode method_3_code 27 = .ok (.iadd, 1) := by decide +kernel
theorem d_method_3_28 : decode method_3_code 28 = .ok (.iload_n 2, 1) := by decide +kernel
theorem d_method_3_29 : decode method_3_code 29 = .ok (.if_icmp .ne 5, 3) := by decide +kernel
theorem d_method_3_32 : decode method_3_code 32 = .ok (.iconst 1, 1) := by decide +kernel
theorem d_method_3_33 : decode method_3_code 33 = .ok (.ireturn, 1) := by decide +kernel
theorem d_method_3_34 : decode method_3_code 34 = .ok (.aload_n 0, 1) := by decide +kernel
theorem d_method_3_35 : decode method_3_code 35 = .ok (.iload_n 1, 1) := by decide +kernel
theorem d_method_3_36 : decode method_3_code 36 = .ok (.iconst 1, 1) := by decide +kernel
theorem d_method_3_37 : decode method_3_code 37 = .ok (.iadd, 1) := by decide +kernel
theorem d_method_3_38 : decode method_3_code 38 = .ok (.caload, 1) := by decide +kernel
theorem d_method_3_39 : decode method_3_code 39 = .ok (.bipush 10, 2) := by decide +kernel
theorem d_method_3_41 : decode method_3_code 41 = .ok (.if_icmp .eq 7, 3) := by decide +kernel
theorem d_method_3_48 : decode method_3_code 48 = .ok (.iconst 0, 1) := by decide +kernel
theorem d_method_3_49 : decode method_3_code 49 = .ok (.ireturn, 1) := by decide +kernel
theorem d_method_3_44 : decode method_3_code 44 = .ok (.iconst 1, 1) := by decide +kernel
theorem d_method_3_45 : decode method_3_code 45 = .ok (.goto 4, 3) := by decide +kernel
theorem d_method_3_50 : decode method_3_code 50 = .ok (.iconst 0, 1) := by decide +kernel
theorem d_method_3_51 : decode method_3_code 51 = .ok (.ireturn, 1) := by decide +kernel
theorem ef_law (m : MethodId) (x0 : Int32) (x1 : Int32) (x2 : Int32) (x3 : Int32) (x4 : Int32) : entryFrame m #[(.int x0), (.int x1), (.int x2), (.int x3), (.int x4)] maxLocals = mkF m 0 #[.val (.int x0), .val (.int x1), .val (.int x2), .val (.int x3), .val (.int x4), .unset, .unset, .unset, .unset, .unset, .unset, .unset, .unset, .unset, .unset] [] := by first | (simp [entryFrame, mkF, argsToLocals, Value.category, maxLocals]; done) | rfl
theorem pd__28__5b_C_29_V : parseMethodDescriptor "([C)V" = some ⟨[(.array .char)], none⟩ := by decide +kernel
theorem pd__28__5b_CII_29_Z : parseMethodDescriptor "([CII)Z" = some ⟨[(.array .char), .int, .int], some .boolean⟩ := by decide +kernel
theorem pd__28_Ljava_2f_lang_2f_String_3b_I_29_Lcom_2f_example_2f_vestline_2f_vestline_2f_input_2f_TextPosition_3b_ : parseMethodDescriptor "(Ljava/lang/String;I)Lcom/example/vestline/vestline/input/TextPosition;" = some ⟨[(.object "java/lang/String"), .int], some (.object "com/example/vestline/vestline/input/TextPosition")⟩ := by decide +kernel
theorem own_wS {a0 : Array Value} {Z : State} (hw : HW a0 Z) : ∀ a ∈ Bundle.stringAtoms, a.before a0 Z = true := by
  intro d hd
  simp only [Bundle.stringAtoms, List.mem_cons, List.not_mem_nil, or_false] at hd
  rcases hd with rfl | rfl | rfl | rfl | rfl | rfl | rfl
  · exact (w8 hw)
  · exact (w7 hw)
  · exact (w24 hw)
  · exact (w34 hw)
  · exact (w32 hw)
  · exact (w76 hw)
  · exact (w77 hw)
theorem own_rw {s t : State} {o : Outcome} {L : List Loc} {k n k' n' : Nat} (h : ReturnedEndW s o t L k n) (hk : k ≤ k') (hn : n ≤ n') : ReturnedEndW s o t L k' n' := ⟨h.1, h.2.1, h.2.2.1, h.2.2.2.mono hk hn⟩
/- numbers -/
theorem own_i {n : Nat} (h : n < 2147483648) : (Int32.ofNat n).toInt = n := len_toInt h
theorem own_lt {i n : Nat} (h : i < n) (hn : n < 2147483648) : Int32.ofNat i < Int32.ofNat n := by
  rw [Int32.lt_iff_toInt_lt, own_i (Nat.lt_trans h hn), own_i hn]; omega
theorem own_nlt {i n : Nat} (h : n ≤ i) (hi : i < 2147483648) : ¬ (Int32.ofNat i < Int32.ofNat n) := by
  rw [Int32.lt_iff_toInt_lt, own_i hi, own_i (Nat.lt_of_le_of_lt h hi)]; omega
theorem own_nneg {i : Nat} (hi : i < 2147483648) : ¬ (Int32.ofNat i < (0 : Int32)) := by
  rw [Int32.lt_iff_toInt_lt, own_i hi]; have : (0 : Int32).toInt = 0 := rfl; omega
theorem own_cl {i : Nat} (hi : i < 2147483648) : (Int32.ofNat i).toNatClampNeg = i := by
  have h := own_i hi; simp only [Int32.toNatClampNeg, h]; omega
theorem own_succ (i : Nat) : Int32.ofNat i + (1 : Int32) = Int32.ofNat (i + 1) := (Int32.ofNat_add i 1).symm
theorem own_shl1 {i : Nat} (hi : 2 * i < 2147483648) : (Int32.ofNat i <<< ((1 : Int32) &&& 31)) = Int32.ofNat (2 * i) := by
  apply Int32.toInt_inj.mp
  have h := c_ishl (Int32.ofNat i) 1 1 rfl
  have r := rng32 (Int32.ofNat i <<< ((1 : Int32) &&& 31))
  rw [own_i (by omega)] at h; rw [own_i hi]; omega
theorem own_shr1 {i : Nat} (hi : 2 * i < 2147483648) : (Int32.ofNat (2 * i) >>> ((1 : Int32) &&& 31)) = Int32.ofNat i := by
  apply Int32.toInt_inj.mp
  have h := c_ishr (Int32.ofNat (2 * i)) 1 1 rfl
  rw [own_i hi] at h; rw [own_i (by omega)]; omega
theorem own_narb (x : Int32) : nar .byte (x.toInt8.toInt32) = x.toInt8.toInt32 := by simp [nar]
/- strings -/
def lat (cs : List Int32) : Bool := cs.all fun c => decide (¬ (255 : Int32) < c)
def fl : List Int32 → Nat
  | [] => 0
  | c :: r => if (255 : Int32) < c then 0 else fl r + 1
def l1 (cs : List Int32) : List Value := cs.map fun c => .int (c.toInt8.toInt32)
def u16 : List Int32 → List Value
  | [] => []
  | c :: r => .int ((c >>> ((0 : Int32) &&& 31)).toInt8.toInt32) :: .int ((c >>> ((8 : Int32) &&& 31)).toInt8.toInt32) :: u16 r
def cdr (cs : List Int32) : Int32 := if lat cs = true then 0 else 1
def blen (cs : List Int32) : Nat := if lat cs = true then cs.length else 2 * cs.length
def enc (cs : List Int32) : List Value := if lat cs = true then l1 cs else u16 cs
def OkS (cs : List Int32) : Prop := (∀ c ∈ cs, ¬ (c < (0 : Int32)) ∧ ¬ ((65535 : Int32) < c)) ∧ cs.length < 1048576
theorem lat_cons (c : Int32) (r : List Int32) : lat (c :: r) = true ↔ ¬ (255 : Int32) < c ∧ lat r = true := by simp [lat]
theorem fl_le : ∀ cs : List Int32, fl cs ≤ cs.length
  | [] => Nat.le_refl _
  | c :: r => by
    show (if (255 : Int32) < c then 0 else fl r + 1) ≤ r.length + 1
    have := fl_le r; split <;> omega
theorem fl_lat : ∀ {cs : List Int32}, lat cs = true → fl cs = cs.length
  | [], _ => rfl
  | c :: r, h => by
    obtain ⟨h1, h2⟩ := (lat_cons c r).mp h
    show (if (255 : Int32) < c then 0 else fl r + 1) = r.length + 1
    rw [if_neg h1, fl_lat h2]
theorem fl_nlat : ∀ {cs : List Int32}, ¬ lat cs = true → fl cs < cs.length ∧ (255 : Int32) < cs.getD (fl cs) 0
  | [], h => absurd rfl h
  | c :: r, h => by
    by_cases q : (255 : Int32) < c
    · have e : fl (c :: r) = 0 := if_pos q
      rw [e]; exact ⟨Nat.succ_pos _, q⟩
    · have e : fl (c :: r) = fl r + 1 := if_neg q
      have := fl_nlat (cs := r) fun z => h ((lat_cons c r).mpr ⟨q, z⟩)
      rw [e]; exact ⟨Nat.succ_lt_succ this.1, by simpa using this.2⟩
theorem fl_ne {cs : List Int32} (h : fl cs = cs.length) : lat cs = true := by
  by_cases q : lat cs = true
  · exact q
  · exact absurd h (Nat.ne_of_lt (fl_nlat q).1)
theorem fl_app : ∀ {pre : List Int32} (suf : List Int32), lat pre = true → fl (pre ++ suf) = pre.length + fl suf
  | [], suf, _ => by simp
  | c :: r, suf, h => by
    obtain ⟨h1, h2⟩ := (lat_cons c r).mp h
    show (if (255 : Int32) < c then 0 else fl (r ++ suf) + 1) = r.length + 1 + fl suf
    rw [if_neg h1, fl_app suf h2]; omega
theorem lat_snoc {pre : List Int32} {c : Int32} (h : lat pre = true) (hc : ¬ (255 : Int32) < c) : lat (pre ++ [c]) = true := by
  simp only [lat, List.all_append, Bool.and_eq_true]; exact ⟨h, by simpa using hc⟩
theorem l1_snoc (pre : List Int32) (c : Int32) : l1 pre ++ [.int (c.toInt8.toInt32)] = l1 (pre ++ [c]) := by simp [l1]
theorem u16_app : ∀ (pre suf : List Int32), u16 (pre ++ suf) = u16 pre ++ u16 suf
  | [], _ => rfl
  | c :: r, suf => by show _ :: _ :: u16 (r ++ suf) = _ :: _ :: (u16 r ++ u16 suf); rw [u16_app r suf]
theorem u16_len : ∀ cs : List Int32, (u16 cs).length = 2 * cs.length
  | [] => rfl
  | c :: r => by show (u16 r).length + 1 + 1 = 2 * (r.length + 1); rw [u16_len r]; omega
theorem l1_len (cs : List Int32) : (l1 cs).length = cs.length := by simp [l1]
theorem u16_at : ∀ (cs : List Int32) (i : Nat) (d : Value), i < cs.length → (u16 cs).getD (2 * i) d = .int ((cs.getD i 0 >>> ((0 : Int32) &&& 31)).toInt8.toInt32) ∧ (u16 cs).getD (2 * i + 1) d = .int ((cs.getD i 0 >>> ((8 : Int32) &&& 31)).toInt8.toInt32)
  | [], i, _, h => absurd h (Nat.not_lt_zero _)
  | c :: r, 0, d, _ => ⟨rfl, rfl⟩
  | c :: r, i + 1, d, h => by
    have := u16_at r i d (Nat.lt_of_succ_lt_succ h)
    exact this
theorem l1_at (cs : List Int32) (i : Nat) (d : Value) (h : i < cs.length) : (l1 cs).getD i d = .int ((cs.getD i 0).toInt8.toInt32) := by
  simp [l1, List.getD, h]
theorem ch_at (cs : List Int32) (i : Nat) (d : Value) (h : i < cs.length) : (cs.map Value.int).getD i d = .int (cs.getD i 0) := by
  simp [List.getD, h]
theorem app_at (pre r : List Int32) (c d : Int32) : (pre ++ c :: r).getD pre.length d = c := by simp [List.getD]
theorem getD_mem {cs : List Int32} {i : Nat} (h : i < cs.length) : cs.getD i 0 ∈ cs := by simp [List.getD, h]
theorem OkS.at {cs : List Int32} (h : OkS cs) {i : Nat} (hi : i < cs.length) : ¬ (cs.getD i 0 < (0 : Int32)) ∧ ¬ ((65535 : Int32) < cs.getD i 0) := h.1 _ (getD_mem hi)
theorem own_rng {c : Int32} (h1 : ¬ (c < (0 : Int32))) (h2 : ¬ ((65535 : Int32) < c)) : 0 ≤ c.toInt ∧ c.toInt ≤ 65535 := by
  rw [Int32.lt_iff_toInt_lt] at h1 h2; have a : (0 : Int32).toInt = 0 := rfl; have b : (65535 : Int32).toInt = 65535 := rfl; omega
theorem own_narc {c : Int32} (h1 : ¬ (c < (0 : Int32))) (h2 : ¬ ((65535 : Int32) < c)) : nar .char c = c := by
  apply Int32.toInt_inj.mp
  have := own_rng h1 h2; have := c_i2c c; show (c.toUInt32.toUInt16.toUInt32.toInt32).toInt = _; omega
theorem own_l1c {c : Int32} (h1 : ¬ (c < (0 : Int32))) (h2 : ¬ ((255 : Int32) < c)) : nar .char ((c.toInt8.toInt32 &&& (255 : Int32)).toUInt32.toUInt16.toUInt32.toInt32) = c := by
  apply Int32.toInt_inj.mp
  rw [Int32.lt_iff_toInt_lt] at h1 h2; have a : (0 : Int32).toInt = 0 := rfl; have b : (255 : Int32).toInt = 255 := rfl
  have q1 := c_i2b c; have q2 := c_mask c.toInt8.toInt32 255 8 (by decide) rfl
  have q3 := c_i2c (c.toInt8.toInt32 &&& 255); have q4 := c_i2c ((c.toInt8.toInt32 &&& (255 : Int32)).toUInt32.toUInt16.toUInt32.toInt32)
  show (((c.toInt8.toInt32 &&& (255 : Int32)).toUInt32.toUInt16.toUInt32.toInt32).toUInt32.toUInt16.toUInt32.toInt32).toInt = _
  omega
theorem own_u16c {c : Int32} (h1 : ¬ (c < (0 : Int32))) (h2 : ¬ ((65535 : Int32) < c)) :
    nar .char ((((((c >>> ((0 : Int32) &&& 31)).toInt8.toInt32) &&& (255 : Int32)) <<< ((0 : Int32) &&& 31)) ||| ((((c >>> ((8 : Int32) &&& 31)).toInt8.toInt32) &&& (255 : Int32)) <<< ((8 : Int32) &&& 31))).toUInt32.toUInt16.toUInt32.toInt32) = c := by
  apply Int32.toInt_inj.mp
  have r := own_rng h1 h2
  have s0 := c_ishr c 0 0 rfl; have s8 := c_ishr c 8 8 rfl
  have b0 := c_i2b (c >>> ((0 : Int32) &&& 31)); have b8 := c_i2b (c >>> ((8 : Int32) &&& 31))
  have m0 := c_mask ((c >>> ((0 : Int32) &&& 31)).toInt8.toInt32) 255 8 (by decide) rfl; have m8 := c_mask ((c >>> ((8 : Int32) &&& 31)).toInt8.toInt32) 255 8 (by decide) rfl
  generalize (c >>> ((0 : Int32) &&& 31)).toInt8.toInt32 = x at *
  generalize (c >>> ((8 : Int32) &&& 31)).toInt8.toInt32 = y at *
  have l0 := c_ishl (x &&& 255) 0 0 rfl; have l8 := c_ishl (y &&& 255) 8 8 rfl
  generalize (x &&& (255 : Int32)) = x' at *
  generalize (y &&& (255 : Int32)) = y' at *
  have r0 := rng32 (x' <<< ((0 : Int32) &&& 31)); have r8 := rng32 (y' <<< ((8 : Int32) &&& 31))
  have o := c_or' (x' <<< ((0 : Int32) &&& 31)) (y' <<< ((8 : Int32) &&& 31)) 8 (by decide) 256 rfl
  have ro := rng32 ((x' <<< ((0 : Int32) &&& 31)) ||| (y' <<< ((8 : Int32) &&& 31)))
  generalize ((x' <<< ((0 : Int32) &&& 31)) ||| (y' <<< ((8 : Int32) &&& 31))) = w at *
  have q3 := c_i2c w; have q4 := c_i2c (w.toUInt32.toUInt16.toUInt32.toInt32)
  show ((w.toUInt32.toUInt16.toUInt32.toInt32).toUInt32.toUInt16.toUInt32.toInt32).toInt = _
  have o' := o (by omega) (by omega) (by omega)
  omega
theorem own_len {cs : List Int32} (h : cs.length < 1048576) : (Int32.ofNat (blen cs) >>> (cdr cs &&& 31)) = Int32.ofNat cs.length := by
  apply Int32.toInt_inj.mp
  by_cases q : lat cs = true
  · have := c_ishr (Int32.ofNat cs.length) 0 0 rfl
    simp only [blen, cdr, if_pos q]; rw [own_i (by omega)] at *; omega
  · have := c_ishr (Int32.ofNat (2 * cs.length)) 1 1 rfl
    simp only [blen, cdr, if_neg q]; rw [own_i (by omega)] at *; rw [this]; omega
theorem own_narcdr (cs : List Int32) : nar .byte (cdr cs) = cdr cs := by by_cases q : lat cs = true <;> simp only [cdr, q] <;> decide
theorem own_cdr {cs : List Int32} (h : cs.length < 1048576) : nar .byte ((((Int32.ofNat cs.length - Int32.ofNat (blen cs)).toUInt32 >>> ((31 : Int32) &&& 31).toUInt32).toInt32).toInt8.toInt32) = cdr cs := by
  by_cases q : lat cs = true
  · simp only [blen, cdr, if_pos q, Int32.sub_self]; decide
  · have n0 := (fl_nlat q).1
    simp only [blen, cdr, if_neg q]
    have e : ((Int32.ofNat cs.length - Int32.ofNat (2 * cs.length)).toUInt32 >>> ((31 : Int32) &&& 31).toUInt32).toInt32 = 1 := by
      apply Int32.toInt_inj.mp
      have s := c_isub (Int32.ofNat cs.length) (Int32.ofNat (2 * cs.length)); have r := rng32 (Int32.ofNat cs.length - Int32.ofNat (2 * cs.length))
      rw [own_i (by omega), own_i (by omega)] at s
      rw [c_iushr _ 31 31 rfl (by decide)]; have : (1 : Int32).toInt = 1 := rfl; omega
    rw [e]; decide
theorem cdr_lat {cs : List Int32} (h : cdr cs = (0 : Int32)) : lat cs = true := by
  by_cases q : lat cs = true
  · exact q
  · simp only [cdr, if_neg q] at h; exact absurd h (by decide)
theorem cdr_nlat {cs : List Int32} (h : ¬ cdr cs = (0 : Int32)) : ¬ lat cs = true := fun q => h (by simp only [cdr, if_pos q])
theorem Arv.push {Z : State} {h h' : Heap} {a : Addr} {c : Cell} {k : ClassId} {ty : FieldType} {z j : Int32} {vs : List Value} {dv v : Value} (A : Arr Z h a c ty) (q1 : c.cls = k) (S : c.slots.size = z.toNatClampNeg) (q3 : ¬ z < 0) (H : Has c vs dv) (G : ∀ i, i < c.slots.size → fits ty (vs.getD i dv) = true) (hv : fits ty v = true) (W : Wr h h' a j.toNatClampNeg v) (hj : j.toNatClampNeg = vs.length) : Arv Z h' a k ty z (vs ++ [v]) dv := by
  have F : Arv Z h a k ty z (vs ++ List.replicate 1 dv) dv := Arv.pad ⟨c, A, q1, S, q3, H, G⟩ (pad_rep vs dv 1)
  obtain ⟨c', A', r1, r2, r3, H', G'⟩ := F
  have R := Arv.set A' r1 r2 r3 H' G' hv W vs.length hj (by simp)
  have e : (vs ++ List.replicate 1 dv).set vs.length v = vs ++ [v] := by simp
  rw [e] at R; exact R
def Str (Z : State) (h : Heap) (a t : Addr) (kb : ClassId) (cs : List Int32) : Prop := Exa Z h a "java/lang/String" ∧ Fld Z h a "java/lang/String" "value" "[B" (.ref t) ∧ Fld Z h a "java/lang/String" "coder" "B" (.int (cdr cs)) ∧ Arv Z h t kb .byte (Int32.ofNat (blen cs)) (enc cs) (.int (0 : Int32)) ∧ OkS cs
theorem Str.keep {Z : State} {h h' : Heap} {a t : Addr} {kb : ClassId} {cs : List Int32} {ws : List Addr} (S : Str Z h a t kb cs) (K : Keep h h' ws) (q1 : a ∉ ws) (q2 : t ∉ ws) : Str Z h' a t kb cs := ⟨S.1.keep K, S.2.1.keep K q1, S.2.2.1.keep K q1, S.2.2.2.1.keep K q2, S.2.2.2.2⟩
theorem Str.ext {Z : State} {h h' : Heap} {a t : Addr} {kb : ClassId} {cs : List Int32} (S : Str Z h a t kb cs) (E : Ext h h') : Str Z h' a t kb cs := ⟨S.1.ext E, S.2.1.ext E, S.2.2.1.ext E, S.2.2.2.1.ext E, S.2.2.2.2⟩
theorem Str.lt {Z : State} {h : Heap} {a t : Addr} {kb : ClassId} {cs : List Int32} (S : Str Z h a t kb cs) : a < h.size := S.1.lt
theorem Str.lt2 {Z : State} {h : Heap} {a t : Addr} {kb : ClassId} {cs : List Int32} (S : Str Z h a t kb cs) : t < h.size := S.2.2.2.1.lt
theorem enc_lat {cs : List Int32} (h : lat cs = true) : enc cs = l1 cs ∧ blen cs = cs.length ∧ cdr cs = (0 : Int32) := ⟨if_pos h, if_pos h, if_pos h⟩
theorem enc_nlat {cs : List Int32} (h : ¬ lat cs = true) : enc cs = u16 cs ∧ blen cs = 2 * cs.length ∧ cdr cs = (1 : Int32) := ⟨if_neg h, if_neg h, if_neg h⟩
theorem lat_at {cs : List Int32} (h : lat cs = true) {i : Nat} (hi : i < cs.length) : ¬ ((255 : Int32) < cs.getD i 0) := by
  have := List.all_eq_true.mp h _ (getD_mem hi); simpa using this
theorem own_fitcdr (cs : List Int32) : fits .byte (.int (cdr cs)) = true := by by_cases q : lat cs = true <;> simp only [cdr, q] <;> decide
theorem own_zero {i : Nat} (hi : i < 2147483648) (h : Int32.ofNat i = (0 : Int32)) : i = 0 := by
  have q := congrArg Int32.toInt h; rw [own_i hi] at q; have z : (0 : Int32).toInt = 0 := rfl; omega
theorem own_neq {i n : Nat} (h : i ≠ n) (hi : i < 2147483648) (hn : n < 2147483648) : ¬ (Int32.ofNat i = Int32.ofNat n) := fun q => by
  have q := congrArg Int32.toInt q; rw [own_i hi, own_i hn] at q; omega
theorem own_sub {i n : Nat} (h : i ≤ n) (hn : n < 2147483648) : Int32.ofNat n - Int32.ofNat i = Int32.ofNat (n - i) := by
  apply Int32.toInt_inj.mp
  have s := c_isub (Int32.ofNat n) (Int32.ofNat i); have r := rng32 (Int32.ofNat n - Int32.ofNat i)
  rw [own_i hn, own_i (by omega)] at s; rw [own_i (by omega)]; omega
theorem own_min {i n : Nat} (h : i ≤ n) (hn : n < 2147483648) : (if Int32.ofNat i < Int32.ofNat n then Int32.ofNat i else Int32.ofNat n) = Int32.ofNat i := by
  by_cases q : i < n
  · rw [if_pos (own_lt q hn)]
  · rw [if_neg (own_nlt (by omega) (by omega))]; congr 1; omega
theorem own_or3 {i n N : Nat} (hi : i < 2147483648) (hn : n < 2147483648) (hN : N < 2147483648) : ¬ ((Int32.ofNat N ||| Int32.ofNat i) ||| Int32.ofNat n < (0 : Int32)) := by
  rw [Int32.lt_iff_toInt_lt]
  have a := (c_orS (Int32.ofNat N) (Int32.ofNat i)).1 (by rw [own_i hN]; omega) (by rw [own_i hi]; omega)
  have b := (c_orS (Int32.ofNat N ||| Int32.ofNat i) (Int32.ofNat n)).1 a (by rw [own_i hn]; omega)
  have z : (0 : Int32).toInt = 0 := rfl; omega
theorem own_slice (vs : List Value) (f n : Nat) (d : Value) (h : f + n ≤ vs.length) : (vs.drop f).take n = (List.range n).map fun i => vs.getD (f + i) d := by
  apply List.ext_getElem
  · simp; omega
  · intro i h1 h2
    simp at h1
    simp [List.getD, List.getElem?_eq_getElem (show f + i < vs.length by omega)]
theorem own_fill (us : List Value) (n : Nat) (h : us.length = n) : (List.replicate n (.int (0 : Int32)) : List Value).take 0 ++ us ++ (List.replicate n (.int (0 : Int32))).drop (0 + n) = us := by simp
theorem own_okdt {cs : List Int32} {bg n : Nat} (h : OkS cs) : OkS ((cs.drop bg).take n) := ⟨fun c hc => h.1 c (List.mem_of_mem_drop (List.mem_of_mem_take hc)), by have := h.2; simp; omega⟩
theorem own_dt {cs : List Int32} {bg n i : Nat} (h : bg + n ≤ cs.length) (hd : ((cs.drop bg).take n).length = n) (hi : i < ((cs.drop bg).take n).length) : ((cs.drop bg).take n).getD i 0 = cs.getD (bg + i) 0 := by
  rw [hd] at hi; simp [List.getD, List.getElem?_take, List.getElem?_drop, hi]
theorem l1_dt (cs : List Int32) (bg n : Nat) : ((l1 cs).drop bg).take n = l1 ((cs.drop bg).take n) := by simp [l1, List.map_take, List.map_drop]
theorem own_u16s (cs : List Int32) (bg n : Nat) : ((u16 cs).drop (2 * bg)).take (2 * n) = u16 ((cs.drop bg).take n) := by
  induction bg generalizing cs with
  | zero =>
    simp only [Nat.mul_zero, List.drop_zero]
    induction n generalizing cs with
    | zero => simp [u16]
    | succ n ih => cases cs with
      | nil => simp [u16]
      | cons c r => rw [show 2 * (n + 1) = 2 * n + 1 + 1 from by omega]; simp only [u16, List.take_succ_cons]; rw [ih]
  | succ b ih => cases cs with
    | nil => simp [u16]
    | cons c r => rw [show 2 * (b + 1) = 2 * b + 1 + 1 from by omega]; simp only [u16, List.drop_succ_cons]; exact ih r
theorem lat_dt {cs : List Int32} {bg n : Nat} (h : lat cs = true) : lat ((cs.drop bg).take n) = true := List.all_eq_true.mpr fun c hc => List.all_eq_true.mp h c (List.mem_of_mem_drop (List.mem_of_mem_take hc))
theorem own_mkL {Z : State} {h : Heap} {a t : Addr} {kb : ClassId} {cs : List Int32} {bg n : Nat} (hl : lat cs = true) (ok : OkS cs) (hn : bg + n ≤ cs.length) (E : Exa Z h a "java/lang/String") (V : Fld Z h a "java/lang/String" "value" "[B" (.ref t)) (C : Fld Z h a "java/lang/String" "coder" "B" (.int (0 : Int32))) (A : Arv Z h t kb .byte (Int32.ofNat (bg + n - bg)) (((l1 cs).drop bg).take (bg + n - bg)) (.int (0 : Int32))) : Str Z h a t kb ((cs.drop bg).take n) := by
  obtain ⟨e1, e2, e3⟩ := enc_lat (lat_dt (bg := bg) (n := n) hl)
  rw [show bg + n - bg = n from by omega, l1_dt] at A
  refine ⟨E, V, by rw [e3]; exact C, ?_, own_okdt ok⟩
  rw [e1, e2, show ((cs.drop bg).take n).length = n from by simp; omega]; exact A
def pk (x : Int32) : Int32 := if (x &&& (3 : Int32)) = (0 : Int32) then 10 else if (x &&& (3 : Int32)) = (1 : Int32) then 13 else (((x.toUInt32 >>> ((2 : Int32) &&& 31).toUInt32).toInt32) &&& (65535 : Int32)).toUInt32.toUInt16.toUInt32.toInt32
theorem own_narcc (y : Int32) : nar .char (y.toUInt32.toUInt16.toUInt32.toInt32) = y.toUInt32.toUInt16.toUInt32.toInt32 := by
  have k := c_i2c y; have a : (0 : Int32).toInt = 0 := rfl; have b : (65535 : Int32).toInt = 65535 := rfl
  exact own_narc (by rw [Int32.lt_iff_toInt_lt]; omega) (by rw [Int32.lt_iff_toInt_lt]; omega)
theorem pk_rng (x : Int32) : ¬ (pk x < (0 : Int32)) ∧ ¬ ((65535 : Int32) < pk x) := by
  unfold pk; split
  · decide
  · split
    · decide
    · have := c_i2c (((x.toUInt32 >>> ((2 : Int32) &&& 31).toUInt32).toInt32) &&& (65535 : Int32))
      have a : (0 : Int32).toInt = 0 := rfl; have b : (65535 : Int32).toInt = 65535 := rfl
      rw [Int32.lt_iff_toInt_lt, Int32.lt_iff_toInt_lt]; omega
theorem own_narpk (x : Int32) : nar .char (pk x) = pk x := own_narc (pk_rng x).1 (pk_rng x).2
theorem ok_pk (l : List Int32) (h : l.length < 1048576) : OkS (l.map pk) := ⟨fun c hc => by obtain ⟨x, -, rfl⟩ := List.mem_map.mp hc; exact pk_rng x, by simpa using h⟩
def el (cs : List Int32) (i : Nat) : Int32 := if cs.getD i 0 = (10 : Int32) then 1 else if cs.getD i 0 = (13 : Int32) then (if i + 1 = cs.length then 1 else if cs.getD (i + 1) 0 = (10 : Int32) then 0 else 1) else 0
theorem own_r5 (x : Int32) : (x &&& (2147483647 : Int32)) % (5 : Int32) = 0 ∨ (x &&& (2147483647 : Int32)) % (5 : Int32) = 1 ∨ (x &&& (2147483647 : Int32)) % (5 : Int32) = 2 ∨ (x &&& (2147483647 : Int32)) % (5 : Int32) = 3 ∨ (x &&& (2147483647 : Int32)) % (5 : Int32) = 4 := by
  have h1 := c_and x 2147483647 (by decide); have h2 := (c_irem (x &&& 2147483647) 5 5 rfl).1 h1.1
  have a : (0 : Int32).toInt = 0 := rfl; have b : (1 : Int32).toInt = 1 := rfl; have c : (2 : Int32).toInt = 2 := rfl; have d : (3 : Int32).toInt = 3 := rfl; have e : (4 : Int32).toInt = 4 := rfl
  simp only [← Int32.toInt_inj]; omega
def Q_pick (Z : State) (xx : Int32) (h0 : Heap) (n0 : Nat) (vQ_ : Option Value) (hQ_ : Heap) (LQ_ : List Loc) : Prop := vQ_ = some (.int (pk xx)) ∧ Fr n0 LQ_ ∧ hQ_ = h0
set_option maxRecDepth 65536 in
set_option maxHeartbeats 40000000 in
theorem rm_pick (l : Launch) (Z : State) (a0 : Array Value) (hw : HW a0 Z) (ws : List Jvm.Cond) (xx : Int32) (h0 : Heap) (n0 : Nat) (Z0 : n0 ≤ h0.size)  :
    MetFree l yn0 (head1 (Jvm.Cond.code yn0 method_2_code 2 (some .char) :: ws) ({ frames := 0, cells := 0, slots := 0, locals := 0 } : Room)) (fun aQ_ UQ => aQ_ = #[(.int xx)] ∧ Z.Warmed39 UQ.vm ∧ UQ.heap = h0) (fun _ _ _ _ _ => True) (fun _ UQ oQ UQ' => ∃ vQ_ LQ_, oQ = .returned vQ_ ∧ Q_pick Z xx h0 n0 vQ_ UQ'.heap LQ_ ∧ FrameEnd UQ oQ UQ' LQ_ ({ frames := 0, cells := 0, slots := 0, locals := 0 } : Room).cells ({ frames := 0, cells := 0, slots := 0, locals := 0 } : Room).slots) := by
  refine MetFree.of_bodySF (plainFor_of_name pn_com_example_vestline_vestline_input_TextPositionAfterPinLaw) hisR ?_
  intro p e s m args below meth cO s₁ Bd hml0 hP hK
  obtain ⟨rfl, hZ, hh⟩ := hP
  have hx := Bd.exec
  have hby := Bd.bytes
  have hml : cO.maxLocals = 2 := hml0
  have hown : s.vm.findClass "com/example/vestline/vestline/input/TextPositionAfterPinLaw" = some m.cls := findClass_of_methodNamed Bd.named
  have hnm := (name_of_methodNamed Bd.named Bd.method).1
  have X0 : Stand p l e ({ frames := 0, cells := 0, slots := 0, locals := 0 } : Room) s m #[(.int xx)] below meth cO s₁ [] 0 0 := Stand.of_body Bd
  have e0 : s₁.heap = h0 := by rw [← hh, Bd.state]; rfl
  have N0 := Fr.nil n0
  have W0 : ∀ zQ, SS p e below s₁ m 0 #[.val (.int xx), .unset] [] zQ → Steps p.tables e below (s₁.setTop (entryFrame m #[(.int xx)] 2)) zQ := fun tt kt => castTop (ef_pick m xx) kt
  have W101 : ∀ zQ, SS p e below s₁ m 5 #[.val (.int xx), .val (.int (xx &&& (3 : Int32)))] [(.int (xx &&& (3 : Int32)))] zQ → Steps p.tables e below (s₁.setTop (entryFrame m #[(.int xx)] 2)) zQ := by
    intro tt kt
    refine W0 tt ?_
    refine XS.iloadN X0.here hx rfl (hb hby d_method_2_0) rfl ?_
    refine XS.iconst X0.here hx rfl (hb hby d_method_2_1) ?_
    refine XS.iand X0.here hx rfl (hb hby d_method_2_2) rfl ?_
    refine XS.istoreN X0.here hx rfl (hb hby d_method_2_3) rfl (l' := #[.val (.int xx), .val (.int (xx &&& (3 : Int32)))]) rfl ?_
    refine XS.iloadN X0.here hx rfl (hb hby d_method_2_4) rfl ?_
    exact kt
  by_cases hc102 : (xx &&& (3 : Int32)) = (0 : Int32)
  ·
    have W103 : ∀ zQ, SS p e below s₁ m 10 #[.val (.int xx), .val (.int (xx &&& (3 : Int32)))] [(.int (10 : Int32))] zQ → Steps p.tables e below (s₁.setTop (entryFrame m #[(.int xx)] 2)) zQ := by
      intro tt kt
      refine W101 tt ?_
      refine XS.ifNo X0.here hx rfl (hb hby d_method_2_5) rfl ((if0 _ _).trans (teq hc102).2) ?_
      refine XS.bipush X0.here hx rfl (hb hby d_method_2_8) ?_
      exact kt
    obtain ⟨fs, hr, hrun, hended, hW, hsame⟩ := X0.leave (v := some (.int (nar .char (10 : Int32)))) (fun h => by rw [Bd.returns] at h; cases h)
    refine ⟨_, _, W103 _ (retN X0 hx (t := .char) Bd.returns (by simp) (hb hby d_method_2_10) hr), hrun, hended, _, _, rfl, ?_, ⟨_, rfl⟩, hW, hsame.mono (by decide) (by decide)⟩
    show Q_pick Z xx h0 n0 _ s₁.heap _
    rw [e0]
    exact ⟨(congrArg (fun q => some (Value.int q)) (by simp only [pk, if_pos hc102]; first | done | decide)), N0, rfl⟩
  ·
    have W104 : ∀ zQ, SS p e below s₁ m 13 #[.val (.int xx), .val (.int (xx &&& (3 : Int32)))] [(.int (1 : Int32)), (.int (xx &&& (3 : Int32)))] zQ → Steps p.tables e below (s₁.setTop (entryFrame m #[(.int xx)] 2)) zQ := by
      intro tt kt
      refine W101 tt ?_
      refine XS.ifYes X0.here hx rfl (pc0 := 5) (pc' := 11) rfl (hb hby d_method_2_5) rfl ((if0 _ _).trans (feq hc102).2) (by decide) (by decide) ?_
      refine XS.iloadN X0.here hx rfl (hb hby d_method_2_11) rfl ?_
      refine XS.iconst X0.here hx rfl (hb hby d_method_2_12) ?_
      exact kt
    by_cases hc105 : (xx &&& (3 : Int32)) = (1 : Int32)
    ·
      have W106 : ∀ zQ, SS p e below s₁ m 18 #[.val (.int xx), .val (.int (xx &&& (3 : Int32)))] [(.int (13 : Int32))] zQ → Steps p.tables e below (s₁.setTop (entryFrame m #[(.int xx)] 2)) zQ := by
        intro tt kt
        refine W104 tt ?_
        refine XS.icmpNo X0.here hx rfl (hb hby d_method_2_13) rfl (teq hc105).2 ?_
        refine XS.bipush X0.here hx rfl (hb hby d_method_2_16) ?_
        exact kt
      obtain ⟨fs, hr, hrun, hended, hW, hsame⟩ := X0.leave (v := some (.int (nar .char (13 : Int32)))) (fun h => by rw [Bd.returns] at h; cases h)
      refine ⟨_, _, W106 _ (retN X0 hx (t := .char) Bd.returns (by simp) (hb hby d_method_2_18) hr), hrun, hended, _, _, rfl, ?_, ⟨_, rfl⟩, hW, hsame.mono (by decide) (by decide)⟩
      show Q_pick Z xx h0 n0 _ s₁.heap _
      rw [e0]
      exact ⟨(congrArg (fun q => some (Value.int q)) (by simp only [pk, if_neg hc102, if_pos hc105]; first | done | decide)), N0, rfl⟩
    ·
      have W107 : ∀ zQ, SS p e below s₁ m 26 #[.val (.int xx), .val (.int (xx &&& (3 : Int32)))] [(.int ((((xx.toUInt32 >>> ((2 : Int32) &&& 31).toUInt32).toInt32) &&& (65535 : Int32)).toUInt32.toUInt16.toUInt32.toInt32))] zQ → Steps p.tables e below (s₁.setTop (entryFrame m #[(.int xx)] 2)) zQ := by
        intro tt kt
        refine W104 tt ?_
        refine XS.icmpYes X0.here hx rfl (pc0 := 13) (pc' := 19) rfl (hb hby d_method_2_13) rfl (feq hc105).2 (by decide) (by decide) ?_
        refine XS.iloadN X0.here hx rfl (hb hby d_method_2_19) rfl ?_
        refine XS.iconst X0.here hx rfl (hb hby d_method_2_20) ?_
        refine XS.iushr X0.here hx rfl (hb hby d_method_2_21) rfl ?_
        show SS p e below s₁ m 22 #[.val (.int xx), .val (.int (xx &&& (3 : Int32)))] [(.int ((xx.toUInt32 >>> ((2 : Int32) &&& 31).toUInt32).toInt32))] _
        refine X0.ldcInt hx hown (mvT hZ (w5 hw)) (g := (mkF m 22 #[.val (.int xx), .val (.int (xx &&& (3 : Int32)))] [(.int ((xx.toUInt32 >>> ((2 : Int32) &&& 31).toUInt32).toInt32))])) rfl (hb hby d_method_2_22) _ ?_
        refine XS.iand X0.here hx rfl (hb hby d_method_2_24) rfl ?_
        refine XS.i2c X0.here hx rfl (hb hby d_method_2_25) rfl ?_
        exact kt
      obtain ⟨fs, hr, hrun, hended, hW, hsame⟩ := X0.leave (v := some (.int (nar .char ((((xx.toUInt32 >>> ((2 : Int32) &&& 31).toUInt32).toInt32) &&& (65535 : Int32)).toUInt32.toUInt16.toUInt32.toInt32)))) (fun h => by rw [Bd.returns] at h; cases h)
      refine ⟨_, _, W107 _ (retN X0 hx (t := .char) Bd.returns (by simp) (hb hby d_method_2_26) hr), hrun, hended, _, _, rfl, ?_, ⟨_, rfl⟩, hW, hsame.mono (by decide) (by decide)⟩
      show Q_pick Z xx h0 n0 _ s₁.heap _
      rw [e0]
      exact ⟨(congrArg (fun q => some (Value.int q)) (by simp only [pk, if_neg hc102, if_neg hc105]; first | done | exact own_narcc _)), N0, rfl⟩
def Q_pcheck (Z : State) (j : Int32) (z : Int32) (fm : Value) (h0 : Heap) (n0 : Nat) (vQ_ : Option Value) (hQ_ : Heap) (LQ_ : List Loc) : Prop := vQ_ = some (.int j) ∧ Fr n0 LQ_ ∧ hQ_ = h0
set_option maxRecDepth 65536 in
set_option maxHeartbeats 40000000 in
theorem rm_pcheck (l : Launch) (Z : State) (a0 : Array Value) (hw : HW a0 Z) (ws : List Jvm.Cond) (j : Int32) (z : Int32) (fm : Value) (h0 : Heap) (n0 : Nat) (Z0 : n0 ≤ h0.size) (hfm : fm.isRef = true) (hj0 : ¬ (j < (0 : Int32))) (hj1 : j < z) :
    MetFree l yn1 (head1 (Jvm.Cond.code yn1 jdk_41_method_11_code 3 (some .int) :: ws) ({ frames := 0, cells := 0, slots := 0, locals := 0 } : Room)) (fun aQ_ UQ => aQ_ = #[(.int j), (.int z), fm] ∧ Z.Warmed39 UQ.vm ∧ UQ.heap = h0) (fun _ _ _ _ _ => True) (fun _ UQ oQ UQ' => ∃ vQ_ LQ_, oQ = .returned vQ_ ∧ Q_pcheck Z j z fm h0 n0 vQ_ UQ'.heap LQ_ ∧ FrameEnd UQ oQ UQ' LQ_ ({ frames := 0, cells := 0, slots := 0, locals := 0 } : Room).cells ({ frames := 0, cells := 0, slots := 0, locals := 0 } : Room).slots) := by
  refine MetFree.of_bodySF (plainFor_of_name pn_jdk_internal_util_Preconditions) hisR ?_
  intro p e s m args below meth cO s₁ Bd hml0 hP hK
  obtain ⟨rfl, hZ, hh⟩ := hP
  have hx := Bd.exec
  have hby := Bd.bytes
  have hml : cO.maxLocals = 3 := hml0
  have hown : s.vm.findClass "jdk/internal/util/Preconditions" = some m.cls := findClass_of_methodNamed Bd.named
  have hnm := (name_of_methodNamed Bd.named Bd.method).1
  have X0 : Stand p l e ({ frames := 0, cells := 0, slots := 0, locals := 0 } : Room) s m #[(.int j), (.int z), fm] below meth cO s₁ [] 0 0 := Stand.of_body Bd
  have e0 : s₁.heap = h0 := by rw [← hh, Bd.state]; rfl
  have N0 := Fr.nil n0
  have W0 : ∀ zQ, SS p e below s₁ m 0 #[.val (.int j), .val (.int z), .val fm] [] zQ → Steps p.tables e below (s₁.setTop (entryFrame m #[(.int j), (.int z), fm] 3)) zQ := fun tt kt => castTop (ef_pcheck m j z fm (XT.cat1 hfm)) kt
  have W101 : ∀ zQ, SS p e below s₁ m 17 #[.val (.int j), .val (.int z), .val fm] [(.int j)] zQ → Steps p.tables e below (s₁.setTop (entryFrame m #[(.int j), (.int z), fm] 3)) zQ := by
    intro tt kt
    refine W0 tt ?_
    refine XS.iloadN X0.here hx rfl (hb hby d_jdk_41_method_11_0) rfl ?_
    refine XS.ifNo X0.here hx rfl (hb hby d_jdk_41_method_11_1) rfl ((if0 _ _).trans (flt hj0).1) ?_
    refine XS.iloadN X0.here hx rfl (hb hby d_jdk_41_method_11_4) rfl ?_
    refine XS.iloadN X0.here hx rfl (hb hby d_jdk_41_method_11_5) rfl ?_
    refine XS.icmpYes X0.here hx rfl (pc0 := 6) (pc' := 16) rfl (hb hby d_jdk_41_method_11_6) rfl (tlt hj1).1 (by decide) (by decide) ?_
    refine XS.iloadN X0.here hx rfl (hb hby d_jdk_41_method_11_16) rfl ?_
    exact kt
  obtain ⟨fs, hr, hrun, hended, hW, hsame⟩ := X0.leave (v := some (.int j)) (fun h => by rw [Bd.returns] at h; cases h)
  refine ⟨_, _, W101 _ (retI X0 hx Bd.returns (hb hby d_jdk_41_method_11_17) hr), hrun, hended, _, _, rfl, ?_, ⟨_, rfl⟩, hW, hsame.mono (by decide) (by decide)⟩
  show Q_pcheck Z j z fm h0 n0 _ s₁.heap _
  rw [e0]
  exact ⟨rfl, N0, rfl⟩
def Q_scheck (Z : State) (j : Int32) (z : Int32) (fm : Value) (h0 : Heap) (n0 : Nat) (vQ_ : Option Value) (hQ_ : Heap) (LQ_ : List Loc) : Prop := vQ_ = none ∧ Fr n0 LQ_ ∧ hQ_ = h0
set_option maxRecDepth 65536 in
set_option maxHeartbeats 40000000 in
theorem rm_scheck (l : Launch) (Z : State) (a0 : Array Value) (hw : HW a0 Z) (ws : List Jvm.Cond) (j : Int32) (z : Int32) (fm : Value) (h0 : Heap) (n0 : Nat) (Z0 : n0 ≤ h0.size) (O0 : Old Z n0 h0) (S_fm : Sta Z Z.heap "jdk/internal/util/Preconditions" "SIOOBE_FORMATTER" "Ljava/util/function/BiFunction;" fm) (hfm : fm.isRef = true) (hj0 : ¬ (j < (0 : Int32))) (hj1 : j < z) :
    MetFree l yn2 (head1 (Jvm.Cond.code yn2 jdk_42_method_155_code 2 none :: ws) ({ frames := 1, cells := 0, slots := 0, locals := 14 } : Room)) (fun aQ_ UQ => aQ_ = #[(.int j), (.int z)] ∧ Z.Warmed39 UQ.vm ∧ UQ.heap = h0) (fun _ _ _ _ _ => True) (fun _ UQ oQ UQ' => ∃ vQ_ LQ_, oQ = .returned vQ_ ∧ Q_scheck Z j z fm h0 n0 vQ_ UQ'.heap LQ_ ∧ FrameEnd UQ oQ UQ' LQ_ ({ frames := 1, cells := 0, slots := 0, locals := 14 } : Room).cells ({ frames := 1, cells := 0, slots := 0, locals := 14 } : Room).slots) := by
  refine MetFree.of_bodySF (plainFor_of_name pn_java_lang_String) hisR ?_
  intro p e s m args below meth cO s₁ Bd hml0 hP hK
  obtain ⟨rfl, hZ, hh⟩ := hP
  have hx := Bd.exec
  have hby := Bd.bytes
  have hml : cO.maxLocals = 2 := hml0
  have hown : s.vm.findClass "java/lang/String" = some m.cls := findClass_of_methodNamed Bd.named
  have hnm := (name_of_methodNamed Bd.named Bd.method).1
  have X0 : Stand p l e ({ frames := 1, cells := 0, slots := 0, locals := 14 } : Room) s m #[(.int j), (.int z)] below meth cO s₁ [] 0 0 := Stand.of_body Bd
  have e0 : s₁.heap = h0 := by rw [← hh, Bd.state]; rfl
  have N0 := Fr.nil n0
  have W0 : ∀ zQ, SS p e below s₁ m 0 #[.val (.int j), .val (.int z)] [] zQ → Steps p.tables e below (s₁.setTop (entryFrame m #[(.int j), (.int z)] 2)) zQ := fun tt kt => castTop (ef_scheck m j z) kt
  have F102 : Sta Z h0 "jdk/internal/util/Preconditions" "SIOOBE_FORMATTER" "Ljava/util/function/BiFunction;" fm := S_fm.ext O0.2
  obtain ⟨T101, X101, e101, st101⟩ := getS2 X0 hx hZ hown (host := "") (Or.inl (w61 hw)) Via.refl e0 F102 (g := (mkF m 2 #[.val (.int j), .val (.int z)] [(.int z), (.int j)])) rfl (hb hby d_jdk_42_method_155_2)
  obtain ⟨_, _, ⟨T103, L103, k103, n103⟩, -, X103, ⟨Lc103, hQ103, l103, y103, z103⟩, st103⟩ := Jvm.LawKit.callS X101 hx (y := yn1) hown (mvT hZ (w140 hw)) (mvT hZ (w141 hw)) (mvT hZ (w62 hw)) (mvT hZ (w142 hw)) (by decide) (backOf (W := 0) (rm_pcheck l Z a0 hw [] j z fm h0 n0 Z0 hfm hj0 hj1) hZ (w142 hw) (w62 hw) (by decide) (by decide)) (g := (mkF m 5 #[.val (.int j), .val (.int z)] [fm, (.int z), (.int j)])) rfl (by rw [hml]; rfl) (argsL := [(.int j), (.int z), fm]) (rest := []) (lenOf pd__28_IILjava_2f_util_2f_function_2f_BiFunction_3b__29_I rfl) rfl (by show 2 * 0 + _ ≤ _; exact Nat.le_of_eq rfl) (hb hby d_jdk_42_method_155_5) (fun _ _ => ⟨rfl, e101, (Nat.le_of_ble_eq_true rfl), (Nat.le_of_ble_eq_true rfl)⟩)
  dsimp only [Pt.U, Pt.locs, Pt.cells, Pt.slots] at X103 l103 y103 z103 st103 hQ103
  subst l103 y103 z103
  obtain ⟨rfl, Nq103, eq103⟩ := hQ103
  have N103 := Fr.app N0 Nq103
  have W104 : ∀ zQ, SS p e below T103 m 9 #[.val (.int j), .val (.int z)] [] zQ → Steps p.tables e below (s₁.setTop (entryFrame m #[(.int j), (.int z)] 2)) zQ := by
    intro tt kt
    refine W0 tt ?_
    refine XS.iloadN X0.here hx rfl (hb hby d_jdk_42_method_155_0) rfl ?_
    refine XS.iloadN X0.here hx rfl (hb hby d_jdk_42_method_155_1) rfl ?_
    show SS p e below s₁ m 2 #[.val (.int j), .val (.int z)] [(.int z), (.int j)] _
    refine st101 _ ?_
    show SS p e below T101 m 5 #[.val (.int j), .val (.int z)] [fm, (.int z), (.int j)] _
    refine st103 _ ?_
    refine XS.pop X103.here hx rfl (hb hby d_jdk_42_method_155_8) rfl rfl ?_
    exact kt
  obtain ⟨fs, hr, hrun, hended, hW, hsame⟩ := X103.leave (v := none) (fun _ => rfl)
  refine ⟨_, _, W104 _ (X103.returnOut hx Bd.returns (hb hby d_jdk_42_method_155_9) hr), hrun, hended, _, _, rfl, ?_, ⟨_, rfl⟩, hW, hsame.mono (by decide) (by decide)⟩
  show Q_scheck Z j z fm h0 n0 _ T103.heap _
  rw [eq103]
  exact ⟨rfl, N103, rfl⟩
def Q_l1charAt (Z : State) (t : Addr) (i : Nat) (kb : ClassId) (cs : List Int32) (fm : Value) (h0 : Heap) (n0 : Nat) (vQ_ : Option Value) (hQ_ : Heap) (LQ_ : List Loc) : Prop := vQ_ = some (.int (cs.getD i 0)) ∧ Fr n0 LQ_ ∧ hQ_ = h0
set_option maxRecDepth 65536 in
set_option maxHeartbeats 40000000 in
theorem rm_l1charAt (l : Launch) (Z : State) (a0 : Array Value) (hw : HW a0 Z) (ws : List Jvm.Cond) (t : Addr) (i : Nat) (kb : ClassId) (cs : List Int32) (fm : Value) (h0 : Heap) (n0 : Nat) (Z0 : n0 ≤ h0.size) (O0 : Old Z n0 h0) (S_fm : Sta Z Z.heap "jdk/internal/util/Preconditions" "SIOOBE_FORMATTER" "Ljava/util/function/BiFunction;" fm) (hfm : fm.isRef = true) (A1 : Arv Z h0 t kb .byte (Int32.ofNat cs.length) (l1 cs) (.int (0 : Int32))) (hi : i < cs.length) (ok : OkS cs) (hl : lat cs = true) :
    MetFree l yn3 (head1 (Jvm.Cond.code yn3 jdk_43_method_2_code 2 (some .char) :: ws) ({ frames := 2, cells := 0, slots := 0, locals := 27 } : Room)) (fun aQ_ UQ => aQ_ = #[(.ref t), (.int (Int32.ofNat i))] ∧ Z.Warmed39 UQ.vm ∧ UQ.heap = h0) (fun _ _ _ _ _ => True) (fun _ UQ oQ UQ' => ∃ vQ_ LQ_, oQ = .returned vQ_ ∧ Q_l1charAt Z t i kb cs fm h0 n0 vQ_ UQ'.heap LQ_ ∧ FrameEnd UQ oQ UQ' LQ_ ({ frames := 2, cells := 0, slots := 0, locals := 27 } : Room).cells ({ frames := 2, cells := 0, slots := 0, locals := 27 } : Room).slots) := by
  refine MetFree.of_bodySF (plainFor_of_name pn_java_lang_StringLatin1) hisR ?_
  intro p e s m args below meth cO s₁ Bd hml0 hP hK
  obtain ⟨rfl, hZ, hh⟩ := hP
  have hx := Bd.exec
  have hby := Bd.bytes
  have hml : cO.maxLocals = 2 := hml0
  have hown : s.vm.findClass "java/lang/StringLatin1" = some m.cls := findClass_of_methodNamed Bd.named
  have hnm := (name_of_methodNamed Bd.named Bd.method).1
  have X0 : Stand p l e ({ frames := 2, cells := 0, slots := 0, locals := 27 } : Room) s m #[(.ref t), (.int (Int32.ofNat i))] below meth cO s₁ [] 0 0 := Stand.of_body Bd
  have e0 : s₁.heap = h0 := by rw [← hh, Bd.state]; rfl
  have N0 := Fr.nil n0
  have W0 : ∀ zQ, SS p e below s₁ m 0 #[.val (.ref t), .val (.int (Int32.ofNat i))] [] zQ → Steps p.tables e below (s₁.setTop (entryFrame m #[(.ref t), (.int (Int32.ofNat i))] 2)) zQ := fun tt kt => castTop (ef_l1charAt m t (Int32.ofNat i)) kt
  obtain ⟨cl101, Ar101, -, S101, M101, -, -⟩ := id A1
  obtain ⟨_, _, ⟨T102, L102, k102, n102⟩, -, X102, ⟨Lc102, hQ102, l102, y102, z102⟩, st102⟩ := Jvm.LawKit.callS X0 hx (y := yn2) hown (mvT hZ (w137 hw)) (mvT hZ (w138 hw)) (mvT hZ (w8 hw)) (mvT hZ (w139 hw)) (by decide) (backOf (W := 0) (rm_scheck l Z a0 hw [] (Int32.ofNat i) (Int32.ofNat cs.length) fm h0 n0 Z0 O0 S_fm hfm (own_nneg (Nat.lt_trans hi (Nat.lt_trans ok.2 (by decide)))) (own_lt hi (Nat.lt_trans ok.2 (by decide)))) hZ (w139 hw) (w8 hw) (by decide) (by decide)) (g := (mkF m 3 #[.val (.ref t), .val (.int (Int32.ofNat i))] [(.int (Int32.ofNat cs.length)), (.int (Int32.ofNat i))])) rfl (by rw [hml]; rfl) (argsL := [(.int (Int32.ofNat i)), (.int (Int32.ofNat cs.length))]) (rest := []) (lenOf pd__28_II_29_V rfl) rfl (by show 2 * 0 + _ ≤ _; exact Nat.le_of_eq rfl) (hb hby d_jdk_43_method_2_3) (fun _ _ => ⟨rfl, e0, (Nat.le_of_ble_eq_true rfl), (Nat.le_of_ble_eq_true rfl)⟩)
  dsimp only [Pt.U, Pt.locs, Pt.cells, Pt.slots] at X102 l102 y102 z102 st102 hQ102
  subst l102 y102 z102
  obtain ⟨rfl, Nq102, eq102⟩ := hQ102
  have N102 := Fr.app N0 Nq102
  obtain ⟨cl103, Ar103, q103, S103, M103, H103, F103g⟩ := id A1
  have hin103 : ¬ ((Int32.ofNat i) < 0 ∨ cl103.slots.size ≤ ((Int32.ofNat i)).toNatClampNeg) := inb_of S103 ⟨own_nneg (Nat.lt_trans hi (Nat.lt_trans ok.2 (by decide))), own_lt hi (Nat.lt_trans ok.2 (by decide))⟩
  have hat103 : cl103.slots[((Int32.ofNat i)).toNatClampNeg]? = some (.int ((cs.getD i 0).toInt8.toInt32)) := Has.at H103 hin103 (by rw [own_cl (Nat.lt_trans hi (Nat.lt_trans ok.2 (by decide)))]; exact l1_at cs i _ hi)
  have W104 : ∀ zQ, SS p e below T102 m 14 #[.val (.ref t), .val (.int (Int32.ofNat i))] [(.int ((((cs.getD i 0).toInt8.toInt32) &&& (255 : Int32)).toUInt32.toUInt16.toUInt32.toInt32))] zQ → Steps p.tables e below (s₁.setTop (entryFrame m #[(.ref t), (.int (Int32.ofNat i))] 2)) zQ := by
    intro tt kt
    refine W0 tt ?_
    refine XS.iloadN X0.here hx rfl (hb hby d_jdk_43_method_2_0) rfl ?_
    refine XS.aloadN X0.here hx rfl (hb hby d_jdk_43_method_2_1) rfl rfl ?_
    show SS p e below s₁ m 2 #[.val (.ref t), .val (.int (Int32.ofNat i))] [(.ref t), (.int (Int32.ofNat i))] _
    refine X0.arraylength hx (by first | exact Ar101.1 | (rw [e0]; exact Ar101.1)) (State.isArrayOf_alike hZ.alike Ar101.2.1) (g := (mkF m 2 #[.val (.ref t), .val (.int (Int32.ofNat i))] [(.ref t), (.int (Int32.ofNat i))])) rfl rfl (hb hby d_jdk_43_method_2_2) _ ?_
    rw [len_of S101 M101]
    show SS p e below s₁ m 3 #[.val (.ref t), .val (.int (Int32.ofNat i))] [(.int (Int32.ofNat cs.length)), (.int (Int32.ofNat i))] _
    refine st102 _ ?_
    refine XS.aloadN X102.here hx rfl (hb hby d_jdk_43_method_2_6) rfl rfl ?_
    refine XS.iloadN X102.here hx rfl (hb hby d_jdk_43_method_2_7) rfl ?_
    show SS p e below T102 m 8 #[.val (.ref t), .val (.int (Int32.ofNat i))] [(.int (Int32.ofNat i)), (.ref t)] _
    refine X102.baloadBytes hx (j := (Int32.ofNat i)) (v := (.int ((cs.getD i 0).toInt8.toInt32))) (by first | exact Ar103.1 | (rw [eq102]; exact Ar103.1)) (State.isArrayOf_alike hZ.alike Ar103.2.1) Ar103.2.2 hin103 hat103 (g := (mkF m 8 #[.val (.ref t), .val (.int (Int32.ofNat i))] [(.int (Int32.ofNat i)), (.ref t)])) rfl rfl (hb hby d_jdk_43_method_2_8) _ ?_
    refine XS.sipush X102.here hx rfl (hb hby d_jdk_43_method_2_9) ?_
    refine XS.iand X102.here hx rfl (hb hby d_jdk_43_method_2_12) rfl ?_
    refine XS.i2c X102.here hx rfl (hb hby d_jdk_43_method_2_13) rfl ?_
    exact kt
  obtain ⟨fs, hr, hrun, hended, hW, hsame⟩ := X102.leave (v := some (.int (nar .char ((((cs.getD i 0).toInt8.toInt32) &&& (255 : Int32)).toUInt32.toUInt16.toUInt32.toInt32)))) (fun h => by rw [Bd.returns] at h; cases h)
  refine ⟨_, _, W104 _ (retN X102 hx (t := .char) Bd.returns (by simp) (hb hby d_jdk_43_method_2_14) hr), hrun, hended, _, _, rfl, ?_, ⟨_, rfl⟩, hW, hsame.mono (by decide) (by decide)⟩
  show Q_l1charAt Z t i kb cs fm h0 n0 _ T102.heap _
  rw [eq102]
  exact ⟨(congrArg (fun q => some (Value.int q)) (own_l1c (ok.at hi).1 (lat_at hl hi))), N102, rfl⟩
def Q_u16length (Z : State) (t : Addr) (N : Nat) (kb : ClassId) (vs : List Value) (h0 : Heap) (n0 : Nat) (vQ_ : Option Value) (hQ_ : Heap) (LQ_ : List Loc) : Prop := vQ_ = some (.int (Int32.ofNat N)) ∧ Fr n0 LQ_ ∧ hQ_ = h0
set_option maxRecDepth 65536 in
set_option maxHeartbeats 40000000 in
theorem rm_u16length (l : Launch) (Z : State) (a0 : Array Value) (hw : HW a0 Z) (ws : List Jvm.Cond) (t : Addr) (N : Nat) (kb : ClassId) (vs : List Value) (h0 : Heap) (n0 : Nat) (Z0 : n0 ≤ h0.size) (A1 : Arv Z h0 t kb .byte (Int32.ofNat (2 * N)) vs (.int (0 : Int32))) (hN : 2 * N < 2147483648) :
    MetFree l yn4 (head1 (Jvm.Cond.code yn4 jdk_52_method_6_code 1 (some .int) :: ws) ({ frames := 0, cells := 0, slots := 0, locals := 0 } : Room)) (fun aQ_ UQ => aQ_ = #[(.ref t)] ∧ Z.Warmed39 UQ.vm ∧ UQ.heap = h0) (fun _ _ _ _ _ => True) (fun _ UQ oQ UQ' => ∃ vQ_ LQ_, oQ = .returned vQ_ ∧ Q_u16length Z t N kb vs h0 n0 vQ_ UQ'.heap LQ_ ∧ FrameEnd UQ oQ UQ' LQ_ ({ frames := 0, cells := 0, slots := 0, locals := 0 } : Room).cells ({ frames := 0, cells := 0, slots := 0, locals := 0 } : Room).slots) := by
  refine MetFree.of_bodySF (plainFor_of_name pn_java_lang_StringUTF16) hisR ?_
  intro p e s m args below meth cO s₁ Bd hml0 hP hK
  obtain ⟨rfl, hZ, hh⟩ := hP
  have hx := Bd.exec
  have hby := Bd.bytes
  have hml : cO.maxLocals = 1 := hml0
  have hown : s.vm.findClass "java/lang/StringUTF16" = some m.cls := findClass_of_methodNamed Bd.named
  have hnm := (name_of_methodNamed Bd.named Bd.method).1
  have X0 : Stand p l e ({ frames := 0, cells := 0, slots := 0, locals := 0 } : Room) s m #[(.ref t)] below meth cO s₁ [] 0 0 := Stand.of_body Bd
  have e0 : s₁.heap = h0 := by rw [← hh, Bd.state]; rfl
  have N0 := Fr.nil n0
  have W0 : ∀ zQ, SS p e below s₁ m 0 #[.val (.ref t)] [] zQ → Steps p.tables e below (s₁.setTop (entryFrame m #[(.ref t)] 1)) zQ := fun tt kt => castTop (ef_u16length m t) kt
  obtain ⟨cl101, Ar101, -, S101, M101, -, -⟩ := id A1
  have W102 : ∀ zQ, SS p e below s₁ m 4 #[.val (.ref t)] [(.int (Int32.ofNat N))] zQ → Steps p.tables e below (s₁.setTop (entryFrame m #[(.ref t)] 1)) zQ := by
    intro tt kt
    refine W0 tt ?_
    refine XS.aloadN X0.here hx rfl (hb hby d_jdk_52_method_6_0) rfl rfl ?_
    show SS p e below s₁ m 1 #[.val (.ref t)] [(.ref t)] _
    refine X0.arraylength hx (by first | exact Ar101.1 | (rw [e0]; exact Ar101.1)) (State.isArrayOf_alike hZ.alike Ar101.2.1) (g := (mkF m 1 #[.val (.ref t)] [(.ref t)])) rfl rfl (hb hby d_jdk_52_method_6_1) _ ?_
    rw [len_of S101 M101]
    refine XS.iconst X0.here hx rfl (hb hby d_jdk_52_method_6_2) ?_
    refine XS.ishr X0.here hx rfl (hb hby d_jdk_52_method_6_3) rfl ?_
    show SS p e below s₁ m 4 #[.val (.ref t)] [(.int ((Int32.ofNat (2 * N)) >>> ((1 : Int32) &&& 31)))] _
    rw [show ((Int32.ofNat (2 * N)) >>> ((1 : Int32) &&& 31)) = (Int32.ofNat N) from own_shr1 hN]
    exact kt
  obtain ⟨fs, hr, hrun, hended, hW, hsame⟩ := X0.leave (v := some (.int (Int32.ofNat N))) (fun h => by rw [Bd.returns] at h; cases h)
  refine ⟨_, _, W102 _ (retI X0 hx Bd.returns (hb hby d_jdk_52_method_6_4) hr), hrun, hended, _, _, rfl, ?_, ⟨_, rfl⟩, hW, hsame.mono (by decide) (by decide)⟩
  show Q_u16length Z t N kb vs h0 n0 _ s₁.heap _
  rw [e0]
  exact ⟨rfl, N0, rfl⟩
def Q_u16check (Z : State) (t : Addr) (i : Nat) (N : Nat) (kb : ClassId) (vs : List Value) (fm : Value) (h0 : Heap) (n0 : Nat) (vQ_ : Option Value) (hQ_ : Heap) (LQ_ : List Loc) : Prop := vQ_ = none ∧ Fr n0 LQ_ ∧ hQ_ = h0
set_option maxRecDepth 65536 in
set_option maxHeartbeats 40000000 in
theorem rm_u16check (l : Launch) (Z : State) (a0 : Array Value) (hw : HW a0 Z) (ws : List Jvm.Cond) (t : Addr) (i : Nat) (N : Nat) (kb : ClassId) (vs : List Value) (fm : Value) (h0 : Heap) (n0 : Nat) (Z0 : n0 ≤ h0.size) (O0 : Old Z n0 h0) (S_fm : Sta Z Z.heap "jdk/internal/util/Preconditions" "SIOOBE_FORMATTER" "Ljava/util/function/BiFunction;" fm) (hfm : fm.isRef = true) (A1 : Arv Z h0 t kb .byte (Int32.ofNat (2 * N)) vs (.int (0 : Int32))) (hN : 2 * N < 2147483648) (hi : i < N) :
    MetFree l yn5 (head1 (Jvm.Cond.code yn5 jdk_52_method_91_code 2 none :: ws) ({ frames := 2, cells := 0, slots := 0, locals := 27 } : Room)) (fun aQ_ UQ => aQ_ = #[(.int (Int32.ofNat i)), (.ref t)] ∧ Z.Warmed39 UQ.vm ∧ UQ.heap = h0) (fun _ _ _ _ _ => True) (fun _ UQ oQ UQ' => ∃ vQ_ LQ_, oQ = .returned vQ_ ∧ Q_u16check Z t i N kb vs fm h0 n0 vQ_ UQ'.heap LQ_ ∧ FrameEnd UQ oQ UQ' LQ_ ({ frames := 2, cells := 0, slots := 0, locals := 27 } : Room).cells ({ frames := 2, cells := 0, slots := 0, locals := 27 } : Room).slots) := by
  refine MetFree.of_bodySF (plainFor_of_name pn_java_lang_StringUTF16) hisR ?_
  intro p e s m args below meth cO s₁ Bd hml0 hP hK
  obtain ⟨rfl, hZ, hh⟩ := hP
  have hx := Bd.exec
  have hby := Bd.bytes
  have hml : cO.maxLocals = 2 := hml0
  have hown : s.vm.findClass "java/lang/StringUTF16" = some m.cls := findClass_of_methodNamed Bd.named
  have hnm := (name_of_methodNamed Bd.named Bd.method).1
  have X0 : Stand p l e ({ frames := 2, cells := 0, slots := 0, locals := 27 } : Room) s m #[(.int (Int32.ofNat i)), (.ref t)] below meth cO s₁ [] 0 0 := Stand.of_body Bd
  have e0 : s₁.heap = h0 := by rw [← hh, Bd.state]; rfl
  have N0 := Fr.nil n0
  have W0 : ∀ zQ, SS p e below s₁ m 0 #[.val (.int (Int32.ofNat i)), .val (.ref t)] [] zQ → Steps p.tables e below (s₁.setTop (entryFrame m #[(.int (Int32.ofNat i)), (.ref t)] 2)) zQ := fun tt kt => castTop (ef_u16check m (Int32.ofNat i) t) kt
  obtain ⟨_, _, ⟨T101, L101, k101, n101⟩, -, X101, ⟨Lc101, hQ101, l101, y101, z101⟩, st101⟩ := Jvm.LawKit.callS X0 hx (y := yn4) hown (mvT hZ (w168 hw)) (mvT hZ (w169 hw)) (mvT hZ (w22 hw)) (mvT hZ (w170 hw)) (by decide) (backOf (W := 1) (rm_u16length l Z a0 hw [] t N kb vs h0 n0 Z0 A1 hN) hZ (w170 hw) (w22 hw) (by decide) (by decide)) (g := (mkF m 2 #[.val (.int (Int32.ofNat i)), .val (.ref t)] [(.ref t), (.int (Int32.ofNat i))])) rfl (by rw [hml]; rfl) (argsL := [(.ref t)]) (rest := [(.int (Int32.ofNat i))]) (lenOf pd__28__5b_B_29_I rfl) rfl (by show 2 * 0 + _ ≤ _; exact Nat.le_of_eq rfl) (hb hby d_jdk_52_method_91_2) (fun _ _ => ⟨rfl, e0, (Nat.le_of_ble_eq_true rfl), (Nat.le_of_ble_eq_true rfl)⟩)
  dsimp only [Pt.U, Pt.locs, Pt.cells, Pt.slots] at X101 l101 y101 z101 st101 hQ101
  subst l101 y101 z101
  obtain ⟨rfl, Nq101, eq101⟩ := hQ101
  have N101 := Fr.app N0 Nq101
  obtain ⟨_, _, ⟨T102, L102, k102, n102⟩, -, X102, ⟨Lc102, hQ102, l102, y102, z102⟩, st102⟩ := Jvm.LawKit.callS X101 hx (y := yn2) hown (mvT hZ (w171 hw)) (mvT hZ (w138 hw)) (mvT hZ (w8 hw)) (mvT hZ (w139 hw)) (by decide) (backOf (W := 0) (rm_scheck l Z a0 hw [] (Int32.ofNat i) (Int32.ofNat N) fm h0 n0 Z0 O0 S_fm hfm (own_nneg (by omega)) (own_lt hi (by omega))) hZ (w139 hw) (w8 hw) (by decide) (by decide)) (g := (mkF m 5 #[.val (.int (Int32.ofNat i)), .val (.ref t)] [(.int (Int32.ofNat N)), (.int (Int32.ofNat i))])) rfl (by rw [hml]; rfl) (argsL := [(.int (Int32.ofNat i)), (.int (Int32.ofNat N))]) (rest := []) (lenOf pd__28_II_29_V rfl) rfl (by show 2 * 0 + _ ≤ _; exact Nat.le_of_eq rfl) (hb hby d_jdk_52_method_91_5) (fun _ _ => ⟨rfl, eq101, (Nat.le_of_ble_eq_true rfl), (Nat.le_of_ble_eq_true rfl)⟩)
  dsimp only [Pt.U, Pt.locs, Pt.cells, Pt.slots] at X102 l102 y102 z102 st102 hQ102
  subst l102 y102 z102
  obtain ⟨rfl, Nq102, eq102⟩ := hQ102
  have N102 := Fr.app N101 Nq102
  have W103 : ∀ zQ, SS p e below T102 m 8 #[.val (.int (Int32.ofNat i)), .val (.ref t)] [] zQ → Steps p.tables e below (s₁.setTop (entryFrame m #[(.int (Int32.ofNat i)), (.ref t)] 2)) zQ := by
    intro tt kt
    refine W0 tt ?_
    refine XS.iloadN X0.here hx rfl (hb hby d_jdk_52_method_91_0) rfl ?_
    refine XS.aloadN X0.here hx rfl (hb hby d_jdk_52_method_91_1) rfl rfl ?_
    show SS p e below s₁ m 2 #[.val (.int (Int32.ofNat i)), .val (.ref t)] [(.ref t), (.int (Int32.ofNat i))] _
    refine st101 _ ?_
    show SS p e below T101 m 5 #[.val (.int (Int32.ofNat i)), .val (.ref t)] [(.int (Int32.ofNat N)), (.int (Int32.ofNat i))] _
    refine st102 _ ?_
    exact kt
  obtain ⟨fs, hr, hrun, hended, hW, hsame⟩ := X102.leave (v := none) (fun _ => rfl)
  refine ⟨_, _, W103 _ (X102.returnOut hx Bd.returns (hb hby d_jdk_52_method_91_8) hr), hrun, hended, _, _, rfl, ?_, ⟨_, rfl⟩, hW, hsame.mono (by decide) (by decide)⟩
  show Q_u16check Z t i N kb vs fm h0 n0 _ T102.heap _
  rw [eq102]
  exact ⟨rfl, N102, rfl⟩
def Q_getChar (Z : State) (t : Addr) (i : Nat) (kb : ClassId) (cs : List Int32) (h0 : Heap) (n0 : Nat) (vQ_ : Option Value) (hQ_ : Heap) (LQ_ : List Loc) : Prop := vQ_ = some (.int (cs.getD i 0)) ∧ Fr n0 LQ_ ∧ hQ_ = h0
set_option maxRecDepth 65536 in
set_option maxHeartbeats 40000000 in
theorem rm_getChar (l : Launch) (Z : State) (a0 : Array Value) (hw : HW a0 Z) (ws : List Jvm.Cond) (t : Addr) (i : Nat) (kb : ClassId) (cs : List Int32) (h0 : Heap) (n0 : Nat) (Z0 : n0 ≤ h0.size) (O0 : Old Z n0 h0) (S_ad : Sta Z Z.heap "java/lang/StringUTF16" "$assertionsDisabled" "Z" (.int (1 : Int32))) (S_hi : Sta Z Z.heap "java/lang/StringUTF16" "HI_BYTE_SHIFT" "I" (.int (0 : Int32))) (S_lo : Sta Z Z.heap "java/lang/StringUTF16" "LO_BYTE_SHIFT" "I" (.int (8 : Int32))) (A1 : Arv Z h0 t kb .byte (Int32.ofNat (2 * cs.length)) (u16 cs) (.int (0 : Int32))) (hi : i < cs.length) (ok : OkS cs) :
    MetFree l yn6 (head1 (Jvm.Cond.code yn6 jdk_52_method_5_code 2 (some .char) :: ws) ({ frames := 0, cells := 0, slots := 0, locals := 0 } : Room)) (fun aQ_ UQ => aQ_ = #[(.ref t), (.int (Int32.ofNat i))] ∧ Z.Warmed39 UQ.vm ∧ UQ.heap = h0) (fun _ _ _ _ _ => True) (fun _ UQ oQ UQ' => ∃ vQ_ LQ_, oQ = .returned vQ_ ∧ Q_getChar Z t i kb cs h0 n0 vQ_ UQ'.heap LQ_ ∧ FrameEnd UQ oQ UQ' LQ_ ({ frames := 0, cells := 0, slots := 0, locals := 0 } : Room).cells ({ frames := 0, cells := 0, slots := 0, locals := 0 } : Room).slots) := by
  refine MetFree.of_bodySF (plainFor_of_name pn_java_lang_StringUTF16) hisR ?_
  intro p e s m args below meth cO s₁ Bd hml0 hP hK
  obtain ⟨rfl, hZ, hh⟩ := hP
  have hx := Bd.exec
  have hby := Bd.bytes
  have hml : cO.maxLocals = 2 := hml0
  have hown : s.vm.findClass "java/lang/StringUTF16" = some m.cls := findClass_of_methodNamed Bd.named
  have hnm := (name_of_methodNamed Bd.named Bd.method).1
  have X0 : Stand p l e ({ frames := 0, cells := 0, slots := 0, locals := 0 } : Room) s m #[(.ref t), (.int (Int32.ofNat i))] below meth cO s₁ [] 0 0 := Stand.of_body Bd
  have e0 : s₁.heap = h0 := by rw [← hh, Bd.state]; rfl
  have N0 := Fr.nil n0
  have W0 : ∀ zQ, SS p e below s₁ m 0 #[.val (.ref t), .val (.int (Int32.ofNat i))] [] zQ → Steps p.tables e below (s₁.setTop (entryFrame m #[(.ref t), (.int (Int32.ofNat i))] 2)) zQ := fun tt kt => castTop (ef_getChar m t (Int32.ofNat i)) kt
  have hn : cs.length < 1048576 := ok.2
  have F102 : Sta Z h0 "java/lang/StringUTF16" "$assertionsDisabled" "Z" (.int (1 : Int32)) := S_ad.ext O0.2
  obtain ⟨T101, X101, e101, st101⟩ := getS2 X0 hx hZ hown (host := "") (Or.inl (w156 hw)) Via.refl e0 F102 (g := (mkF m 0 #[.val (.ref t), .val (.int (Int32.ofNat i))] [])) rfl (hb hby d_jdk_52_method_5_0)
  obtain ⟨cl103, Ar103, q103, S103, M103, H103, F103g⟩ := id A1
  have hin103 : ¬ ((Int32.ofNat (2 * i)) < 0 ∨ cl103.slots.size ≤ ((Int32.ofNat (2 * i))).toNatClampNeg) := inb_of S103 ⟨own_nneg (by omega), own_lt (by omega) (by omega)⟩
  have hat103 : cl103.slots[((Int32.ofNat (2 * i))).toNatClampNeg]? = some (.int ((cs.getD i 0 >>> ((0 : Int32) &&& 31)).toInt8.toInt32)) := Has.at H103 hin103 (by rw [own_cl (by omega)]; exact (u16_at cs i _ hi).1)
  have F105 : Sta Z h0 "java/lang/StringUTF16" "HI_BYTE_SHIFT" "I" (.int (0 : Int32)) := S_hi.ext O0.2
  obtain ⟨T104, X104, e104, st104⟩ := getS2 X101 hx hZ hown (host := "") (Or.inl (w157 hw)) Via.refl e101 F105 (g := (mkF m 42 #[.val (.ref t), .val (.int (Int32.ofNat (2 * i + 1)))] [(.int (((cs.getD i 0 >>> ((0 : Int32) &&& 31)).toInt8.toInt32) &&& (255 : Int32)))])) rfl (hb hby d_jdk_52_method_5_42)
  obtain ⟨cl106, Ar106, q106, S106, M106, H106, F106g⟩ := id A1
  have hin106 : ¬ ((Int32.ofNat (2 * i + 1)) < 0 ∨ cl106.slots.size ≤ ((Int32.ofNat (2 * i + 1))).toNatClampNeg) := inb_of S106 ⟨own_nneg (by omega), own_lt (by omega) (by omega)⟩
  have hat106 : cl106.slots[((Int32.ofNat (2 * i + 1))).toNatClampNeg]? = some (.int ((cs.getD i 0 >>> ((8 : Int32) &&& 31)).toInt8.toInt32)) := Has.at H106 hin106 (by rw [own_cl (by omega)]; exact (u16_at cs i _ hi).2)
  have F108 : Sta Z h0 "java/lang/StringUTF16" "LO_BYTE_SHIFT" "I" (.int (8 : Int32)) := S_lo.ext O0.2
  obtain ⟨T107, X107, e107, st107⟩ := getS2 X104 hx hZ hown (host := "") (Or.inl (w158 hw)) Via.refl e104 F108 (g := (mkF m 53 #[.val (.ref t), .val (.int (Int32.ofNat (2 * i + 1)))] [(.int (((cs.getD i 0 >>> ((8 : Int32) &&& 31)).toInt8.toInt32) &&& (255 : Int32))), (.int ((((cs.getD i 0 >>> ((0 : Int32) &&& 31)).toInt8.toInt32) &&& (255 : Int32)) <<< ((0 : Int32) &&& 31)))])) rfl (hb hby d_jdk_52_method_5_53)
  have W109 : ∀ zQ, SS p e below T107 m 59 #[.val (.ref t), .val (.int (Int32.ofNat (2 * i + 1)))] [(.int ((((((cs.getD i 0 >>> ((0 : Int32) &&& 31)).toInt8.toInt32) &&& (255 : Int32)) <<< ((0 : Int32) &&& 31)) ||| ((((cs.getD i 0 >>> ((8 : Int32) &&& 31)).toInt8.toInt32) &&& (255 : Int32)) <<< ((8 : Int32) &&& 31))).toUInt32.toUInt16.toUInt32.toInt32))] zQ → Steps p.tables e below (s₁.setTop (entryFrame m #[(.ref t), (.int (Int32.ofNat i))] 2)) zQ := by
    intro tt kt
    refine W0 tt ?_
    refine st101 _ ?_
    refine XS.ifYes X101.here hx rfl (pc0 := 3) (pc' := 28) rfl (hb hby d_jdk_52_method_5_3) rfl ((if0 _ _).trans (feq (by decide)).2) (by decide) (by decide) ?_
    refine XS.iloadN X101.here hx rfl (hb hby d_jdk_52_method_5_28) rfl ?_
    refine XS.iconst X101.here hx rfl (hb hby d_jdk_52_method_5_29) ?_
    refine XS.ishl X101.here hx rfl (hb hby d_jdk_52_method_5_30) rfl ?_
    show SS p e below T101 m 31 #[.val (.ref t), .val (.int (Int32.ofNat i))] [(.int ((Int32.ofNat i) <<< ((1 : Int32) &&& 31)))] _
    rw [show ((Int32.ofNat i) <<< ((1 : Int32) &&& 31)) = (Int32.ofNat (2 * i)) from own_shl1 (by omega)]
    refine XS.istoreN X101.here hx rfl (hb hby d_jdk_52_method_5_31) rfl (l' := #[.val (.ref t), .val (.int (Int32.ofNat (2 * i)))]) rfl ?_
    refine XS.aloadN X101.here hx rfl (hb hby d_jdk_52_method_5_32) rfl rfl ?_
    refine XS.iloadN X101.here hx rfl (hb hby d_jdk_52_method_5_33) rfl ?_
    show SS p e below T101 m 34 #[.val (.ref t), .val (.int (Int32.ofNat (2 * i)))] [(.int (Int32.ofNat (2 * i))), (.ref t)] _
    refine XS.iinc X101.here hx rfl (hb hby d_jdk_52_method_5_34) rfl (l' := #[.val (.ref t), .val (.int ((Int32.ofNat (2 * i)) + (1 : Int32)))]) rfl ?_
    show SS p e below T101 m 37 #[.val (.ref t), .val (.int ((Int32.ofNat (2 * i)) + (1 : Int32)))] [(.int (Int32.ofNat (2 * i))), (.ref t)] _
    rw [show ((Int32.ofNat (2 * i)) + (1 : Int32)) = (Int32.ofNat (2 * i + 1)) from own_succ _]
    show SS p e below T101 m 37 #[.val (.ref t), .val (.int (Int32.ofNat (2 * i + 1)))] [(.int (Int32.ofNat (2 * i))), (.ref t)] _
    refine X101.baloadBytes hx (j := (Int32.ofNat (2 * i))) (v := (.int ((cs.getD i 0 >>> ((0 : Int32) &&& 31)).toInt8.toInt32))) (by first | exact Ar103.1 | (rw [e101]; exact Ar103.1)) (State.isArrayOf_alike hZ.alike Ar103.2.1) Ar103.2.2 hin103 hat103 (g := (mkF m 37 #[.val (.ref t), .val (.int (Int32.ofNat (2 * i + 1)))] [(.int (Int32.ofNat (2 * i))), (.ref t)])) rfl rfl (hb hby d_jdk_52_method_5_37) _ ?_
    refine XS.sipush X101.here hx rfl (hb hby d_jdk_52_method_5_38) ?_
    refine XS.iand X101.here hx rfl (hb hby d_jdk_52_method_5_41) rfl ?_
    show SS p e below T101 m 42 #[.val (.ref t), .val (.int (Int32.ofNat (2 * i + 1)))] [(.int (((cs.getD i 0 >>> ((0 : Int32) &&& 31)).toInt8.toInt32) &&& (255 : Int32)))] _
    refine st104 _ ?_
    refine XS.ishl X104.here hx rfl (hb hby d_jdk_52_method_5_45) rfl ?_
    refine XS.aloadN X104.here hx rfl (hb hby d_jdk_52_method_5_46) rfl rfl ?_
    refine XS.iloadN X104.here hx rfl (hb hby d_jdk_52_method_5_47) rfl ?_
    show SS p e below T104 m 48 #[.val (.ref t), .val (.int (Int32.ofNat (2 * i + 1)))] [(.int (Int32.ofNat (2 * i + 1))), (.ref t), (.int ((((cs.getD i 0 >>> ((0 : Int32) &&& 31)).toInt8.toInt32) &&& (255 : Int32)) <<< ((0 : Int32) &&& 31)))] _
    refine X104.baloadBytes hx (j := (Int32.ofNat (2 * i + 1))) (v := (.int ((cs.getD i 0 >>> ((8 : Int32) &&& 31)).toInt8.toInt32))) (by first | exact Ar106.1 | (rw [e104]; exact Ar106.1)) (State.isArrayOf_alike hZ.alike Ar106.2.1) Ar106.2.2 hin106 hat106 (g := (mkF m 48 #[.val (.ref t), .val (.int (Int32.ofNat (2 * i + 1)))] [(.int (Int32.ofNat (2 * i + 1))), (.ref t), (.int ((((cs.getD i 0 >>> ((0 : Int32) &&& 31)).toInt8.toInt32) &&& (255 : Int32)) <<< ((0 : Int32) &&& 31)))])) rfl rfl (hb hby d_jdk_52_method_5_48) _ ?_
    refine XS.sipush X104.here hx rfl (hb hby d_jdk_52_method_5_49) ?_
    refine XS.iand X104.here hx rfl (hb hby d_jdk_52_method_5_52) rfl ?_
    show SS p e below T104 m 53 #[.val (.ref t), .val (.int (Int32.ofNat (2 * i + 1)))] [(.int (((cs.getD i 0 >>> ((8 : Int32) &&& 31)).toInt8.toInt32) &&& (255 : Int32))), (.int ((((cs.getD i 0 >>> ((0 : Int32) &&& 31)).toInt8.toInt32) &&& (255 : Int32)) <<< ((0 : Int32) &&& 31)))] _
    refine st107 _ ?_
    refine XS.ishl X107.here hx rfl (hb hby d_jdk_52_method_5_56) rfl ?_
    refine XS.ior X107.here hx rfl (hb hby d_jdk_52_method_5_57) rfl ?_
    refine XS.i2c X107.here hx rfl (hb hby d_jdk_52_method_5_58) rfl ?_
    exact kt
  obtain ⟨fs, hr, hrun, hended, hW, hsame⟩ := X107.leave (v := some (.int (nar .char ((((((cs.getD i 0 >>> ((0 : Int32) &&& 31)).toInt8.toInt32) &&& (255 : Int32)) <<< ((0 : Int32) &&& 31)) ||| ((((cs.getD i 0 >>> ((8 : Int32) &&& 31)).toInt8.toInt32) &&& (255 : Int32)) <<< ((8 : Int32) &&& 31))).toUInt32.toUInt16.toUInt32.toInt32)))) (fun h => by rw [Bd.returns] at h; cases h)
  refine ⟨_, _, W109 _ (retN X107 hx (t := .char) Bd.returns (by simp) (hb hby d_jdk_52_method_5_59) hr), hrun, hended, _, _, rfl, ?_, ⟨_, rfl⟩, hW, hsame.mono (by decide) (by decide)⟩
  show Q_getChar Z t i kb cs h0 n0 _ T107.heap _
  rw [e107]
  exact ⟨(congrArg (fun q => some (Value.int q)) (own_u16c (ok.at hi).1 (ok.at hi).2)), N0, rfl⟩
def Q_u16charAt (Z : State) (t : Addr) (i : Nat) (kb : ClassId) (cs : List Int32) (fm : Value) (h0 : Heap) (n0 : Nat) (vQ_ : Option Value) (hQ_ : Heap) (LQ_ : List Loc) : Prop := vQ_ = some (.int (cs.getD i 0)) ∧ Fr n0 LQ_ ∧ hQ_ = h0
set_option maxRecDepth 65536 in
set_option maxHeartbeats 40000000 in
theorem rm_u16charAt (l : Launch) (Z : State) (a0 : Array Value) (hw : HW a0 Z) (ws : List Jvm.Cond) (t : Addr) (i : Nat) (kb : ClassId) (cs : List Int32) (fm : Value) (h0 : Heap) (n0 : Nat) (Z0 : n0 ≤ h0.size) (O0 : Old Z n0 h0) (S_fm : Sta Z Z.heap "jdk/internal/util/Preconditions" "SIOOBE_FORMATTER" "Ljava/util/function/BiFunction;" fm) (hfm : fm.isRef = true) (S_ad : Sta Z Z.heap "java/lang/StringUTF16" "$assertionsDisabled" "Z" (.int (1 : Int32))) (S_hi : Sta Z Z.heap "java/lang/StringUTF16" "HI_BYTE_SHIFT" "I" (.int (0 : Int32))) (S_lo : Sta Z Z.heap "java/lang/StringUTF16" "LO_BYTE_SHIFT" "I" (.int (8 : Int32))) (A1 : Arv Z h0 t kb .byte (Int32.ofNat (2 * cs.length)) (u16 cs) (.int (0 : Int32))) (hi : i < cs.length) (ok : OkS cs) :
    MetFree l yn7 (head1 (Jvm.Cond.code yn7 jdk_52_method_83_code 2 (some .char) :: ws) ({ frames := 3, cells := 0, slots := 0, locals := 40 } : Room)) (fun aQ_ UQ => aQ_ = #[(.ref t), (.int (Int32.ofNat i))] ∧ Z.Warmed39 UQ.vm ∧ UQ.heap = h0) (fun _ _ _ _ _ => True) (fun _ UQ oQ UQ' => ∃ vQ_ LQ_, oQ = .returned vQ_ ∧ Q_u16charAt Z t i kb cs fm h0 n0 vQ_ UQ'.heap LQ_ ∧ FrameEnd UQ oQ UQ' LQ_ ({ frames := 3, cells := 0, slots := 0, locals := 40 } : Room).cells ({ frames := 3, cells := 0, slots := 0, locals := 40 } : Room).slots) := by
  refine MetFree.of_bodySF (plainFor_of_name pn_java_lang_StringUTF16) hisR ?_
  intro p e s m args below meth cO s₁ Bd hml0 hP hK
  obtain ⟨rfl, hZ, hh⟩ := hP
  have hx := Bd.exec
  have hby := Bd.bytes
  have hml : cO.maxLocals = 2 := hml0
  have hown : s.vm.findClass "java/lang/StringUTF16" = some m.cls := findClass_of_methodNamed Bd.named
  have hnm := (name_of_methodNamed Bd.named Bd.method).1
  have X0 : Stand p l e ({ frames := 3, cells := 0, slots := 0, locals := 40 } : Room) s m #[(.ref t), (.int (Int32.ofNat i))] below meth cO s₁ [] 0 0 := Stand.of_body Bd
  have e0 : s₁.heap = h0 := by rw [← hh, Bd.state]; rfl
  have N0 := Fr.nil n0
  have W0 : ∀ zQ, SS p e below s₁ m 0 #[.val (.ref t), .val (.int (Int32.ofNat i))] [] zQ → Steps p.tables e below (s₁.setTop (entryFrame m #[(.ref t), (.int (Int32.ofNat i))] 2)) zQ := fun tt kt => castTop (ef_u16charAt m t (Int32.ofNat i)) kt
  have hn : cs.length < 1048576 := ok.2
  obtain ⟨_, _, ⟨T101, L101, k101, n101⟩, -, X101, ⟨Lc101, hQ101, l101, y101, z101⟩, st101⟩ := Jvm.LawKit.callS X0 hx (y := yn5) hown (mvT hZ (w165 hw)) (mvT hZ (w166 hw)) (mvT hZ (w22 hw)) (mvT hZ (w167 hw)) (by decide) (backOf (W := 0) (rm_u16check l Z a0 hw [] t i cs.length kb (u16 cs) fm h0 n0 Z0 O0 S_fm hfm A1 (by omega) hi) hZ (w167 hw) (w22 hw) (by decide) (by decide)) (g := (mkF m 2 #[.val (.ref t), .val (.int (Int32.ofNat i))] [(.ref t), (.int (Int32.ofNat i))])) rfl (by rw [hml]; rfl) (argsL := [(.int (Int32.ofNat i)), (.ref t)]) (rest := []) (lenOf pd__28_I_5b_B_29_V rfl) rfl (by show 2 * 0 + _ ≤ _; exact Nat.le_of_eq rfl) (hb hby d_jdk_52_method_83_2) (fun _ _ => ⟨rfl, e0, (Nat.le_of_ble_eq_true rfl), (Nat.le_of_ble_eq_true rfl)⟩)
  dsimp only [Pt.U, Pt.locs, Pt.cells, Pt.slots] at X101 l101 y101 z101 st101 hQ101
  subst l101 y101 z101
  obtain ⟨rfl, Nq101, eq101⟩ := hQ101
  have N101 := Fr.app N0 Nq101
  obtain ⟨_, _, ⟨T102, L102, k102, n102⟩, -, X102, ⟨Lc102, hQ102, l102, y102, z102⟩, st102⟩ := Jvm.LawKit.callS X101 hx (y := yn6) hown (mvT hZ (w159 hw)) (mvT hZ (w160 hw)) (mvT hZ (w22 hw)) (mvT hZ (w161 hw)) (by decide) (backOf (W := 0) (rm_getChar l Z a0 hw [] t i kb cs h0 n0 Z0 O0 S_ad S_hi S_lo A1 hi ok) hZ (w161 hw) (w22 hw) (by decide) (by decide)) (g := (mkF m 7 #[.val (.ref t), .val (.int (Int32.ofNat i))] [(.int (Int32.ofNat i)), (.ref t)])) rfl (by rw [hml]; rfl) (argsL := [(.ref t), (.int (Int32.ofNat i))]) (rest := []) (lenOf pd__28__5b_BI_29_C rfl) rfl (by show 2 * 0 + _ ≤ _; exact Nat.le_of_eq rfl) (hb hby d_jdk_52_method_83_7) (fun _ _ => ⟨rfl, eq101, (Nat.le_of_ble_eq_true rfl), (Nat.le_of_ble_eq_true rfl)⟩)
  dsimp only [Pt.U, Pt.locs, Pt.cells, Pt.slots] at X102 l102 y102 z102 st102 hQ102
  subst l102 y102 z102
  obtain ⟨rfl, Nq102, eq102⟩ := hQ102
  have N102 := Fr.app N101 Nq102
  have W103 : ∀ zQ, SS p e below T102 m 10 #[.val (.ref t), .val (.int (Int32.ofNat i))] [(.int (cs.getD i 0))] zQ → Steps p.tables e below (s₁.setTop (entryFrame m #[(.ref t), (.int (Int32.ofNat i))] 2)) zQ := by
    intro tt kt
    refine W0 tt ?_
    refine XS.iloadN X0.here hx rfl (hb hby d_jdk_52_method_83_0) rfl ?_
    refine XS.aloadN X0.here hx rfl (hb hby d_jdk_52_method_83_1) rfl rfl ?_
    show SS p e below s₁ m 2 #[.val (.ref t), .val (.int (Int32.ofNat i))] [(.ref t), (.int (Int32.ofNat i))] _
    refine st101 _ ?_
    refine XS.aloadN X101.here hx rfl (hb hby d_jdk_52_method_83_5) rfl rfl ?_
    refine XS.iloadN X101.here hx rfl (hb hby d_jdk_52_method_83_6) rfl ?_
    show SS p e below T101 m 7 #[.val (.ref t), .val (.int (Int32.ofNat i))] [(.int (Int32.ofNat i)), (.ref t)] _
    refine st102 _ ?_
    exact kt
  obtain ⟨fs, hr, hrun, hended, hW, hsame⟩ := X102.leave (v := some (.int (nar .char (cs.getD i 0)))) (fun h => by rw [Bd.returns] at h; cases h)
  refine ⟨_, _, W103 _ (retN X102 hx (t := .char) Bd.returns (by simp) (hb hby d_jdk_52_method_83_10) hr), hrun, hended, _, _, rfl, ?_, ⟨_, rfl⟩, hW, hsame.mono (by decide) (by decide)⟩
  show Q_u16charAt Z t i kb cs fm h0 n0 _ T102.heap _
  rw [eq102]
  exact ⟨(congrArg (fun q => some (Value.int q)) (own_narc (ok.at hi).1 (ok.at hi).2)), N102, rfl⟩
def Q_isLatin1 (Z : State) (a : Addr) (w : Int32) (cS : Int32) (h0 : Heap) (n0 : Nat) (vQ_ : Option Value) (hQ_ : Heap) (LQ_ : List Loc) : Prop := vQ_ = some (.int (if w = (0 : Int32) then (1 : Int32) else (0 : Int32))) ∧ Fr n0 LQ_ ∧ hQ_ = h0
set_option maxRecDepth 65536 in
set_option maxHeartbeats 40000000 in
theorem rm_isLatin1 (l : Launch) (Z : State) (a0 : Array Value) (hw : HW a0 Z) (ws : List Jvm.Cond) (a : Addr) (w : Int32) (cS : Int32) (h0 : Heap) (n0 : Nat) (Z0 : n0 ≤ h0.size) (O0 : Old Z n0 h0) (S_cs : Sta Z Z.heap "java/lang/String" "COMPACT_STRINGS" "Z" (.int cS)) (hcS : ¬ (cS = (0 : Int32))) (F1 : Fld Z h0 a "java/lang/String" "coder" "B" (.int w)) :
    MetFree l yn8 (head1 (Jvm.Cond.code yn8 jdk_42_method_154_code 1 (some .boolean) :: ws) ({ frames := 0, cells := 0, slots := 0, locals := 0 } : Room)) (fun aQ_ UQ => aQ_ = #[(.ref a)] ∧ Z.Warmed39 UQ.vm ∧ UQ.heap = h0) (fun _ _ _ _ _ => True) (fun _ UQ oQ UQ' => ∃ vQ_ LQ_, oQ = .returned vQ_ ∧ Q_isLatin1 Z a w cS h0 n0 vQ_ UQ'.heap LQ_ ∧ FrameEnd UQ oQ UQ' LQ_ ({ frames := 0, cells := 0, slots := 0, locals := 0 } : Room).cells ({ frames := 0, cells := 0, slots := 0, locals := 0 } : Room).slots) := by
  refine MetFree.of_bodySF (plainFor_of_name pn_java_lang_String) hisR ?_
  intro p e s m args below meth cO s₁ Bd hml0 hP hK
  obtain ⟨rfl, hZ, hh⟩ := hP
  have hx := Bd.exec
  have hby := Bd.bytes
  have hml : cO.maxLocals = 1 := hml0
  have hown : s.vm.findClass "java/lang/String" = some m.cls := findClass_of_methodNamed Bd.named
  have hnm := (name_of_methodNamed Bd.named Bd.method).1
  have X0 : Stand p l e ({ frames := 0, cells := 0, slots := 0, locals := 0 } : Room) s m #[(.ref a)] below meth cO s₁ [] 0 0 := Stand.of_body Bd
  have e0 : s₁.heap = h0 := by rw [← hh, Bd.state]; rfl
  have N0 := Fr.nil n0
  have W0 : ∀ zQ, SS p e below s₁ m 0 #[.val (.ref a)] [] zQ → Steps p.tables e below (s₁.setTop (entryFrame m #[(.ref a)] 1)) zQ := fun tt kt => castTop (ef_isLatin1 m a) kt
  have F102 : Sta Z h0 "java/lang/String" "COMPACT_STRINGS" "Z" (.int cS) := S_cs.ext O0.2
  obtain ⟨T101, X101, e101, st101⟩ := getS2 X0 hx hZ hown (host := "") (Or.inl (w19 hw)) Via.refl e0 F102 (g := (mkF m 0 #[.val (.ref a)] [])) rfl (hb hby d_jdk_42_method_154_0)
  obtain ⟨T103, X103, e103, st103⟩ := getF X101 hx hZ hown (host := "") (Or.inl (w31 hw)) Via.refl e101 F1 (g := (mkF m 7 #[.val (.ref a)] [(.ref a)])) rfl rfl (hb hby d_jdk_42_method_154_7)
  have W104 : ∀ zQ, SS p e below T103 m 10 #[.val (.ref a)] [(.int w)] zQ → Steps p.tables e below (s₁.setTop (entryFrame m #[(.ref a)] 1)) zQ := by
    intro tt kt
    refine W0 tt ?_
    refine st101 _ ?_
    refine XS.ifNo X101.here hx rfl (hb hby d_jdk_42_method_154_3) rfl ((if0 _ _).trans (feq hcS).1) ?_
    refine XS.aloadN X101.here hx rfl (hb hby d_jdk_42_method_154_6) rfl rfl ?_
    show SS p e below T101 m 7 #[.val (.ref a)] [(.ref a)] _
    refine st103 _ ?_
    exact kt
  have W106 : ∀ zQ, SS p e below T103 m 18 #[.val (.ref a)] [(.int (if w = (0 : Int32) then (1 : Int32) else (0 : Int32)))] zQ → Steps p.tables e below (s₁.setTop (entryFrame m #[(.ref a)] 1)) zQ := by
    intro tt kt
    refine W104 tt ?_
    by_cases hj105 : w = (0 : Int32)
    ·
      refine XS.ifNo X103.here hx rfl (hb hby d_jdk_42_method_154_10) rfl ((if0 _ _).trans (teq hj105).2) ?_
      refine XS.iconst X103.here hx rfl (hb hby d_jdk_42_method_154_13) ?_
      refine XS.goto X103.here hx rfl (pc0 := 14) (pc' := 18) rfl (hb hby d_jdk_42_method_154_14) (by decide) (by decide) ?_
      exact castTop (by first | rfl | (simp only [if_pos hj105]; first | done | rfl)) kt
    ·
      refine XS.ifYes X103.here hx rfl (pc0 := 10) (pc' := 17) rfl (hb hby d_jdk_42_method_154_10) rfl ((if0 _ _).trans (feq hj105).2) (by decide) (by decide) ?_
      refine XS.iconst X103.here hx rfl (hb hby d_jdk_42_method_154_17) ?_
      exact castTop (by first | rfl | (simp only [if_neg hj105]; first | done | rfl)) kt
  obtain ⟨fs, hr, hrun, hended, hW, hsame⟩ := X103.leave (v := some (.int (nar .boolean (if w = (0 : Int32) then (1 : Int32) else (0 : Int32))))) (fun h => by rw [Bd.returns] at h; cases h)
  refine ⟨_, _, W106 _ (retN X103 hx (t := .boolean) Bd.returns (by simp) (hb hby d_jdk_42_method_154_18) hr), hrun, hended, _, _, rfl, ?_, ⟨_, rfl⟩, hW, hsame.mono (by decide) (by decide)⟩
  show Q_isLatin1 Z a w cS h0 n0 _ T103.heap _
  rw [e103]
  exact ⟨(congrArg (fun q => some (Value.int q)) own_bool), N0, rfl⟩
def Q_charAt (Z : State) (a : Addr) (i : Nat) (t : Addr) (kb : ClassId) (cs : List Int32) (cS : Int32) (fm : Value) (h0 : Heap) (n0 : Nat) (vQ_ : Option Value) (hQ_ : Heap) (LQ_ : List Loc) : Prop := vQ_ = some (.int (cs.getD i 0)) ∧ Fr n0 LQ_ ∧ hQ_ = h0
set_option maxRecDepth 65536 in
set_option maxHeartbeats 40000000 in
theorem rm_charAt (l : Launch) (Z : State) (a0 : Array Value) (hw : HW a0 Z) (ws : List Jvm.Cond) (a : Addr) (i : Nat) (t : Addr) (kb : ClassId) (cs : List Int32) (cS : Int32) (fm : Value) (h0 : Heap) (n0 : Nat) (Z0 : n0 ≤ h0.size) (O0 : Old Z n0 h0) (S_cs : Sta Z Z.heap "java/lang/String" "COMPACT_STRINGS" "Z" (.int cS)) (hcS : ¬ (cS = (0 : Int32))) (S_fm : Sta Z Z.heap "jdk/internal/util/Preconditions" "SIOOBE_FORMATTER" "Ljava/util/function/BiFunction;" fm) (hfm : fm.isRef = true) (S_ad : Sta Z Z.heap "java/lang/StringUTF16" "$assertionsDisabled" "Z" (.int (1 : Int32))) (S_hi : Sta Z Z.heap "java/lang/StringUTF16" "HI_BYTE_SHIFT" "I" (.int (0 : Int32))) (S_lo : Sta Z Z.heap "java/lang/StringUTF16" "LO_BYTE_SHIFT" "I" (.int (8 : Int32))) (hS : Str Z h0 a t kb cs) (hi : i < cs.length) :
    MetFree l yn9 (head1 (Jvm.Cond.code yn9 jdk_42_method_56_code 2 (some .char) :: ws) ({ frames := 4, cells := 0, slots := 0, locals := 53 } : Room)) (fun aQ_ UQ => aQ_ = #[(.ref a), (.int (Int32.ofNat i))] ∧ Z.Warmed39 UQ.vm ∧ UQ.heap = h0) (fun _ _ _ _ _ => True) (fun _ UQ oQ UQ' => ∃ vQ_ LQ_, oQ = .returned vQ_ ∧ Q_charAt Z a i t kb cs cS fm h0 n0 vQ_ UQ'.heap LQ_ ∧ FrameEnd UQ oQ UQ' LQ_ ({ frames := 4, cells := 0, slots := 0, locals := 53 } : Room).cells ({ frames := 4, cells := 0, slots := 0, locals := 53 } : Room).slots) := by
  refine MetFree.of_bodySF (plainFor_of_name pn_java_lang_String) hisR ?_
  intro p e s m args below meth cO s₁ Bd hml0 hP hK
  obtain ⟨rfl, hZ, hh⟩ := hP
  have hx := Bd.exec
  have hby := Bd.bytes
  have hml : cO.maxLocals = 2 := hml0
  have hown : s.vm.findClass "java/lang/String" = some m.cls := findClass_of_methodNamed Bd.named
  have hnm := (name_of_methodNamed Bd.named Bd.method).1
  have X0 : Stand p l e ({ frames := 4, cells := 0, slots := 0, locals := 53 } : Room) s m #[(.ref a), (.int (Int32.ofNat i))] below meth cO s₁ [] 0 0 := Stand.of_body Bd
  have e0 : s₁.heap = h0 := by rw [← hh, Bd.state]; rfl
  have N0 := Fr.nil n0
  have W0 : ∀ zQ, SS p e below s₁ m 0 #[.val (.ref a), .val (.int (Int32.ofNat i))] [] zQ → Steps p.tables e below (s₁.setTop (entryFrame m #[(.ref a), (.int (Int32.ofNat i))] 2)) zQ := fun tt kt => castTop (ef_charAt m a (Int32.ofNat i)) kt
  obtain ⟨hE, hV, hC, hA, ok⟩ := hS
  obtain ⟨cq101, kq101, q101a, q101b, q101c⟩ := isOf hZ e0 hE
  obtain ⟨_, _, ⟨T101, L101, k101, n101⟩, -, X101, ⟨Lc101, hQ101, l101, y101, z101⟩, st101⟩ := X0.virtualBack hx (y := yn8) (z := yn8) hown (mvT hZ (w66 hw)) (mvT hZ (w67 hw)) (notFace_of_selects (args := #[]) (mvT hZ (w69 hw))) (mvT hZ (w69 hw)) (mvT hZ (w68 hw)) (by decide) (backOf (W := 0) (rm_isLatin1 l Z a0 hw [] a (cdr cs) cS h0 n0 Z0 O0 S_cs hcS hC) hZ (w70 hw) (w8 hw) (by decide) (by decide)) q101a q101c (g := (mkF m 1 #[.val (.ref a), .val (.int (Int32.ofNat i))] [(.ref a)])) rfl (by rw [hml]; rfl) (Steps.refl _) (argsL := []) (rest := []) (lenOf pd__28__29_Z rfl) rfl (by show 2 * 0 + _ ≤ _; exact Nat.le_of_eq rfl) (hb hby d_jdk_42_method_56_1) (fun _ _ => ⟨rfl, e0, (Nat.le_of_ble_eq_true rfl), (Nat.le_of_ble_eq_true rfl)⟩)
  dsimp only [Pt.U, Pt.locs, Pt.cells, Pt.slots] at X101 l101 y101 z101 st101 hQ101
  subst l101 y101 z101
  obtain ⟨rfl, Nq101, eq101⟩ := hQ101
  have N101 := Fr.app N0 Nq101
  have W102 : ∀ zQ, SS p e below T101 m 4 #[.val (.ref a), .val (.int (Int32.ofNat i))] [(.int (if (cdr cs) = (0 : Int32) then (1 : Int32) else (0 : Int32)))] zQ → Steps p.tables e below (s₁.setTop (entryFrame m #[(.ref a), (.int (Int32.ofNat i))] 2)) zQ := by
    intro tt kt
    refine W0 tt ?_
    refine XS.aloadN X0.here hx rfl (hb hby d_jdk_42_method_56_0) rfl rfl ?_
    show SS p e below s₁ m 1 #[.val (.ref a), .val (.int (Int32.ofNat i))] [(.ref a)] _
    refine st101.trans ?_
    exact kt
  by_cases hc103 : (cdr cs) = (0 : Int32)
  ·
    have hl := cdr_lat hc103
    have hA104 : Arv Z h0 t kb .byte (Int32.ofNat cs.length) (l1 cs) (.int (0 : Int32)) := by have q := enc_lat hl; rw [← q.1, ← q.2.1]; exact hA
    obtain ⟨T105, X105, e105, st105⟩ := getF X101 hx hZ hown (host := "") (Or.inl (w33 hw)) Via.refl eq101 hV (g := (mkF m 8 #[.val (.ref a), .val (.int (Int32.ofNat i))] [(.ref a)])) rfl rfl (hb hby d_jdk_42_method_56_8)
    obtain ⟨_, _, ⟨T106, L106, k106, n106⟩, -, X106, ⟨Lc106, hQ106, l106, y106, z106⟩, st106⟩ := Jvm.LawKit.callS X105 hx (y := yn3) hown (mvT hZ (w134 hw)) (mvT hZ (w135 hw)) (mvT hZ (w73 hw)) (mvT hZ (w136 hw)) (by decide) (backOf (W := 0) (rm_l1charAt l Z a0 hw [] t i kb cs fm h0 n0 Z0 O0 S_fm hfm hA104 hi ok hl) hZ (w136 hw) (w73 hw) (by decide) (by decide)) (g := (mkF m 12 #[.val (.ref a), .val (.int (Int32.ofNat i))] [(.int (Int32.ofNat i)), (.ref t)])) rfl (by rw [hml]; rfl) (argsL := [(.ref t), (.int (Int32.ofNat i))]) (rest := []) (lenOf pd__28__5b_BI_29_C rfl) rfl (by show 2 * 0 + _ ≤ _; exact Nat.le_of_eq rfl) (hb hby d_jdk_42_method_56_12) (fun _ _ => ⟨rfl, e105, (Nat.le_of_ble_eq_true rfl), (Nat.le_of_ble_eq_true rfl)⟩)
    dsimp only [Pt.U, Pt.locs, Pt.cells, Pt.slots] at X106 l106 y106 z106 st106 hQ106
    subst l106 y106 z106
    obtain ⟨rfl, Nq106, eq106⟩ := hQ106
    have N106 := Fr.app N101 Nq106
    have W107 : ∀ zQ, SS p e below T106 m 15 #[.val (.ref a), .val (.int (Int32.ofNat i))] [(.int (cs.getD i 0))] zQ → Steps p.tables e below (s₁.setTop (entryFrame m #[(.ref a), (.int (Int32.ofNat i))] 2)) zQ := by
      intro tt kt
      refine W102 tt ?_
      rw [show (if (cdr cs) = (0 : Int32) then (1 : Int32) else (0 : Int32)) = (1 : Int32) from if_pos hc103]
      refine XS.ifNo X101.here hx rfl (hb hby d_jdk_42_method_56_4) rfl ((if0 _ _).trans (feq (by decide)).1) ?_
      refine XS.aloadN X101.here hx rfl (hb hby d_jdk_42_method_56_7) rfl rfl ?_
      show SS p e below T101 m 8 #[.val (.ref a), .val (.int (Int32.ofNat i))] [(.ref a)] _
      refine st105 _ ?_
      refine XS.iloadN X105.here hx rfl (hb hby d_jdk_42_method_56_11) rfl ?_
      show SS p e below T105 m 12 #[.val (.ref a), .val (.int (Int32.ofNat i))] [(.int (Int32.ofNat i)), (.ref t)] _
      refine st106 _ ?_
      exact kt
    obtain ⟨fs, hr, hrun, hended, hW, hsame⟩ := X106.leave (v := some (.int (nar .char (cs.getD i 0)))) (fun h => by rw [Bd.returns] at h; cases h)
    refine ⟨_, _, W107 _ (retN X106 hx (t := .char) Bd.returns (by simp) (hb hby d_jdk_42_method_56_15) hr), hrun, hended, _, _, rfl, ?_, ⟨_, rfl⟩, hW, hsame.mono (by decide) (by decide)⟩
    show Q_charAt Z a i t kb cs cS fm h0 n0 _ T106.heap _
    rw [eq106]
    exact ⟨(congrArg (fun q => some (Value.int q)) (own_narc (ok.at hi).1 (ok.at hi).2)), N106, rfl⟩
  ·
    have hl := cdr_nlat hc103
    have hA108 : Arv Z h0 t kb .byte (Int32.ofNat (2 * cs.length)) (u16 cs) (.int (0 : Int32)) := by have q := enc_nlat hl; rw [← q.1, ← q.2.1]; exact hA
    obtain ⟨T109, X109, e109, st109⟩ := getF X101 hx hZ hown (host := "") (Or.inl (w33 hw)) Via.refl eq101 hV (g := (mkF m 17 #[.val (.ref a), .val (.int (Int32.ofNat i))] [(.ref a)])) rfl rfl (hb hby d_jdk_42_method_56_17)
    obtain ⟨_, _, ⟨T110, L110, k110, n110⟩, -, X110, ⟨Lc110, hQ110, l110, y110, z110⟩, st110⟩ := Jvm.LawKit.callS X109 hx (y := yn7) hown (mvT hZ (w162 hw)) (mvT hZ (w163 hw)) (mvT hZ (w22 hw)) (mvT hZ (w164 hw)) (by decide) (backOf (W := 0) (rm_u16charAt l Z a0 hw [] t i kb cs fm h0 n0 Z0 O0 S_fm hfm S_ad S_hi S_lo hA108 hi ok) hZ (w164 hw) (w22 hw) (by decide) (by decide)) (g := (mkF m 21 #[.val (.ref a), .val (.int (Int32.ofNat i))] [(.int (Int32.ofNat i)), (.ref t)])) rfl (by rw [hml]; rfl) (argsL := [(.ref t), (.int (Int32.ofNat i))]) (rest := []) (lenOf pd__28__5b_BI_29_C rfl) rfl (by show 2 * 0 + _ ≤ _; exact Nat.le_of_eq rfl) (hb hby d_jdk_42_method_56_21) (fun _ _ => ⟨rfl, e109, (Nat.le_of_ble_eq_true rfl), (Nat.le_of_ble_eq_true rfl)⟩)
    dsimp only [Pt.U, Pt.locs, Pt.cells, Pt.slots] at X110 l110 y110 z110 st110 hQ110
    subst l110 y110 z110
    obtain ⟨rfl, Nq110, eq110⟩ := hQ110
    have N110 := Fr.app N101 Nq110
    have W111 : ∀ zQ, SS p e below T110 m 24 #[.val (.ref a), .val (.int (Int32.ofNat i))] [(.int (cs.getD i 0))] zQ → Steps p.tables e below (s₁.setTop (entryFrame m #[(.ref a), (.int (Int32.ofNat i))] 2)) zQ := by
      intro tt kt
      refine W102 tt ?_
      rw [show (if (cdr cs) = (0 : Int32) then (1 : Int32) else (0 : Int32)) = (0 : Int32) from if_neg hc103]
      refine XS.ifYes X101.here hx rfl (pc0 := 4) (pc' := 16) rfl (hb hby d_jdk_42_method_56_4) rfl ((if0 _ _).trans (teq (by decide)).1) (by decide) (by decide) ?_
      refine XS.aloadN X101.here hx rfl (hb hby d_jdk_42_method_56_16) rfl rfl ?_
      show SS p e below T101 m 17 #[.val (.ref a), .val (.int (Int32.ofNat i))] [(.ref a)] _
      refine st109 _ ?_
      refine XS.iloadN X109.here hx rfl (hb hby d_jdk_42_method_56_20) rfl ?_
      show SS p e below T109 m 21 #[.val (.ref a), .val (.int (Int32.ofNat i))] [(.int (Int32.ofNat i)), (.ref t)] _
      refine st110 _ ?_
      exact kt
    obtain ⟨fs, hr, hrun, hended, hW, hsame⟩ := X110.leave (v := some (.int (nar .char (cs.getD i 0)))) (fun h => by rw [Bd.returns] at h; cases h)
    refine ⟨_, _, W111 _ (retN X110 hx (t := .char) Bd.returns (by simp) (hb hby d_jdk_42_method_56_24) hr), hrun, hended, _, _, rfl, ?_, ⟨_, rfl⟩, hW, hsame.mono (by decide) (by decide)⟩
    show Q_charAt Z a i t kb cs cS fm h0 n0 _ T110.heap _
    rw [eq110]
    exact ⟨(congrArg (fun q => some (Value.int q)) (own_narc (ok.at hi).1 (ok.at hi).2)), N110, rfl⟩
def Q_coder (Z : State) (a : Addr) (w : Int32) (cS : Int32) (h0 : Heap) (n0 : Nat) (vQ_ : Option Value) (hQ_ : Heap) (LQ_ : List Loc) : Prop := vQ_ = some (.int w) ∧ Fr n0 LQ_ ∧ hQ_ = h0
set_option maxRecDepth 65536 in
set_option maxHeartbeats 40000000 in
theorem rm_coder (l : Launch) (Z : State) (a0 : Array Value) (hw : HW a0 Z) (ws : List Jvm.Cond) (a : Addr) (w : Int32) (cS : Int32) (h0 : Heap) (n0 : Nat) (Z0 : n0 ≤ h0.size) (O0 : Old Z n0 h0) (S_cs : Sta Z Z.heap "java/lang/String" "COMPACT_STRINGS" "Z" (.int cS)) (hcS : ¬ (cS = (0 : Int32))) (F1 : Fld Z h0 a "java/lang/String" "coder" "B" (.int w)) (hw8 : nar .byte w = w) :
    MetFree l yn10 (head1 (Jvm.Cond.code yn10 jdk_42_method_152_code 1 (some .byte) :: ws) ({ frames := 0, cells := 0, slots := 0, locals := 0 } : Room)) (fun aQ_ UQ => aQ_ = #[(.ref a)] ∧ Z.Warmed39 UQ.vm ∧ UQ.heap = h0) (fun _ _ _ _ _ => True) (fun _ UQ oQ UQ' => ∃ vQ_ LQ_, oQ = .returned vQ_ ∧ Q_coder Z a w cS h0 n0 vQ_ UQ'.heap LQ_ ∧ FrameEnd UQ oQ UQ' LQ_ ({ frames := 0, cells := 0, slots := 0, locals := 0 } : Room).cells ({ frames := 0, cells := 0, slots := 0, locals := 0 } : Room).slots) := by
  refine MetFree.of_bodySF (plainFor_of_name pn_java_lang_String) hisR ?_
  intro p e s m args below meth cO s₁ Bd hml0 hP hK
  obtain ⟨rfl, hZ, hh⟩ := hP
  have hx := Bd.exec
  have hby := Bd.bytes
  have hml : cO.maxLocals = 1 := hml0
  have hown : s.vm.findClass "java/lang/String" = some m.cls := findClass_of_methodNamed Bd.named
  have hnm := (name_of_methodNamed Bd.named Bd.method).1
  have X0 : Stand p l e ({ frames := 0, cells := 0, slots := 0, locals := 0 } : Room) s m #[(.ref a)] below meth cO s₁ [] 0 0 := Stand.of_body Bd
  have e0 : s₁.heap = h0 := by rw [← hh, Bd.state]; rfl
  have N0 := Fr.nil n0
  have W0 : ∀ zQ, SS p e below s₁ m 0 #[.val (.ref a)] [] zQ → Steps p.tables e below (s₁.setTop (entryFrame m #[(.ref a)] 1)) zQ := fun tt kt => castTop (ef_coder m a) kt
  have F102 : Sta Z h0 "java/lang/String" "COMPACT_STRINGS" "Z" (.int cS) := S_cs.ext O0.2
  obtain ⟨T101, X101, e101, st101⟩ := getS2 X0 hx hZ hown (host := "") (Or.inl (w19 hw)) Via.refl e0 F102 (g := (mkF m 0 #[.val (.ref a)] [])) rfl (hb hby d_jdk_42_method_152_0)
  obtain ⟨T103, X103, e103, st103⟩ := getF X101 hx hZ hown (host := "") (Or.inl (w31 hw)) Via.refl e101 F1 (g := (mkF m 7 #[.val (.ref a)] [(.ref a)])) rfl rfl (hb hby d_jdk_42_method_152_7)
  have W104 : ∀ zQ, SS p e below T103 m 14 #[.val (.ref a)] [(.int w)] zQ → Steps p.tables e below (s₁.setTop (entryFrame m #[(.ref a)] 1)) zQ := by
    intro tt kt
    refine W0 tt ?_
    refine st101 _ ?_
    refine XS.ifNo X101.here hx rfl (hb hby d_jdk_42_method_152_3) rfl ((if0 _ _).trans (feq hcS).1) ?_
    refine XS.aloadN X101.here hx rfl (hb hby d_jdk_42_method_152_6) rfl rfl ?_
    show SS p e below T101 m 7 #[.val (.ref a)] [(.ref a)] _
    refine st103 _ ?_
    refine XS.goto X103.here hx rfl (pc0 := 10) (pc' := 14) rfl (hb hby d_jdk_42_method_152_10) (by decide) (by decide) ?_
    exact kt
  obtain ⟨fs, hr, hrun, hended, hW, hsame⟩ := X103.leave (v := some (.int (nar .byte w))) (fun h => by rw [Bd.returns] at h; cases h)
  refine ⟨_, _, W104 _ (retN X103 hx (t := .byte) Bd.returns (by simp) (hb hby d_jdk_42_method_152_14) hr), hrun, hended, _, _, rfl, ?_, ⟨_, rfl⟩, hW, hsame.mono (by decide) (by decide)⟩
  show Q_coder Z a w cS h0 n0 _ T103.heap _
  rw [e103]
  exact ⟨(congrArg (fun q => some (Value.int q)) hw8), N0, rfl⟩
def Q_length (Z : State) (a : Addr) (t : Addr) (kb : ClassId) (cs : List Int32) (cS : Int32) (h0 : Heap) (n0 : Nat) (vQ_ : Option Value) (hQ_ : Heap) (LQ_ : List Loc) : Prop := vQ_ = some (.int (Int32.ofNat cs.length)) ∧ Fr n0 LQ_ ∧ hQ_ = h0
set_option maxRecDepth 65536 in
set_option maxHeartbeats 40000000 in
theorem rm_length (l : Launch) (Z : State) (a0 : Array Value) (hw : HW a0 Z) (ws : List Jvm.Cond) (a : Addr) (t : Addr) (kb : ClassId) (cs : List Int32) (cS : Int32) (h0 : Heap) (n0 : Nat) (Z0 : n0 ≤ h0.size) (O0 : Old Z n0 h0) (S_cs : Sta Z Z.heap "java/lang/String" "COMPACT_STRINGS" "Z" (.int cS)) (hcS : ¬ (cS = (0 : Int32))) (hS : Str Z h0 a t kb cs) :
    MetFree l yn11 (head1 (Jvm.Cond.code yn11 jdk_42_method_54_code 1 (some .int) :: ws) ({ frames := 1, cells := 0, slots := 0, locals := 13 } : Room)) (fun aQ_ UQ => aQ_ = #[(.ref a)] ∧ Z.Warmed39 UQ.vm ∧ UQ.heap = h0) (fun _ _ _ _ _ => True) (fun _ UQ oQ UQ' => ∃ vQ_ LQ_, oQ = .returned vQ_ ∧ Q_length Z a t kb cs cS h0 n0 vQ_ UQ'.heap LQ_ ∧ FrameEnd UQ oQ UQ' LQ_ ({ frames := 1, cells := 0, slots := 0, locals := 13 } : Room).cells ({ frames := 1, cells := 0, slots := 0, locals := 13 } : Room).slots) := by
  refine MetFree.of_bodySF (plainFor_of_name pn_java_lang_String) hisR ?_
  intro p e s m args below meth cO s₁ Bd hml0 hP hK
  obtain ⟨rfl, hZ, hh⟩ := hP
  have hx := Bd.exec
  have hby := Bd.bytes
  have hml : cO.maxLocals = 1 := hml0
  have hown : s.vm.findClass "java/lang/String" = some m.cls := findClass_of_methodNamed Bd.named
  have hnm := (name_of_methodNamed Bd.named Bd.method).1
  have X0 : Stand p l e ({ frames := 1, cells := 0, slots := 0, locals := 13 } : Room) s m #[(.ref a)] below meth cO s₁ [] 0 0 := Stand.of_body Bd
  have e0 : s₁.heap = h0 := by rw [← hh, Bd.state]; rfl
  have N0 := Fr.nil n0
  have W0 : ∀ zQ, SS p e below s₁ m 0 #[.val (.ref a)] [] zQ → Steps p.tables e below (s₁.setTop (entryFrame m #[(.ref a)] 1)) zQ := fun tt kt => castTop (ef_length m a) kt
  obtain ⟨hE, hV, hC, hA, ok⟩ := hS
  obtain ⟨T101, X101, e101, st101⟩ := getF X0 hx hZ hown (host := "") (Or.inl (w33 hw)) Via.refl e0 hV (g := (mkF m 1 #[.val (.ref a)] [(.ref a)])) rfl rfl (hb hby d_jdk_42_method_54_1)
  obtain ⟨cl102, Ar102, -, S102, M102, -, -⟩ := id hA
  obtain ⟨cq103, kq103, q103a, q103b, q103c⟩ := isOf hZ e101 hE
  obtain ⟨_, _, ⟨T103, L103, k103, n103⟩, -, X103, ⟨Lc103, hQ103, l103, y103, z103⟩, st103⟩ := X101.virtualBack hx (y := yn10) (z := yn10) hown (mvT hZ (w53 hw)) (mvT hZ (w54 hw)) (notFace_of_selects (args := #[]) (mvT hZ (w56 hw))) (mvT hZ (w56 hw)) (mvT hZ (w55 hw)) (by decide) (backOf (W := 1) (rm_coder l Z a0 hw [] a (cdr cs) cS h0 n0 Z0 O0 S_cs hcS hC (own_narcdr cs)) hZ (w57 hw) (w8 hw) (by decide) (by decide)) q103a q103c (g := (mkF m 6 #[.val (.ref a)] [(.ref a), (.int (Int32.ofNat (blen cs)))])) rfl (by rw [hml]; rfl) (Steps.refl _) (argsL := []) (rest := [(.int (Int32.ofNat (blen cs)))]) (lenOf pd__28__29_B rfl) rfl (by show 2 * 0 + _ ≤ _; exact Nat.le_of_eq rfl) (hb hby d_jdk_42_method_54_6) (fun _ _ => ⟨rfl, e101, (Nat.le_of_ble_eq_true rfl), (Nat.le_of_ble_eq_true rfl)⟩)
  dsimp only [Pt.U, Pt.locs, Pt.cells, Pt.slots] at X103 l103 y103 z103 st103 hQ103
  subst l103 y103 z103
  obtain ⟨rfl, Nq103, eq103⟩ := hQ103
  have N103 := Fr.app N0 Nq103
  have W104 : ∀ zQ, SS p e below T103 m 10 #[.val (.ref a)] [(.int (Int32.ofNat cs.length))] zQ → Steps p.tables e below (s₁.setTop (entryFrame m #[(.ref a)] 1)) zQ := by
    intro tt kt
    refine W0 tt ?_
    refine XS.aloadN X0.here hx rfl (hb hby d_jdk_42_method_54_0) rfl rfl ?_
    show SS p e below s₁ m 1 #[.val (.ref a)] [(.ref a)] _
    refine st101 _ ?_
    show SS p e below T101 m 4 #[.val (.ref a)] [(.ref t)] _
    refine X101.arraylength hx (by first | exact Ar102.1 | (rw [e101]; exact Ar102.1)) (State.isArrayOf_alike hZ.alike Ar102.2.1) (g := (mkF m 4 #[.val (.ref a)] [(.ref t)])) rfl rfl (hb hby d_jdk_42_method_54_4) _ ?_
    rw [len_of S102 M102]
    refine XS.aloadN X101.here hx rfl (hb hby d_jdk_42_method_54_5) rfl rfl ?_
    show SS p e below T101 m 6 #[.val (.ref a)] [(.ref a), (.int (Int32.ofNat (blen cs)))] _
    refine st103.trans ?_
    refine XS.ishr X103.here hx rfl (hb hby d_jdk_42_method_54_9) rfl ?_
    show SS p e below T103 m 10 #[.val (.ref a)] [(.int ((Int32.ofNat (blen cs)) >>> ((cdr cs) &&& 31)))] _
    rw [show ((Int32.ofNat (blen cs)) >>> ((cdr cs) &&& 31)) = (Int32.ofNat cs.length) from own_len ok.2]
    exact kt
  obtain ⟨fs, hr, hrun, hended, hW, hsame⟩ := X103.leave (v := some (.int (Int32.ofNat cs.length))) (fun h => by rw [Bd.returns] at h; cases h)
  refine ⟨_, _, W104 _ (retI X103 hx Bd.returns (hb hby d_jdk_42_method_54_10) hr), hrun, hended, _, _, rfl, ?_, ⟨_, rfl⟩, hW, hsame.mono (by decide) (by decide)⟩
  show Q_length Z a t kb cs cS h0 n0 _ T103.heap _
  rw [eq103]
  exact ⟨rfl, N103, rfl⟩
set_option maxRecDepth 65536 in
set_option maxHeartbeats 40000000 in
theorem lp_compr {p : Program} {l : Launch} {e : Env} {R : Room} {s : State} {m : MethodId} {args : Array Value} {below : List Frame} {meth : Method} {cO : Code} {cells slots : Nat} {Z : State} {a0 : Array Value} (hx : p.tables.exec = Jvm.exec) (hZ : Z.Warmed39 s.vm) (hw : HW a0 Z) (hby : cO.code = jdk_52_method_21_code) (hml : cO.maxLocals = 7) (hown : s.vm.findClass "java/lang/StringUTF16" = some m.cls) (hRf : 0 ≤ R.frames) (hRl : 0 ≤ R.locals) (hRc : cells ≤ R.cells) (hRs : slots ≤ R.slots) (hret : meth.sig.returnType = some .int) (src : Addr) (dst : Addr) (kc : ClassId) (kb : ClassId) (cs : List Int32) (n0 : Nat) (hne : src ≠ dst) (hg : n0 ≤ dst) (ok : OkS cs) :
    ∀ suf : List Int32, ∀ (pre : List Int32) (s6 : Slot) (T0 : State) (L0 : List Loc) (h0 : Heap) (X0 : Stand p l e R s m args below meth cO T0 L0 cells slots) (e0 : T0.heap = h0) (N0 : Fr n0 L0) (Z0 : n0 ≤ h0.size) (Vs : Arv Z h0 src kc .char (Int32.ofNat cs.length) (cs.map Value.int) (.int (0 : Int32))) (Vd : Arv Z h0 dst kb .byte (Int32.ofNat cs.length) (l1 pre) (.int (0 : Int32))) (hl : lat pre = true) (h6 : One s6) (hk : cs = pre ++ suf), ∃ (T' : State) (L' : List Loc) (h' : Heap), Stand p l e R s m args below meth cO T' L' cells slots ∧ T'.heap = h' ∧ Fr n0 L' ∧ Keep h0 h' [dst] ∧ Arv Z h' dst kb .byte (Int32.ofNat cs.length) (l1 (cs.take (fl cs))) (.int (0 : Int32)) ∧ ∀ fs, (∀ (f : JFrame) (acts : List Action), f.method = m → f.locked = none → f.entered = [] → (doReturn e (T'.setTop f) acts (some (.int (Int32.ofNat (fl cs))))).1 = T'.setFrames fs) → SS p e below T0 m 3 #[.val (.ref src), .val (.int (Int32.ofNat pre.length)), .val (.ref dst), .val (.int (Int32.ofNat pre.length)), .val (.int (Int32.ofNat cs.length)), .val (.int (Int32.ofNat pre.length)), s6] [] (T'.setFrames fs) := by
  intro suf
  induction suf with
  | nil =>
    intro pre s6 T0 L0 h0 X0 e0 N0 Z0 Vs Vd hl h6 hk
    have W0 : ∀ zQ, SS p e below T0 m 3 #[.val (.ref src), .val (.int (Int32.ofNat pre.length)), .val (.ref dst), .val (.int (Int32.ofNat pre.length)), .val (.int (Int32.ofNat cs.length)), .val (.int (Int32.ofNat pre.length)), s6] [] zQ → Steps p.tables e below (T0.setTop (mkF m 3 #[.val (.ref src), .val (.int (Int32.ofNat pre.length)), .val (.ref dst), .val (.int (Int32.ofNat pre.length)), .val (.int (Int32.ofNat cs.length)), .val (.int (Int32.ofNat pre.length)), s6] [])) zQ := fun tt kt => kt
    have hn : cs.length < 1048576 := ok.2
    have hfl : fl cs = pre.length := by rw [hk, fl_app _ hl]; rfl
    have hlen : cs.length = pre.length := by rw [hk]; simp
    have W101 : ∀ zQ, SS p e below T0 m 46 #[.val (.ref src), .val (.int (Int32.ofNat pre.length)), .val (.ref dst), .val (.int (Int32.ofNat pre.length)), .val (.int (Int32.ofNat cs.length)), .val (.int (Int32.ofNat pre.length)), s6] [(.int (Int32.ofNat cs.length))] zQ → Steps p.tables e below (T0.setTop (mkF m 3 #[.val (.ref src), .val (.int (Int32.ofNat pre.length)), .val (.ref dst), .val (.int (Int32.ofNat pre.length)), .val (.int (Int32.ofNat cs.length)), .val (.int (Int32.ofNat pre.length)), s6] [])) zQ := by
      intro tt kt
      refine W0 tt ?_
      refine XS.iload X0.here hx rfl (hb hby d_jdk_52_method_21_3) rfl ?_
      refine XS.iload X0.here hx rfl (hb hby d_jdk_52_method_21_5) rfl ?_
      refine XS.icmpYes X0.here hx rfl (pc0 := 7) (pc' := 44) rfl (hb hby d_jdk_52_method_21_7) rfl (flt (own_nlt (by omega) (by omega))).2.1 (by decide) (by decide) ?_
      refine XS.iload X0.here hx rfl (hb hby d_jdk_52_method_21_44) rfl ?_
      exact kt
    have hR102 : Arv Z h0 dst kb .byte (Int32.ofNat cs.length) (l1 (cs.take (fl cs))) (.int (0 : Int32)) := by rw [show cs.take (fl cs) = pre from by rw [hfl, hk]; exact List.take_left]; exact Vd
    exact ⟨T0, _, h0, X0, e0, N0, (Keep.refl h0 [dst]), hR102, fun fs hr => W101 _ (retI X0 hx hret (hb hby d_jdk_52_method_21_46) (by rw [show (Value.int (Int32.ofNat cs.length)) = (Value.int (Int32.ofNat (fl cs))) from (by rw [hfl, hlen])]; exact hr))⟩
  | cons cc r ih =>
    intro pre s6 T0 L0 h0 X0 e0 N0 Z0 Vs Vd hl h6 hk
    have W0 : ∀ zQ, SS p e below T0 m 3 #[.val (.ref src), .val (.int (Int32.ofNat pre.length)), .val (.ref dst), .val (.int (Int32.ofNat pre.length)), .val (.int (Int32.ofNat cs.length)), .val (.int (Int32.ofNat pre.length)), s6] [] zQ → Steps p.tables e below (T0.setTop (mkF m 3 #[.val (.ref src), .val (.int (Int32.ofNat pre.length)), .val (.ref dst), .val (.int (Int32.ofNat pre.length)), .val (.int (Int32.ofNat cs.length)), .val (.int (Int32.ofNat pre.length)), s6] [])) zQ := fun tt kt => kt
    have hn : cs.length < 1048576 := ok.2
    have hlt : pre.length < cs.length := by rw [hk]; simp
    have hcc : cs.getD pre.length 0 = cc := by rw [hk]; exact app_at pre r cc 0
    obtain ⟨cl103, Ar103, q103, S103, M103, H103, F103g⟩ := id Vs
    have hin103 : ¬ ((Int32.ofNat pre.length) < 0 ∨ cl103.slots.size ≤ ((Int32.ofNat pre.length)).toNatClampNeg) := inb_of S103 ⟨own_nneg (by omega), own_lt hlt (by omega)⟩
    have hat103 : cl103.slots[((Int32.ofNat pre.length)).toNatClampNeg]? = some (.int cc) := Has.at H103 hin103 (by rw [own_cl (by omega), ch_at _ _ _ hlt, hcc])
    have W104 : ∀ zQ, SS p e below T0 m 20 #[.val (.ref src), .val (.int (Int32.ofNat pre.length)), .val (.ref dst), .val (.int (Int32.ofNat pre.length)), .val (.int (Int32.ofNat cs.length)), .val (.int (Int32.ofNat pre.length)), .val (.int cc)] [(.int (255 : Int32)), (.int cc)] zQ → Steps p.tables e below (T0.setTop (mkF m 3 #[.val (.ref src), .val (.int (Int32.ofNat pre.length)), .val (.ref dst), .val (.int (Int32.ofNat pre.length)), .val (.int (Int32.ofNat cs.length)), .val (.int (Int32.ofNat pre.length)), s6] [])) zQ := by
      intro tt kt
      refine W0 tt ?_
      refine XS.iload X0.here hx rfl (hb hby d_jdk_52_method_21_3) rfl ?_
      refine XS.iload X0.here hx rfl (hb hby d_jdk_52_method_21_5) rfl ?_
      refine XS.icmpNo X0.here hx rfl (hb hby d_jdk_52_method_21_7) rfl (tlt (own_lt hlt (by omega))).2.1 ?_
      refine XS.aloadN X0.here hx rfl (hb hby d_jdk_52_method_21_10) rfl rfl ?_
      refine XS.iloadN X0.here hx rfl (hb hby d_jdk_52_method_21_11) rfl ?_
      show SS p e below T0 m 12 #[.val (.ref src), .val (.int (Int32.ofNat pre.length)), .val (.ref dst), .val (.int (Int32.ofNat pre.length)), .val (.int (Int32.ofNat cs.length)), .val (.int (Int32.ofNat pre.length)), s6] [(.int (Int32.ofNat pre.length)), (.ref src)] _
      refine X0.caload hx (j := (Int32.ofNat pre.length)) (v := (.int cc)) (by first | exact Ar103.1 | (rw [e0]; exact Ar103.1)) (State.isArrayOf_alike hZ.alike Ar103.2.1) Ar103.2.2 hin103 hat103 (g := (mkF m 12 #[.val (.ref src), .val (.int (Int32.ofNat pre.length)), .val (.ref dst), .val (.int (Int32.ofNat pre.length)), .val (.int (Int32.ofNat cs.length)), .val (.int (Int32.ofNat pre.length)), s6] [(.int (Int32.ofNat pre.length)), (.ref src)])) rfl rfl (hb hby d_jdk_52_method_21_12) _ ?_
      refine XS.istore X0.here hx rfl (hb hby d_jdk_52_method_21_13) rfl (l' := #[.val (.ref src), .val (.int (Int32.ofNat pre.length)), .val (.ref dst), .val (.int (Int32.ofNat pre.length)), .val (.int (Int32.ofNat cs.length)), .val (.int (Int32.ofNat pre.length)), .val (.int cc)]) (XS.store1 (o := s6) rfl h6 rfl) ?_
      refine XS.iload X0.here hx rfl (hb hby d_jdk_52_method_21_15) rfl ?_
      refine XS.sipush X0.here hx rfl (hb hby d_jdk_52_method_21_17) ?_
      exact kt
    by_cases hc105 : (255 : Int32) < cc
    ·
      have hfl : fl cs = pre.length := by rw [hk, fl_app _ hl]; show _ + (if (255 : Int32) < cc then 0 else fl r + 1) = _; rw [if_pos hc105]; rfl
      have W106 : ∀ zQ, SS p e below T0 m 25 #[.val (.ref src), .val (.int (Int32.ofNat pre.length)), .val (.ref dst), .val (.int (Int32.ofNat pre.length)), .val (.int (Int32.ofNat cs.length)), .val (.int (Int32.ofNat pre.length)), .val (.int cc)] [(.int (Int32.ofNat pre.length))] zQ → Steps p.tables e below (T0.setTop (mkF m 3 #[.val (.ref src), .val (.int (Int32.ofNat pre.length)), .val (.ref dst), .val (.int (Int32.ofNat pre.length)), .val (.int (Int32.ofNat cs.length)), .val (.int (Int32.ofNat pre.length)), s6] [])) zQ := by
        intro tt kt
        refine W104 tt ?_
        refine XS.icmpNo X0.here hx rfl (hb hby d_jdk_52_method_21_20) rfl (tlt hc105).2.2.2 ?_
        refine XS.iload X0.here hx rfl (hb hby d_jdk_52_method_21_23) rfl ?_
        exact kt
      have hR107 : Arv Z h0 dst kb .byte (Int32.ofNat cs.length) (l1 (cs.take (fl cs))) (.int (0 : Int32)) := by rw [show cs.take (fl cs) = pre from by rw [hfl, hk]; exact List.take_left]; exact Vd
      exact ⟨T0, _, h0, X0, e0, N0, (Keep.refl h0 [dst]), hR107, fun fs hr => W106 _ (retI X0 hx hret (hb hby d_jdk_52_method_21_25) (by rw [show (Value.int (Int32.ofNat pre.length)) = (Value.int (Int32.ofNat (fl cs))) from (by rw [hfl])]; exact hr))⟩
    ·
      obtain ⟨cl108, Ar108, q108, S108, M108, H108, F108g⟩ := id Vd
      have hin108 : ¬ ((Int32.ofNat pre.length) < 0 ∨ cl108.slots.size ≤ ((Int32.ofNat pre.length)).toNatClampNeg) := inb_of S108 ⟨own_nneg (by omega), own_lt hlt (by omega)⟩
      obtain ⟨T108, h108, X108, e108, Wr108, st108⟩ := stB X0 hx hZ e0 Ar108 (j := (Int32.ofNat pre.length)) hin108 (g := (mkF m 31 #[.val (.ref src), .val (.int (Int32.ofNat pre.length)), .val (.ref dst), .val (.int (Int32.ofNat pre.length)), .val (.int (Int32.ofNat cs.length)), .val (.int (Int32.ofNat pre.length)), .val (.int cc)] [(.int (cc.toInt8.toInt32)), (.int (Int32.ofNat pre.length)), (.ref dst)])) rfl rfl (hb hby d_jdk_52_method_21_31)
      have G108 : Arv Z h108 dst kb .byte (Int32.ofNat cs.length) ((l1 pre) ++ [(.int (nar .byte (cc.toInt8.toInt32)))]) (.int (0 : Int32)) := Arv.push Ar108 q108 S108 M108 H108 F108g (fits_nar_byte _) Wr108 (by rw [own_cl (by omega), l1_len])
      have K108 := Keep.of_wr Wr108
      have N108 := Fr.snoc X108 N0 hg
      have J108 : Arv Z h108 dst kb .byte (Int32.ofNat cs.length) (l1 (pre ++ [cc])) (.int (0 : Int32)) := by rw [← l1_snoc, ← own_narb]; exact G108
      have W109 : ∀ zQ, SS p e below T108 m 3 #[.val (.ref src), .val (.int (Int32.ofNat (pre ++ [cc]).length)), .val (.ref dst), .val (.int (Int32.ofNat (pre ++ [cc]).length)), .val (.int (Int32.ofNat cs.length)), .val (.int (Int32.ofNat (pre ++ [cc]).length)), .val (.int cc)] [] zQ → Steps p.tables e below (T0.setTop (mkF m 3 #[.val (.ref src), .val (.int (Int32.ofNat pre.length)), .val (.ref dst), .val (.int (Int32.ofNat pre.length)), .val (.int (Int32.ofNat cs.length)), .val (.int (Int32.ofNat pre.length)), s6] [])) zQ := by
        intro tt kt
        refine W104 tt ?_
        refine XS.icmpYes X0.here hx rfl (pc0 := 20) (pc' := 26) rfl (hb hby d_jdk_52_method_21_20) rfl (flt hc105).2.2.2 (by decide) (by decide) ?_
        refine XS.aloadN X0.here hx rfl (hb hby d_jdk_52_method_21_26) rfl rfl ?_
        refine XS.iloadN X0.here hx rfl (hb hby d_jdk_52_method_21_27) rfl ?_
        refine XS.iload X0.here hx rfl (hb hby d_jdk_52_method_21_28) rfl ?_
        refine XS.i2b X0.here hx rfl (hb hby d_jdk_52_method_21_30) rfl ?_
        show SS p e below T0 m 31 #[.val (.ref src), .val (.int (Int32.ofNat pre.length)), .val (.ref dst), .val (.int (Int32.ofNat pre.length)), .val (.int (Int32.ofNat cs.length)), .val (.int (Int32.ofNat pre.length)), .val (.int cc)] [(.int (cc.toInt8.toInt32)), (.int (Int32.ofNat pre.length)), (.ref dst)] _
        refine st108 _ ?_
        show SS p e below T108 m 32 #[.val (.ref src), .val (.int (Int32.ofNat pre.length)), .val (.ref dst), .val (.int (Int32.ofNat pre.length)), .val (.int (Int32.ofNat cs.length)), .val (.int (Int32.ofNat pre.length)), .val (.int cc)] [] _
        refine XS.iinc X108.here hx rfl (hb hby d_jdk_52_method_21_32) rfl (l' := #[.val (.ref src), .val (.int ((Int32.ofNat pre.length) + (1 : Int32))), .val (.ref dst), .val (.int (Int32.ofNat pre.length)), .val (.int (Int32.ofNat cs.length)), .val (.int (Int32.ofNat pre.length)), .val (.int cc)]) rfl ?_
        show SS p e below T108 m 35 #[.val (.ref src), .val (.int ((Int32.ofNat pre.length) + (1 : Int32))), .val (.ref dst), .val (.int (Int32.ofNat pre.length)), .val (.int (Int32.ofNat cs.length)), .val (.int (Int32.ofNat pre.length)), .val (.int cc)] [] _
        refine XS.iinc X108.here hx rfl (hb hby d_jdk_52_method_21_35) rfl (l' := #[.val (.ref src), .val (.int ((Int32.ofNat pre.length) + (1 : Int32))), .val (.ref dst), .val (.int ((Int32.ofNat pre.length) + (1 : Int32))), .val (.int (Int32.ofNat cs.length)), .val (.int (Int32.ofNat pre.length)), .val (.int cc)]) rfl ?_
        show SS p e below T108 m 38 #[.val (.ref src), .val (.int ((Int32.ofNat pre.length) + (1 : Int32))), .val (.ref dst), .val (.int ((Int32.ofNat pre.length) + (1 : Int32))), .val (.int (Int32.ofNat cs.length)), .val (.int (Int32.ofNat pre.length)), .val (.int cc)] [] _
        refine XS.iinc X108.here hx rfl (hb hby d_jdk_52_method_21_38) rfl (l' := #[.val (.ref src), .val (.int ((Int32.ofNat pre.length) + (1 : Int32))), .val (.ref dst), .val (.int ((Int32.ofNat pre.length) + (1 : Int32))), .val (.int (Int32.ofNat cs.length)), .val (.int ((Int32.ofNat pre.length) + (1 : Int32))), .val (.int cc)]) rfl ?_
        show SS p e below T108 m 41 #[.val (.ref src), .val (.int ((Int32.ofNat pre.length) + (1 : Int32))), .val (.ref dst), .val (.int ((Int32.ofNat pre.length) + (1 : Int32))), .val (.int (Int32.ofNat cs.length)), .val (.int ((Int32.ofNat pre.length) + (1 : Int32))), .val (.int cc)] [] _
        rw [show ((Int32.ofNat pre.length) + (1 : Int32)) = (Int32.ofNat (pre ++ [cc]).length) from (by rw [own_succ]; simp)]
        refine XS.goto X108.here hx rfl (pc0 := 41) (pc' := 3) rfl (hb hby d_jdk_52_method_21_41) (by decide) (by decide) ?_
        exact kt
      have F111 : Arv Z h108 src kc .char (Int32.ofNat cs.length) (cs.map Value.int) (.int (0 : Int32)) := (Vs.keep K108 (ninS hne nin0))
      obtain ⟨T110, L110, h110, X110, e110, N110, K110, P110_0, st110⟩ := ih (pre ++ [cc]) (.val (.int cc)) T108 _ h108 X108 e108 N108 (Nat.le_trans Z0 K108.1) F111 J108 (lat_snoc hl hc105) (One.val rfl) (by rw [hk]; simp)
      exact ⟨T110, L110, h110, X110, e110, N110, (Keep.trans (Keep.trans (Keep.refl h0 [dst]) K108 (allS (Or.inl (List.mem_of_getElem? (i := 0) rfl)) all0)) K110 (allS (Or.inl (List.mem_of_getElem? (i := 0) rfl)) all0)), P110_0, fun tt kt => W109 _ (st110 _ kt)⟩
def Q_compress21 (Z : State) (src : Addr) (dst : Addr) (kc : ClassId) (kb : ClassId) (cs : List Int32) (h0 : Heap) (n0 : Nat) (vQ_ : Option Value) (hQ_ : Heap) (LQ_ : List Loc) : Prop := vQ_ = some (.int (Int32.ofNat (fl cs))) ∧ Fr n0 LQ_ ∧ Keep h0 hQ_ [dst] ∧ Arv Z hQ_ dst kb .byte (Int32.ofNat cs.length) (l1 (cs.take (fl cs))) (.int (0 : Int32))
set_option maxRecDepth 65536 in
set_option maxHeartbeats 40000000 in
theorem rm_compress21 (l : Launch) (Z : State) (a0 : Array Value) (hw : HW a0 Z) (ws : List Jvm.Cond) (src : Addr) (dst : Addr) (kc : ClassId) (kb : ClassId) (cs : List Int32) (h0 : Heap) (n0 : Nat) (Z0 : n0 ≤ h0.size) (Vs : Arv Z h0 src kc .char (Int32.ofNat cs.length) (cs.map Value.int) (.int (0 : Int32))) (Vd : Arv Z h0 dst kb .byte (Int32.ofNat cs.length) [] (.int (0 : Int32))) (hne : src ≠ dst) (hg : n0 ≤ dst) (ok : OkS cs) :
    MetFree l yn12 (head1 (Jvm.Cond.code yn12 jdk_52_method_21_code 7 (some .int) :: ws) ({ frames := 0, cells := 0, slots := 0, locals := 0 } : Room)) (fun aQ_ UQ => aQ_ = #[(.ref src), (.int (0 : Int32)), (.ref dst), (.int (0 : Int32)), (.int (Int32.ofNat cs.length))] ∧ Z.Warmed39 UQ.vm ∧ UQ.heap = h0) (fun _ _ _ _ _ => True) (fun _ UQ oQ UQ' => ∃ vQ_ LQ_, oQ = .returned vQ_ ∧ Q_compress21 Z src dst kc kb cs h0 n0 vQ_ UQ'.heap LQ_ ∧ FrameEnd UQ oQ UQ' LQ_ ({ frames := 0, cells := 0, slots := 0, locals := 0 } : Room).cells ({ frames := 0, cells := 0, slots := 0, locals := 0 } : Room).slots) := by
  refine MetFree.of_bodySF (plainFor_of_name pn_java_lang_StringUTF16) hisR ?_
  intro p e s m args below meth cO s₁ Bd hml0 hP hK
  obtain ⟨rfl, hZ, hh⟩ := hP
  have hx := Bd.exec
  have hby := Bd.bytes
  have hml : cO.maxLocals = 7 := hml0
  have hown : s.vm.findClass "java/lang/StringUTF16" = some m.cls := findClass_of_methodNamed Bd.named
  have hnm := (name_of_methodNamed Bd.named Bd.method).1
  have X0 : Stand p l e ({ frames := 0, cells := 0, slots := 0, locals := 0 } : Room) s m #[(.ref src), (.int (0 : Int32)), (.ref dst), (.int (0 : Int32)), (.int (Int32.ofNat cs.length))] below meth cO s₁ [] 0 0 := Stand.of_body Bd
  have e0 : s₁.heap = h0 := by rw [← hh, Bd.state]; rfl
  have N0 := Fr.nil n0
  have W0 : ∀ zQ, SS p e below s₁ m 0 #[.val (.ref src), .val (.int (0 : Int32)), .val (.ref dst), .val (.int (0 : Int32)), .val (.int (Int32.ofNat cs.length)), .unset, .unset] [] zQ → Steps p.tables e below (s₁.setTop (entryFrame m #[(.ref src), (.int (0 : Int32)), (.ref dst), (.int (0 : Int32)), (.int (Int32.ofNat cs.length))] 7)) zQ := fun tt kt => castTop (ef_compress21 m src (0 : Int32) dst (0 : Int32) (Int32.ofNat cs.length)) kt
  have W101 : ∀ zQ, SS p e below s₁ m 3 #[.val (.ref src), .val (.int (0 : Int32)), .val (.ref dst), .val (.int (0 : Int32)), .val (.int (Int32.ofNat cs.length)), .val (.int (0 : Int32)), .unset] [] zQ → Steps p.tables e below (s₁.setTop (entryFrame m #[(.ref src), (.int (0 : Int32)), (.ref dst), (.int (0 : Int32)), (.int (Int32.ofNat cs.length))] 7)) zQ := by
    intro tt kt
    refine W0 tt ?_
    refine XS.iconst X0.here hx rfl (hb hby d_jdk_52_method_21_0) ?_
    refine XS.istore X0.here hx rfl (hb hby d_jdk_52_method_21_1) rfl (l' := #[.val (.ref src), .val (.int (0 : Int32)), .val (.ref dst), .val (.int (0 : Int32)), .val (.int (Int32.ofNat cs.length)), .val (.int (0 : Int32)), .unset]) rfl ?_
    exact kt
  obtain ⟨T102, L102, h102, X102, e102, Nl102, K102, P102_0, st102⟩ := lp_compr hx hZ hw hby hml hown (by decide) (by decide) (by decide) (by decide) Bd.returns src dst kc kb cs n0 hne hg ok cs [] .unset s₁ _ h0 X0 e0 N0 Z0 Vs Vd rfl One.u rfl
  obtain ⟨fs, hr, hrun, hended, hW, hsame⟩ := X102.leave (v := some (.int (Int32.ofNat (fl cs)))) (fun h => by rw [Bd.returns] at h; cases h)
  refine ⟨_, _, W101 _ (st102 _ hr), hrun, hended, _, _, rfl, ?_, ⟨_, rfl⟩, hW, hsame.mono (by decide) (by decide)⟩
  show Q_compress21 Z src dst kc kb cs h0 n0 _ T102.heap _
  rw [e102]
  exact ⟨rfl, Nl102, (Keep.trans (Keep.refl h0 [dst]) K102 (allS (Or.inl (List.mem_of_getElem? (i := 0) rfl)) all0)), P102_0⟩
def Q_coderOf (Z : State) (t : Addr) (kb : ClassId) (vs : List Value) (cs : List Int32) (h0 : Heap) (n0 : Nat) (vQ_ : Option Value) (hQ_ : Heap) (LQ_ : List Loc) : Prop := vQ_ = some (.int (cdr cs)) ∧ Fr n0 LQ_ ∧ hQ_ = h0
set_option maxRecDepth 65536 in
set_option maxHeartbeats 40000000 in
theorem rm_coderOf (l : Launch) (Z : State) (a0 : Array Value) (hw : HW a0 Z) (ws : List Jvm.Cond) (t : Addr) (kb : ClassId) (vs : List Value) (cs : List Int32) (h0 : Heap) (n0 : Nat) (Z0 : n0 ≤ h0.size) (A1 : Arv Z h0 t kb .byte (Int32.ofNat (blen cs)) vs (.int (0 : Int32))) (ok : OkS cs) :
    MetFree l yn13 (head1 (Jvm.Cond.code yn13 jdk_52_method_15_code 2 (some .byte) :: ws) ({ frames := 0, cells := 0, slots := 0, locals := 0 } : Room)) (fun aQ_ UQ => aQ_ = #[(.ref t), (.int (Int32.ofNat cs.length))] ∧ Z.Warmed39 UQ.vm ∧ UQ.heap = h0) (fun _ _ _ _ _ => True) (fun _ UQ oQ UQ' => ∃ vQ_ LQ_, oQ = .returned vQ_ ∧ Q_coderOf Z t kb vs cs h0 n0 vQ_ UQ'.heap LQ_ ∧ FrameEnd UQ oQ UQ' LQ_ ({ frames := 0, cells := 0, slots := 0, locals := 0 } : Room).cells ({ frames := 0, cells := 0, slots := 0, locals := 0 } : Room).slots) := by
  refine MetFree.of_bodySF (plainFor_of_name pn_java_lang_StringUTF16) hisR ?_
  intro p e s m args below meth cO s₁ Bd hml0 hP hK
  obtain ⟨rfl, hZ, hh⟩ := hP
  have hx := Bd.exec
  have hby := Bd.bytes
  have hml : cO.maxLocals = 2 := hml0
  have hown : s.vm.findClass "java/lang/StringUTF16" = some m.cls := findClass_of_methodNamed Bd.named
  have hnm := (name_of_methodNamed Bd.named Bd.method).1
  have X0 : Stand p l e ({ frames := 0, cells := 0, slots := 0, locals := 0 } : Room) s m #[(.ref t), (.int (Int32.ofNat cs.length))] below meth cO s₁ [] 0 0 := Stand.of_body Bd
  have e0 : s₁.heap = h0 := by rw [← hh, Bd.state]; rfl
  have N0 := Fr.nil n0
  have W0 : ∀ zQ, SS p e below s₁ m 0 #[.val (.ref t), .val (.int (Int32.ofNat cs.length))] [] zQ → Steps p.tables e below (s₁.setTop (entryFrame m #[(.ref t), (.int (Int32.ofNat cs.length))] 2)) zQ := fun tt kt => castTop (ef_coderOf m t (Int32.ofNat cs.length)) kt
  obtain ⟨cl101, Ar101, -, S101, M101, -, -⟩ := id A1
  have W102 : ∀ zQ, SS p e below s₁ m 8 #[.val (.ref t), .val (.int (Int32.ofNat cs.length))] [(.int (((((Int32.ofNat cs.length) - (Int32.ofNat (blen cs))).toUInt32 >>> ((31 : Int32) &&& 31).toUInt32).toInt32).toInt8.toInt32))] zQ → Steps p.tables e below (s₁.setTop (entryFrame m #[(.ref t), (.int (Int32.ofNat cs.length))] 2)) zQ := by
    intro tt kt
    refine W0 tt ?_
    refine XS.iloadN X0.here hx rfl (hb hby d_jdk_52_method_15_0) rfl ?_
    refine XS.aloadN X0.here hx rfl (hb hby d_jdk_52_method_15_1) rfl rfl ?_
    show SS p e below s₁ m 2 #[.val (.ref t), .val (.int (Int32.ofNat cs.length))] [(.ref t), (.int (Int32.ofNat cs.length))] _
    refine X0.arraylength hx (by first | exact Ar101.1 | (rw [e0]; exact Ar101.1)) (State.isArrayOf_alike hZ.alike Ar101.2.1) (g := (mkF m 2 #[.val (.ref t), .val (.int (Int32.ofNat cs.length))] [(.ref t), (.int (Int32.ofNat cs.length))])) rfl rfl (hb hby d_jdk_52_method_15_2) _ ?_
    rw [len_of S101 M101]
    refine XS.isub X0.here hx rfl (hb hby d_jdk_52_method_15_3) rfl ?_
    refine XS.bipush X0.here hx rfl (hb hby d_jdk_52_method_15_4) ?_
    refine XS.iushr X0.here hx rfl (hb hby d_jdk_52_method_15_6) rfl ?_
    refine XS.i2b X0.here hx rfl (hb hby d_jdk_52_method_15_7) rfl ?_
    exact kt
  obtain ⟨fs, hr, hrun, hended, hW, hsame⟩ := X0.leave (v := some (.int (nar .byte (((((Int32.ofNat cs.length) - (Int32.ofNat (blen cs))).toUInt32 >>> ((31 : Int32) &&& 31).toUInt32).toInt32).toInt8.toInt32)))) (fun h => by rw [Bd.returns] at h; cases h)
  refine ⟨_, _, W102 _ (retN X0 hx (t := .byte) Bd.returns (by simp) (hb hby d_jdk_52_method_15_8) hr), hrun, hended, _, _, rfl, ?_, ⟨_, rfl⟩, hW, hsame.mono (by decide) (by decide)⟩
  show Q_coderOf Z t kb vs cs h0 n0 _ s₁.heap _
  rw [e0]
  exact ⟨(congrArg (fun q => some (Value.int q)) (own_cdr ok.2)), N0, rfl⟩
def Q_nbl (Z : State) (N : Nat) (h0 : Heap) (n0 : Nat) (vQ_ : Option Value) (hQ_ : Heap) (LQ_ : List Loc) : Prop := vQ_ = some (.int (Int32.ofNat (2 * N))) ∧ Fr n0 LQ_ ∧ hQ_ = h0
set_option maxRecDepth 65536 in
set_option maxHeartbeats 40000000 in
theorem rm_nbl (l : Launch) (Z : State) (a0 : Array Value) (hw : HW a0 Z) (ws : List Jvm.Cond) (N : Nat) (h0 : Heap) (n0 : Nat) (Z0 : n0 ≤ h0.size) (hN : 2 * N < 2147483646) :
    MetFree l yn14 (head1 (Jvm.Cond.code yn14 jdk_52_method_3_code 1 (some .int) :: ws) ({ frames := 0, cells := 0, slots := 0, locals := 0 } : Room)) (fun aQ_ UQ => aQ_ = #[(.int (Int32.ofNat N))] ∧ Z.Warmed39 UQ.vm ∧ UQ.heap = h0) (fun _ _ _ _ _ => True) (fun _ UQ oQ UQ' => ∃ vQ_ LQ_, oQ = .returned vQ_ ∧ Q_nbl Z N h0 n0 vQ_ UQ'.heap LQ_ ∧ FrameEnd UQ oQ UQ' LQ_ ({ frames := 0, cells := 0, slots := 0, locals := 0 } : Room).cells ({ frames := 0, cells := 0, slots := 0, locals := 0 } : Room).slots) := by
  refine MetFree.of_bodySF (plainFor_of_name pn_java_lang_StringUTF16) hisR ?_
  intro p e s m args below meth cO s₁ Bd hml0 hP hK
  obtain ⟨rfl, hZ, hh⟩ := hP
  have hx := Bd.exec
  have hby := Bd.bytes
  have hml : cO.maxLocals = 1 := hml0
  have hown : s.vm.findClass "java/lang/StringUTF16" = some m.cls := findClass_of_methodNamed Bd.named
  have hnm := (name_of_methodNamed Bd.named Bd.method).1
  have X0 : Stand p l e ({ frames := 0, cells := 0, slots := 0, locals := 0 } : Room) s m #[(.int (Int32.ofNat N))] below meth cO s₁ [] 0 0 := Stand.of_body Bd
  have e0 : s₁.heap = h0 := by rw [← hh, Bd.state]; rfl
  have N0 := Fr.nil n0
  have W0 : ∀ zQ, SS p e below s₁ m 0 #[.val (.int (Int32.ofNat N))] [] zQ → Steps p.tables e below (s₁.setTop (entryFrame m #[(.int (Int32.ofNat N))] 1)) zQ := fun tt kt => castTop (ef_nbl m (Int32.ofNat N)) kt
  have W101 : ∀ zQ, SS p e below s₁ m 58 #[.val (.int (Int32.ofNat N))] [(.int (Int32.ofNat (2 * N)))] zQ → Steps p.tables e below (s₁.setTop (entryFrame m #[(.int (Int32.ofNat N))] 1)) zQ := by
    intro tt kt
    refine W0 tt ?_
    refine XS.iloadN X0.here hx rfl (hb hby d_jdk_52_method_3_0) rfl ?_
    refine XS.ifYes X0.here hx rfl (pc0 := 1) (pc' := 12) rfl (hb hby d_jdk_52_method_3_1) rfl ((if0 _ _).trans (flt (own_nneg (by omega))).2.1) (by decide) (by decide) ?_
    refine XS.iloadN X0.here hx rfl (hb hby d_jdk_52_method_3_12) rfl ?_
    show SS p e below s₁ m 13 #[.val (.int (Int32.ofNat N))] [(.int (Int32.ofNat N))] _
    refine X0.ldcInt hx hown (mvT hZ (w152 hw)) (g := (mkF m 13 #[.val (.int (Int32.ofNat N))] [(.int (Int32.ofNat N))])) rfl (hb hby d_jdk_52_method_3_13) _ ?_
    refine XS.icmpYes X0.here hx rfl (pc0 := 15) (pc' := 55) rfl (hb hby d_jdk_52_method_3_15) rfl (tlt (own_lt (n := 1073741823) (by omega) (by decide))).1 (by decide) (by decide) ?_
    refine XS.iloadN X0.here hx rfl (hb hby d_jdk_52_method_3_55) rfl ?_
    refine XS.iconst X0.here hx rfl (hb hby d_jdk_52_method_3_56) ?_
    refine XS.ishl X0.here hx rfl (hb hby d_jdk_52_method_3_57) rfl ?_
    show SS p e below s₁ m 58 #[.val (.int (Int32.ofNat N))] [(.int ((Int32.ofNat N) <<< ((1 : Int32) &&& 31)))] _
    rw [show ((Int32.ofNat N) <<< ((1 : Int32) &&& 31)) = (Int32.ofNat (2 * N)) from own_shl1 (by omega)]
    exact kt
  obtain ⟨fs, hr, hrun, hended, hW, hsame⟩ := X0.leave (v := some (.int (Int32.ofNat (2 * N)))) (fun h => by rw [Bd.returns] at h; cases h)
  refine ⟨_, _, W101 _ (retI X0 hx Bd.returns (hb hby d_jdk_52_method_3_58) hr), hrun, hended, _, _, rfl, ?_, ⟨_, rfl⟩, hW, hsame.mono (by decide) (by decide)⟩
  show Q_nbl Z N h0 n0 _ s₁.heap _
  rw [e0]
  exact ⟨rfl, N0, rfl⟩
def Q_nbf (Z : State) (N : Nat) (h0 : Heap) (n0 : Nat) (vQ_ : Option Value) (hQ_ : Heap) (LQ_ : List Loc) : Prop := ∃ t : Addr, ∃ kb : ClassId, vQ_ = some (.ref t) ∧ Fr n0 LQ_ ∧ Keep h0 hQ_ [] ∧ h0.size ≤ t ∧ Arv Z hQ_ t kb .byte (Int32.ofNat (2 * N)) [] (.int (0 : Int32))
set_option maxRecDepth 65536 in
set_option maxHeartbeats 40000000 in
theorem rm_nbf (l : Launch) (Z : State) (a0 : Array Value) (hw : HW a0 Z) (ws : List Jvm.Cond) (N : Nat) (h0 : Heap) (n0 : Nat) (Z0 : n0 ≤ h0.size) (hN : 2 * N ≤ 8) :
    MetFree l yn15 (head1 (Jvm.Cond.code yn15 jdk_52_method_2_code 1 (some (.array .byte)) :: ws) ({ frames := 1, cells := 1, slots := 8, locals := 12 } : Room)) (fun aQ_ UQ => aQ_ = #[(.int (Int32.ofNat N))] ∧ Z.Warmed39 UQ.vm ∧ UQ.heap = h0) (fun _ _ _ _ _ => True) (fun _ UQ oQ UQ' => ∃ vQ_ LQ_, oQ = .returned vQ_ ∧ Q_nbf Z N h0 n0 vQ_ UQ'.heap LQ_ ∧ FrameEnd UQ oQ UQ' LQ_ ({ frames := 1, cells := 1, slots := 8, locals := 12 } : Room).cells ({ frames := 1, cells := 1, slots := 8, locals := 12 } : Room).slots) := by
  refine MetFree.of_bodySF (plainFor_of_name pn_java_lang_StringUTF16) hisR ?_
  intro p e s m args below meth cO s₁ Bd hml0 hP hK
  obtain ⟨rfl, hZ, hh⟩ := hP
  have hx := Bd.exec
  have hby := Bd.bytes
  have hml : cO.maxLocals = 1 := hml0
  have hown : s.vm.findClass "java/lang/StringUTF16" = some m.cls := findClass_of_methodNamed Bd.named
  have hnm := (name_of_methodNamed Bd.named Bd.method).1
  have X0 : Stand p l e ({ frames := 1, cells := 1, slots := 8, locals := 12 } : Room) s m #[(.int (Int32.ofNat N))] below meth cO s₁ [] 0 0 := Stand.of_body Bd
  have e0 : s₁.heap = h0 := by rw [← hh, Bd.state]; rfl
  have N0 := Fr.nil n0
  have W0 : ∀ zQ, SS p e below s₁ m 0 #[.val (.int (Int32.ofNat N))] [] zQ → Steps p.tables e below (s₁.setTop (entryFrame m #[(.int (Int32.ofNat N))] 1)) zQ := fun tt kt => castTop (ef_nbf m (Int32.ofNat N)) kt
  obtain ⟨_, _, ⟨T101, L101, k101, n101⟩, -, X101, ⟨Lc101, hQ101, l101, y101, z101⟩, st101⟩ := Jvm.LawKit.callS X0 hx (y := yn14) hown (mvT hZ (w149 hw)) (mvT hZ (w150 hw)) (mvT hZ (w22 hw)) (mvT hZ (w151 hw)) (by decide) (backOf (W := 0) (rm_nbl l Z a0 hw [] N h0 n0 Z0 (by omega)) hZ (w151 hw) (w22 hw) (by decide) (by decide)) (g := (mkF m 1 #[.val (.int (Int32.ofNat N))] [(.int (Int32.ofNat N))])) rfl (by rw [hml]; rfl) (argsL := [(.int (Int32.ofNat N))]) (rest := []) (lenOf pd__28_I_29_I rfl) rfl (by show 2 * 0 + _ ≤ _; exact Nat.le_of_eq rfl) (hb hby d_jdk_52_method_2_1) (fun _ _ => ⟨rfl, e0, (Nat.le_of_ble_eq_true rfl), (Nat.le_of_ble_eq_true rfl)⟩)
  dsimp only [Pt.U, Pt.locs, Pt.cells, Pt.slots] at X101 l101 y101 z101 st101 hQ101
  subst l101 y101 z101
  obtain ⟨rfl, Nq101, eq101⟩ := hQ101
  have N101 := Fr.app N0 Nq101
  obtain ⟨T102, h102, k102, X102, e102, E102, A102, st102⟩ := newP X101 hx hZ (aty := .byte) (w24 hw) eq101 (g := (mkF m 4 #[.val (.int (Int32.ofNat N))] [(.int (Int32.ofNat (2 * N)))])) rfl (hb hby d_jdk_52_method_2_4) (n := (Int32.ofNat (2 * N))) rfl (own_nneg (by omega)) (cap := 8) (by rw [own_cl (by omega)]; exact hN) (by decide) (by decide) (by decide)
  obtain ⟨b102, g102⟩ : ∃ z, z = h0.size := ⟨_, rfl⟩
  rw [← g102] at A102 st102
  have K102 := (Keep.refl h0 []).ext E102
  have G102 : Arv Z h102 b102 k102 .byte (Int32.ofNat (2 * N)) [] (.int (0 : Int32)) := Arv.new A102 (own_nneg (by omega))
  have W103 : ∀ zQ, SS p e below T102 m 6 #[.val (.int (Int32.ofNat N))] [(.ref b102)] zQ → Steps p.tables e below (s₁.setTop (entryFrame m #[(.int (Int32.ofNat N))] 1)) zQ := by
    intro tt kt
    refine W0 tt ?_
    refine XS.iloadN X0.here hx rfl (hb hby d_jdk_52_method_2_0) rfl ?_
    show SS p e below s₁ m 1 #[.val (.int (Int32.ofNat N))] [(.int (Int32.ofNat N))] _
    refine st101 _ ?_
    show SS p e below T101 m 4 #[.val (.int (Int32.ofNat N))] [(.int (Int32.ofNat (2 * N)))] _
    refine st102 _ ?_
    exact kt
  obtain ⟨fs, hr, hrun, hended, hW, hsame⟩ := X102.leave (v := some (.ref b102)) (fun h => by rw [Bd.returns] at h; cases h)
  refine ⟨_, _, W103 _ (own_retR X102 hx Bd.returns rfl rfl (hb hby d_jdk_52_method_2_6) hr), hrun, hended, _, _, rfl, ?_, ⟨_, rfl⟩, hW, hsame.mono (by decide) (by decide)⟩
  show Q_nbf Z N h0 n0 _ T102.heap _
  rw [e102]
  exact ⟨b102, k102, rfl, N101, (Keep.trans (Keep.refl h0 []) K102 all0), (Nat.le_of_eq g102.symm), G102⟩
def Q_putChar (Z : State) (t : Addr) (c : Int32) (i : Nat) (N : Nat) (kb : ClassId) (vs : List Value) (h0 : Heap) (n0 : Nat) (vQ_ : Option Value) (hQ_ : Heap) (LQ_ : List Loc) : Prop := vQ_ = none ∧ Fr n0 LQ_ ∧ Keep h0 hQ_ [t] ∧ Arv Z hQ_ t kb .byte (Int32.ofNat (2 * N)) (vs ++ [.int ((c >>> ((0 : Int32) &&& 31)).toInt8.toInt32), .int ((c >>> ((8 : Int32) &&& 31)).toInt8.toInt32)]) (.int (0 : Int32))
set_option maxRecDepth 65536 in
set_option maxHeartbeats 40000000 in
theorem rm_putChar (l : Launch) (Z : State) (a0 : Array Value) (hw : HW a0 Z) (ws : List Jvm.Cond) (t : Addr) (c : Int32) (i : Nat) (N : Nat) (kb : ClassId) (vs : List Value) (h0 : Heap) (n0 : Nat) (Z0 : n0 ≤ h0.size) (O0 : Old Z n0 h0) (S_ad : Sta Z Z.heap "java/lang/StringUTF16" "$assertionsDisabled" "Z" (.int (1 : Int32))) (S_hi : Sta Z Z.heap "java/lang/StringUTF16" "HI_BYTE_SHIFT" "I" (.int (0 : Int32))) (S_lo : Sta Z Z.heap "java/lang/StringUTF16" "LO_BYTE_SHIFT" "I" (.int (8 : Int32))) (A1 : Arv Z h0 t kb .byte (Int32.ofNat (2 * N)) vs (.int (0 : Int32))) (hvs : vs.length = 2 * i) (hi : i < N) (hN : 2 * N < 2147483646) (hg : n0 ≤ t) :
    MetFree l yn16 (head1 (Jvm.Cond.code yn16 jdk_52_method_4_code 3 none :: ws) ({ frames := 0, cells := 0, slots := 0, locals := 0 } : Room)) (fun aQ_ UQ => aQ_ = #[(.ref t), (.int (Int32.ofNat i)), (.int c)] ∧ Z.Warmed39 UQ.vm ∧ UQ.heap = h0) (fun _ _ _ _ _ => True) (fun _ UQ oQ UQ' => ∃ vQ_ LQ_, oQ = .returned vQ_ ∧ Q_putChar Z t c i N kb vs h0 n0 vQ_ UQ'.heap LQ_ ∧ FrameEnd UQ oQ UQ' LQ_ ({ frames := 0, cells := 0, slots := 0, locals := 0 } : Room).cells ({ frames := 0, cells := 0, slots := 0, locals := 0 } : Room).slots) := by
  refine MetFree.of_bodySF (plainFor_of_name pn_java_lang_StringUTF16) hisR ?_
  intro p e s m args below meth cO s₁ Bd hml0 hP hK
  obtain ⟨rfl, hZ, hh⟩ := hP
  have hx := Bd.exec
  have hby := Bd.bytes
  have hml : cO.maxLocals = 3 := hml0
  have hown : s.vm.findClass "java/lang/StringUTF16" = some m.cls := findClass_of_methodNamed Bd.named
  have hnm := (name_of_methodNamed Bd.named Bd.method).1
  have X0 : Stand p l e ({ frames := 0, cells := 0, slots := 0, locals := 0 } : Room) s m #[(.ref t), (.int (Int32.ofNat i)), (.int c)] below meth cO s₁ [] 0 0 := Stand.of_body Bd
  have e0 : s₁.heap = h0 := by rw [← hh, Bd.state]; rfl
  have N0 := Fr.nil n0
  have W0 : ∀ zQ, SS p e below s₁ m 0 #[.val (.ref t), .val (.int (Int32.ofNat i)), .val (.int c)] [] zQ → Steps p.tables e below (s₁.setTop (entryFrame m #[(.ref t), (.int (Int32.ofNat i)), (.int c)] 3)) zQ := fun tt kt => castTop (ef_putChar m t (Int32.ofNat i) c) kt
  have F102 : Sta Z h0 "java/lang/StringUTF16" "$assertionsDisabled" "Z" (.int (1 : Int32)) := S_ad.ext O0.2
  obtain ⟨T101, X101, e101, st101⟩ := getS2 X0 hx hZ hown (host := "") (Or.inl (w156 hw)) Via.refl e0 F102 (g := (mkF m 0 #[.val (.ref t), .val (.int (Int32.ofNat i)), .val (.int c)] [])) rfl (hb hby d_jdk_52_method_4_0)
  have F104 : Sta Z h0 "java/lang/StringUTF16" "HI_BYTE_SHIFT" "I" (.int (0 : Int32)) := S_hi.ext O0.2
  obtain ⟨T103, X103, e103, st103⟩ := getS2 X101 hx hZ hown (host := "") (Or.inl (w157 hw)) Via.refl e101 F104 (g := (mkF m 38 #[.val (.ref t), .val (.int (Int32.ofNat (2 * i + 1))), .val (.int c)] [(.int c), (.int (Int32.ofNat (2 * i))), (.ref t)])) rfl (hb hby d_jdk_52_method_4_38)
  obtain ⟨cl105, Ar105, q105, S105, M105, H105, F105g⟩ := id A1
  have hin105 : ¬ ((Int32.ofNat (2 * i)) < 0 ∨ cl105.slots.size ≤ ((Int32.ofNat (2 * i))).toNatClampNeg) := inb_of S105 ⟨own_nneg (by omega), own_lt (by omega) (by omega)⟩
  obtain ⟨T105, h105, X105, e105, Wr105, st105⟩ := stB X103 hx hZ e103 Ar105 (j := (Int32.ofNat (2 * i))) hin105 (g := (mkF m 43 #[.val (.ref t), .val (.int (Int32.ofNat (2 * i + 1))), .val (.int c)] [(.int ((c >>> ((0 : Int32) &&& 31)).toInt8.toInt32)), (.int (Int32.ofNat (2 * i))), (.ref t)])) rfl rfl (hb hby d_jdk_52_method_4_43)
  have G105 : Arv Z h105 t kb .byte (Int32.ofNat (2 * N)) (vs ++ [(.int (nar .byte ((c >>> ((0 : Int32) &&& 31)).toInt8.toInt32)))]) (.int (0 : Int32)) := Arv.push Ar105 q105 S105 M105 H105 F105g (fits_nar_byte _) Wr105 (by rw [own_cl (by omega), hvs])
  have K105 := Keep.of_wr Wr105
  have N105 := Fr.snoc X105 N0 hg
  have J105 : Arv Z h105 t kb .byte (Int32.ofNat (2 * N)) (vs ++ [.int ((c >>> ((0 : Int32) &&& 31)).toInt8.toInt32)]) (.int (0 : Int32)) := by rw [← own_narb]; exact G105
  have O107 : Old Z n0 h105 := (O0.keep K105 (allS hg all0))
  have F108 : Sta Z h105 "java/lang/StringUTF16" "LO_BYTE_SHIFT" "I" (.int (8 : Int32)) := S_lo.ext O107.2
  obtain ⟨T106, X106, e106, st106⟩ := getS2 X105 hx hZ hown (host := "") (Or.inl (w158 hw)) Via.refl e105 F108 (g := (mkF m 47 #[.val (.ref t), .val (.int (Int32.ofNat (2 * i + 1))), .val (.int c)] [(.int c), (.int (Int32.ofNat (2 * i + 1))), (.ref t)])) rfl (hb hby d_jdk_52_method_4_47)
  obtain ⟨cl109, Ar109, q109, S109, M109, H109, F109g⟩ := id J105
  have hin109 : ¬ ((Int32.ofNat (2 * i + 1)) < 0 ∨ cl109.slots.size ≤ ((Int32.ofNat (2 * i + 1))).toNatClampNeg) := inb_of S109 ⟨own_nneg (by omega), own_lt (by omega) (by omega)⟩
  obtain ⟨T109, h109, X109, e109, Wr109, st109⟩ := stB X106 hx hZ e106 Ar109 (j := (Int32.ofNat (2 * i + 1))) hin109 (g := (mkF m 52 #[.val (.ref t), .val (.int (Int32.ofNat (2 * i + 1))), .val (.int c)] [(.int ((c >>> ((8 : Int32) &&& 31)).toInt8.toInt32)), (.int (Int32.ofNat (2 * i + 1))), (.ref t)])) rfl rfl (hb hby d_jdk_52_method_4_52)
  have G109 : Arv Z h109 t kb .byte (Int32.ofNat (2 * N)) ((vs ++ [.int ((c >>> ((0 : Int32) &&& 31)).toInt8.toInt32)]) ++ [(.int (nar .byte ((c >>> ((8 : Int32) &&& 31)).toInt8.toInt32)))]) (.int (0 : Int32)) := Arv.push Ar109 q109 S109 M109 H109 F109g (fits_nar_byte _) Wr109 (by rw [own_cl (by omega)]; simp [hvs])
  have K109 := Keep.of_wr Wr109
  have N109 := Fr.snoc X109 N105 hg
  have J109 : Arv Z h109 t kb .byte (Int32.ofNat (2 * N)) (vs ++ [.int ((c >>> ((0 : Int32) &&& 31)).toInt8.toInt32), .int ((c >>> ((8 : Int32) &&& 31)).toInt8.toInt32)]) (.int (0 : Int32)) := by rw [show vs ++ [Value.int ((c >>> ((0 : Int32) &&& 31)).toInt8.toInt32), Value.int ((c >>> ((8 : Int32) &&& 31)).toInt8.toInt32)] = (vs ++ [Value.int ((c >>> ((0 : Int32) &&& 31)).toInt8.toInt32)]) ++ [Value.int (nar .byte ((c >>> ((8 : Int32) &&& 31)).toInt8.toInt32))] from by rw [own_narb]; simp]; exact G109
  have W110 : ∀ zQ, SS p e below T109 m 53 #[.val (.ref t), .val (.int (Int32.ofNat (2 * i + 1))), .val (.int c)] [] zQ → Steps p.tables e below (s₁.setTop (entryFrame m #[(.ref t), (.int (Int32.ofNat i)), (.int c)] 3)) zQ := by
    intro tt kt
    refine W0 tt ?_
    refine st101 _ ?_
    refine XS.ifYes X101.here hx rfl (pc0 := 3) (pc' := 28) rfl (hb hby d_jdk_52_method_4_3) rfl ((if0 _ _).trans (feq (by decide)).2) (by decide) (by decide) ?_
    refine XS.iloadN X101.here hx rfl (hb hby d_jdk_52_method_4_28) rfl ?_
    refine XS.iconst X101.here hx rfl (hb hby d_jdk_52_method_4_29) ?_
    refine XS.ishl X101.here hx rfl (hb hby d_jdk_52_method_4_30) rfl ?_
    show SS p e below T101 m 31 #[.val (.ref t), .val (.int (Int32.ofNat i)), .val (.int c)] [(.int ((Int32.ofNat i) <<< ((1 : Int32) &&& 31)))] _
    rw [show ((Int32.ofNat i) <<< ((1 : Int32) &&& 31)) = (Int32.ofNat (2 * i)) from own_shl1 (by omega)]
    refine XS.istoreN X101.here hx rfl (hb hby d_jdk_52_method_4_31) rfl (l' := #[.val (.ref t), .val (.int (Int32.ofNat (2 * i))), .val (.int c)]) rfl ?_
    refine XS.aloadN X101.here hx rfl (hb hby d_jdk_52_method_4_32) rfl rfl ?_
    refine XS.iloadN X101.here hx rfl (hb hby d_jdk_52_method_4_33) rfl ?_
    show SS p e below T101 m 34 #[.val (.ref t), .val (.int (Int32.ofNat (2 * i))), .val (.int c)] [(.int (Int32.ofNat (2 * i))), (.ref t)] _
    refine XS.iinc X101.here hx rfl (hb hby d_jdk_52_method_4_34) rfl (l' := #[.val (.ref t), .val (.int ((Int32.ofNat (2 * i)) + (1 : Int32))), .val (.int c)]) rfl ?_
    show SS p e below T101 m 37 #[.val (.ref t), .val (.int ((Int32.ofNat (2 * i)) + (1 : Int32))), .val (.int c)] [(.int (Int32.ofNat (2 * i))), (.ref t)] _
    rw [show ((Int32.ofNat (2 * i)) + (1 : Int32)) = (Int32.ofNat (2 * i + 1)) from own_succ _]
    refine XS.iloadN X101.here hx rfl (hb hby d_jdk_52_method_4_37) rfl ?_
    show SS p e below T101 m 38 #[.val (.ref t), .val (.int (Int32.ofNat (2 * i + 1))), .val (.int c)] [(.int c), (.int (Int32.ofNat (2 * i))), (.ref t)] _
    refine st103 _ ?_
    refine XS.ishr X103.here hx rfl (hb hby d_jdk_52_method_4_41) rfl ?_
    refine XS.i2b X103.here hx rfl (hb hby d_jdk_52_method_4_42) rfl ?_
    show SS p e below T103 m 43 #[.val (.ref t), .val (.int (Int32.ofNat (2 * i + 1))), .val (.int c)] [(.int ((c >>> ((0 : Int32) &&& 31)).toInt8.toInt32)), (.int (Int32.ofNat (2 * i))), (.ref t)] _
    refine st105 _ ?_
    refine XS.aloadN X105.here hx rfl (hb hby d_jdk_52_method_4_44) rfl rfl ?_
    refine XS.iloadN X105.here hx rfl (hb hby d_jdk_52_method_4_45) rfl ?_
    refine XS.iloadN X105.here hx rfl (hb hby d_jdk_52_method_4_46) rfl ?_
    show SS p e below T105 m 47 #[.val (.ref t), .val (.int (Int32.ofNat (2 * i + 1))), .val (.int c)] [(.int c), (.int (Int32.ofNat (2 * i + 1))), (.ref t)] _
    refine st106 _ ?_
    refine XS.ishr X106.here hx rfl (hb hby d_jdk_52_method_4_50) rfl ?_
    refine XS.i2b X106.here hx rfl (hb hby d_jdk_52_method_4_51) rfl ?_
    show SS p e below T106 m 52 #[.val (.ref t), .val (.int (Int32.ofNat (2 * i + 1))), .val (.int c)] [(.int ((c >>> ((8 : Int32) &&& 31)).toInt8.toInt32)), (.int (Int32.ofNat (2 * i + 1))), (.ref t)] _
    refine st109 _ ?_
    exact kt
  obtain ⟨fs, hr, hrun, hended, hW, hsame⟩ := X109.leave (v := none) (fun _ => rfl)
  refine ⟨_, _, W110 _ (X109.returnOut hx Bd.returns (hb hby d_jdk_52_method_4_53) hr), hrun, hended, _, _, rfl, ?_, ⟨_, rfl⟩, hW, hsame.mono (by decide) (by decide)⟩
  show Q_putChar Z t c i N kb vs h0 n0 _ T109.heap _
  rw [e109]
  exact ⟨rfl, N109, (Keep.trans (Keep.trans (Keep.refl h0 [t]) K105 (allS (Or.inl (List.mem_of_getElem? (i := 0) rfl)) all0)) K109 (allS (Or.inl (List.mem_of_getElem? (i := 0) rfl)) all0)), J109⟩
set_option maxRecDepth 65536 in
set_option maxHeartbeats 40000000 in
theorem lp_toB {p : Program} {l : Launch} {e : Env} {R : Room} {s : State} {m : MethodId} {args : Array Value} {below : List Frame} {meth : Method} {cO : Code} {cells slots : Nat} {Z : State} {a0 : Array Value} (hx : p.tables.exec = Jvm.exec) (hZ : Z.Warmed39 s.vm) (hw : HW a0 Z) (hby : cO.code = jdk_52_method_14_code) (hml : cO.maxLocals = 5) (hown : s.vm.findClass "java/lang/StringUTF16" = some m.cls) (hRf : 1 ≤ R.frames) (hRl : 14 ≤ R.locals) (hRc : cells ≤ R.cells) (hRs : slots ≤ R.slots) (src : Addr) (t : Addr) (kc : ClassId) (kb : ClassId) (cs : List Int32) (n0 : Nat) (S_ad : Sta Z Z.heap "java/lang/StringUTF16" "$assertionsDisabled" "Z" (.int (1 : Int32))) (S_hi : Sta Z Z.heap "java/lang/StringUTF16" "HI_BYTE_SHIFT" "I" (.int (0 : Int32))) (S_lo : Sta Z Z.heap "java/lang/StringUTF16" "LO_BYTE_SHIFT" "I" (.int (8 : Int32))) (hne : src ≠ t) (hg : n0 ≤ t) (ok : OkS cs) :
    ∀ suf : List Int32, ∀ (pre : List Int32) (T0 : State) (L0 : List Loc) (h0 : Heap) (X0 : Stand p l e R s m args below meth cO T0 L0 cells slots) (e0 : T0.heap = h0) (N0 : Fr n0 L0) (Z0 : n0 ≤ h0.size) (O0 : Old Z n0 h0) (Vs : Arv Z h0 src kc .char (Int32.ofNat cs.length) (cs.map Value.int) (.int (0 : Int32))) (Vd : Arv Z h0 t kb .byte (Int32.ofNat (2 * cs.length)) (u16 pre) (.int (0 : Int32))) (hk : cs = pre ++ suf), ∃ (T' : State) (L' : List Loc) (h' : Heap), Stand p l e R s m args below meth cO T' L' cells slots ∧ T'.heap = h' ∧ Fr n0 L' ∧ Keep h0 h' [t] ∧ Arv Z h' t kb .byte (Int32.ofNat (2 * cs.length)) (u16 cs) (.int (0 : Int32)) ∧ ∀ zQ, SS p e below T' m 32 #[.val (.ref src), .val (.int (Int32.ofNat cs.length)), .val (.int (Int32.ofNat cs.length)), .val (.ref t), .val (.int (Int32.ofNat cs.length))] [] zQ → SS p e below T0 m 8 #[.val (.ref src), .val (.int (Int32.ofNat pre.length)), .val (.int (Int32.ofNat cs.length)), .val (.ref t), .val (.int (Int32.ofNat pre.length))] [] zQ := by
  intro suf
  induction suf with
  | nil =>
    intro pre T0 L0 h0 X0 e0 N0 Z0 O0 Vs Vd hk
    have W0 : ∀ zQ, SS p e below T0 m 8 #[.val (.ref src), .val (.int (Int32.ofNat pre.length)), .val (.int (Int32.ofNat cs.length)), .val (.ref t), .val (.int (Int32.ofNat pre.length))] [] zQ → Steps p.tables e below (T0.setTop (mkF m 8 #[.val (.ref src), .val (.int (Int32.ofNat pre.length)), .val (.int (Int32.ofNat cs.length)), .val (.ref t), .val (.int (Int32.ofNat pre.length))] [])) zQ := fun tt kt => kt
    have hn : cs.length < 1048576 := ok.2
    have hp : pre = cs := by simpa using hk.symm
    have Vd' : Arv Z h0 t kb .byte (Int32.ofNat (2 * cs.length)) (u16 cs) (.int (0 : Int32)) := by rw [← hp] at Vd ⊢; exact Vd
    have W101 : ∀ zQ, SS p e below T0 m 32 #[.val (.ref src), .val (.int (Int32.ofNat cs.length)), .val (.int (Int32.ofNat cs.length)), .val (.ref t), .val (.int (Int32.ofNat cs.length))] [] zQ → Steps p.tables e below (T0.setTop (mkF m 8 #[.val (.ref src), .val (.int (Int32.ofNat pre.length)), .val (.int (Int32.ofNat cs.length)), .val (.ref t), .val (.int (Int32.ofNat pre.length))] [])) zQ := by
      intro tt kt
      refine W0 tt ?_
      rw [show (Int32.ofNat pre.length) = (Int32.ofNat cs.length) from (by rw [hp])]
      refine XS.iload X0.here hx rfl (hb hby d_jdk_52_method_14_8) rfl ?_
      refine XS.iloadN X0.here hx rfl (hb hby d_jdk_52_method_14_10) rfl ?_
      refine XS.icmpYes X0.here hx rfl (pc0 := 11) (pc' := 32) rfl (hb hby d_jdk_52_method_14_11) rfl (flt Int32.lt_irrefl).2.1 (by decide) (by decide) ?_
      exact kt
    exact ⟨T0, _, h0, X0, e0, N0, (Keep.refl h0 [t]), Vd', fun tt kt => W101 _ kt⟩
  | cons cc r ih =>
    intro pre T0 L0 h0 X0 e0 N0 Z0 O0 Vs Vd hk
    have W0 : ∀ zQ, SS p e below T0 m 8 #[.val (.ref src), .val (.int (Int32.ofNat pre.length)), .val (.int (Int32.ofNat cs.length)), .val (.ref t), .val (.int (Int32.ofNat pre.length))] [] zQ → Steps p.tables e below (T0.setTop (mkF m 8 #[.val (.ref src), .val (.int (Int32.ofNat pre.length)), .val (.int (Int32.ofNat cs.length)), .val (.ref t), .val (.int (Int32.ofNat pre.length))] [])) zQ := fun tt kt => kt
    have hn : cs.length < 1048576 := ok.2
    have hlt : pre.length < cs.length := by rw [hk]; simp
    have hcc : cs.getD pre.length 0 = cc := by rw [hk]; exact app_at pre r cc 0
    obtain ⟨cl102, Ar102, q102, S102, M102, H102, F102g⟩ := id Vs
    have hin102 : ¬ ((Int32.ofNat pre.length) < 0 ∨ cl102.slots.size ≤ ((Int32.ofNat pre.length)).toNatClampNeg) := inb_of S102 ⟨own_nneg (by omega), own_lt hlt (by omega)⟩
    have hat102 : cl102.slots[((Int32.ofNat pre.length)).toNatClampNeg]? = some (.int cc) := Has.at H102 hin102 (by rw [own_cl (by omega), ch_at _ _ _ hlt, hcc])
    obtain ⟨_, _, ⟨T103, L103, k103, n103⟩, -, X103, ⟨Lc103, hQ103, l103, y103, z103⟩, st103⟩ := Jvm.LawKit.callS X0 hx (y := yn16) hown (mvT hZ (w153 hw)) (mvT hZ (w154 hw)) (mvT hZ (w22 hw)) (mvT hZ (w155 hw)) (by decide) (backOf (W := 0) (rm_putChar l Z a0 hw [] t cc pre.length cs.length kb (u16 pre) h0 n0 Z0 O0 S_ad S_hi S_lo Vd (u16_len pre) hlt (by omega) hg) hZ (w155 hw) (w22 hw) (Nat.le_trans (by decide) hRf) (Nat.le_trans (by decide) hRl)) (g := (mkF m 20 #[.val (.ref src), .val (.int (Int32.ofNat pre.length)), .val (.int (Int32.ofNat cs.length)), .val (.ref t), .val (.int (Int32.ofNat pre.length))] [(.int cc), (.int (Int32.ofNat pre.length)), (.ref t)])) rfl (by rw [hml]; rfl) (argsL := [(.ref t), (.int (Int32.ofNat pre.length)), (.int cc)]) (rest := []) (lenOf pd__28__5b_BII_29_V rfl) rfl (by show 2 * 0 + _ ≤ _; exact Nat.le_of_eq rfl) (hb hby d_jdk_52_method_14_20) (fun _ _ => ⟨rfl, e0, hRc, hRs⟩)
    dsimp only [Pt.U, Pt.locs, Pt.cells, Pt.slots] at X103 l103 y103 z103 st103 hQ103
    subst l103 y103 z103
    obtain ⟨rfl, Nq103, K103, P103_0⟩ := hQ103
    have N103 := Fr.app N0 Nq103
    have W104 : ∀ zQ, SS p e below T103 m 8 #[.val (.ref src), .val (.int (Int32.ofNat (pre ++ [cc]).length)), .val (.int (Int32.ofNat cs.length)), .val (.ref t), .val (.int (Int32.ofNat (pre ++ [cc]).length))] [] zQ → Steps p.tables e below (T0.setTop (mkF m 8 #[.val (.ref src), .val (.int (Int32.ofNat pre.length)), .val (.int (Int32.ofNat cs.length)), .val (.ref t), .val (.int (Int32.ofNat pre.length))] [])) zQ := by
      intro tt kt
      refine W0 tt ?_
      refine XS.iload X0.here hx rfl (hb hby d_jdk_52_method_14_8) rfl ?_
      refine XS.iloadN X0.here hx rfl (hb hby d_jdk_52_method_14_10) rfl ?_
      refine XS.icmpNo X0.here hx rfl (hb hby d_jdk_52_method_14_11) rfl (tlt (own_lt hlt (by omega))).2.1 ?_
      refine XS.aloadN X0.here hx rfl (hb hby d_jdk_52_method_14_14) rfl rfl ?_
      refine XS.iload X0.here hx rfl (hb hby d_jdk_52_method_14_15) rfl ?_
      refine XS.aloadN X0.here hx rfl (hb hby d_jdk_52_method_14_17) rfl rfl ?_
      show SS p e below T0 m 18 #[.val (.ref src), .val (.int (Int32.ofNat pre.length)), .val (.int (Int32.ofNat cs.length)), .val (.ref t), .val (.int (Int32.ofNat pre.length))] [(.ref src), (.int (Int32.ofNat pre.length)), (.ref t)] _
      refine XS.iloadN X0.here hx rfl (hb hby d_jdk_52_method_14_18) rfl ?_
      show SS p e below T0 m 19 #[.val (.ref src), .val (.int (Int32.ofNat pre.length)), .val (.int (Int32.ofNat cs.length)), .val (.ref t), .val (.int (Int32.ofNat pre.length))] [(.int (Int32.ofNat pre.length)), (.ref src), (.int (Int32.ofNat pre.length)), (.ref t)] _
      refine X0.caload hx (j := (Int32.ofNat pre.length)) (v := (.int cc)) (by first | exact Ar102.1 | (rw [e0]; exact Ar102.1)) (State.isArrayOf_alike hZ.alike Ar102.2.1) Ar102.2.2 hin102 hat102 (g := (mkF m 19 #[.val (.ref src), .val (.int (Int32.ofNat pre.length)), .val (.int (Int32.ofNat cs.length)), .val (.ref t), .val (.int (Int32.ofNat pre.length))] [(.int (Int32.ofNat pre.length)), (.ref src), (.int (Int32.ofNat pre.length)), (.ref t)])) rfl rfl (hb hby d_jdk_52_method_14_19) _ ?_
      show SS p e below T0 m 20 #[.val (.ref src), .val (.int (Int32.ofNat pre.length)), .val (.int (Int32.ofNat cs.length)), .val (.ref t), .val (.int (Int32.ofNat pre.length))] [(.int cc), (.int (Int32.ofNat pre.length)), (.ref t)] _
      refine st103 _ ?_
      show SS p e below T103 m 23 #[.val (.ref src), .val (.int (Int32.ofNat pre.length)), .val (.int (Int32.ofNat cs.length)), .val (.ref t), .val (.int (Int32.ofNat pre.length))] [] _
      refine XS.iinc X103.here hx rfl (hb hby d_jdk_52_method_14_23) rfl (l' := #[.val (.ref src), .val (.int ((Int32.ofNat pre.length) + (1 : Int32))), .val (.int (Int32.ofNat cs.length)), .val (.ref t), .val (.int (Int32.ofNat pre.length))]) rfl ?_
      show SS p e below T103 m 26 #[.val (.ref src), .val (.int ((Int32.ofNat pre.length) + (1 : Int32))), .val (.int (Int32.ofNat cs.length)), .val (.ref t), .val (.int (Int32.ofNat pre.length))] [] _
      refine XS.iinc X103.here hx rfl (hb hby d_jdk_52_method_14_26) rfl (l' := #[.val (.ref src), .val (.int ((Int32.ofNat pre.length) + (1 : Int32))), .val (.int (Int32.ofNat cs.length)), .val (.ref t), .val (.int ((Int32.ofNat pre.length) + (1 : Int32)))]) rfl ?_
      show SS p e below T103 m 29 #[.val (.ref src), .val (.int ((Int32.ofNat pre.length) + (1 : Int32))), .val (.int (Int32.ofNat cs.length)), .val (.ref t), .val (.int ((Int32.ofNat pre.length) + (1 : Int32)))] [] _
      rw [show ((Int32.ofNat pre.length) + (1 : Int32)) = (Int32.ofNat (pre ++ [cc]).length) from (by rw [own_succ]; simp)]
      refine XS.goto X103.here hx rfl (pc0 := 29) (pc' := 8) rfl (hb hby d_jdk_52_method_14_29) (by decide) (by decide) ?_
      exact kt
    have O106 : Old Z n0 T103.heap := (O0.keep K103 (allS hg all0))
    have F107 : Arv Z T103.heap src kc .char (Int32.ofNat cs.length) (cs.map Value.int) (.int (0 : Int32)) := (Vs.keep K103 (ninS hne nin0))
    obtain ⟨T105, L105, h105, X105, e105, N105, K105, P105_0, st105⟩ := ih (pre ++ [cc]) T103 _ T103.heap X103 rfl N103 (Nat.le_trans Z0 K103.1) O106 F107 (by rw [u16_app]; exact P103_0) (by rw [hk]; simp)
    exact ⟨T105, L105, h105, X105, e105, N105, (Keep.trans (Keep.trans (Keep.refl h0 [t]) K103 (allS (Or.inl (List.mem_of_getElem? (i := 0) rfl)) all0)) K105 (allS (Or.inl (List.mem_of_getElem? (i := 0) rfl)) all0)), P105_0, fun tt kt => W104 _ (st105 _ kt)⟩
def Q_toBytes (Z : State) (src : Addr) (kc : ClassId) (cs : List Int32) (h0 : Heap) (n0 : Nat) (vQ_ : Option Value) (hQ_ : Heap) (LQ_ : List Loc) : Prop := ∃ t : Addr, ∃ kb : ClassId, vQ_ = some (.ref t) ∧ Fr n0 LQ_ ∧ Keep h0 hQ_ [] ∧ h0.size ≤ t ∧ Arv Z hQ_ t kb .byte (Int32.ofNat (2 * cs.length)) (u16 cs) (.int (0 : Int32))
set_option maxRecDepth 65536 in
set_option maxHeartbeats 40000000 in
theorem rm_toBytes (l : Launch) (Z : State) (a0 : Array Value) (hw : HW a0 Z) (ws : List Jvm.Cond) (src : Addr) (kc : ClassId) (cs : List Int32) (h0 : Heap) (n0 : Nat) (Z0 : n0 ≤ h0.size) (O0 : Old Z n0 h0) (S_ad : Sta Z Z.heap "java/lang/StringUTF16" "$assertionsDisabled" "Z" (.int (1 : Int32))) (S_hi : Sta Z Z.heap "java/lang/StringUTF16" "HI_BYTE_SHIFT" "I" (.int (0 : Int32))) (S_lo : Sta Z Z.heap "java/lang/StringUTF16" "LO_BYTE_SHIFT" "I" (.int (8 : Int32))) (Vs : Arv Z h0 src kc .char (Int32.ofNat cs.length) (cs.map Value.int) (.int (0 : Int32))) (ok : OkS cs) (hcap : cs.length ≤ 4) :
    MetFree l yn17 (head1 (Jvm.Cond.code yn17 jdk_52_method_14_code 5 (some (.array .byte)) :: ws) ({ frames := 2, cells := 1, slots := 8, locals := 24 } : Room)) (fun aQ_ UQ => aQ_ = #[(.ref src), (.int (0 : Int32)), (.int (Int32.ofNat cs.length))] ∧ Z.Warmed39 UQ.vm ∧ UQ.heap = h0) (fun _ _ _ _ _ => True) (fun _ UQ oQ UQ' => ∃ vQ_ LQ_, oQ = .returned vQ_ ∧ Q_toBytes Z src kc cs h0 n0 vQ_ UQ'.heap LQ_ ∧ FrameEnd UQ oQ UQ' LQ_ ({ frames := 2, cells := 1, slots := 8, locals := 24 } : Room).cells ({ frames := 2, cells := 1, slots := 8, locals := 24 } : Room).slots) := by
  refine MetFree.of_bodySF (plainFor_of_name pn_java_lang_StringUTF16) hisR ?_
  intro p e s m args below meth cO s₁ Bd hml0 hP hK
  obtain ⟨rfl, hZ, hh⟩ := hP
  have hx := Bd.exec
  have hby := Bd.bytes
  have hml : cO.maxLocals = 5 := hml0
  have hown : s.vm.findClass "java/lang/StringUTF16" = some m.cls := findClass_of_methodNamed Bd.named
  have hnm := (name_of_methodNamed Bd.named Bd.method).1
  have X0 : Stand p l e ({ frames := 2, cells := 1, slots := 8, locals := 24 } : Room) s m #[(.ref src), (.int (0 : Int32)), (.int (Int32.ofNat cs.length))] below meth cO s₁ [] 0 0 := Stand.of_body Bd
  have e0 : s₁.heap = h0 := by rw [← hh, Bd.state]; rfl
  have N0 := Fr.nil n0
  have W0 : ∀ zQ, SS p e below s₁ m 0 #[.val (.ref src), .val (.int (0 : Int32)), .val (.int (Int32.ofNat cs.length)), .unset, .unset] [] zQ → Steps p.tables e below (s₁.setTop (entryFrame m #[(.ref src), (.int (0 : Int32)), (.int (Int32.ofNat cs.length))] 5)) zQ := fun tt kt => castTop (ef_toBytes m src (0 : Int32) (Int32.ofNat cs.length)) kt
  obtain ⟨_, _, ⟨T101, L101, k101, n101⟩, -, X101, ⟨Lc101, hQ101, l101, y101, z101⟩, st101⟩ := Jvm.LawKit.callS X0 hx (y := yn15) hown (mvT hZ (w146 hw)) (mvT hZ (w147 hw)) (mvT hZ (w22 hw)) (mvT hZ (w148 hw)) (by decide) (backOf (W := 0) (rm_nbf l Z a0 hw [] cs.length h0 n0 Z0 (by omega)) hZ (w148 hw) (w22 hw) (by decide) (by decide)) (g := (mkF m 1 #[.val (.ref src), .val (.int (0 : Int32)), .val (.int (Int32.ofNat cs.length)), .unset, .unset] [(.int (Int32.ofNat cs.length))])) rfl (by rw [hml]; rfl) (argsL := [(.int (Int32.ofNat cs.length))]) (rest := []) (lenOf pd__28_I_29__5b_B rfl) rfl (by show 2 * 0 + _ ≤ _; exact Nat.le_of_eq rfl) (hb hby d_jdk_52_method_14_1) (fun _ _ => ⟨rfl, e0, (Nat.le_of_ble_eq_true rfl), (Nat.le_of_ble_eq_true rfl)⟩)
  dsimp only [Pt.U, Pt.locs, Pt.cells, Pt.slots] at X101 l101 y101 z101 st101 hQ101
  subst l101 y101 z101
  obtain ⟨t_102, kb_103, rfl, Nq101, K101, P101_0, P101_1⟩ := hQ101
  have N101 := Fr.app N0 Nq101
  have O105 : Old Z n0 T101.heap := (O0.keep K101 all0)
  have F106 : Arv Z T101.heap src kc .char (Int32.ofNat cs.length) (cs.map Value.int) (.int (0 : Int32)) := (Vs.keep K101 nin0)
  obtain ⟨T104, L104, h104, X104, e104, Nl104, K104, P104_0, st104⟩ := lp_toB hx hZ hw hby hml hown (by decide) (by decide) (by decide) (by decide) src t_102 kc kb_103 cs n0 S_ad S_hi S_lo (Nat.ne_of_lt (Nat.lt_of_lt_of_le Vs.lt P101_0)) (Nat.le_trans Z0 P101_0) ok cs [] T101 _ T101.heap X101 rfl N101 (Nat.le_trans Z0 K101.1) O105 F106 P101_1 rfl
  have W107 : ∀ zQ, SS p e below T104 m 33 #[.val (.ref src), .val (.int (Int32.ofNat cs.length)), .val (.int (Int32.ofNat cs.length)), .val (.ref t_102), .val (.int (Int32.ofNat cs.length))] [(.ref t_102)] zQ → Steps p.tables e below (s₁.setTop (entryFrame m #[(.ref src), (.int (0 : Int32)), (.int (Int32.ofNat cs.length))] 5)) zQ := by
    intro tt kt
    refine W0 tt ?_
    refine XS.iloadN X0.here hx rfl (hb hby d_jdk_52_method_14_0) rfl ?_
    show SS p e below s₁ m 1 #[.val (.ref src), .val (.int (0 : Int32)), .val (.int (Int32.ofNat cs.length)), .unset, .unset] [(.int (Int32.ofNat cs.length))] _
    refine st101 _ ?_
    refine XS.astoreN X101.here hx rfl (hb hby d_jdk_52_method_14_4) rfl rfl (l' := #[.val (.ref src), .val (.int (0 : Int32)), .val (.int (Int32.ofNat cs.length)), .val (.ref t_102), .unset]) rfl ?_
    refine XS.iconst X101.here hx rfl (hb hby d_jdk_52_method_14_5) ?_
    refine XS.istore X101.here hx rfl (hb hby d_jdk_52_method_14_6) rfl (l' := #[.val (.ref src), .val (.int (0 : Int32)), .val (.int (Int32.ofNat cs.length)), .val (.ref t_102), .val (.int (0 : Int32))]) rfl ?_
    show SS p e below T101 m 8 #[.val (.ref src), .val (.int (0 : Int32)), .val (.int (Int32.ofNat cs.length)), .val (.ref t_102), .val (.int (0 : Int32))] [] _
    refine st104 _ ?_
    refine XS.aloadN X104.here hx rfl (hb hby d_jdk_52_method_14_32) rfl rfl ?_
    exact kt
  obtain ⟨fs, hr, hrun, hended, hW, hsame⟩ := X104.leave (v := some (.ref t_102)) (fun h => by rw [Bd.returns] at h; cases h)
  refine ⟨_, _, W107 _ (own_retR X104 hx Bd.returns rfl rfl (hb hby d_jdk_52_method_14_33) hr), hrun, hended, _, _, rfl, ?_, ⟨_, rfl⟩, hW, hsame.mono (by decide) (by decide)⟩
  show Q_toBytes Z src kc cs h0 n0 _ T104.heap _
  rw [e104]
  exact ⟨t_102, kb_103, rfl, Nl104, (Keep.trans (Keep.trans (Keep.refl h0 []) K101 all0) K104 (allS (Or.inr P101_0) all0)), P101_0, P104_0⟩
def Q_compress16 (Z : State) (src : Addr) (kc : ClassId) (cs : List Int32) (h0 : Heap) (n0 : Nat) (vQ_ : Option Value) (hQ_ : Heap) (LQ_ : List Loc) : Prop := ∃ t : Addr, ∃ kb : ClassId, vQ_ = some (.ref t) ∧ Fr n0 LQ_ ∧ Keep h0 hQ_ [] ∧ h0.size ≤ t ∧ Arv Z hQ_ t kb .byte (Int32.ofNat (blen cs)) (enc cs) (.int (0 : Int32))
set_option maxRecDepth 65536 in
set_option maxHeartbeats 40000000 in
theorem rm_compress16 (l : Launch) (Z : State) (a0 : Array Value) (hw : HW a0 Z) (ws : List Jvm.Cond) (src : Addr) (kc : ClassId) (cs : List Int32) (h0 : Heap) (n0 : Nat) (Z0 : n0 ≤ h0.size) (O0 : Old Z n0 h0) (S_ad : Sta Z Z.heap "java/lang/StringUTF16" "$assertionsDisabled" "Z" (.int (1 : Int32))) (S_hi : Sta Z Z.heap "java/lang/StringUTF16" "HI_BYTE_SHIFT" "I" (.int (0 : Int32))) (S_lo : Sta Z Z.heap "java/lang/StringUTF16" "LO_BYTE_SHIFT" "I" (.int (8 : Int32))) (Vs : Arv Z h0 src kc .char (Int32.ofNat cs.length) (cs.map Value.int) (.int (0 : Int32))) (ok : OkS cs) (hcap : cs.length ≤ 4) :
    MetFree l yn18 (head1 (Jvm.Cond.code yn18 jdk_52_method_16_code 6 (some (.array .byte)) :: ws) ({ frames := 3, cells := 2, slots := 12, locals := 40 } : Room)) (fun aQ_ UQ => aQ_ = #[(.ref src), (.int (0 : Int32)), (.int (Int32.ofNat cs.length))] ∧ Z.Warmed39 UQ.vm ∧ UQ.heap = h0) (fun _ _ _ _ _ => True) (fun _ UQ oQ UQ' => ∃ vQ_ LQ_, oQ = .returned vQ_ ∧ Q_compress16 Z src kc cs h0 n0 vQ_ UQ'.heap LQ_ ∧ FrameEnd UQ oQ UQ' LQ_ ({ frames := 3, cells := 2, slots := 12, locals := 40 } : Room).cells ({ frames := 3, cells := 2, slots := 12, locals := 40 } : Room).slots) := by
  refine MetFree.of_bodySF (plainFor_of_name pn_java_lang_StringUTF16) hisR ?_
  intro p e s m args below meth cO s₁ Bd hml0 hP hK
  obtain ⟨rfl, hZ, hh⟩ := hP
  have hx := Bd.exec
  have hby := Bd.bytes
  have hml : cO.maxLocals = 6 := hml0
  have hown : s.vm.findClass "java/lang/StringUTF16" = some m.cls := findClass_of_methodNamed Bd.named
  have hnm := (name_of_methodNamed Bd.named Bd.method).1
  have X0 : Stand p l e ({ frames := 3, cells := 2, slots := 12, locals := 40 } : Room) s m #[(.ref src), (.int (0 : Int32)), (.int (Int32.ofNat cs.length))] below meth cO s₁ [] 0 0 := Stand.of_body Bd
  have e0 : s₁.heap = h0 := by rw [← hh, Bd.state]; rfl
  have N0 := Fr.nil n0
  have W0 : ∀ zQ, SS p e below s₁ m 0 #[.val (.ref src), .val (.int (0 : Int32)), .val (.int (Int32.ofNat cs.length)), .unset, .unset, .unset] [] zQ → Steps p.tables e below (s₁.setTop (entryFrame m #[(.ref src), (.int (0 : Int32)), (.int (Int32.ofNat cs.length))] 6)) zQ := fun tt kt => castTop (ef_compress16 m src (0 : Int32) (Int32.ofNat cs.length)) kt
  have hn : cs.length < 1048576 := ok.2
  obtain ⟨T101, h101, k101, X101, e101, E101, A101, st101⟩ := newP X0 hx hZ (aty := .byte) (w24 hw) e0 (g := (mkF m 1 #[.val (.ref src), .val (.int (0 : Int32)), .val (.int (Int32.ofNat cs.length)), .unset, .unset, .unset] [(.int (Int32.ofNat cs.length))])) rfl (hb hby d_jdk_52_method_16_1) (n := (Int32.ofNat cs.length)) rfl (own_nneg (by omega)) (cap := 4) (by rw [own_cl (by omega)]; exact hcap) (by decide) (by decide) (by decide)
  obtain ⟨b101, g101⟩ : ∃ z, z = h0.size := ⟨_, rfl⟩
  rw [← g101] at A101 st101
  have K101 := (Keep.refl h0 []).ext E101
  have G101 : Arv Z h101 b101 k101 .byte (Int32.ofNat cs.length) [] (.int (0 : Int32)) := Arv.new A101 (own_nneg (by omega))
  have F102 : Arv Z h101 src kc .char (Int32.ofNat cs.length) (cs.map Value.int) (.int (0 : Int32)) := (Vs.keep K101 nin0)
  obtain ⟨_, _, ⟨T103, L103, k103, n103⟩, -, X103, ⟨Lc103, hQ103, l103, y103, z103⟩, st103⟩ := Jvm.LawKit.callS X101 hx (y := yn12) hown (mvT hZ (w25 hw)) (mvT hZ (w26 hw)) (mvT hZ (w22 hw)) (mvT hZ (w27 hw)) (by decide) (backOf (W := 0) (rm_compress21 l Z a0 hw [] src b101 kc k101 cs h101 n0 (Nat.le_trans Z0 K101.1) F102 G101 (Nat.ne_of_lt (Nat.lt_of_lt_of_le Vs.lt (Nat.le_of_eq g101.symm))) (Nat.le_trans Z0 (Nat.le_of_eq g101.symm)) ok) hZ (w27 hw) (w22 hw) (by decide) (by decide)) (g := (mkF m 9 #[.val (.ref src), .val (.int (0 : Int32)), .val (.int (Int32.ofNat cs.length)), .val (.ref b101), .unset, .unset] [(.int (Int32.ofNat cs.length)), (.int (0 : Int32)), (.ref b101), (.int (0 : Int32)), (.ref src)])) rfl (by rw [hml]; rfl) (argsL := [(.ref src), (.int (0 : Int32)), (.ref b101), (.int (0 : Int32)), (.int (Int32.ofNat cs.length))]) (rest := []) (lenOf pd__28__5b_CI_5b_BII_29_I rfl) rfl (by show 2 * 0 + _ ≤ _; exact Nat.le_of_eq rfl) (hb hby d_jdk_52_method_16_9) (fun _ _ => ⟨rfl, e101, (Nat.le_of_ble_eq_true rfl), (Nat.le_of_ble_eq_true rfl)⟩)
  dsimp only [Pt.U, Pt.locs, Pt.cells, Pt.slots] at X103 l103 y103 z103 st103 hQ103
  subst l103 y103 z103
  obtain ⟨rfl, Nq103, K103, P103_0⟩ := hQ103
  have N103 := Fr.app N0 Nq103
  have W104 : ∀ zQ, SS p e below T103 m 17 #[.val (.ref src), .val (.int (0 : Int32)), .val (.int (Int32.ofNat cs.length)), .val (.ref b101), .val (.int (Int32.ofNat (fl cs))), .unset] [(.int (Int32.ofNat cs.length)), (.int (Int32.ofNat (fl cs)))] zQ → Steps p.tables e below (s₁.setTop (entryFrame m #[(.ref src), (.int (0 : Int32)), (.int (Int32.ofNat cs.length))] 6)) zQ := by
    intro tt kt
    refine W0 tt ?_
    refine XS.iloadN X0.here hx rfl (hb hby d_jdk_52_method_16_0) rfl ?_
    show SS p e below s₁ m 1 #[.val (.ref src), .val (.int (0 : Int32)), .val (.int (Int32.ofNat cs.length)), .unset, .unset, .unset] [(.int (Int32.ofNat cs.length))] _
    refine st101 _ ?_
    refine XS.astoreN X101.here hx rfl (hb hby d_jdk_52_method_16_3) rfl rfl (l' := #[.val (.ref src), .val (.int (0 : Int32)), .val (.int (Int32.ofNat cs.length)), .val (.ref b101), .unset, .unset]) rfl ?_
    refine XS.aloadN X101.here hx rfl (hb hby d_jdk_52_method_16_4) rfl rfl ?_
    refine XS.iloadN X101.here hx rfl (hb hby d_jdk_52_method_16_5) rfl ?_
    refine XS.aloadN X101.here hx rfl (hb hby d_jdk_52_method_16_6) rfl rfl ?_
    refine XS.iconst X101.here hx rfl (hb hby d_jdk_52_method_16_7) ?_
    show SS p e below T101 m 8 #[.val (.ref src), .val (.int (0 : Int32)), .val (.int (Int32.ofNat cs.length)), .val (.ref b101), .unset, .unset] [(.int (0 : Int32)), (.ref b101), (.int (0 : Int32)), (.ref src)] _
    refine XS.iloadN X101.here hx rfl (hb hby d_jdk_52_method_16_8) rfl ?_
    show SS p e below T101 m 9 #[.val (.ref src), .val (.int (0 : Int32)), .val (.int (Int32.ofNat cs.length)), .val (.ref b101), .unset, .unset] [(.int (Int32.ofNat cs.length)), (.int (0 : Int32)), (.ref b101), (.int (0 : Int32)), (.ref src)] _
    refine st103 _ ?_
    refine XS.istore X103.here hx rfl (hb hby d_jdk_52_method_16_12) rfl (l' := #[.val (.ref src), .val (.int (0 : Int32)), .val (.int (Int32.ofNat cs.length)), .val (.ref b101), .val (.int (Int32.ofNat (fl cs))), .unset]) rfl ?_
    refine XS.iload X103.here hx rfl (hb hby d_jdk_52_method_16_14) rfl ?_
    refine XS.iloadN X103.here hx rfl (hb hby d_jdk_52_method_16_16) rfl ?_
    exact kt
  by_cases hc105 : (Int32.ofNat (fl cs)) = (Int32.ofNat cs.length)
  ·
    have hl : lat cs = true := fl_ne (by have := fl_le cs; have q := congrArg Int32.toInt hc105; rw [own_i (by omega), own_i (by omega)] at q; omega)
    have W106 : ∀ zQ, SS p e below T103 m 58 #[.val (.ref src), .val (.int (0 : Int32)), .val (.int (Int32.ofNat cs.length)), .val (.ref b101), .val (.int (Int32.ofNat (fl cs))), .unset] [(.ref b101)] zQ → Steps p.tables e below (s₁.setTop (entryFrame m #[(.ref src), (.int (0 : Int32)), (.int (Int32.ofNat cs.length))] 6)) zQ := by
      intro tt kt
      refine W104 tt ?_
      refine XS.icmpYes X103.here hx rfl (pc0 := 17) (pc' := 57) rfl (hb hby d_jdk_52_method_16_17) rfl (teq hc105).1 (by decide) (by decide) ?_
      refine XS.aloadN X103.here hx rfl (hb hby d_jdk_52_method_16_57) rfl rfl ?_
      exact kt
    have hR107 : Arv Z T103.heap b101 k101 .byte (Int32.ofNat (blen cs)) (enc cs) (.int (0 : Int32)) := by have q := enc_lat hl; rw [q.1, q.2.1]; rw [show cs.take (fl cs) = cs from by rw [fl_lat hl]; simp] at P103_0; exact P103_0
    obtain ⟨fs, hr, hrun, hended, hW, hsame⟩ := X103.leave (v := some (.ref b101)) (fun h => by rw [Bd.returns] at h; cases h)
    refine ⟨_, _, W106 _ (own_retR X103 hx Bd.returns rfl rfl (hb hby d_jdk_52_method_16_58) hr), hrun, hended, _, _, rfl, ?_, ⟨_, rfl⟩, hW, hsame.mono (by decide) (by decide)⟩
    show Q_compress16 Z src kc cs h0 n0 _ T103.heap _
    exact ⟨b101, k101, rfl, N103, (Keep.trans (Keep.trans (Keep.refl h0 []) K101 all0) K103 (allS (Or.inr (Nat.le_of_eq g101.symm)) all0)), (Nat.le_of_eq g101.symm), hR107⟩
  ·
    have hl : ¬ lat cs = true := fun q => hc105 (by rw [fl_lat q])
    have F108 : Arv Z T103.heap src kc .char (Int32.ofNat cs.length) (cs.map Value.int) (.int (0 : Int32)) := (F102.keep K103 (ninS (Nat.ne_of_lt (Nat.lt_of_lt_of_le Vs.lt (Nat.le_of_eq g101.symm))) nin0))
    have O109 : Old Z n0 T103.heap := ((O0.keep K101 all0).keep K103 (allS (Nat.le_trans Z0 (Nat.le_of_eq g101.symm)) all0))
    obtain ⟨_, _, ⟨T110, L110, k110, n110⟩, -, X110, ⟨Lc110, hQ110, l110, y110, z110⟩, st110⟩ := Jvm.LawKit.callS X103 hx (y := yn17) hown (mvT hZ (w143 hw)) (mvT hZ (w144 hw)) (mvT hZ (w22 hw)) (mvT hZ (w145 hw)) (by decide) (backOf (W := 0) (rm_toBytes l Z a0 hw [] src kc cs T103.heap n0 (Nat.le_trans Z0 (Nat.le_trans K101.1 K103.1)) O109 S_ad S_hi S_lo F108 ok hcap) hZ (w145 hw) (w22 hw) (by decide) (by decide)) (g := (mkF m 23 #[.val (.ref src), .val (.int (0 : Int32)), .val (.int (Int32.ofNat cs.length)), .val (.ref b101), .val (.int (Int32.ofNat (fl cs))), .unset] [(.int (Int32.ofNat cs.length)), (.int (0 : Int32)), (.ref src)])) rfl (by rw [hml]; rfl) (argsL := [(.ref src), (.int (0 : Int32)), (.int (Int32.ofNat cs.length))]) (rest := []) (lenOf pd__28__5b_CII_29__5b_B rfl) rfl (by show 2 * 0 + _ ≤ _; exact Nat.le_of_eq rfl) (hb hby d_jdk_52_method_16_23) (fun _ _ => ⟨rfl, rfl, (Nat.le_of_ble_eq_true rfl), (Nat.le_of_ble_eq_true rfl)⟩)
    dsimp only [Pt.U, Pt.locs, Pt.cells, Pt.slots] at X110 l110 y110 z110 st110 hQ110
    subst l110 y110 z110
    obtain ⟨t_111, kb_112, rfl, Nq110, K110, P110_0, P110_1⟩ := hQ110
    have N110 := Fr.app N103 Nq110
    have O113 : Old Z n0 T110.heap := (O109.keep K110 all0)
    obtain ⟨_, _, ⟨T114, L114, k114, n114⟩, -, X114, ⟨Lc114, hQ114, l114, y114, z114⟩, st114⟩ := Jvm.LawKit.callS X110 hx (y := yn6) hown (mvT hZ (w159 hw)) (mvT hZ (w160 hw)) (mvT hZ (w22 hw)) (mvT hZ (w161 hw)) (by decide) (backOf (W := 0) (rm_getChar l Z a0 hw [] t_111 (fl cs) kb_112 cs T110.heap n0 (Nat.le_trans Z0 (Nat.le_trans (Nat.le_trans K101.1 K103.1) K110.1)) O113 S_ad S_hi S_lo P110_1 (fl_nlat hl).1 ok) hZ (w161 hw) (w22 hw) (by decide) (by decide)) (g := (mkF m 32 #[.val (.ref src), .val (.int (0 : Int32)), .val (.int (Int32.ofNat cs.length)), .val (.ref b101), .val (.int (Int32.ofNat (fl cs))), .val (.ref t_111)] [(.int (Int32.ofNat (fl cs))), (.ref t_111)])) rfl (by rw [hml]; rfl) (argsL := [(.ref t_111), (.int (Int32.ofNat (fl cs)))]) (rest := []) (lenOf pd__28__5b_BI_29_C rfl) rfl (by show 2 * 0 + _ ≤ _; exact Nat.le_of_eq rfl) (hb hby d_jdk_52_method_16_32) (fun _ _ => ⟨rfl, rfl, (Nat.le_of_ble_eq_true rfl), (Nat.le_of_ble_eq_true rfl)⟩)
    dsimp only [Pt.U, Pt.locs, Pt.cells, Pt.slots] at X114 l114 y114 z114 st114 hQ114
    subst l114 y114 z114
    obtain ⟨rfl, Nq114, eq114⟩ := hQ114
    have N114 := Fr.app N110 Nq114
    have W115 : ∀ zQ, SS p e below T114 m 56 #[.val (.ref src), .val (.int (0 : Int32)), .val (.int (Int32.ofNat cs.length)), .val (.ref b101), .val (.int (Int32.ofNat (fl cs))), .val (.ref t_111)] [(.ref t_111)] zQ → Steps p.tables e below (s₁.setTop (entryFrame m #[(.ref src), (.int (0 : Int32)), (.int (Int32.ofNat cs.length))] 6)) zQ := by
      intro tt kt
      refine W104 tt ?_
      refine XS.icmpNo X103.here hx rfl (hb hby d_jdk_52_method_16_17) rfl (feq hc105).1 ?_
      refine XS.aloadN X103.here hx rfl (hb hby d_jdk_52_method_16_20) rfl rfl ?_
      refine XS.iloadN X103.here hx rfl (hb hby d_jdk_52_method_16_21) rfl ?_
      refine XS.iloadN X103.here hx rfl (hb hby d_jdk_52_method_16_22) rfl ?_
      show SS p e below T103 m 23 #[.val (.ref src), .val (.int (0 : Int32)), .val (.int (Int32.ofNat cs.length)), .val (.ref b101), .val (.int (Int32.ofNat (fl cs))), .unset] [(.int (Int32.ofNat cs.length)), (.int (0 : Int32)), (.ref src)] _
      refine st110 _ ?_
      refine XS.astore X110.here hx rfl (hb hby d_jdk_52_method_16_26) rfl rfl (l' := #[.val (.ref src), .val (.int (0 : Int32)), .val (.int (Int32.ofNat cs.length)), .val (.ref b101), .val (.int (Int32.ofNat (fl cs))), .val (.ref t_111)]) rfl ?_
      refine XS.aload X110.here hx rfl (hb hby d_jdk_52_method_16_28) rfl rfl ?_
      refine XS.iload X110.here hx rfl (hb hby d_jdk_52_method_16_30) rfl ?_
      show SS p e below T110 m 32 #[.val (.ref src), .val (.int (0 : Int32)), .val (.int (Int32.ofNat cs.length)), .val (.ref b101), .val (.int (Int32.ofNat (fl cs))), .val (.ref t_111)] [(.int (Int32.ofNat (fl cs))), (.ref t_111)] _
      refine st114 _ ?_
      refine XS.sipush X114.here hx rfl (hb hby d_jdk_52_method_16_35) ?_
      refine XS.icmpYes X114.here hx rfl (pc0 := 38) (pc' := 54) rfl (hb hby d_jdk_52_method_16_38) rfl (tlt (fl_nlat hl).2).2.2.1 (by decide) (by decide) ?_
      refine XS.aload X114.here hx rfl (hb hby d_jdk_52_method_16_54) rfl rfl ?_
      exact kt
    have hR116 : Arv Z T110.heap t_111 kb_112 .byte (Int32.ofNat (blen cs)) (enc cs) (.int (0 : Int32)) := by have q := enc_nlat hl; rw [q.1, q.2.1]; exact P110_1
    obtain ⟨fs, hr, hrun, hended, hW, hsame⟩ := X114.leave (v := some (.ref t_111)) (fun h => by rw [Bd.returns] at h; cases h)
    refine ⟨_, _, W115 _ (own_retR X114 hx Bd.returns rfl rfl (hb hby d_jdk_52_method_16_56) hr), hrun, hended, _, _, rfl, ?_, ⟨_, rfl⟩, hW, hsame.mono (by decide) (by decide)⟩
    show Q_compress16 Z src kc cs h0 n0 _ T114.heap _
    rw [eq114]
    exact ⟨t_111, kb_112, rfl, N114, (Keep.trans (Keep.trans (Keep.trans (Keep.refl h0 []) K101 all0) K103 (allS (Or.inr (Nat.le_of_eq g101.symm)) all0)) K110 all0), (Nat.le_trans (Nat.le_trans K101.1 K103.1) P110_0), hR116⟩
def Q_sinitV (Z : State) (a : Addr) (src : Addr) (kc : ClassId) (cs : List Int32) (cS : Int32) (h0 : Heap) (n0 : Nat) (vQ_ : Option Value) (hQ_ : Heap) (LQ_ : List Loc) : Prop := ∃ t : Addr, ∃ kb : ClassId, vQ_ = none ∧ Fr n0 LQ_ ∧ Keep h0 hQ_ [a] ∧ h0.size ≤ t ∧ Str Z hQ_ a t kb cs
set_option maxRecDepth 65536 in
set_option maxHeartbeats 40000000 in
theorem rm_sinitV (l : Launch) (Z : State) (a0 : Array Value) (hw : HW a0 Z) (ws : List Jvm.Cond) (a : Addr) (src : Addr) (kc : ClassId) (cs : List Int32) (cS : Int32) (h0 : Heap) (n0 : Nat) (Z0 : n0 ≤ h0.size) (O0 : Old Z n0 h0) (S_cs : Sta Z Z.heap "java/lang/String" "COMPACT_STRINGS" "Z" (.int cS)) (hcS : ¬ (cS = (0 : Int32))) (S_ad : Sta Z Z.heap "java/lang/StringUTF16" "$assertionsDisabled" "Z" (.int (1 : Int32))) (S_hi : Sta Z Z.heap "java/lang/StringUTF16" "HI_BYTE_SHIFT" "I" (.int (0 : Int32))) (S_lo : Sta Z Z.heap "java/lang/StringUTF16" "LO_BYTE_SHIFT" "I" (.int (8 : Int32))) (E1 : Exa Z h0 a "java/lang/String") (F1 : Fld Z h0 a "java/lang/String" "value" "[B" .null) (F2 : Fld Z h0 a "java/lang/String" "coder" "B" (.int (0 : Int32))) (hg : n0 ≤ a) (Vs : Arv Z h0 src kc .char (Int32.ofNat cs.length) (cs.map Value.int) (.int (0 : Int32))) (ok : OkS cs) (hcap : cs.length ≤ 4) (hpos : 0 < cs.length) (hne : a ≠ src) :
    MetFree l yn19 (head1 (Jvm.Cond.code yn19 jdk_42_method_149_code 6 none :: ws) ({ frames := 4, cells := 2, slots := 12, locals := 57 } : Room)) (fun aQ_ UQ => aQ_ = #[(.ref a), (.ref src), (.int (0 : Int32)), (.int (Int32.ofNat cs.length)), .null] ∧ Z.Warmed39 UQ.vm ∧ UQ.heap = h0) (fun _ _ _ _ _ => True) (fun _ UQ oQ UQ' => ∃ vQ_ LQ_, oQ = .returned vQ_ ∧ Q_sinitV Z a src kc cs cS h0 n0 vQ_ UQ'.heap LQ_ ∧ FrameEnd UQ oQ UQ' LQ_ ({ frames := 4, cells := 2, slots := 12, locals := 57 } : Room).cells ({ frames := 4, cells := 2, slots := 12, locals := 57 } : Room).slots) := by
  refine MetFree.of_bodySF (plainFor_of_name pn_java_lang_String) hisR ?_
  intro p e s m args below meth cO s₁ Bd hml0 hP hK
  obtain ⟨rfl, hZ, hh⟩ := hP
  have hx := Bd.exec
  have hby := Bd.bytes
  have hml : cO.maxLocals = 6 := hml0
  have hown : s.vm.findClass "java/lang/String" = some m.cls := findClass_of_methodNamed Bd.named
  have hnm := (name_of_methodNamed Bd.named Bd.method).1
  have X0 : Stand p l e ({ frames := 4, cells := 2, slots := 12, locals := 57 } : Room) s m #[(.ref a), (.ref src), (.int (0 : Int32)), (.int (Int32.ofNat cs.length)), .null] below meth cO s₁ [] 0 0 := Stand.of_body Bd
  have e0 : s₁.heap = h0 := by rw [← hh, Bd.state]; rfl
  have N0 := Fr.nil n0
  have W0 : ∀ zQ, SS p e below s₁ m 0 #[.val (.ref a), .val (.ref src), .val (.int (0 : Int32)), .val (.int (Int32.ofNat cs.length)), .val .null, .unset] [] zQ → Steps p.tables e below (s₁.setTop (entryFrame m #[(.ref a), (.ref src), (.int (0 : Int32)), (.int (Int32.ofNat cs.length)), .null] 6)) zQ := fun tt kt => castTop (ef_sinitV m a src (0 : Int32) (Int32.ofNat cs.length)) kt
  have hn : cs.length < 1048576 := ok.2
  obtain ⟨T101, X101, e101, st101⟩ := initO X0 hx hZ hown (w16 hw) (w17 hw) (w18 hw) e0 (g := (mkF m 1 #[.val (.ref a), .val (.ref src), .val (.int (0 : Int32)), .val (.int (Int32.ofNat cs.length)), .val .null, .unset] [(.ref a)])) rfl (by rw [hml]; rfl) rfl (hb hby d_jdk_42_method_149_1) (by decide) (W := 0) (by show 2 * 0 + _ ≤ _; exact Nat.le_of_eq rfl) (by decide)
  have F103 : Sta Z h0 "java/lang/String" "COMPACT_STRINGS" "Z" (.int cS) := S_cs.ext O0.2
  obtain ⟨T102, X102, e102, st102⟩ := getS2 X101 hx hZ hown (host := "") (Or.inl (w19 hw)) Via.refl e101 F103 (g := (mkF m 27 #[.val (.ref a), .val (.ref src), .val (.int (0 : Int32)), .val (.int (Int32.ofNat cs.length)), .val .null, .unset] [])) rfl (hb hby d_jdk_42_method_149_27)
  obtain ⟨_, _, ⟨T104, L104, k104, n104⟩, -, X104, ⟨Lc104, hQ104, l104, y104, z104⟩, st104⟩ := Jvm.LawKit.callS X102 hx (y := yn18) hown (mvT hZ (w20 hw)) (mvT hZ (w21 hw)) (mvT hZ (w22 hw)) (mvT hZ (w23 hw)) (by decide) (backOf (W := 0) (rm_compress16 l Z a0 hw [] src kc cs h0 n0 Z0 O0 S_ad S_hi S_lo Vs ok hcap) hZ (w23 hw) (w22 hw) (by decide) (by decide)) (g := (mkF m 36 #[.val (.ref a), .val (.ref src), .val (.int (0 : Int32)), .val (.int (Int32.ofNat cs.length)), .val .null, .unset] [(.int (Int32.ofNat cs.length)), (.int (0 : Int32)), (.ref src)])) rfl (by rw [hml]; rfl) (argsL := [(.ref src), (.int (0 : Int32)), (.int (Int32.ofNat cs.length))]) (rest := []) (lenOf pd__28__5b_CII_29__5b_B rfl) rfl (by show 2 * 0 + _ ≤ _; exact Nat.le_of_eq rfl) (hb hby d_jdk_42_method_149_36) (fun _ _ => ⟨rfl, e102, (Nat.le_of_ble_eq_true rfl), (Nat.le_of_ble_eq_true rfl)⟩)
  dsimp only [Pt.U, Pt.locs, Pt.cells, Pt.slots] at X104 l104 y104 z104 st104 hQ104
  subst l104 y104 z104
  obtain ⟨t_105, kb_106, rfl, Nq104, K104, P104_0, P104_1⟩ := hQ104
  have N104 := Fr.app N0 Nq104
  obtain ⟨_, _, ⟨T107, L107, k107, n107⟩, -, X107, ⟨Lc107, hQ107, l107, y107, z107⟩, st107⟩ := Jvm.LawKit.callS X104 hx (y := yn13) hown (mvT hZ (w28 hw)) (mvT hZ (w29 hw)) (mvT hZ (w22 hw)) (mvT hZ (w30 hw)) (by decide) (backOf (W := 1) (rm_coderOf l Z a0 hw [] t_105 kb_106 (enc cs) cs T104.heap n0 (Nat.le_trans Z0 K104.1) P104_1 ok) hZ (w30 hw) (w22 hw) (by decide) (by decide)) (g := (mkF m 45 #[.val (.ref a), .val (.ref src), .val (.int (0 : Int32)), .val (.int (Int32.ofNat cs.length)), .val .null, .val (.ref t_105)] [(.int (Int32.ofNat cs.length)), (.ref t_105), (.ref a)])) rfl (by rw [hml]; rfl) (argsL := [(.ref t_105), (.int (Int32.ofNat cs.length))]) (rest := [(.ref a)]) (lenOf pd__28__5b_BI_29_B rfl) rfl (by show 2 * 0 + _ ≤ _; exact Nat.le_of_eq rfl) (hb hby d_jdk_42_method_149_45) (fun _ _ => ⟨rfl, rfl, (Nat.le_of_ble_eq_true rfl), (Nat.le_of_ble_eq_true rfl)⟩)
  dsimp only [Pt.U, Pt.locs, Pt.cells, Pt.slots] at X107 l107 y107 z107 st107 hQ107
  subst l107 y107 z107
  obtain ⟨rfl, Nq107, eq107⟩ := hQ107
  have N107 := Fr.app N104 Nq107
  have F108 : Exa Z T104.heap a "java/lang/String" := (E1.keep K104)
  have F109 : Fld Z T104.heap a "java/lang/String" "coder" "B" (.int (0 : Int32)) := (F2.keep K104 nin0)
  obtain ⟨T110, h110, X110, e110, Wr110, st110⟩ := putFN X107 hx hZ hown (w31 hw) Via.refl eq107 F109 F108 (Or.inr ⟨(w32 hw), rfl, hnm⟩) (w7 hw) (ty := .byte) (v' := (.int (cdr cs))) (by decide) (show narrow .byte (.int (cdr cs)) = .int (cdr cs) from congrArg Value.int (own_narcdr cs)) (own_fitcdr cs) (g := (mkF m 48 #[.val (.ref a), .val (.ref src), .val (.int (0 : Int32)), .val (.int (Int32.ofNat cs.length)), .val .null, .val (.ref t_105)] [(.int (cdr cs)), (.ref a)])) rfl rfl (hb hby d_jdk_42_method_149_48)
  have K110 := Keep.of_wr Wr110
  have G110 := F109.same Wr110
  have N110 := Fr.snoc X110 N107 hg
  have F111 : Exa Z h110 a "java/lang/String" := (F108.keep K110)
  have F112 : Fld Z h110 a "java/lang/String" "value" "[B" .null := (Fld.other Wr110 (F1.keep K104 nin0) (Or.inr (slot_ne (Or.inr (w34 hw)) (Or.inr (w32 hw)) (by decide) (t := (.array .byte)) (t' := .byte) (by decide) (by decide))))
  obtain ⟨T113, h113, X113, e113, Wr113, st113⟩ := putF X110 hx hZ hown (host := "") (Or.inl (w33 hw)) Via.refl e110 F112 F111 (Or.inr ⟨(w34 hw), rfl, hnm⟩) (w7 hw) (ty := (.array .byte)) (by decide) rfl rfl (g := (mkF m 54 #[.val (.ref a), .val (.ref src), .val (.int (0 : Int32)), .val (.int (Int32.ofNat cs.length)), .val .null, .val (.ref t_105)] [(.ref t_105), (.ref a)])) rfl rfl (hb hby d_jdk_42_method_149_54)
  have K113 := Keep.of_wr Wr113
  have G113 := F112.same Wr113
  have N113 := Fr.snoc X113 N110 hg
  have W114 : ∀ zQ, SS p e below T113 m 57 #[.val (.ref a), .val (.ref src), .val (.int (0 : Int32)), .val (.int (Int32.ofNat cs.length)), .val .null, .val (.ref t_105)] [] zQ → Steps p.tables e below (s₁.setTop (entryFrame m #[(.ref a), (.ref src), (.int (0 : Int32)), (.int (Int32.ofNat cs.length)), .null] 6)) zQ := by
    intro tt kt
    refine W0 tt ?_
    refine XS.aloadN X0.here hx rfl (hb hby d_jdk_42_method_149_0) rfl rfl ?_
    show SS p e below s₁ m 1 #[.val (.ref a), .val (.ref src), .val (.int (0 : Int32)), .val (.int (Int32.ofNat cs.length)), .val .null, .unset] [(.ref a)] _
    refine st101 _ ?_
    refine XS.iloadN X101.here hx rfl (hb hby d_jdk_42_method_149_4) rfl ?_
    refine XS.ifYes X101.here hx rfl (pc0 := 5) (pc' := 27) rfl (hb hby d_jdk_42_method_149_5) rfl ((if0 _ _).trans (feq (fun q => by have := congrArg Int32.toInt q; rw [own_i (by omega)] at this; have z : (0 : Int32).toInt = 0 := rfl; omega)).2) (by decide) (by decide) ?_
    show SS p e below T101 m 27 #[.val (.ref a), .val (.ref src), .val (.int (0 : Int32)), .val (.int (Int32.ofNat cs.length)), .val .null, .unset] [] _
    refine st102 _ ?_
    refine XS.ifNo X102.here hx rfl (hb hby d_jdk_42_method_149_30) rfl ((if0 _ _).trans (feq hcS).1) ?_
    refine XS.aloadN X102.here hx rfl (hb hby d_jdk_42_method_149_33) rfl rfl ?_
    refine XS.iloadN X102.here hx rfl (hb hby d_jdk_42_method_149_34) rfl ?_
    refine XS.iloadN X102.here hx rfl (hb hby d_jdk_42_method_149_35) rfl ?_
    show SS p e below T102 m 36 #[.val (.ref a), .val (.ref src), .val (.int (0 : Int32)), .val (.int (Int32.ofNat cs.length)), .val .null, .unset] [(.int (Int32.ofNat cs.length)), (.int (0 : Int32)), (.ref src)] _
    refine st104 _ ?_
    refine XS.astore X104.here hx rfl (hb hby d_jdk_42_method_149_39) rfl rfl (l' := #[.val (.ref a), .val (.ref src), .val (.int (0 : Int32)), .val (.int (Int32.ofNat cs.length)), .val .null, .val (.ref t_105)]) rfl ?_
    refine XS.aloadN X104.here hx rfl (hb hby d_jdk_42_method_149_41) rfl rfl ?_
    refine XS.aload X104.here hx rfl (hb hby d_jdk_42_method_149_42) rfl rfl ?_
    refine XS.iloadN X104.here hx rfl (hb hby d_jdk_42_method_149_44) rfl ?_
    show SS p e below T104 m 45 #[.val (.ref a), .val (.ref src), .val (.int (0 : Int32)), .val (.int (Int32.ofNat cs.length)), .val .null, .val (.ref t_105)] [(.int (Int32.ofNat cs.length)), (.ref t_105), (.ref a)] _
    refine st107 _ ?_
    show SS p e below T107 m 48 #[.val (.ref a), .val (.ref src), .val (.int (0 : Int32)), .val (.int (Int32.ofNat cs.length)), .val .null, .val (.ref t_105)] [(.int (cdr cs)), (.ref a)] _
    refine st110 _ ?_
    refine XS.aloadN X110.here hx rfl (hb hby d_jdk_42_method_149_51) rfl rfl ?_
    refine XS.aload X110.here hx rfl (hb hby d_jdk_42_method_149_52) rfl rfl ?_
    show SS p e below T110 m 54 #[.val (.ref a), .val (.ref src), .val (.int (0 : Int32)), .val (.int (Int32.ofNat cs.length)), .val .null, .val (.ref t_105)] [(.ref t_105), (.ref a)] _
    refine st113 _ ?_
    exact kt
  have F115 : Exa Z h113 a "java/lang/String" := (F111.keep K113)
  have F116 : Fld Z h113 a "java/lang/String" "coder" "B" (.int (cdr cs)) := (Fld.other Wr113 G110 (Or.inr (slot_ne (Or.inr (w32 hw)) (Or.inr (w34 hw)) (by decide) (t := .byte) (t' := (.array .byte)) (by decide) (by decide))))
  have F117 : Arv Z h113 t_105 kb_106 .byte (Int32.ofNat (blen cs)) (enc cs) (.int (0 : Int32)) := ((P104_1.keep K110 (ninS (Ne.symm (Nat.ne_of_lt (Nat.lt_of_lt_of_le E1.lt P104_0))) nin0)).keep K113 (ninS (Ne.symm (Nat.ne_of_lt (Nat.lt_of_lt_of_le E1.lt P104_0))) nin0))
  obtain ⟨fs, hr, hrun, hended, hW, hsame⟩ := X113.leave (v := none) (fun _ => rfl)
  refine ⟨_, _, W114 _ (X113.returnOut hx Bd.returns (hb hby d_jdk_42_method_149_57) hr), hrun, hended, _, _, rfl, ?_, ⟨_, rfl⟩, hW, hsame.mono (by decide) (by decide)⟩
  show Q_sinitV Z a src kc cs cS h0 n0 _ T113.heap _
  rw [e113]
  exact ⟨t_105, kb_106, rfl, N113, (Keep.trans (Keep.trans (Keep.trans (Keep.refl h0 [a]) K104 all0) K110 (allS (Or.inl (List.mem_of_getElem? (i := 0) rfl)) all0)) K113 (allS (Or.inl (List.mem_of_getElem? (i := 0) rfl)) all0)), P104_0, ⟨F115, G113, F116, F117, ok⟩⟩
def Q_sinit (Z : State) (a : Addr) (src : Addr) (kc : ClassId) (cs : List Int32) (cS : Int32) (h0 : Heap) (n0 : Nat) (vQ_ : Option Value) (hQ_ : Heap) (LQ_ : List Loc) : Prop := ∃ t : Addr, ∃ kb : ClassId, vQ_ = none ∧ Fr n0 LQ_ ∧ Keep h0 hQ_ [a] ∧ h0.size ≤ t ∧ Str Z hQ_ a t kb cs
set_option maxRecDepth 65536 in
set_option maxHeartbeats 40000000 in
theorem rm_sinit (l : Launch) (Z : State) (a0 : Array Value) (hw : HW a0 Z) (ws : List Jvm.Cond) (a : Addr) (src : Addr) (kc : ClassId) (cs : List Int32) (cS : Int32) (h0 : Heap) (n0 : Nat) (Z0 : n0 ≤ h0.size) (O0 : Old Z n0 h0) (S_cs : Sta Z Z.heap "java/lang/String" "COMPACT_STRINGS" "Z" (.int cS)) (hcS : ¬ (cS = (0 : Int32))) (S_ad : Sta Z Z.heap "java/lang/StringUTF16" "$assertionsDisabled" "Z" (.int (1 : Int32))) (S_hi : Sta Z Z.heap "java/lang/StringUTF16" "HI_BYTE_SHIFT" "I" (.int (0 : Int32))) (S_lo : Sta Z Z.heap "java/lang/StringUTF16" "LO_BYTE_SHIFT" "I" (.int (8 : Int32))) (E1 : Exa Z h0 a "java/lang/String") (F1 : Fld Z h0 a "java/lang/String" "value" "[B" .null) (F2 : Fld Z h0 a "java/lang/String" "coder" "B" (.int (0 : Int32))) (hg : n0 ≤ a) (Vs : Arv Z h0 src kc .char (Int32.ofNat cs.length) (cs.map Value.int) (.int (0 : Int32))) (ok : OkS cs) (hcap : cs.length ≤ 4) (hpos : 0 < cs.length) (hne : a ≠ src) :
    MetFree l yn20 (head1 (Jvm.Cond.code yn20 jdk_42_method_3_code 2 none :: ws) ({ frames := 5, cells := 2, slots := 12, locals := 74 } : Room)) (fun aQ_ UQ => aQ_ = #[(.ref a), (.ref src)] ∧ Z.Warmed39 UQ.vm ∧ UQ.heap = h0) (fun _ _ _ _ _ => True) (fun _ UQ oQ UQ' => ∃ vQ_ LQ_, oQ = .returned vQ_ ∧ Q_sinit Z a src kc cs cS h0 n0 vQ_ UQ'.heap LQ_ ∧ FrameEnd UQ oQ UQ' LQ_ ({ frames := 5, cells := 2, slots := 12, locals := 74 } : Room).cells ({ frames := 5, cells := 2, slots := 12, locals := 74 } : Room).slots) := by
  refine MetFree.of_bodySF (plainFor_of_name pn_java_lang_String) hisR ?_
  intro p e s m args below meth cO s₁ Bd hml0 hP hK
  obtain ⟨rfl, hZ, hh⟩ := hP
  have hx := Bd.exec
  have hby := Bd.bytes
  have hml : cO.maxLocals = 2 := hml0
  have hown : s.vm.findClass "java/lang/String" = some m.cls := findClass_of_methodNamed Bd.named
  have hnm := (name_of_methodNamed Bd.named Bd.method).1
  have X0 : Stand p l e ({ frames := 5, cells := 2, slots := 12, locals := 74 } : Room) s m #[(.ref a), (.ref src)] below meth cO s₁ [] 0 0 := Stand.of_body Bd
  have e0 : s₁.heap = h0 := by rw [← hh, Bd.state]; rfl
  have N0 := Fr.nil n0
  have W0 : ∀ zQ, SS p e below s₁ m 0 #[.val (.ref a), .val (.ref src)] [] zQ → Steps p.tables e below (s₁.setTop (entryFrame m #[(.ref a), (.ref src)] 2)) zQ := fun tt kt => castTop (ef_sinit m a src) kt
  obtain ⟨cl101, Ar101, -, S101, M101, -, -⟩ := id Vs
  obtain ⟨_, _, ⟨T102, L102, k102, n102⟩, -, X102, ⟨Lc102, hQ102, l102, y102, z102⟩, st102⟩ := X0.specialBack hx (y := yn19) rfl hown (mvT hZ (w12 hw)) (mvT hZ (w13 hw)) (mvT hZ (w15 hw)) (by decide) (backOf (W := 0) (rm_sinitV l Z a0 hw [] a src kc cs cS h0 n0 Z0 O0 S_cs hcS S_ad S_hi S_lo E1 F1 F2 hg Vs ok hcap hpos hne) hZ (w15 hw) (w8 hw) (by decide) (by decide)) (g := (mkF m 6 #[.val (.ref a), .val (.ref src)] [.null, (.int (Int32.ofNat cs.length)), (.int (0 : Int32)), (.ref src), (.ref a)])) rfl (by rw [hml]; rfl) (Steps.refl _) (a := a) (argsL := [(.ref src), (.int (0 : Int32)), (.int (Int32.ofNat cs.length)), .null]) (rest := []) (lenOf pd__28__5b_CIILjava_2f_lang_2f_Void_3b__29_V rfl) rfl (by show 2 * 0 + _ ≤ _; exact Nat.le_of_eq rfl) (hb hby d_jdk_42_method_3_6) (fun _ _ => ⟨rfl, e0, (Nat.le_of_ble_eq_true rfl), (Nat.le_of_ble_eq_true rfl)⟩)
  dsimp only [Pt.U, Pt.locs, Pt.cells, Pt.slots] at X102 l102 y102 z102 st102 hQ102
  subst l102 y102 z102
  obtain ⟨t_103, kb_104, rfl, Nq102, K102, P102_0, P102_1⟩ := hQ102
  have N102 := Fr.app N0 Nq102
  have W105 : ∀ zQ, SS p e below T102 m 9 #[.val (.ref a), .val (.ref src)] [] zQ → Steps p.tables e below (s₁.setTop (entryFrame m #[(.ref a), (.ref src)] 2)) zQ := by
    intro tt kt
    refine W0 tt ?_
    refine XS.aloadN X0.here hx rfl (hb hby d_jdk_42_method_3_0) rfl rfl ?_
    refine XS.aloadN X0.here hx rfl (hb hby d_jdk_42_method_3_1) rfl rfl ?_
    refine XS.iconst X0.here hx rfl (hb hby d_jdk_42_method_3_2) ?_
    refine XS.aloadN X0.here hx rfl (hb hby d_jdk_42_method_3_3) rfl rfl ?_
    show SS p e below s₁ m 4 #[.val (.ref a), .val (.ref src)] [(.ref src), (.int (0 : Int32)), (.ref src), (.ref a)] _
    refine X0.arraylength hx (by first | exact Ar101.1 | (rw [e0]; exact Ar101.1)) (State.isArrayOf_alike hZ.alike Ar101.2.1) (g := (mkF m 4 #[.val (.ref a), .val (.ref src)] [(.ref src), (.int (0 : Int32)), (.ref src), (.ref a)])) rfl rfl (hb hby d_jdk_42_method_3_4) _ ?_
    rw [len_of S101 M101]
    refine XS.aconstNull X0.here hx rfl (hb hby d_jdk_42_method_3_5) ?_
    show SS p e below s₁ m 6 #[.val (.ref a), .val (.ref src)] [.null, (.int (Int32.ofNat cs.length)), (.int (0 : Int32)), (.ref src), (.ref a)] _
    refine st102.trans ?_
    exact kt
  obtain ⟨fs, hr, hrun, hended, hW, hsame⟩ := X102.leave (v := none) (fun _ => rfl)
  refine ⟨_, _, W105 _ (X102.returnOut hx Bd.returns (hb hby d_jdk_42_method_3_9) hr), hrun, hended, _, _, rfl, ?_, ⟨_, rfl⟩, hW, hsame.mono (by decide) (by decide)⟩
  show Q_sinit Z a src kc cs cS h0 n0 _ T102.heap _
  exact ⟨t_103, kb_104, rfl, N102, (Keep.trans (Keep.refl h0 [a]) K102 (allS (Or.inl (List.mem_of_getElem? (i := 0) rfl)) all0)), P102_0, P102_1⟩
def Q_pcheckFT (Z : State) (j : Int32) (k : Int32) (z : Int32) (fm : Value) (h0 : Heap) (n0 : Nat) (vQ_ : Option Value) (hQ_ : Heap) (LQ_ : List Loc) : Prop := vQ_ = some (.int j) ∧ Fr n0 LQ_ ∧ hQ_ = h0
set_option maxRecDepth 65536 in
set_option maxHeartbeats 40000000 in
theorem rm_pcheckFT (l : Launch) (Z : State) (a0 : Array Value) (hw : HW a0 Z) (ws : List Jvm.Cond) (j : Int32) (k : Int32) (z : Int32) (fm : Value) (h0 : Heap) (n0 : Nat) (Z0 : n0 ≤ h0.size) (hfm : fm.isRef = true) (hj0 : ¬ (j < (0 : Int32))) (hj1 : ¬ (k < j)) (hj2 : ¬ (z < k)) :
    MetFree l yn21 (head1 (Jvm.Cond.code yn21 jdk_41_method_12_code 4 (some .int) :: ws) ({ frames := 0, cells := 0, slots := 0, locals := 0 } : Room)) (fun aQ_ UQ => aQ_ = #[(.int j), (.int k), (.int z), fm] ∧ Z.Warmed39 UQ.vm ∧ UQ.heap = h0) (fun _ _ _ _ _ => True) (fun _ UQ oQ UQ' => ∃ vQ_ LQ_, oQ = .returned vQ_ ∧ Q_pcheckFT Z j k z fm h0 n0 vQ_ UQ'.heap LQ_ ∧ FrameEnd UQ oQ UQ' LQ_ ({ frames := 0, cells := 0, slots := 0, locals := 0 } : Room).cells ({ frames := 0, cells := 0, slots := 0, locals := 0 } : Room).slots) := by
  refine MetFree.of_bodySF (plainFor_of_name pn_jdk_internal_util_Preconditions) hisR ?_
  intro p e s m args below meth cO s₁ Bd hml0 hP hK
  obtain ⟨rfl, hZ, hh⟩ := hP
  have hx := Bd.exec
  have hby := Bd.bytes
  have hml : cO.maxLocals = 4 := hml0
  have hown : s.vm.findClass "jdk/internal/util/Preconditions" = some m.cls := findClass_of_methodNamed Bd.named
  have hnm := (name_of_methodNamed Bd.named Bd.method).1
  have X0 : Stand p l e ({ frames := 0, cells := 0, slots := 0, locals := 0 } : Room) s m #[(.int j), (.int k), (.int z), fm] below meth cO s₁ [] 0 0 := Stand.of_body Bd
  have e0 : s₁.heap = h0 := by rw [← hh, Bd.state]; rfl
  have N0 := Fr.nil n0
  have W0 : ∀ zQ, SS p e below s₁ m 0 #[.val (.int j), .val (.int k), .val (.int z), .val fm] [] zQ → Steps p.tables e below (s₁.setTop (entryFrame m #[(.int j), (.int k), (.int z), fm] 4)) zQ := fun tt kt => castTop (ef_pcheckFT m j k z fm (XT.cat1 hfm)) kt
  have W101 : ∀ zQ, SS p e below s₁ m 23 #[.val (.int j), .val (.int k), .val (.int z), .val fm] [(.int j)] zQ → Steps p.tables e below (s₁.setTop (entryFrame m #[(.int j), (.int k), (.int z), fm] 4)) zQ := by
    intro tt kt
    refine W0 tt ?_
    refine XS.iloadN X0.here hx rfl (hb hby d_jdk_41_method_12_0) rfl ?_
    refine XS.ifNo X0.here hx rfl (hb hby d_jdk_41_method_12_1) rfl ((if0 _ _).trans (flt hj0).1) ?_
    refine XS.iloadN X0.here hx rfl (hb hby d_jdk_41_method_12_4) rfl ?_
    refine XS.iloadN X0.here hx rfl (hb hby d_jdk_41_method_12_5) rfl ?_
    refine XS.icmpNo X0.here hx rfl (hb hby d_jdk_41_method_12_6) rfl (flt hj1).2.2.1 ?_
    refine XS.iloadN X0.here hx rfl (hb hby d_jdk_41_method_12_9) rfl ?_
    show SS p e below s₁ m 10 #[.val (.int j), .val (.int k), .val (.int z), .val fm] [(.int k)] _
    refine XS.iloadN X0.here hx rfl (hb hby d_jdk_41_method_12_10) rfl ?_
    refine XS.icmpYes X0.here hx rfl (pc0 := 11) (pc' := 22) rfl (hb hby d_jdk_41_method_12_11) rfl (flt hj2).2.2.2 (by decide) (by decide) ?_
    refine XS.iloadN X0.here hx rfl (hb hby d_jdk_41_method_12_22) rfl ?_
    exact kt
  obtain ⟨fs, hr, hrun, hended, hW, hsame⟩ := X0.leave (v := some (.int j)) (fun h => by rw [Bd.returns] at h; cases h)
  refine ⟨_, _, W101 _ (retI X0 hx Bd.returns (hb hby d_jdk_41_method_12_23) hr), hrun, hended, _, _, rfl, ?_, ⟨_, rfl⟩, hW, hsame.mono (by decide) (by decide)⟩
  show Q_pcheckFT Z j k z fm h0 n0 _ s₁.heap _
  rw [e0]
  exact ⟨rfl, N0, rfl⟩
def Q_scheckBE (Z : State) (j : Int32) (k : Int32) (z : Int32) (fm : Value) (h0 : Heap) (n0 : Nat) (vQ_ : Option Value) (hQ_ : Heap) (LQ_ : List Loc) : Prop := vQ_ = none ∧ Fr n0 LQ_ ∧ hQ_ = h0
set_option maxRecDepth 65536 in
set_option maxHeartbeats 40000000 in
theorem rm_scheckBE (l : Launch) (Z : State) (a0 : Array Value) (hw : HW a0 Z) (ws : List Jvm.Cond) (j : Int32) (k : Int32) (z : Int32) (fm : Value) (h0 : Heap) (n0 : Nat) (Z0 : n0 ≤ h0.size) (O0 : Old Z n0 h0) (S_fm : Sta Z Z.heap "jdk/internal/util/Preconditions" "SIOOBE_FORMATTER" "Ljava/util/function/BiFunction;" fm) (hfm : fm.isRef = true) (hj0 : ¬ (j < (0 : Int32))) (hj1 : ¬ (k < j)) (hj2 : ¬ (z < k)) :
    MetFree l yn22 (head1 (Jvm.Cond.code yn22 jdk_42_method_158_code 3 none :: ws) ({ frames := 1, cells := 0, slots := 0, locals := 15 } : Room)) (fun aQ_ UQ => aQ_ = #[(.int j), (.int k), (.int z)] ∧ Z.Warmed39 UQ.vm ∧ UQ.heap = h0) (fun _ _ _ _ _ => True) (fun _ UQ oQ UQ' => ∃ vQ_ LQ_, oQ = .returned vQ_ ∧ Q_scheckBE Z j k z fm h0 n0 vQ_ UQ'.heap LQ_ ∧ FrameEnd UQ oQ UQ' LQ_ ({ frames := 1, cells := 0, slots := 0, locals := 15 } : Room).cells ({ frames := 1, cells := 0, slots := 0, locals := 15 } : Room).slots) := by
  refine MetFree.of_bodySF (plainFor_of_name pn_java_lang_String) hisR ?_
  intro p e s m args below meth cO s₁ Bd hml0 hP hK
  obtain ⟨rfl, hZ, hh⟩ := hP
  have hx := Bd.exec
  have hby := Bd.bytes
  have hml : cO.maxLocals = 3 := hml0
  have hown : s.vm.findClass "java/lang/String" = some m.cls := findClass_of_methodNamed Bd.named
  have hnm := (name_of_methodNamed Bd.named Bd.method).1
  have X0 : Stand p l e ({ frames := 1, cells := 0, slots := 0, locals := 15 } : Room) s m #[(.int j), (.int k), (.int z)] below meth cO s₁ [] 0 0 := Stand.of_body Bd
  have e0 : s₁.heap = h0 := by rw [← hh, Bd.state]; rfl
  have N0 := Fr.nil n0
  have W0 : ∀ zQ, SS p e below s₁ m 0 #[.val (.int j), .val (.int k), .val (.int z)] [] zQ → Steps p.tables e below (s₁.setTop (entryFrame m #[(.int j), (.int k), (.int z)] 3)) zQ := fun tt kt => castTop (ef_scheckBE m j k z) kt
  have F102 : Sta Z h0 "jdk/internal/util/Preconditions" "SIOOBE_FORMATTER" "Ljava/util/function/BiFunction;" fm := S_fm.ext O0.2
  obtain ⟨T101, X101, e101, st101⟩ := getS2 X0 hx hZ hown (host := "") (Or.inl (w61 hw)) Via.refl e0 F102 (g := (mkF m 3 #[.val (.int j), .val (.int k), .val (.int z)] [(.int z), (.int k), (.int j)])) rfl (hb hby d_jdk_42_method_158_3)
  obtain ⟨_, _, ⟨T103, L103, k103, n103⟩, -, X103, ⟨Lc103, hQ103, l103, y103, z103⟩, st103⟩ := Jvm.LawKit.callS X101 hx (y := yn21) hown (mvT hZ (w63 hw)) (mvT hZ (w64 hw)) (mvT hZ (w62 hw)) (mvT hZ (w65 hw)) (by decide) (backOf (W := 0) (rm_pcheckFT l Z a0 hw [] j k z fm h0 n0 Z0 hfm hj0 hj1 hj2) hZ (w65 hw) (w62 hw) (by decide) (by decide)) (g := (mkF m 6 #[.val (.int j), .val (.int k), .val (.int z)] [fm, (.int z), (.int k), (.int j)])) rfl (by rw [hml]; rfl) (argsL := [(.int j), (.int k), (.int z), fm]) (rest := []) (lenOf pd__28_IIILjava_2f_util_2f_function_2f_BiFunction_3b__29_I rfl) rfl (by show 2 * 0 + _ ≤ _; exact Nat.le_of_eq rfl) (hb hby d_jdk_42_method_158_6) (fun _ _ => ⟨rfl, e101, (Nat.le_of_ble_eq_true rfl), (Nat.le_of_ble_eq_true rfl)⟩)
  dsimp only [Pt.U, Pt.locs, Pt.cells, Pt.slots] at X103 l103 y103 z103 st103 hQ103
  subst l103 y103 z103
  obtain ⟨rfl, Nq103, eq103⟩ := hQ103
  have N103 := Fr.app N0 Nq103
  have W104 : ∀ zQ, SS p e below T103 m 10 #[.val (.int j), .val (.int k), .val (.int z)] [] zQ → Steps p.tables e below (s₁.setTop (entryFrame m #[(.int j), (.int k), (.int z)] 3)) zQ := by
    intro tt kt
    refine W0 tt ?_
    refine XS.iloadN X0.here hx rfl (hb hby d_jdk_42_method_158_0) rfl ?_
    refine XS.iloadN X0.here hx rfl (hb hby d_jdk_42_method_158_1) rfl ?_
    refine XS.iloadN X0.here hx rfl (hb hby d_jdk_42_method_158_2) rfl ?_
    show SS p e below s₁ m 3 #[.val (.int j), .val (.int k), .val (.int z)] [(.int z), (.int k), (.int j)] _
    refine st101 _ ?_
    show SS p e below T101 m 6 #[.val (.int j), .val (.int k), .val (.int z)] [fm, (.int z), (.int k), (.int j)] _
    refine st103 _ ?_
    refine XS.pop X103.here hx rfl (hb hby d_jdk_42_method_158_9) rfl rfl ?_
    exact kt
  obtain ⟨fs, hr, hrun, hended, hW, hsame⟩ := X103.leave (v := none) (fun _ => rfl)
  refine ⟨_, _, W104 _ (X103.returnOut hx Bd.returns (hb hby d_jdk_42_method_158_10) hr), hrun, hended, _, _, rfl, ?_, ⟨_, rfl⟩, hW, hsame.mono (by decide) (by decide)⟩
  show Q_scheckBE Z j k z fm h0 n0 _ T103.heap _
  rw [eq103]
  exact ⟨rfl, N103, rfl⟩
def Q_pcheckFIS (Z : State) (fm : Value) (i : Nat) (n : Nat) (N : Nat) (h0 : Heap) (n0 : Nat) (vQ_ : Option Value) (hQ_ : Heap) (LQ_ : List Loc) : Prop := vQ_ = some (.int (Int32.ofNat i)) ∧ Fr n0 LQ_ ∧ hQ_ = h0
set_option maxRecDepth 65536 in
set_option maxHeartbeats 40000000 in
theorem rm_pcheckFIS (l : Launch) (Z : State) (a0 : Array Value) (hw : HW a0 Z) (ws : List Jvm.Cond) (fm : Value) (i : Nat) (n : Nat) (N : Nat) (h0 : Heap) (n0 : Nat) (Z0 : n0 ≤ h0.size) (hfm : fm.isRef = true) (hin : i + n ≤ N) (hN : N < 2147483648) :
    MetFree l yn23 (head1 (Jvm.Cond.code yn23 jdk_41_method_13_code 4 (some .int) :: ws) ({ frames := 0, cells := 0, slots := 0, locals := 0 } : Room)) (fun aQ_ UQ => aQ_ = #[(.int (Int32.ofNat i)), (.int (Int32.ofNat n)), (.int (Int32.ofNat N)), fm] ∧ Z.Warmed39 UQ.vm ∧ UQ.heap = h0) (fun _ _ _ _ _ => True) (fun _ UQ oQ UQ' => ∃ vQ_ LQ_, oQ = .returned vQ_ ∧ Q_pcheckFIS Z fm i n N h0 n0 vQ_ UQ'.heap LQ_ ∧ FrameEnd UQ oQ UQ' LQ_ ({ frames := 0, cells := 0, slots := 0, locals := 0 } : Room).cells ({ frames := 0, cells := 0, slots := 0, locals := 0 } : Room).slots) := by
  refine MetFree.of_bodySF (plainFor_of_name pn_jdk_internal_util_Preconditions) hisR ?_
  intro p e s m args below meth cO s₁ Bd hml0 hP hK
  obtain ⟨rfl, hZ, hh⟩ := hP
  have hx := Bd.exec
  have hby := Bd.bytes
  have hml : cO.maxLocals = 4 := hml0
  have hown : s.vm.findClass "jdk/internal/util/Preconditions" = some m.cls := findClass_of_methodNamed Bd.named
  have hnm := (name_of_methodNamed Bd.named Bd.method).1
  have X0 : Stand p l e ({ frames := 0, cells := 0, slots := 0, locals := 0 } : Room) s m #[(.int (Int32.ofNat i)), (.int (Int32.ofNat n)), (.int (Int32.ofNat N)), fm] below meth cO s₁ [] 0 0 := Stand.of_body Bd
  have e0 : s₁.heap = h0 := by rw [← hh, Bd.state]; rfl
  have N0 := Fr.nil n0
  have W0 : ∀ zQ, SS p e below s₁ m 0 #[.val (.int (Int32.ofNat i)), .val (.int (Int32.ofNat n)), .val (.int (Int32.ofNat N)), .val fm] [] zQ → Steps p.tables e below (s₁.setTop (entryFrame m #[(.int (Int32.ofNat i)), (.int (Int32.ofNat n)), (.int (Int32.ofNat N)), fm] 4)) zQ := fun tt kt => castTop (ef_pcheckFIS m (Int32.ofNat i) (Int32.ofNat n) (Int32.ofNat N) fm (XT.cat1 hfm)) kt
  have W101 : ∀ zQ, SS p e below s₁ m 24 #[.val (.int (Int32.ofNat i)), .val (.int (Int32.ofNat n)), .val (.int (Int32.ofNat N)), .val fm] [(.int (Int32.ofNat i))] zQ → Steps p.tables e below (s₁.setTop (entryFrame m #[(.int (Int32.ofNat i)), (.int (Int32.ofNat n)), (.int (Int32.ofNat N)), fm] 4)) zQ := by
    intro tt kt
    refine W0 tt ?_
    refine XS.iloadN X0.here hx rfl (hb hby d_jdk_41_method_13_0) rfl ?_
    refine XS.iloadN X0.here hx rfl (hb hby d_jdk_41_method_13_1) rfl ?_
    refine XS.ior X0.here hx rfl (hb hby d_jdk_41_method_13_2) rfl ?_
    refine XS.iloadN X0.here hx rfl (hb hby d_jdk_41_method_13_3) rfl ?_
    refine XS.ior X0.here hx rfl (hb hby d_jdk_41_method_13_4) rfl ?_
    refine XS.ifNo X0.here hx rfl (hb hby d_jdk_41_method_13_5) rfl ((if0 _ _).trans (flt (own_or3 (by omega) (by omega) (by omega))).1) ?_
    show SS p e below s₁ m 8 #[.val (.int (Int32.ofNat i)), .val (.int (Int32.ofNat n)), .val (.int (Int32.ofNat N)), .val fm] [] _
    refine XS.iloadN X0.here hx rfl (hb hby d_jdk_41_method_13_8) rfl ?_
    refine XS.iloadN X0.here hx rfl (hb hby d_jdk_41_method_13_9) rfl ?_
    refine XS.iloadN X0.here hx rfl (hb hby d_jdk_41_method_13_10) rfl ?_
    refine XS.isub X0.here hx rfl (hb hby d_jdk_41_method_13_11) rfl ?_
    show SS p e below s₁ m 12 #[.val (.int (Int32.ofNat i)), .val (.int (Int32.ofNat n)), .val (.int (Int32.ofNat N)), .val fm] [(.int ((Int32.ofNat N) - (Int32.ofNat i))), (.int (Int32.ofNat n))] _
    rw [show ((Int32.ofNat N) - (Int32.ofNat i)) = (Int32.ofNat (N - i)) from own_sub (by omega) (by omega)]
    refine XS.icmpYes X0.here hx rfl (pc0 := 12) (pc' := 23) rfl (hb hby d_jdk_41_method_13_12) rfl (flt (own_nlt (by omega) (by omega))).2.2.2 (by decide) (by decide) ?_
    refine XS.iloadN X0.here hx rfl (hb hby d_jdk_41_method_13_23) rfl ?_
    exact kt
  obtain ⟨fs, hr, hrun, hended, hW, hsame⟩ := X0.leave (v := some (.int (Int32.ofNat i))) (fun h => by rw [Bd.returns] at h; cases h)
  refine ⟨_, _, W101 _ (retI X0 hx Bd.returns (hb hby d_jdk_41_method_13_24) hr), hrun, hended, _, _, rfl, ?_, ⟨_, rfl⟩, hW, hsame.mono (by decide) (by decide)⟩
  show Q_pcheckFIS Z fm i n N h0 n0 _ s₁.heap _
  rw [e0]
  exact ⟨rfl, N0, rfl⟩
def Q_scheckOC (Z : State) (i : Nat) (n : Nat) (N : Nat) (fm : Value) (h0 : Heap) (n0 : Nat) (vQ_ : Option Value) (hQ_ : Heap) (LQ_ : List Loc) : Prop := vQ_ = some (.int (Int32.ofNat i)) ∧ Fr n0 LQ_ ∧ hQ_ = h0
set_option maxRecDepth 65536 in
set_option maxHeartbeats 40000000 in
theorem rm_scheckOC (l : Launch) (Z : State) (a0 : Array Value) (hw : HW a0 Z) (ws : List Jvm.Cond) (i : Nat) (n : Nat) (N : Nat) (fm : Value) (h0 : Heap) (n0 : Nat) (Z0 : n0 ≤ h0.size) (O0 : Old Z n0 h0) (S_fm : Sta Z Z.heap "jdk/internal/util/Preconditions" "SIOOBE_FORMATTER" "Ljava/util/function/BiFunction;" fm) (hfm : fm.isRef = true) (hin : i + n ≤ N) (hN : N < 2147483648) :
    MetFree l yn24 (head1 (Jvm.Cond.code yn24 jdk_42_method_157_code 3 (some .int) :: ws) ({ frames := 1, cells := 0, slots := 0, locals := 15 } : Room)) (fun aQ_ UQ => aQ_ = #[(.int (Int32.ofNat i)), (.int (Int32.ofNat n)), (.int (Int32.ofNat N))] ∧ Z.Warmed39 UQ.vm ∧ UQ.heap = h0) (fun _ _ _ _ _ => True) (fun _ UQ oQ UQ' => ∃ vQ_ LQ_, oQ = .returned vQ_ ∧ Q_scheckOC Z i n N fm h0 n0 vQ_ UQ'.heap LQ_ ∧ FrameEnd UQ oQ UQ' LQ_ ({ frames := 1, cells := 0, slots := 0, locals := 15 } : Room).cells ({ frames := 1, cells := 0, slots := 0, locals := 15 } : Room).slots) := by
  refine MetFree.of_bodySF (plainFor_of_name pn_java_lang_String) hisR ?_
  intro p e s m args below meth cO s₁ Bd hml0 hP hK
  obtain ⟨rfl, hZ, hh⟩ := hP
  have hx := Bd.exec
  have hby := Bd.bytes
  have hml : cO.maxLocals = 3 := hml0
  have hown : s.vm.findClass "java/lang/String" = some m.cls := findClass_of_methodNamed Bd.named
  have hnm := (name_of_methodNamed Bd.named Bd.method).1
  have X0 : Stand p l e ({ frames := 1, cells := 0, slots := 0, locals := 15 } : Room) s m #[(.int (Int32.ofNat i)), (.int (Int32.ofNat n)), (.int (Int32.ofNat N))] below meth cO s₁ [] 0 0 := Stand.of_body Bd
  have e0 : s₁.heap = h0 := by rw [← hh, Bd.state]; rfl
  have N0 := Fr.nil n0
  have W0 : ∀ zQ, SS p e below s₁ m 0 #[.val (.int (Int32.ofNat i)), .val (.int (Int32.ofNat n)), .val (.int (Int32.ofNat N))] [] zQ → Steps p.tables e below (s₁.setTop (entryFrame m #[(.int (Int32.ofNat i)), (.int (Int32.ofNat n)), (.int (Int32.ofNat N))] 3)) zQ := fun tt kt => castTop (ef_scheckOC m (Int32.ofNat i) (Int32.ofNat n) (Int32.ofNat N)) kt
  have F102 : Sta Z h0 "jdk/internal/util/Preconditions" "SIOOBE_FORMATTER" "Ljava/util/function/BiFunction;" fm := S_fm.ext O0.2
  obtain ⟨T101, X101, e101, st101⟩ := getS2 X0 hx hZ hown (host := "") (Or.inl (w61 hw)) Via.refl e0 F102 (g := (mkF m 3 #[.val (.int (Int32.ofNat i)), .val (.int (Int32.ofNat n)), .val (.int (Int32.ofNat N))] [(.int (Int32.ofNat N)), (.int (Int32.ofNat n)), (.int (Int32.ofNat i))])) rfl (hb hby d_jdk_42_method_157_3)
  obtain ⟨_, _, ⟨T103, L103, k103, n103⟩, -, X103, ⟨Lc103, hQ103, l103, y103, z103⟩, st103⟩ := Jvm.LawKit.callS X101 hx (y := yn23) hown (mvT hZ (w190 hw)) (mvT hZ (w191 hw)) (mvT hZ (w62 hw)) (mvT hZ (w192 hw)) (by decide) (backOf (W := 0) (rm_pcheckFIS l Z a0 hw [] fm i n N h0 n0 Z0 hfm hin hN) hZ (w192 hw) (w62 hw) (by decide) (by decide)) (g := (mkF m 6 #[.val (.int (Int32.ofNat i)), .val (.int (Int32.ofNat n)), .val (.int (Int32.ofNat N))] [fm, (.int (Int32.ofNat N)), (.int (Int32.ofNat n)), (.int (Int32.ofNat i))])) rfl (by rw [hml]; rfl) (argsL := [(.int (Int32.ofNat i)), (.int (Int32.ofNat n)), (.int (Int32.ofNat N)), fm]) (rest := []) (lenOf pd__28_IIILjava_2f_util_2f_function_2f_BiFunction_3b__29_I rfl) rfl (by show 2 * 0 + _ ≤ _; exact Nat.le_of_eq rfl) (hb hby d_jdk_42_method_157_6) (fun _ _ => ⟨rfl, e101, (Nat.le_of_ble_eq_true rfl), (Nat.le_of_ble_eq_true rfl)⟩)
  dsimp only [Pt.U, Pt.locs, Pt.cells, Pt.slots] at X103 l103 y103 z103 st103 hQ103
  subst l103 y103 z103
  obtain ⟨rfl, Nq103, eq103⟩ := hQ103
  have N103 := Fr.app N0 Nq103
  have W104 : ∀ zQ, SS p e below T103 m 9 #[.val (.int (Int32.ofNat i)), .val (.int (Int32.ofNat n)), .val (.int (Int32.ofNat N))] [(.int (Int32.ofNat i))] zQ → Steps p.tables e below (s₁.setTop (entryFrame m #[(.int (Int32.ofNat i)), (.int (Int32.ofNat n)), (.int (Int32.ofNat N))] 3)) zQ := by
    intro tt kt
    refine W0 tt ?_
    refine XS.iloadN X0.here hx rfl (hb hby d_jdk_42_method_157_0) rfl ?_
    refine XS.iloadN X0.here hx rfl (hb hby d_jdk_42_method_157_1) rfl ?_
    refine XS.iloadN X0.here hx rfl (hb hby d_jdk_42_method_157_2) rfl ?_
    show SS p e below s₁ m 3 #[.val (.int (Int32.ofNat i)), .val (.int (Int32.ofNat n)), .val (.int (Int32.ofNat N))] [(.int (Int32.ofNat N)), (.int (Int32.ofNat n)), (.int (Int32.ofNat i))] _
    refine st101 _ ?_
    show SS p e below T101 m 6 #[.val (.int (Int32.ofNat i)), .val (.int (Int32.ofNat n)), .val (.int (Int32.ofNat N))] [fm, (.int (Int32.ofNat N)), (.int (Int32.ofNat n)), (.int (Int32.ofNat i))] _
    refine st103 _ ?_
    exact kt
  obtain ⟨fs, hr, hrun, hended, hW, hsame⟩ := X103.leave (v := some (.int (Int32.ofNat i))) (fun h => by rw [Bd.returns] at h; cases h)
  refine ⟨_, _, W104 _ (retI X103 hx Bd.returns (hb hby d_jdk_42_method_157_9) hr), hrun, hended, _, _, rfl, ?_, ⟨_, rfl⟩, hW, hsame.mono (by decide) (by decide)⟩
  show Q_scheckOC Z i n N fm h0 n0 _ T103.heap _
  rw [eq103]
  exact ⟨rfl, N103, rfl⟩
def Q_u16checkOC (Z : State) (t : Addr) (i : Nat) (n : Nat) (N : Nat) (kb : ClassId) (vs : List Value) (fm : Value) (h0 : Heap) (n0 : Nat) (vQ_ : Option Value) (hQ_ : Heap) (LQ_ : List Loc) : Prop := vQ_ = none ∧ Fr n0 LQ_ ∧ hQ_ = h0
set_option maxRecDepth 65536 in
set_option maxHeartbeats 40000000 in
theorem rm_u16checkOC (l : Launch) (Z : State) (a0 : Array Value) (hw : HW a0 Z) (ws : List Jvm.Cond) (t : Addr) (i : Nat) (n : Nat) (N : Nat) (kb : ClassId) (vs : List Value) (fm : Value) (h0 : Heap) (n0 : Nat) (Z0 : n0 ≤ h0.size) (O0 : Old Z n0 h0) (S_fm : Sta Z Z.heap "jdk/internal/util/Preconditions" "SIOOBE_FORMATTER" "Ljava/util/function/BiFunction;" fm) (hfm : fm.isRef = true) (A1 : Arv Z h0 t kb .byte (Int32.ofNat (2 * N)) vs (.int (0 : Int32))) (hin : i + n ≤ N) (hN : 2 * N < 2147483648) :
    MetFree l yn25 (head1 (Jvm.Cond.code yn25 jdk_52_method_94_code 3 none :: ws) ({ frames := 2, cells := 0, slots := 0, locals := 29 } : Room)) (fun aQ_ UQ => aQ_ = #[(.int (Int32.ofNat i)), (.int (Int32.ofNat n)), (.ref t)] ∧ Z.Warmed39 UQ.vm ∧ UQ.heap = h0) (fun _ _ _ _ _ => True) (fun _ UQ oQ UQ' => ∃ vQ_ LQ_, oQ = .returned vQ_ ∧ Q_u16checkOC Z t i n N kb vs fm h0 n0 vQ_ UQ'.heap LQ_ ∧ FrameEnd UQ oQ UQ' LQ_ ({ frames := 2, cells := 0, slots := 0, locals := 29 } : Room).cells ({ frames := 2, cells := 0, slots := 0, locals := 29 } : Room).slots) := by
  refine MetFree.of_bodySF (plainFor_of_name pn_java_lang_StringUTF16) hisR ?_
  intro p e s m args below meth cO s₁ Bd hml0 hP hK
  obtain ⟨rfl, hZ, hh⟩ := hP
  have hx := Bd.exec
  have hby := Bd.bytes
  have hml : cO.maxLocals = 3 := hml0
  have hown : s.vm.findClass "java/lang/StringUTF16" = some m.cls := findClass_of_methodNamed Bd.named
  have hnm := (name_of_methodNamed Bd.named Bd.method).1
  have X0 : Stand p l e ({ frames := 2, cells := 0, slots := 0, locals := 29 } : Room) s m #[(.int (Int32.ofNat i)), (.int (Int32.ofNat n)), (.ref t)] below meth cO s₁ [] 0 0 := Stand.of_body Bd
  have e0 : s₁.heap = h0 := by rw [← hh, Bd.state]; rfl
  have N0 := Fr.nil n0
  have W0 : ∀ zQ, SS p e below s₁ m 0 #[.val (.int (Int32.ofNat i)), .val (.int (Int32.ofNat n)), .val (.ref t)] [] zQ → Steps p.tables e below (s₁.setTop (entryFrame m #[(.int (Int32.ofNat i)), (.int (Int32.ofNat n)), (.ref t)] 3)) zQ := fun tt kt => castTop (ef_u16checkOC m (Int32.ofNat i) (Int32.ofNat n) t) kt
  obtain ⟨_, _, ⟨T101, L101, k101, n101⟩, -, X101, ⟨Lc101, hQ101, l101, y101, z101⟩, st101⟩ := Jvm.LawKit.callS X0 hx (y := yn4) hown (mvT hZ (w168 hw)) (mvT hZ (w169 hw)) (mvT hZ (w22 hw)) (mvT hZ (w170 hw)) (by decide) (backOf (W := 2) (rm_u16length l Z a0 hw [] t N kb vs h0 n0 Z0 A1 hN) hZ (w170 hw) (w22 hw) (by decide) (by decide)) (g := (mkF m 3 #[.val (.int (Int32.ofNat i)), .val (.int (Int32.ofNat n)), .val (.ref t)] [(.ref t), (.int (Int32.ofNat n)), (.int (Int32.ofNat i))])) rfl (by rw [hml]; rfl) (argsL := [(.ref t)]) (rest := [(.int (Int32.ofNat n)), (.int (Int32.ofNat i))]) (lenOf pd__28__5b_B_29_I rfl) rfl (by show 2 * 0 + _ ≤ _; exact Nat.le_of_eq rfl) (hb hby d_jdk_52_method_94_3) (fun _ _ => ⟨rfl, e0, (Nat.le_of_ble_eq_true rfl), (Nat.le_of_ble_eq_true rfl)⟩)
  dsimp only [Pt.U, Pt.locs, Pt.cells, Pt.slots] at X101 l101 y101 z101 st101 hQ101
  subst l101 y101 z101
  obtain ⟨rfl, Nq101, eq101⟩ := hQ101
  have N101 := Fr.app N0 Nq101
  obtain ⟨_, _, ⟨T102, L102, k102, n102⟩, -, X102, ⟨Lc102, hQ102, l102, y102, z102⟩, st102⟩ := Jvm.LawKit.callS X101 hx (y := yn24) hown (mvT hZ (w187 hw)) (mvT hZ (w188 hw)) (mvT hZ (w8 hw)) (mvT hZ (w189 hw)) (by decide) (backOf (W := 0) (rm_scheckOC l Z a0 hw [] i n N fm h0 n0 Z0 O0 S_fm hfm hin (by omega)) hZ (w189 hw) (w8 hw) (by decide) (by decide)) (g := (mkF m 6 #[.val (.int (Int32.ofNat i)), .val (.int (Int32.ofNat n)), .val (.ref t)] [(.int (Int32.ofNat N)), (.int (Int32.ofNat n)), (.int (Int32.ofNat i))])) rfl (by rw [hml]; rfl) (argsL := [(.int (Int32.ofNat i)), (.int (Int32.ofNat n)), (.int (Int32.ofNat N))]) (rest := []) (lenOf pd__28_III_29_I rfl) rfl (by show 2 * 0 + _ ≤ _; exact Nat.le_of_eq rfl) (hb hby d_jdk_52_method_94_6) (fun _ _ => ⟨rfl, eq101, (Nat.le_of_ble_eq_true rfl), (Nat.le_of_ble_eq_true rfl)⟩)
  dsimp only [Pt.U, Pt.locs, Pt.cells, Pt.slots] at X102 l102 y102 z102 st102 hQ102
  subst l102 y102 z102
  obtain ⟨rfl, Nq102, eq102⟩ := hQ102
  have N102 := Fr.app N101 Nq102
  have W103 : ∀ zQ, SS p e below T102 m 10 #[.val (.int (Int32.ofNat i)), .val (.int (Int32.ofNat n)), .val (.ref t)] [] zQ → Steps p.tables e below (s₁.setTop (entryFrame m #[(.int (Int32.ofNat i)), (.int (Int32.ofNat n)), (.ref t)] 3)) zQ := by
    intro tt kt
    refine W0 tt ?_
    refine XS.iloadN X0.here hx rfl (hb hby d_jdk_52_method_94_0) rfl ?_
    refine XS.iloadN X0.here hx rfl (hb hby d_jdk_52_method_94_1) rfl ?_
    refine XS.aloadN X0.here hx rfl (hb hby d_jdk_52_method_94_2) rfl rfl ?_
    show SS p e below s₁ m 3 #[.val (.int (Int32.ofNat i)), .val (.int (Int32.ofNat n)), .val (.ref t)] [(.ref t), (.int (Int32.ofNat n)), (.int (Int32.ofNat i))] _
    refine st101 _ ?_
    show SS p e below T101 m 6 #[.val (.int (Int32.ofNat i)), .val (.int (Int32.ofNat n)), .val (.ref t)] [(.int (Int32.ofNat N)), (.int (Int32.ofNat n)), (.int (Int32.ofNat i))] _
    refine st102 _ ?_
    refine XS.pop X102.here hx rfl (hb hby d_jdk_52_method_94_9) rfl rfl ?_
    exact kt
  obtain ⟨fs, hr, hrun, hended, hW, hsame⟩ := X102.leave (v := none) (fun _ => rfl)
  refine ⟨_, _, W103 _ (X102.returnOut hx Bd.returns (hb hby d_jdk_52_method_94_10) hr), hrun, hended, _, _, rfl, ?_, ⟨_, rfl⟩, hW, hsame.mono (by decide) (by decide)⟩
  show Q_u16checkOC Z t i n N kb vs fm h0 n0 _ T102.heap _
  rw [eq102]
  exact ⟨rfl, N102, rfl⟩
def Q_checkLength (Z : State) (j : Int32) (k : Int32) (h0 : Heap) (n0 : Nat) (vQ_ : Option Value) (hQ_ : Heap) (LQ_ : List Loc) : Prop := vQ_ = none ∧ Fr n0 LQ_ ∧ hQ_ = h0
set_option maxRecDepth 65536 in
set_option maxHeartbeats 40000000 in
theorem rm_checkLength (l : Launch) (Z : State) (a0 : Array Value) (hw : HW a0 Z) (ws : List Jvm.Cond) (j : Int32) (k : Int32) (h0 : Heap) (n0 : Nat) (Z0 : n0 ≤ h0.size) (hj : ¬ (k < j)) :
    MetFree l yn26 (head1 (Jvm.Cond.code yn26 jdk_65_method_131_code 2 none :: ws) ({ frames := 0, cells := 0, slots := 0, locals := 0 } : Room)) (fun aQ_ UQ => aQ_ = #[(.int j), (.int k)] ∧ Z.Warmed39 UQ.vm ∧ UQ.heap = h0) (fun _ _ _ _ _ => True) (fun _ UQ oQ UQ' => ∃ vQ_ LQ_, oQ = .returned vQ_ ∧ Q_checkLength Z j k h0 n0 vQ_ UQ'.heap LQ_ ∧ FrameEnd UQ oQ UQ' LQ_ ({ frames := 0, cells := 0, slots := 0, locals := 0 } : Room).cells ({ frames := 0, cells := 0, slots := 0, locals := 0 } : Room).slots) := by
  refine MetFree.of_bodySF (plainFor_of_name pn_java_util_Arrays) hisR ?_
  intro p e s m args below meth cO s₁ Bd hml0 hP hK
  obtain ⟨rfl, hZ, hh⟩ := hP
  have hx := Bd.exec
  have hby := Bd.bytes
  have hml : cO.maxLocals = 2 := hml0
  have hown : s.vm.findClass "java/util/Arrays" = some m.cls := findClass_of_methodNamed Bd.named
  have hnm := (name_of_methodNamed Bd.named Bd.method).1
  have X0 : Stand p l e ({ frames := 0, cells := 0, slots := 0, locals := 0 } : Room) s m #[(.int j), (.int k)] below meth cO s₁ [] 0 0 := Stand.of_body Bd
  have e0 : s₁.heap = h0 := by rw [← hh, Bd.state]; rfl
  have N0 := Fr.nil n0
  have W0 : ∀ zQ, SS p e below s₁ m 0 #[.val (.int j), .val (.int k)] [] zQ → Steps p.tables e below (s₁.setTop (entryFrame m #[(.int j), (.int k)] 2)) zQ := fun tt kt => castTop (ef_checkLength m j k) kt
  have W101 : ∀ zQ, SS p e below s₁ m 37 #[.val (.int j), .val (.int k)] [] zQ → Steps p.tables e below (s₁.setTop (entryFrame m #[(.int j), (.int k)] 2)) zQ := by
    intro tt kt
    refine W0 tt ?_
    refine XS.iloadN X0.here hx rfl (hb hby d_jdk_65_method_131_0) rfl ?_
    refine XS.iloadN X0.here hx rfl (hb hby d_jdk_65_method_131_1) rfl ?_
    refine XS.icmpYes X0.here hx rfl (pc0 := 2) (pc' := 37) rfl (hb hby d_jdk_65_method_131_2) rfl (flt hj).2.1 (by decide) (by decide) ?_
    exact kt
  obtain ⟨fs, hr, hrun, hended, hW, hsame⟩ := X0.leave (v := none) (fun _ => rfl)
  refine ⟨_, _, W101 _ (X0.returnOut hx Bd.returns (hb hby d_jdk_65_method_131_37) hr), hrun, hended, _, _, rfl, ?_, ⟨_, rfl⟩, hW, hsame.mono (by decide) (by decide)⟩
  show Q_checkLength Z j k h0 n0 _ s₁.heap _
  rw [e0]
  exact ⟨rfl, N0, rfl⟩
def Q_mini (Z : State) (j : Int32) (k : Int32) (h0 : Heap) (n0 : Nat) (vQ_ : Option Value) (hQ_ : Heap) (LQ_ : List Loc) : Prop := vQ_ = some (.int (if k < j then k else j)) ∧ Fr n0 LQ_ ∧ hQ_ = h0
set_option maxRecDepth 65536 in
set_option maxHeartbeats 40000000 in
theorem rm_mini (l : Launch) (Z : State) (a0 : Array Value) (hw : HW a0 Z) (ws : List Jvm.Cond) (j : Int32) (k : Int32) (h0 : Heap) (n0 : Nat) (Z0 : n0 ≤ h0.size)  :
    MetFree l yn27 (head1 (Jvm.Cond.code yn27 jdk_29_method_69_code 2 (some .int) :: ws) ({ frames := 0, cells := 0, slots := 0, locals := 0 } : Room)) (fun aQ_ UQ => aQ_ = #[(.int j), (.int k)] ∧ Z.Warmed39 UQ.vm ∧ UQ.heap = h0) (fun _ _ _ _ _ => True) (fun _ UQ oQ UQ' => ∃ vQ_ LQ_, oQ = .returned vQ_ ∧ Q_mini Z j k h0 n0 vQ_ UQ'.heap LQ_ ∧ FrameEnd UQ oQ UQ' LQ_ ({ frames := 0, cells := 0, slots := 0, locals := 0 } : Room).cells ({ frames := 0, cells := 0, slots := 0, locals := 0 } : Room).slots) := by
  refine MetFree.of_bodySF (Jvm.Free.JP.mathPlain rfl (by decide +kernel)) hisR ?_
  intro p e s m args below meth cO s₁ Bd hml0 hP hK
  obtain ⟨rfl, hZ, hh⟩ := hP
  have hx := Bd.exec
  have hby := Bd.bytes
  have hml : cO.maxLocals = 2 := hml0
  have hown : s.vm.findClass "java/lang/Math" = some m.cls := findClass_of_methodNamed Bd.named
  have hnm := (name_of_methodNamed Bd.named Bd.method).1
  have X0 : Stand p l e ({ frames := 0, cells := 0, slots := 0, locals := 0 } : Room) s m #[(.int j), (.int k)] below meth cO s₁ [] 0 0 := Stand.of_body Bd
  have e0 : s₁.heap = h0 := by rw [← hh, Bd.state]; rfl
  have N0 := Fr.nil n0
  have W0 : ∀ zQ, SS p e below s₁ m 0 #[.val (.int j), .val (.int k)] [] zQ → Steps p.tables e below (s₁.setTop (entryFrame m #[(.int j), (.int k)] 2)) zQ := fun tt kt => castTop (ef_mini m j k) kt
  have W101 : ∀ zQ, SS p e below s₁ m 2 #[.val (.int j), .val (.int k)] [(.int k), (.int j)] zQ → Steps p.tables e below (s₁.setTop (entryFrame m #[(.int j), (.int k)] 2)) zQ := by
    intro tt kt
    refine W0 tt ?_
    refine XS.iloadN X0.here hx rfl (hb hby d_jdk_29_method_69_0) rfl ?_
    refine XS.iloadN X0.here hx rfl (hb hby d_jdk_29_method_69_1) rfl ?_
    exact kt
  have W103 : ∀ zQ, SS p e below s₁ m 10 #[.val (.int j), .val (.int k)] [(.int (if k < j then k else j))] zQ → Steps p.tables e below (s₁.setTop (entryFrame m #[(.int j), (.int k)] 2)) zQ := by
    intro tt kt
    refine W101 tt ?_
    by_cases hj102 : k < j
    ·
      refine XS.icmpYes X0.here hx rfl (pc0 := 2) (pc' := 9) rfl (hb hby d_jdk_29_method_69_2) rfl (tlt hj102).2.2.1 (by decide) (by decide) ?_
      refine XS.iloadN X0.here hx rfl (hb hby d_jdk_29_method_69_9) rfl ?_
      exact castTop (by first | rfl | (simp only [if_pos hj102]; first | done | rfl)) kt
    ·
      refine XS.icmpNo X0.here hx rfl (hb hby d_jdk_29_method_69_2) rfl (flt hj102).2.2.1 ?_
      refine XS.iloadN X0.here hx rfl (hb hby d_jdk_29_method_69_5) rfl ?_
      refine XS.goto X0.here hx rfl (pc0 := 6) (pc' := 10) rfl (hb hby d_jdk_29_method_69_6) (by decide) (by decide) ?_
      exact castTop (by first | rfl | (simp only [if_neg hj102]; first | done | rfl)) kt
  obtain ⟨fs, hr, hrun, hended, hW, hsame⟩ := X0.leave (v := some (.int (if k < j then k else j))) (fun h => by rw [Bd.returns] at h; cases h)
  refine ⟨_, _, W103 _ (retI X0 hx Bd.returns (hb hby d_jdk_29_method_69_10) hr), hrun, hended, _, _, rfl, ?_, ⟨_, rfl⟩, hW, hsame.mono (by decide) (by decide)⟩
  show Q_mini Z j k h0 n0 _ s₁.heap _
  rw [e0]
  exact ⟨rfl, N0, rfl⟩
def Q_corb (Z : State) (t : Addr) (f : Nat) (gq : Nat) (N : Nat) (kb : ClassId) (vs : List Value) (h0 : Heap) (n0 : Nat) (vQ_ : Option Value) (hQ_ : Heap) (LQ_ : List Loc) : Prop := ∃ r : Addr, ∃ kr : ClassId, vQ_ = some (.ref r) ∧ Fr n0 LQ_ ∧ Keep h0 hQ_ [] ∧ h0.size ≤ r ∧ Arv Z hQ_ r kr .byte (Int32.ofNat (gq - f)) ((vs.drop f).take (gq - f)) (.int (0 : Int32))
set_option maxRecDepth 65536 in
set_option maxHeartbeats 40000000 in
theorem rm_corb (l : Launch) (Z : State) (a0 : Array Value) (hw : HW a0 Z) (ws : List Jvm.Cond) (t : Addr) (f : Nat) (gq : Nat) (N : Nat) (kb : ClassId) (vs : List Value) (h0 : Heap) (n0 : Nat) (Z0 : n0 ≤ h0.size) (A1 : Arv Z h0 t kb .byte (Int32.ofNat N) vs (.int (0 : Int32))) (hvs : vs.length = N) (hfg : f ≤ gq) (hgN : gq ≤ N) (hN : N < 2147483648) (hcap : gq - f ≤ 8) :
    MetFree l yn28 (head1 (Jvm.Cond.code yn28 jdk_65_method_133_code 5 (some (.array .byte)) :: ws) ({ frames := 1, cells := 1, slots := 8, locals := 64 } : Room)) (fun aQ_ UQ => aQ_ = #[(.ref t), (.int (Int32.ofNat f)), (.int (Int32.ofNat gq))] ∧ Z.Warmed39 UQ.vm ∧ UQ.heap = h0) (fun _ _ _ _ _ => True) (fun _ UQ oQ UQ' => ∃ vQ_ LQ_, oQ = .returned vQ_ ∧ Q_corb Z t f gq N kb vs h0 n0 vQ_ UQ'.heap LQ_ ∧ FrameEnd UQ oQ UQ' LQ_ ({ frames := 1, cells := 1, slots := 8, locals := 64 } : Room).cells ({ frames := 1, cells := 1, slots := 8, locals := 64 } : Room).slots) := by
  refine MetFree.of_bodySF (plainFor_of_name pn_java_util_Arrays) hisR ?_
  intro p e s m args below meth cO s₁ Bd hml0 hP hK
  obtain ⟨rfl, hZ, hh⟩ := hP
  have hx := Bd.exec
  have hby := Bd.bytes
  have hml : cO.maxLocals = 5 := hml0
  have hown : s.vm.findClass "java/util/Arrays" = some m.cls := findClass_of_methodNamed Bd.named
  have hnm := (name_of_methodNamed Bd.named Bd.method).1
  have X0 : Stand p l e ({ frames := 1, cells := 1, slots := 8, locals := 64 } : Room) s m #[(.ref t), (.int (Int32.ofNat f)), (.int (Int32.ofNat gq))] below meth cO s₁ [] 0 0 := Stand.of_body Bd
  have e0 : s₁.heap = h0 := by rw [← hh, Bd.state]; rfl
  have N0 := Fr.nil n0
  have W0 : ∀ zQ, SS p e below s₁ m 0 #[.val (.ref t), .val (.int (Int32.ofNat f)), .val (.int (Int32.ofNat gq)), .unset, .unset] [] zQ → Steps p.tables e below (s₁.setTop (entryFrame m #[(.ref t), (.int (Int32.ofNat f)), (.int (Int32.ofNat gq))] 5)) zQ := fun tt kt => castTop (ef_corb m t (Int32.ofNat f) (Int32.ofNat gq)) kt
  obtain ⟨_, _, ⟨T101, L101, k101, n101⟩, -, X101, ⟨Lc101, hQ101, l101, y101, z101⟩, st101⟩ := Jvm.LawKit.callS X0 hx (y := yn26) hown (mvT hZ (w111 hw)) (mvT hZ (w112 hw)) (mvT hZ (w106 hw)) (mvT hZ (w113 hw)) (by decide) (backOf (W := 0) (rm_checkLength l Z a0 hw [] (Int32.ofNat f) (Int32.ofNat gq) h0 n0 Z0 (own_nlt hfg (by omega))) hZ (w113 hw) (w106 hw) (by decide) (by decide)) (g := (mkF m 2 #[.val (.ref t), .val (.int (Int32.ofNat f)), .val (.int (Int32.ofNat gq)), .unset, .unset] [(.int (Int32.ofNat gq)), (.int (Int32.ofNat f))])) rfl (by rw [hml]; rfl) (argsL := [(.int (Int32.ofNat f)), (.int (Int32.ofNat gq))]) (rest := []) (lenOf pd__28_II_29_V rfl) rfl (by show 2 * 0 + _ ≤ _; exact Nat.le_of_eq rfl) (hb hby d_jdk_65_method_133_2) (fun _ _ => ⟨rfl, e0, (Nat.le_of_ble_eq_true rfl), (Nat.le_of_ble_eq_true rfl)⟩)
  dsimp only [Pt.U, Pt.locs, Pt.cells, Pt.slots] at X101 l101 y101 z101 st101 hQ101
  subst l101 y101 z101
  obtain ⟨rfl, Nq101, eq101⟩ := hQ101
  have N101 := Fr.app N0 Nq101
  obtain ⟨T102, h102, k102, X102, e102, E102, A102, st102⟩ := newP X101 hx hZ (aty := .byte) (w24 hw) eq101 (g := (mkF m 10 #[.val (.ref t), .val (.int (Int32.ofNat f)), .val (.int (Int32.ofNat gq)), .val (.int (Int32.ofNat (gq - f))), .unset] [(.int (Int32.ofNat (gq - f)))])) rfl (hb hby d_jdk_65_method_133_10) (n := (Int32.ofNat (gq - f))) rfl (own_nneg (by omega)) (cap := 8) (by rw [own_cl (by omega)]; exact hcap) (by decide) (by decide) (by decide)
  obtain ⟨b102, g102⟩ : ∃ z, z = h0.size := ⟨_, rfl⟩
  rw [← g102] at A102 st102
  have K102 := (Keep.refl h0 []).ext E102
  have G102 : Arv Z h102 b102 k102 .byte (Int32.ofNat (gq - f)) [] (.int (0 : Int32)) := Arv.new A102 (own_nneg (by omega))
  have J103 : Arv Z h102 b102 k102 .byte (Int32.ofNat (gq - f)) (List.replicate (gq - f) (.int (0 : Int32))) (.int (0 : Int32)) := Arv.pad G102 (fun i => by simpa using pad_rep [] (.int (0 : Int32)) (gq - f) i)
  have F104 : Arv Z h102 t kb .byte (Int32.ofNat N) vs (.int (0 : Int32)) := (A1.keep K102 nin0)
  obtain ⟨cl105, Ar105, -, S105, M105, -, -⟩ := id F104
  obtain ⟨_, _, ⟨T106, L106, k106, n106⟩, -, X106, ⟨Lc106, hQ106, l106, y106, z106⟩, st106⟩ := Jvm.LawKit.callS X102 hx (y := yn27) hown (mvT hZ (w114 hw)) (mvT hZ (w115 hw)) (mvT hZ (w116 hw)) (mvT hZ (w117 hw)) (by decide) (backOf (W := 4) (rm_mini l Z a0 hw [] (Int32.ofNat (N - f)) (Int32.ofNat (gq - f)) h102 n0 (Nat.le_trans Z0 K102.1) ) hZ (w117 hw) (w116 hw) (by decide) (by decide)) (g := (mkF m 24 #[.val (.ref t), .val (.int (Int32.ofNat f)), .val (.int (Int32.ofNat gq)), .val (.int (Int32.ofNat (gq - f))), .val (.ref b102)] [(.int (Int32.ofNat (gq - f))), (.int (Int32.ofNat (N - f))), (.int (0 : Int32)), (.ref b102), (.int (Int32.ofNat f)), (.ref t)])) rfl (by rw [hml]; rfl) (argsL := [(.int (Int32.ofNat (N - f))), (.int (Int32.ofNat (gq - f)))]) (rest := [(.int (0 : Int32)), (.ref b102), (.int (Int32.ofNat f)), (.ref t)]) (lenOf pd__28_II_29_I rfl) rfl (by show 2 * 0 + _ ≤ _; exact Nat.le_of_eq rfl) (hb hby d_jdk_65_method_133_24) (fun _ _ => ⟨rfl, e102, (Nat.le_of_ble_eq_true rfl), (Nat.le_of_ble_eq_true rfl)⟩)
  dsimp only [Pt.U, Pt.locs, Pt.cells, Pt.slots] at X106 l106 y106 z106 st106 hQ106
  subst l106 y106 z106
  obtain ⟨rfl, Nq106, eq106⟩ := hQ106
  have N106 := Fr.app N101 Nq106
  obtain ⟨T107, h107, Lp107, X107, e107, N107, K107, V107, st107⟩ := cpA X106 hx hZ hown (w118 hw) (w121 hw) (w119 hw) (w120 hw) eq106 F104 J103 (Or.inl ⟨rfl, rfl⟩) (own_nneg (by omega)) (by decide) (own_nneg (by omega)) (by rw [own_cl (by omega), own_cl (by omega), own_cl (by omega)]; omega) (by rw [own_cl (by omega)]; show 0 + (gq - f) ≤ gq - f; omega) (us := ((vs.drop f).take (gq - f))) (by rw [own_cl (by omega), own_cl (by omega)]; exact own_slice vs f (gq - f) _ (by omega)) (by rw [own_cl (by omega)]; simp) N106 (Nat.le_trans Z0 (Nat.le_of_eq g102.symm)) (g := (mkF m 27 #[.val (.ref t), .val (.int (Int32.ofNat f)), .val (.int (Int32.ofNat gq)), .val (.int (Int32.ofNat (gq - f))), .val (.ref b102)] [(.int (Int32.ofNat (gq - f))), (.int (0 : Int32)), (.ref b102), (.int (Int32.ofNat f)), (.ref t)])) rfl (by rw [hml]; rfl) rfl (hb hby d_jdk_65_method_133_27) (by decide) (W := 0) (by show 2 * 0 + _ ≤ _; exact Nat.le_of_eq rfl) (by decide)
  have J108 : Arv Z h107 b102 k102 .byte (Int32.ofNat (gq - f)) ((vs.drop f).take (gq - f)) (.int (0 : Int32)) := by have q := V107; rw [own_cl (by omega), show (0 : Int32).toNatClampNeg = 0 from rfl, own_fill ((vs.drop f).take (gq - f)) (gq - f) (by rw [List.length_take, List.length_drop]; omega)] at q; exact q
  have W109 : ∀ zQ, SS p e below T107 m 32 #[.val (.ref t), .val (.int (Int32.ofNat f)), .val (.int (Int32.ofNat gq)), .val (.int (Int32.ofNat (gq - f))), .val (.ref b102)] [(.ref b102)] zQ → Steps p.tables e below (s₁.setTop (entryFrame m #[(.ref t), (.int (Int32.ofNat f)), (.int (Int32.ofNat gq))] 5)) zQ := by
    intro tt kt
    refine W0 tt ?_
    refine XS.iloadN X0.here hx rfl (hb hby d_jdk_65_method_133_0) rfl ?_
    refine XS.iloadN X0.here hx rfl (hb hby d_jdk_65_method_133_1) rfl ?_
    show SS p e below s₁ m 2 #[.val (.ref t), .val (.int (Int32.ofNat f)), .val (.int (Int32.ofNat gq)), .unset, .unset] [(.int (Int32.ofNat gq)), (.int (Int32.ofNat f))] _
    refine st101 _ ?_
    refine XS.iloadN X101.here hx rfl (hb hby d_jdk_65_method_133_5) rfl ?_
    refine XS.iloadN X101.here hx rfl (hb hby d_jdk_65_method_133_6) rfl ?_
    refine XS.isub X101.here hx rfl (hb hby d_jdk_65_method_133_7) rfl ?_
    show SS p e below T101 m 8 #[.val (.ref t), .val (.int (Int32.ofNat f)), .val (.int (Int32.ofNat gq)), .unset, .unset] [(.int ((Int32.ofNat gq) - (Int32.ofNat f)))] _
    rw [show ((Int32.ofNat gq) - (Int32.ofNat f)) = (Int32.ofNat (gq - f)) from own_sub (by omega) (by omega)]
    refine XS.istoreN X101.here hx rfl (hb hby d_jdk_65_method_133_8) rfl (l' := #[.val (.ref t), .val (.int (Int32.ofNat f)), .val (.int (Int32.ofNat gq)), .val (.int (Int32.ofNat (gq - f))), .unset]) rfl ?_
    refine XS.iloadN X101.here hx rfl (hb hby d_jdk_65_method_133_9) rfl ?_
    show SS p e below T101 m 10 #[.val (.ref t), .val (.int (Int32.ofNat f)), .val (.int (Int32.ofNat gq)), .val (.int (Int32.ofNat (gq - f))), .unset] [(.int (Int32.ofNat (gq - f)))] _
    refine st102 _ ?_
    refine XS.astore X102.here hx rfl (hb hby d_jdk_65_method_133_12) rfl rfl (l' := #[.val (.ref t), .val (.int (Int32.ofNat f)), .val (.int (Int32.ofNat gq)), .val (.int (Int32.ofNat (gq - f))), .val (.ref b102)]) rfl ?_
    refine XS.aloadN X102.here hx rfl (hb hby d_jdk_65_method_133_14) rfl rfl ?_
    refine XS.iloadN X102.here hx rfl (hb hby d_jdk_65_method_133_15) rfl ?_
    refine XS.aload X102.here hx rfl (hb hby d_jdk_65_method_133_16) rfl rfl ?_
    refine XS.iconst X102.here hx rfl (hb hby d_jdk_65_method_133_18) ?_
    show SS p e below T102 m 19 #[.val (.ref t), .val (.int (Int32.ofNat f)), .val (.int (Int32.ofNat gq)), .val (.int (Int32.ofNat (gq - f))), .val (.ref b102)] [(.int (0 : Int32)), (.ref b102), (.int (Int32.ofNat f)), (.ref t)] _
    refine XS.aloadN X102.here hx rfl (hb hby d_jdk_65_method_133_19) rfl rfl ?_
    show SS p e below T102 m 20 #[.val (.ref t), .val (.int (Int32.ofNat f)), .val (.int (Int32.ofNat gq)), .val (.int (Int32.ofNat (gq - f))), .val (.ref b102)] [(.ref t), (.int (0 : Int32)), (.ref b102), (.int (Int32.ofNat f)), (.ref t)] _
    refine X102.arraylength hx (by first | exact Ar105.1 | (rw [e102]; exact Ar105.1)) (State.isArrayOf_alike hZ.alike Ar105.2.1) (g := (mkF m 20 #[.val (.ref t), .val (.int (Int32.ofNat f)), .val (.int (Int32.ofNat gq)), .val (.int (Int32.ofNat (gq - f))), .val (.ref b102)] [(.ref t), (.int (0 : Int32)), (.ref b102), (.int (Int32.ofNat f)), (.ref t)])) rfl rfl (hb hby d_jdk_65_method_133_20) _ ?_
    rw [len_of S105 M105]
    refine XS.iloadN X102.here hx rfl (hb hby d_jdk_65_method_133_21) rfl ?_
    refine XS.isub X102.here hx rfl (hb hby d_jdk_65_method_133_22) rfl ?_
    show SS p e below T102 m 23 #[.val (.ref t), .val (.int (Int32.ofNat f)), .val (.int (Int32.ofNat gq)), .val (.int (Int32.ofNat (gq - f))), .val (.ref b102)] [(.int ((Int32.ofNat N) - (Int32.ofNat f))), (.int (0 : Int32)), (.ref b102), (.int (Int32.ofNat f)), (.ref t)] _
    rw [show ((Int32.ofNat N) - (Int32.ofNat f)) = (Int32.ofNat (N - f)) from own_sub (by omega) (by omega)]
    refine XS.iloadN X102.here hx rfl (hb hby d_jdk_65_method_133_23) rfl ?_
    show SS p e below T102 m 24 #[.val (.ref t), .val (.int (Int32.ofNat f)), .val (.int (Int32.ofNat gq)), .val (.int (Int32.ofNat (gq - f))), .val (.ref b102)] [(.int (Int32.ofNat (gq - f))), (.int (Int32.ofNat (N - f))), (.int (0 : Int32)), (.ref b102), (.int (Int32.ofNat f)), (.ref t)] _
    refine st106 _ ?_
    show SS p e below T106 m 27 #[.val (.ref t), .val (.int (Int32.ofNat f)), .val (.int (Int32.ofNat gq)), .val (.int (Int32.ofNat (gq - f))), .val (.ref b102)] [(.int (if (Int32.ofNat (gq - f)) < (Int32.ofNat (N - f)) then (Int32.ofNat (gq - f)) else (Int32.ofNat (N - f)))), (.int (0 : Int32)), (.ref b102), (.int (Int32.ofNat f)), (.ref t)] _
    rw [show (if (Int32.ofNat (gq - f)) < (Int32.ofNat (N - f)) then (Int32.ofNat (gq - f)) else (Int32.ofNat (N - f))) = (Int32.ofNat (gq - f)) from own_min (by omega) (by omega)]
    show SS p e below T106 m 27 #[.val (.ref t), .val (.int (Int32.ofNat f)), .val (.int (Int32.ofNat gq)), .val (.int (Int32.ofNat (gq - f))), .val (.ref b102)] [(.int (Int32.ofNat (gq - f))), (.int (0 : Int32)), (.ref b102), (.int (Int32.ofNat f)), (.ref t)] _
    refine st107 _ ?_
    refine XS.aload X107.here hx rfl (hb hby d_jdk_65_method_133_30) rfl rfl ?_
    exact kt
  obtain ⟨fs, hr, hrun, hended, hW, hsame⟩ := X107.leave (v := some (.ref b102)) (fun h => by rw [Bd.returns] at h; cases h)
  refine ⟨_, _, W109 _ (own_retR X107 hx Bd.returns rfl rfl (hb hby d_jdk_65_method_133_32) hr), hrun, hended, _, _, rfl, ?_, ⟨_, rfl⟩, hW, hsame.mono (by decide) (by decide)⟩
  show Q_corb Z t f gq N kb vs h0 n0 _ T107.heap _
  rw [e107]
  exact ⟨b102, k102, rfl, N107, (Keep.trans (Keep.trans (Keep.refl h0 []) K102 all0) K107 (allS (Or.inr (Nat.le_of_eq g102.symm)) all0)), (Nat.le_of_eq g102.symm), J108⟩
def Q_cor (Z : State) (t : Addr) (f : Nat) (gq : Nat) (N : Nat) (kb : ClassId) (vs : List Value) (h0 : Heap) (n0 : Nat) (vQ_ : Option Value) (hQ_ : Heap) (LQ_ : List Loc) : Prop := ∃ r : Addr, ∃ kr : ClassId, vQ_ = some (.ref r) ∧ Fr n0 LQ_ ∧ Keep h0 hQ_ [] ∧ h0.size ≤ r ∧ Arv Z hQ_ r kr .byte (Int32.ofNat (gq - f)) ((vs.drop f).take (gq - f)) (.int (0 : Int32))
set_option maxRecDepth 65536 in
set_option maxHeartbeats 40000000 in
theorem rm_cor (l : Launch) (Z : State) (a0 : Array Value) (hw : HW a0 Z) (ws : List Jvm.Cond) (t : Addr) (f : Nat) (gq : Nat) (N : Nat) (kb : ClassId) (vs : List Value) (h0 : Heap) (n0 : Nat) (Z0 : n0 ≤ h0.size) (A1 : Arv Z h0 t kb .byte (Int32.ofNat N) vs (.int (0 : Int32))) (hvs : vs.length = N) (hfg : f ≤ gq) (hgN : gq ≤ N) (hN : N < 2147483648) (hcap : gq - f ≤ 8) (hw0 : f = 0 → gq ≠ N) :
    MetFree l yn29 (head1 (Jvm.Cond.code yn29 jdk_65_method_132_code 3 (some (.array .byte)) :: ws) ({ frames := 2, cells := 1, slots := 8, locals := 80 } : Room)) (fun aQ_ UQ => aQ_ = #[(.ref t), (.int (Int32.ofNat f)), (.int (Int32.ofNat gq))] ∧ Z.Warmed39 UQ.vm ∧ UQ.heap = h0) (fun _ _ _ _ _ => True) (fun _ UQ oQ UQ' => ∃ vQ_ LQ_, oQ = .returned vQ_ ∧ Q_cor Z t f gq N kb vs h0 n0 vQ_ UQ'.heap LQ_ ∧ FrameEnd UQ oQ UQ' LQ_ ({ frames := 2, cells := 1, slots := 8, locals := 80 } : Room).cells ({ frames := 2, cells := 1, slots := 8, locals := 80 } : Room).slots) := by
  refine MetFree.of_bodySF (plainFor_of_name pn_java_util_Arrays) hisR ?_
  intro p e s m args below meth cO s₁ Bd hml0 hP hK
  obtain ⟨rfl, hZ, hh⟩ := hP
  have hx := Bd.exec
  have hby := Bd.bytes
  have hml : cO.maxLocals = 3 := hml0
  have hown : s.vm.findClass "java/util/Arrays" = some m.cls := findClass_of_methodNamed Bd.named
  have hnm := (name_of_methodNamed Bd.named Bd.method).1
  have X0 : Stand p l e ({ frames := 2, cells := 1, slots := 8, locals := 80 } : Room) s m #[(.ref t), (.int (Int32.ofNat f)), (.int (Int32.ofNat gq))] below meth cO s₁ [] 0 0 := Stand.of_body Bd
  have e0 : s₁.heap = h0 := by rw [← hh, Bd.state]; rfl
  have N0 := Fr.nil n0
  have W0 : ∀ zQ, SS p e below s₁ m 0 #[.val (.ref t), .val (.int (Int32.ofNat f)), .val (.int (Int32.ofNat gq))] [] zQ → Steps p.tables e below (s₁.setTop (entryFrame m #[(.ref t), (.int (Int32.ofNat f)), (.int (Int32.ofNat gq))] 3)) zQ := fun tt kt => castTop (ef_cor m t (Int32.ofNat f) (Int32.ofNat gq)) kt
  have W101 : ∀ zQ, SS p e below s₁ m 1 #[.val (.ref t), .val (.int (Int32.ofNat f)), .val (.int (Int32.ofNat gq))] [(.int (Int32.ofNat f))] zQ → Steps p.tables e below (s₁.setTop (entryFrame m #[(.ref t), (.int (Int32.ofNat f)), (.int (Int32.ofNat gq))] 3)) zQ := by
    intro tt kt
    refine W0 tt ?_
    refine XS.iloadN X0.here hx rfl (hb hby d_jdk_65_method_132_0) rfl ?_
    exact kt
  by_cases hc102 : (Int32.ofNat f) = (0 : Int32)
  ·
    obtain ⟨cl103, Ar103, -, S103, M103, -, -⟩ := id A1
    obtain ⟨_, _, ⟨T104, L104, k104, n104⟩, -, X104, ⟨Lc104, hQ104, l104, y104, z104⟩, st104⟩ := Jvm.LawKit.callS X0 hx (y := yn28) hown (mvT hZ (w108 hw)) (mvT hZ (w109 hw)) (mvT hZ (w106 hw)) (mvT hZ (w110 hw)) (by decide) (backOf (W := 0) (rm_corb l Z a0 hw [] t f gq N kb vs h0 n0 Z0 A1 hvs hfg hgN hN hcap) hZ (w110 hw) (w106 hw) (by decide) (by decide)) (g := (mkF m 13 #[.val (.ref t), .val (.int (Int32.ofNat f)), .val (.int (Int32.ofNat gq))] [(.int (Int32.ofNat gq)), (.int (Int32.ofNat f)), (.ref t)])) rfl (by rw [hml]; rfl) (argsL := [(.ref t), (.int (Int32.ofNat f)), (.int (Int32.ofNat gq))]) (rest := []) (lenOf pd__28__5b_BII_29__5b_B rfl) rfl (by show 2 * 0 + _ ≤ _; exact Nat.le_of_eq rfl) (hb hby d_jdk_65_method_132_13) (fun _ _ => ⟨rfl, e0, (Nat.le_of_ble_eq_true rfl), (Nat.le_of_ble_eq_true rfl)⟩)
    dsimp only [Pt.U, Pt.locs, Pt.cells, Pt.slots] at X104 l104 y104 z104 st104 hQ104
    subst l104 y104 z104
    obtain ⟨r_105, kr_106, rfl, Nq104, K104, P104_0, P104_1⟩ := hQ104
    have N104 := Fr.app N0 Nq104
    have W107 : ∀ zQ, SS p e below T104 m 16 #[.val (.ref t), .val (.int (Int32.ofNat f)), .val (.int (Int32.ofNat gq))] [(.ref r_105)] zQ → Steps p.tables e below (s₁.setTop (entryFrame m #[(.ref t), (.int (Int32.ofNat f)), (.int (Int32.ofNat gq))] 3)) zQ := by
      intro tt kt
      refine W101 tt ?_
      refine XS.ifNo X0.here hx rfl (hb hby d_jdk_65_method_132_1) rfl ((if0 _ _).trans (teq hc102).2) ?_
      refine XS.iloadN X0.here hx rfl (hb hby d_jdk_65_method_132_4) rfl ?_
      refine XS.aloadN X0.here hx rfl (hb hby d_jdk_65_method_132_5) rfl rfl ?_
      show SS p e below s₁ m 6 #[.val (.ref t), .val (.int (Int32.ofNat f)), .val (.int (Int32.ofNat gq))] [(.ref t), (.int (Int32.ofNat gq))] _
      refine X0.arraylength hx (by first | exact Ar103.1 | (rw [e0]; exact Ar103.1)) (State.isArrayOf_alike hZ.alike Ar103.2.1) (g := (mkF m 6 #[.val (.ref t), .val (.int (Int32.ofNat f)), .val (.int (Int32.ofNat gq))] [(.ref t), (.int (Int32.ofNat gq))])) rfl rfl (hb hby d_jdk_65_method_132_6) _ ?_
      rw [len_of S103 M103]
      refine XS.icmpNo X0.here hx rfl (hb hby d_jdk_65_method_132_7) rfl (feq (own_neq (hw0 (own_zero (by omega) hc102)) (by omega) (by omega))).1 ?_
      refine XS.aloadN X0.here hx rfl (hb hby d_jdk_65_method_132_10) rfl rfl ?_
      refine XS.iloadN X0.here hx rfl (hb hby d_jdk_65_method_132_11) rfl ?_
      refine XS.iloadN X0.here hx rfl (hb hby d_jdk_65_method_132_12) rfl ?_
      show SS p e below s₁ m 13 #[.val (.ref t), .val (.int (Int32.ofNat f)), .val (.int (Int32.ofNat gq))] [(.int (Int32.ofNat gq)), (.int (Int32.ofNat f)), (.ref t)] _
      refine st104 _ ?_
      exact kt
    obtain ⟨fs, hr, hrun, hended, hW, hsame⟩ := X104.leave (v := some (.ref r_105)) (fun h => by rw [Bd.returns] at h; cases h)
    refine ⟨_, _, W107 _ (own_retR X104 hx Bd.returns rfl rfl (hb hby d_jdk_65_method_132_16) hr), hrun, hended, _, _, rfl, ?_, ⟨_, rfl⟩, hW, hsame.mono (by decide) (by decide)⟩
    show Q_cor Z t f gq N kb vs h0 n0 _ T104.heap _
    exact ⟨r_105, kr_106, rfl, N104, (Keep.trans (Keep.refl h0 []) K104 all0), P104_0, P104_1⟩
  ·
    obtain ⟨_, _, ⟨T108, L108, k108, n108⟩, -, X108, ⟨Lc108, hQ108, l108, y108, z108⟩, st108⟩ := Jvm.LawKit.callS X0 hx (y := yn28) hown (mvT hZ (w108 hw)) (mvT hZ (w109 hw)) (mvT hZ (w106 hw)) (mvT hZ (w110 hw)) (by decide) (backOf (W := 0) (rm_corb l Z a0 hw [] t f gq N kb vs h0 n0 Z0 A1 hvs hfg hgN hN hcap) hZ (w110 hw) (w106 hw) (by decide) (by decide)) (g := (mkF m 13 #[.val (.ref t), .val (.int (Int32.ofNat f)), .val (.int (Int32.ofNat gq))] [(.int (Int32.ofNat gq)), (.int (Int32.ofNat f)), (.ref t)])) rfl (by rw [hml]; rfl) (argsL := [(.ref t), (.int (Int32.ofNat f)), (.int (Int32.ofNat gq))]) (rest := []) (lenOf pd__28__5b_BII_29__5b_B rfl) rfl (by show 2 * 0 + _ ≤ _; exact Nat.le_of_eq rfl) (hb hby d_jdk_65_method_132_13) (fun _ _ => ⟨rfl, e0, (Nat.le_of_ble_eq_true rfl), (Nat.le_of_ble_eq_true rfl)⟩)
    dsimp only [Pt.U, Pt.locs, Pt.cells, Pt.slots] at X108 l108 y108 z108 st108 hQ108
    subst l108 y108 z108
    obtain ⟨r_109, kr_110, rfl, Nq108, K108, P108_0, P108_1⟩ := hQ108
    have N108 := Fr.app N0 Nq108
    have W111 : ∀ zQ, SS p e below T108 m 16 #[.val (.ref t), .val (.int (Int32.ofNat f)), .val (.int (Int32.ofNat gq))] [(.ref r_109)] zQ → Steps p.tables e below (s₁.setTop (entryFrame m #[(.ref t), (.int (Int32.ofNat f)), (.int (Int32.ofNat gq))] 3)) zQ := by
      intro tt kt
      refine W101 tt ?_
      refine XS.ifYes X0.here hx rfl (pc0 := 1) (pc' := 10) rfl (hb hby d_jdk_65_method_132_1) rfl ((if0 _ _).trans (feq hc102).2) (by decide) (by decide) ?_
      refine XS.aloadN X0.here hx rfl (hb hby d_jdk_65_method_132_10) rfl rfl ?_
      refine XS.iloadN X0.here hx rfl (hb hby d_jdk_65_method_132_11) rfl ?_
      refine XS.iloadN X0.here hx rfl (hb hby d_jdk_65_method_132_12) rfl ?_
      show SS p e below s₁ m 13 #[.val (.ref t), .val (.int (Int32.ofNat f)), .val (.int (Int32.ofNat gq))] [(.int (Int32.ofNat gq)), (.int (Int32.ofNat f)), (.ref t)] _
      refine st108 _ ?_
      exact kt
    obtain ⟨fs, hr, hrun, hended, hW, hsame⟩ := X108.leave (v := some (.ref r_109)) (fun h => by rw [Bd.returns] at h; cases h)
    refine ⟨_, _, W111 _ (own_retR X108 hx Bd.returns rfl rfl (hb hby d_jdk_65_method_132_16) hr), hrun, hended, _, _, rfl, ?_, ⟨_, rfl⟩, hW, hsame.mono (by decide) (by decide)⟩
    show Q_cor Z t f gq N kb vs h0 n0 _ T108.heap _
    exact ⟨r_109, kr_110, rfl, N108, (Keep.trans (Keep.refl h0 []) K108 all0), P108_0, P108_1⟩
def Q_sinitB (Z : State) (a : Addr) (t : Addr) (w : Int32) (h0 : Heap) (n0 : Nat) (vQ_ : Option Value) (hQ_ : Heap) (LQ_ : List Loc) : Prop := vQ_ = none ∧ Fr n0 LQ_ ∧ Keep h0 hQ_ [a] ∧ Exa Z hQ_ a "java/lang/String" ∧ Fld Z hQ_ a "java/lang/String" "value" "[B" (.ref t) ∧ Fld Z hQ_ a "java/lang/String" "coder" "B" (.int w)
set_option maxRecDepth 65536 in
set_option maxHeartbeats 40000000 in
theorem rm_sinitB (l : Launch) (Z : State) (a0 : Array Value) (hw : HW a0 Z) (ws : List Jvm.Cond) (a : Addr) (t : Addr) (w : Int32) (h0 : Heap) (n0 : Nat) (Z0 : n0 ≤ h0.size) (E1 : Exa Z h0 a "java/lang/String") (F1 : Fld Z h0 a "java/lang/String" "value" "[B" .null) (F2 : Fld Z h0 a "java/lang/String" "coder" "B" (.int (0 : Int32))) (hg : n0 ≤ a) (hw8 : nar .byte w = w) (hwf : fits .byte (.int w) = true) :
    MetFree l yn30 (head1 (Jvm.Cond.code yn30 jdk_42_method_151_code 3 none :: ws) ({ frames := 1, cells := 0, slots := 0, locals := 12 } : Room)) (fun aQ_ UQ => aQ_ = #[(.ref a), (.ref t), (.int w)] ∧ Z.Warmed39 UQ.vm ∧ UQ.heap = h0) (fun _ _ _ _ _ => True) (fun _ UQ oQ UQ' => ∃ vQ_ LQ_, oQ = .returned vQ_ ∧ Q_sinitB Z a t w h0 n0 vQ_ UQ'.heap LQ_ ∧ FrameEnd UQ oQ UQ' LQ_ ({ frames := 1, cells := 0, slots := 0, locals := 12 } : Room).cells ({ frames := 1, cells := 0, slots := 0, locals := 12 } : Room).slots) := by
  refine MetFree.of_bodySF (plainFor_of_name pn_java_lang_String) hisR ?_
  intro p e s m args below meth cO s₁ Bd hml0 hP hK
  obtain ⟨rfl, hZ, hh⟩ := hP
  have hx := Bd.exec
  have hby := Bd.bytes
  have hml : cO.maxLocals = 3 := hml0
  have hown : s.vm.findClass "java/lang/String" = some m.cls := findClass_of_methodNamed Bd.named
  have hnm := (name_of_methodNamed Bd.named Bd.method).1
  have X0 : Stand p l e ({ frames := 1, cells := 0, slots := 0, locals := 12 } : Room) s m #[(.ref a), (.ref t), (.int w)] below meth cO s₁ [] 0 0 := Stand.of_body Bd
  have e0 : s₁.heap = h0 := by rw [← hh, Bd.state]; rfl
  have N0 := Fr.nil n0
  have W0 : ∀ zQ, SS p e below s₁ m 0 #[.val (.ref a), .val (.ref t), .val (.int w)] [] zQ → Steps p.tables e below (s₁.setTop (entryFrame m #[(.ref a), (.ref t), (.int w)] 3)) zQ := fun tt kt => castTop (ef_sinitB m a t w) kt
  obtain ⟨T101, X101, e101, st101⟩ := initO X0 hx hZ hown (w16 hw) (w17 hw) (w18 hw) e0 (g := (mkF m 1 #[.val (.ref a), .val (.ref t), .val (.int w)] [(.ref a)])) rfl (by rw [hml]; rfl) rfl (hb hby d_jdk_42_method_151_1) (by decide) (W := 0) (by show 2 * 0 + _ ≤ _; exact Nat.le_of_eq rfl) (by decide)
  obtain ⟨T102, h102, X102, e102, Wr102, st102⟩ := putF X101 hx hZ hown (host := "") (Or.inl (w33 hw)) Via.refl e101 F1 E1 (Or.inr ⟨(w34 hw), rfl, hnm⟩) (w7 hw) (ty := (.array .byte)) (by decide) rfl rfl (g := (mkF m 6 #[.val (.ref a), .val (.ref t), .val (.int w)] [(.ref t), (.ref a)])) rfl rfl (hb hby d_jdk_42_method_151_6)
  have K102 := Keep.of_wr Wr102
  have G102 := F1.same Wr102
  have N102 := Fr.snoc X102 N0 hg
  have F103 : Exa Z h102 a "java/lang/String" := (E1.keep K102)
  have F104 : Fld Z h102 a "java/lang/String" "coder" "B" (.int (0 : Int32)) := (Fld.other Wr102 F2 (Or.inr (slot_ne (Or.inr (w32 hw)) (Or.inr (w34 hw)) (by decide) (t := .byte) (t' := (.array .byte)) (by decide) (by decide))))
  obtain ⟨T105, h105, X105, e105, Wr105, st105⟩ := putFN X102 hx hZ hown (w31 hw) Via.refl e102 F104 F103 (Or.inr ⟨(w32 hw), rfl, hnm⟩) (w7 hw) (ty := .byte) (v' := (.int w)) (by decide) (show narrow .byte (.int w) = .int w from congrArg Value.int hw8) hwf (g := (mkF m 11 #[.val (.ref a), .val (.ref t), .val (.int w)] [(.int w), (.ref a)])) rfl rfl (hb hby d_jdk_42_method_151_11)
  have K105 := Keep.of_wr Wr105
  have G105 := F104.same Wr105
  have N105 := Fr.snoc X105 N102 hg
  have W106 : ∀ zQ, SS p e below T105 m 14 #[.val (.ref a), .val (.ref t), .val (.int w)] [] zQ → Steps p.tables e below (s₁.setTop (entryFrame m #[(.ref a), (.ref t), (.int w)] 3)) zQ := by
    intro tt kt
    refine W0 tt ?_
    refine XS.aloadN X0.here hx rfl (hb hby d_jdk_42_method_151_0) rfl rfl ?_
    show SS p e below s₁ m 1 #[.val (.ref a), .val (.ref t), .val (.int w)] [(.ref a)] _
    refine st101 _ ?_
    refine XS.aloadN X101.here hx rfl (hb hby d_jdk_42_method_151_4) rfl rfl ?_
    refine XS.aloadN X101.here hx rfl (hb hby d_jdk_42_method_151_5) rfl rfl ?_
    show SS p e below T101 m 6 #[.val (.ref a), .val (.ref t), .val (.int w)] [(.ref t), (.ref a)] _
    refine st102 _ ?_
    refine XS.aloadN X102.here hx rfl (hb hby d_jdk_42_method_151_9) rfl rfl ?_
    refine XS.iloadN X102.here hx rfl (hb hby d_jdk_42_method_151_10) rfl ?_
    show SS p e below T102 m 11 #[.val (.ref a), .val (.ref t), .val (.int w)] [(.int w), (.ref a)] _
    refine st105 _ ?_
    exact kt
  have F107 : Exa Z h105 a "java/lang/String" := (F103.keep K105)
  have F108 : Fld Z h105 a "java/lang/String" "value" "[B" (.ref t) := (Fld.other Wr105 G102 (Or.inr (slot_ne (Or.inr (w34 hw)) (Or.inr (w32 hw)) (by decide) (t := (.array .byte)) (t' := .byte) (by decide) (by decide))))
  obtain ⟨fs, hr, hrun, hended, hW, hsame⟩ := X105.leave (v := none) (fun _ => rfl)
  refine ⟨_, _, W106 _ (X105.returnOut hx Bd.returns (hb hby d_jdk_42_method_151_14) hr), hrun, hended, _, _, rfl, ?_, ⟨_, rfl⟩, hW, hsame.mono (by decide) (by decide)⟩
  show Q_sinitB Z a t w h0 n0 _ T105.heap _
  rw [e105]
  exact ⟨rfl, N105, (Keep.trans (Keep.trans (Keep.refl h0 [a]) K102 (allS (Or.inl (List.mem_of_getElem? (i := 0) rfl)) all0)) K105 (allS (Or.inl (List.mem_of_getElem? (i := 0) rfl)) all0)), F107, F108, G105⟩
def Q_l1new (Z : State) (t : Addr) (bg : Nat) (n : Nat) (kb : ClassId) (cs : List Int32) (h0 : Heap) (n0 : Nat) (vQ_ : Option Value) (hQ_ : Heap) (LQ_ : List Loc) : Prop := ∃ r : Addr, ∃ t2 : Addr, ∃ kb2 : ClassId, vQ_ = some (.ref r) ∧ Fr n0 LQ_ ∧ Keep h0 hQ_ [] ∧ h0.size ≤ r ∧ h0.size ≤ t2 ∧ Str Z hQ_ r t2 kb2 ((cs.drop bg).take n)
set_option maxRecDepth 65536 in
set_option maxHeartbeats 40000000 in
theorem rm_l1new (l : Launch) (Z : State) (a0 : Array Value) (hw : HW a0 Z) (ws : List Jvm.Cond) (t : Addr) (bg : Nat) (n : Nat) (kb : ClassId) (cs : List Int32) (h0 : Heap) (n0 : Nat) (Z0 : n0 ≤ h0.size) (A1 : Arv Z h0 t kb .byte (Int32.ofNat cs.length) (l1 cs) (.int (0 : Int32))) (hl : lat cs = true) (hn0 : 0 < n) (hbn : bg + n ≤ cs.length) (hnn : n < cs.length) (ok : OkS cs) (hcap : cs.length ≤ 4) :
    MetFree l yn31 (head1 (Jvm.Cond.code yn31 jdk_43_method_47_code 3 (some (.object "java/lang/String")) :: ws) ({ frames := 3, cells := 2, slots := 12, locals := 96 } : Room)) (fun aQ_ UQ => aQ_ = #[(.ref t), (.int (Int32.ofNat bg)), (.int (Int32.ofNat n))] ∧ Z.Warmed39 UQ.vm ∧ UQ.heap = h0) (fun _ _ _ _ _ => True) (fun _ UQ oQ UQ' => ∃ vQ_ LQ_, oQ = .returned vQ_ ∧ Q_l1new Z t bg n kb cs h0 n0 vQ_ UQ'.heap LQ_ ∧ FrameEnd UQ oQ UQ' LQ_ ({ frames := 3, cells := 2, slots := 12, locals := 96 } : Room).cells ({ frames := 3, cells := 2, slots := 12, locals := 96 } : Room).slots) := by
  refine MetFree.of_bodySF (plainFor_of_name pn_java_lang_StringLatin1) hisR ?_
  intro p e s m args below meth cO s₁ Bd hml0 hP hK
  obtain ⟨rfl, hZ, hh⟩ := hP
  have hx := Bd.exec
  have hby := Bd.bytes
  have hml : cO.maxLocals = 3 := hml0
  have hown : s.vm.findClass "java/lang/StringLatin1" = some m.cls := findClass_of_methodNamed Bd.named
  have hnm := (name_of_methodNamed Bd.named Bd.method).1
  have X0 : Stand p l e ({ frames := 3, cells := 2, slots := 12, locals := 96 } : Room) s m #[(.ref t), (.int (Int32.ofNat bg)), (.int (Int32.ofNat n))] below meth cO s₁ [] 0 0 := Stand.of_body Bd
  have e0 : s₁.heap = h0 := by rw [← hh, Bd.state]; rfl
  have N0 := Fr.nil n0
  have W0 : ∀ zQ, SS p e below s₁ m 0 #[.val (.ref t), .val (.int (Int32.ofNat bg)), .val (.int (Int32.ofNat n))] [] zQ → Steps p.tables e below (s₁.setTop (entryFrame m #[(.ref t), (.int (Int32.ofNat bg)), (.int (Int32.ofNat n))] 3)) zQ := fun tt kt => castTop (ef_l1new m t (Int32.ofNat bg) (Int32.ofNat n)) kt
  have hn9 : cs.length < 1048576 := ok.2
  obtain ⟨T101, h101, X101, e101, E101, A101, D101, U101, st101⟩ := newO X0 hx hZ hown (w103 hw) (w7 hw) (w8 hw) e0 (g := (mkF m 7 #[.val (.ref t), .val (.int (Int32.ofNat bg)), .val (.int (Int32.ofNat n))] [])) rfl (hb hby d_jdk_43_method_47_7) (by decide) (by decide)
  obtain ⟨b101, g101⟩ : ∃ z, z = h0.size := ⟨_, rfl⟩
  rw [← g101] at A101 D101 U101 st101
  have K101 := (Keep.refl h0 []).ext E101
  have G101_coder : Fld Z h101 b101 "java/lang/String" "coder" "B" (.int (0 : Int32)) := D101 (Or.inr (w32 hw)) (ty := .byte) (by decide)
  have G101_value : Fld Z h101 b101 "java/lang/String" "value" "[B" .null := D101 (Or.inr (w34 hw)) (ty := (.array .byte)) (by decide)
  have F102 : Arv Z h101 t kb .byte (Int32.ofNat cs.length) (l1 cs) (.int (0 : Int32)) := (A1.keep K101 nin0)
  obtain ⟨_, _, ⟨T103, L103, k103, n103⟩, -, X103, ⟨Lc103, hQ103, l103, y103, z103⟩, st103⟩ := Jvm.LawKit.callS X101 hx (y := yn29) hown (mvT hZ (w104 hw)) (mvT hZ (w105 hw)) (mvT hZ (w106 hw)) (mvT hZ (w107 hw)) (by decide) (backOf (W := 2) (rm_cor l Z a0 hw [] t bg (bg + n) cs.length kb (l1 cs) h101 n0 (Nat.le_trans Z0 K101.1) F102 (l1_len cs) (by omega) (by omega) (by omega) (by omega) (by omega)) hZ (w107 hw) (w106 hw) (by decide) (by decide)) (g := (mkF m 16 #[.val (.ref t), .val (.int (Int32.ofNat bg)), .val (.int (Int32.ofNat n))] [(.int (Int32.ofNat (bg + n))), (.int (Int32.ofNat bg)), (.ref t), (.ref b101), (.ref b101)])) rfl (by rw [hml]; rfl) (argsL := [(.ref t), (.int (Int32.ofNat bg)), (.int (Int32.ofNat (bg + n)))]) (rest := [(.ref b101), (.ref b101)]) (lenOf pd__28__5b_BII_29__5b_B rfl) rfl (by show 2 * 0 + _ ≤ _; exact Nat.le_of_eq rfl) (hb hby d_jdk_43_method_47_16) (fun _ _ => ⟨rfl, e101, (Nat.le_of_ble_eq_true rfl), (Nat.le_of_ble_eq_true rfl)⟩)
  dsimp only [Pt.U, Pt.locs, Pt.cells, Pt.slots] at X103 l103 y103 z103 st103 hQ103
  subst l103 y103 z103
  obtain ⟨r_104, kr_105, rfl, Nq103, K103, P103_0, P103_1⟩ := hQ103
  have N103 := Fr.app N0 Nq103
  have F106 : Exa Z T103.heap b101 "java/lang/String" := (A101.keep K103)
  have F107 : Fld Z T103.heap b101 "java/lang/String" "value" "[B" .null := (G101_value.keep K103 nin0)
  have F108 : Fld Z T103.heap b101 "java/lang/String" "coder" "B" (.int (0 : Int32)) := (G101_coder.keep K103 nin0)
  obtain ⟨_, _, ⟨T109, L109, k109, n109⟩, -, X109, ⟨Lc109, hQ109, l109, y109, z109⟩, st109⟩ := X103.specialBack hx (y := yn30) rfl hown (mvT hZ (w122 hw)) (mvT hZ (w123 hw)) (mvT hZ (w124 hw)) (by decide) (backOf (W := 1) (rm_sinitB l Z a0 hw [] b101 r_104 (0 : Int32) T103.heap n0 (Nat.le_trans Z0 (Nat.le_trans K101.1 K103.1)) F106 F107 F108 (Nat.le_trans Z0 (Nat.le_of_eq g101.symm)) (by decide) (by decide)) hZ (w124 hw) (w8 hw) (by decide) (by decide)) (g := (mkF m 20 #[.val (.ref t), .val (.int (Int32.ofNat bg)), .val (.int (Int32.ofNat n))] [(.int (0 : Int32)), (.ref r_104), (.ref b101), (.ref b101)])) rfl (by rw [hml]; rfl) (Steps.refl _) (a := b101) (argsL := [(.ref r_104), (.int (0 : Int32))]) (rest := [(.ref b101)]) (lenOf pd__28__5b_BB_29_V rfl) rfl (by show 2 * 0 + _ ≤ _; exact Nat.le_of_eq rfl) (hb hby d_jdk_43_method_47_20) (fun _ _ => ⟨rfl, rfl, (Nat.le_of_ble_eq_true rfl), (Nat.le_of_ble_eq_true rfl)⟩)
  dsimp only [Pt.U, Pt.locs, Pt.cells, Pt.slots] at X109 l109 y109 z109 st109 hQ109
  subst l109 y109 z109
  obtain ⟨rfl, Nq109, K109, P109_0, P109_1, P109_2⟩ := hQ109
  have N109 := Fr.app N103 Nq109
  have W110 : ∀ zQ, SS p e below T109 m 23 #[.val (.ref t), .val (.int (Int32.ofNat bg)), .val (.int (Int32.ofNat n))] [(.ref b101)] zQ → Steps p.tables e below (s₁.setTop (entryFrame m #[(.ref t), (.int (Int32.ofNat bg)), (.int (Int32.ofNat n))] 3)) zQ := by
    intro tt kt
    refine W0 tt ?_
    refine XS.iloadN X0.here hx rfl (hb hby d_jdk_43_method_47_0) rfl ?_
    refine XS.ifYes X0.here hx rfl (pc0 := 1) (pc' := 7) rfl (hb hby d_jdk_43_method_47_1) rfl ((if0 _ _).trans (feq (fun q => by have := own_zero (by omega) q; omega)).2) (by decide) (by decide) ?_
    show SS p e below s₁ m 7 #[.val (.ref t), .val (.int (Int32.ofNat bg)), .val (.int (Int32.ofNat n))] [] _
    refine st101 _ ?_
    refine XS.dup X101.here hx rfl (hb hby d_jdk_43_method_47_10) rfl rfl ?_
    refine XS.aloadN X101.here hx rfl (hb hby d_jdk_43_method_47_11) rfl rfl ?_
    refine XS.iloadN X101.here hx rfl (hb hby d_jdk_43_method_47_12) rfl ?_
    refine XS.iloadN X101.here hx rfl (hb hby d_jdk_43_method_47_13) rfl ?_
    refine XS.iloadN X101.here hx rfl (hb hby d_jdk_43_method_47_14) rfl ?_
    show SS p e below T101 m 15 #[.val (.ref t), .val (.int (Int32.ofNat bg)), .val (.int (Int32.ofNat n))] [(.int (Int32.ofNat n)), (.int (Int32.ofNat bg)), (.int (Int32.ofNat bg)), (.ref t), (.ref b101), (.ref b101)] _
    refine XS.iadd X101.here hx rfl (hb hby d_jdk_43_method_47_15) rfl ?_
    show SS p e below T101 m 16 #[.val (.ref t), .val (.int (Int32.ofNat bg)), .val (.int (Int32.ofNat n))] [(.int ((Int32.ofNat bg) + (Int32.ofNat n))), (.int (Int32.ofNat bg)), (.ref t), (.ref b101), (.ref b101)] _
    rw [show ((Int32.ofNat bg) + (Int32.ofNat n)) = (Int32.ofNat (bg + n)) from (Int32.ofNat_add bg n).symm]
    show SS p e below T101 m 16 #[.val (.ref t), .val (.int (Int32.ofNat bg)), .val (.int (Int32.ofNat n))] [(.int (Int32.ofNat (bg + n))), (.int (Int32.ofNat bg)), (.ref t), (.ref b101), (.ref b101)] _
    refine st103 _ ?_
    refine XS.iconst X103.here hx rfl (hb hby d_jdk_43_method_47_19) ?_
    show SS p e below T103 m 20 #[.val (.ref t), .val (.int (Int32.ofNat bg)), .val (.int (Int32.ofNat n))] [(.int (0 : Int32)), (.ref r_104), (.ref b101), (.ref b101)] _
    refine st109.trans ?_
    exact kt
  have F111 : Arv Z T109.heap r_104 kr_105 .byte (Int32.ofNat ((bg + n) - bg)) (((l1 cs).drop bg).take ((bg + n) - bg)) (.int (0 : Int32)) := (P103_1.keep K109 (ninS (Ne.symm (Nat.ne_of_lt (Nat.lt_of_lt_of_le A101.lt P103_0))) nin0))
  have hR112 : Str Z T109.heap b101 r_104 kr_105 ((cs.drop bg).take n) := own_mkL hl ok (by omega) P109_0 P109_1 P109_2 F111
  obtain ⟨fs, hr, hrun, hended, hW, hsame⟩ := X109.leave (v := some (.ref b101)) (fun h => by rw [Bd.returns] at h; cases h)
  refine ⟨_, _, W110 _ (own_retR X109 hx Bd.returns rfl rfl (hb hby d_jdk_43_method_47_23) hr), hrun, hended, _, _, rfl, ?_, ⟨_, rfl⟩, hW, hsame.mono (by decide) (by decide)⟩
  show Q_l1new Z t bg n kb cs h0 n0 _ T109.heap _
  exact ⟨b101, r_104, kr_105, rfl, N109, (Keep.trans (Keep.trans (Keep.trans (Keep.refl h0 []) K101 all0) K103 all0) K109 (allS (Or.inr (Nat.le_of_eq g101.symm)) all0)), (Nat.le_of_eq g101.symm), (Nat.le_trans K101.1 P103_0), hR112⟩
set_option maxRecDepth 65536 in
set_option maxHeartbeats 40000000 in
theorem lp_compr2 {p : Program} {l : Launch} {e : Env} {R : Room} {s : State} {m : MethodId} {args : Array Value} {below : List Frame} {meth : Method} {cO : Code} {cells slots : Nat} {Z : State} {a0 : Array Value} (hx : p.tables.exec = Jvm.exec) (hZ : Z.Warmed39 s.vm) (hw : HW a0 Z) (hby : cO.code = jdk_52_method_22_code) (hml : cO.maxLocals = 7) (hown : s.vm.findClass "java/lang/StringUTF16" = some m.cls) (hRf : 1 ≤ R.frames) (hRl : 13 ≤ R.locals) (hRc : cells ≤ R.cells) (hRs : slots ≤ R.slots) (hret : meth.sig.returnType = some .int) (t : Addr) (dst : Addr) (kb : ClassId) (kd : ClassId) (cs : List Int32) (bg : Nat) (n : Nat) (ds : List Int32) (n0 : Nat) (S_ad : Sta Z Z.heap "java/lang/StringUTF16" "$assertionsDisabled" "Z" (.int (1 : Int32))) (S_hi : Sta Z Z.heap "java/lang/StringUTF16" "HI_BYTE_SHIFT" "I" (.int (0 : Int32))) (S_lo : Sta Z Z.heap "java/lang/StringUTF16" "LO_BYTE_SHIFT" "I" (.int (8 : Int32))) (hne : t ≠ dst) (hg : n0 ≤ dst) (ok : OkS cs) (hds : ds = (cs.drop bg).take n) (hdl : ((cs.drop bg).take n).length = n) (hbn : bg + n ≤ cs.length) :
    ∀ suf : List Int32, ∀ (pre : List Int32) (s6 : Slot) (T0 : State) (L0 : List Loc) (h0 : Heap) (X0 : Stand p l e R s m args below meth cO T0 L0 cells slots) (e0 : T0.heap = h0) (N0 : Fr n0 L0) (Z0 : n0 ≤ h0.size) (O0 : Old Z n0 h0) (Vs : Arv Z h0 t kb .byte (Int32.ofNat (2 * cs.length)) (u16 cs) (.int (0 : Int32))) (Vd : Arv Z h0 dst kd .byte (Int32.ofNat n) (l1 pre) (.int (0 : Int32))) (hl : lat pre = true) (h6 : One s6) (hk : ds = pre ++ suf), ∃ (T' : State) (L' : List Loc) (h' : Heap), Stand p l e R s m args below meth cO T' L' cells slots ∧ T'.heap = h' ∧ Fr n0 L' ∧ Keep h0 h' [dst] ∧ Arv Z h' dst kd .byte (Int32.ofNat n) (l1 (ds.take (fl ds))) (.int (0 : Int32)) ∧ ∀ fs, (∀ (f : JFrame) (acts : List Action), f.method = m → f.locked = none → f.entered = [] → (doReturn e (T'.setTop f) acts (some (.int (Int32.ofNat (fl ds))))).1 = T'.setFrames fs) → SS p e below T0 m 10 #[.val (.ref t), .val (.int (Int32.ofNat (bg + pre.length))), .val (.ref dst), .val (.int (Int32.ofNat pre.length)), .val (.int (Int32.ofNat n)), .val (.int (Int32.ofNat pre.length)), s6] [] (T'.setFrames fs) := by
  intro suf
  induction suf with
  | nil =>
    intro pre s6 T0 L0 h0 X0 e0 N0 Z0 O0 Vs Vd hl h6 hk
    have W0 : ∀ zQ, SS p e below T0 m 10 #[.val (.ref t), .val (.int (Int32.ofNat (bg + pre.length))), .val (.ref dst), .val (.int (Int32.ofNat pre.length)), .val (.int (Int32.ofNat n)), .val (.int (Int32.ofNat pre.length)), s6] [] zQ → Steps p.tables e below (T0.setTop (mkF m 10 #[.val (.ref t), .val (.int (Int32.ofNat (bg + pre.length))), .val (.ref dst), .val (.int (Int32.ofNat pre.length)), .val (.int (Int32.ofNat n)), .val (.int (Int32.ofNat pre.length)), s6] [])) zQ := fun tt kt => kt
    have hn9 : cs.length < 1048576 := ok.2
    have hfl : fl ds = pre.length := by rw [hk, fl_app _ hl]; rfl
    have hlen : n = pre.length := by have := congrArg List.length hk; rw [hds, hdl] at this; simpa using this
    have W101 : ∀ zQ, SS p e below T0 m 55 #[.val (.ref t), .val (.int (Int32.ofNat (bg + pre.length))), .val (.ref dst), .val (.int (Int32.ofNat pre.length)), .val (.int (Int32.ofNat n)), .val (.int (Int32.ofNat pre.length)), s6] [(.int (Int32.ofNat n))] zQ → Steps p.tables e below (T0.setTop (mkF m 10 #[.val (.ref t), .val (.int (Int32.ofNat (bg + pre.length))), .val (.ref dst), .val (.int (Int32.ofNat pre.length)), .val (.int (Int32.ofNat n)), .val (.int (Int32.ofNat pre.length)), s6] [])) zQ := by
      intro tt kt
      refine W0 tt ?_
      refine XS.iload X0.here hx rfl (hb hby d_jdk_52_method_22_10) rfl ?_
      refine XS.iload X0.here hx rfl (hb hby d_jdk_52_method_22_12) rfl ?_
      refine XS.icmpYes X0.here hx rfl (pc0 := 14) (pc' := 53) rfl (hb hby d_jdk_52_method_22_14) rfl (flt (own_nlt (by omega) (by omega))).2.1 (by decide) (by decide) ?_
      refine XS.iload X0.here hx rfl (hb hby d_jdk_52_method_22_53) rfl ?_
      exact kt
    have hR102 : Arv Z h0 dst kd .byte (Int32.ofNat n) (l1 (ds.take (fl ds))) (.int (0 : Int32)) := by rw [show ds.take (fl ds) = pre from by rw [hfl, hk]; exact List.take_left]; exact Vd
    exact ⟨T0, _, h0, X0, e0, N0, (Keep.refl h0 [dst]), hR102, fun fs hr => W101 _ (retI X0 hx hret (hb hby d_jdk_52_method_22_55) (by rw [show (Value.int (Int32.ofNat n)) = (Value.int (Int32.ofNat (fl ds))) from (by rw [hfl, hlen])]; exact hr))⟩
  | cons cc r ih =>
    intro pre s6 T0 L0 h0 X0 e0 N0 Z0 O0 Vs Vd hl h6 hk
    have W0 : ∀ zQ, SS p e below T0 m 10 #[.val (.ref t), .val (.int (Int32.ofNat (bg + pre.length))), .val (.ref dst), .val (.int (Int32.ofNat pre.length)), .val (.int (Int32.ofNat n)), .val (.int (Int32.ofNat pre.length)), s6] [] zQ → Steps p.tables e below (T0.setTop (mkF m 10 #[.val (.ref t), .val (.int (Int32.ofNat (bg + pre.length))), .val (.ref dst), .val (.int (Int32.ofNat pre.length)), .val (.int (Int32.ofNat n)), .val (.int (Int32.ofNat pre.length)), s6] [])) zQ := fun tt kt => kt
    have hn9 : cs.length < 1048576 := ok.2
    have hlt : pre.length < ds.length := by rw [hk]; simp
    have hcc : cs.getD (bg + pre.length) 0 = cc := by rw [← own_dt (by omega) hdl (by rw [← hds]; exact hlt), ← hds, hk]; exact app_at pre r cc 0
    have hdl' : ds.length = n := by rw [hds]; exact hdl
    obtain ⟨_, _, ⟨T103, L103, k103, n103⟩, -, X103, ⟨Lc103, hQ103, l103, y103, z103⟩, st103⟩ := Jvm.LawKit.callS X0 hx (y := yn6) hown (mvT hZ (w159 hw)) (mvT hZ (w160 hw)) (mvT hZ (w22 hw)) (mvT hZ (w161 hw)) (by decide) (backOf (W := 0) (rm_getChar l Z a0 hw [] t (bg + pre.length) kb cs h0 n0 Z0 O0 S_ad S_hi S_lo Vs (by omega) ok) hZ (w161 hw) (w22 hw) (Nat.le_trans (by decide) hRf) (Nat.le_trans (by decide) hRl)) (g := (mkF m 19 #[.val (.ref t), .val (.int (Int32.ofNat (bg + pre.length))), .val (.ref dst), .val (.int (Int32.ofNat pre.length)), .val (.int (Int32.ofNat n)), .val (.int (Int32.ofNat pre.length)), s6] [(.int (Int32.ofNat (bg + pre.length))), (.ref t)])) rfl (by rw [hml]; rfl) (argsL := [(.ref t), (.int (Int32.ofNat (bg + pre.length)))]) (rest := []) (lenOf pd__28__5b_BI_29_C rfl) rfl (by show 2 * 0 + _ ≤ _; exact Nat.le_of_eq rfl) (hb hby d_jdk_52_method_22_19) (fun _ _ => ⟨rfl, e0, hRc, hRs⟩)
    dsimp only [Pt.U, Pt.locs, Pt.cells, Pt.slots] at X103 l103 y103 z103 st103 hQ103
    subst l103 y103 z103
    obtain ⟨rfl, Nq103, eq103⟩ := hQ103
    have N103 := Fr.app N0 Nq103
    have W104 : ∀ zQ, SS p e below T103 m 29 #[.val (.ref t), .val (.int (Int32.ofNat (bg + pre.length))), .val (.ref dst), .val (.int (Int32.ofNat pre.length)), .val (.int (Int32.ofNat n)), .val (.int (Int32.ofNat pre.length)), .val (.int cc)] [(.int (255 : Int32)), (.int cc)] zQ → Steps p.tables e below (T0.setTop (mkF m 10 #[.val (.ref t), .val (.int (Int32.ofNat (bg + pre.length))), .val (.ref dst), .val (.int (Int32.ofNat pre.length)), .val (.int (Int32.ofNat n)), .val (.int (Int32.ofNat pre.length)), s6] [])) zQ := by
      intro tt kt
      refine W0 tt ?_
      refine XS.iload X0.here hx rfl (hb hby d_jdk_52_method_22_10) rfl ?_
      refine XS.iload X0.here hx rfl (hb hby d_jdk_52_method_22_12) rfl ?_
      refine XS.icmpNo X0.here hx rfl (hb hby d_jdk_52_method_22_14) rfl (tlt (own_lt (by omega) (by omega))).2.1 ?_
      refine XS.aloadN X0.here hx rfl (hb hby d_jdk_52_method_22_17) rfl rfl ?_
      refine XS.iloadN X0.here hx rfl (hb hby d_jdk_52_method_22_18) rfl ?_
      show SS p e below T0 m 19 #[.val (.ref t), .val (.int (Int32.ofNat (bg + pre.length))), .val (.ref dst), .val (.int (Int32.ofNat pre.length)), .val (.int (Int32.ofNat n)), .val (.int (Int32.ofNat pre.length)), s6] [(.int (Int32.ofNat (bg + pre.length))), (.ref t)] _
      refine st103 _ ?_
      show SS p e below T103 m 22 #[.val (.ref t), .val (.int (Int32.ofNat (bg + pre.length))), .val (.ref dst), .val (.int (Int32.ofNat pre.length)), .val (.int (Int32.ofNat n)), .val (.int (Int32.ofNat pre.length)), s6] [(.int (cs.getD (bg + pre.length) 0))] _
      rw [show (cs.getD (bg + pre.length) 0) = cc from hcc]
      refine XS.istore X103.here hx rfl (hb hby d_jdk_52_method_22_22) rfl (l' := #[.val (.ref t), .val (.int (Int32.ofNat (bg + pre.length))), .val (.ref dst), .val (.int (Int32.ofNat pre.length)), .val (.int (Int32.ofNat n)), .val (.int (Int32.ofNat pre.length)), .val (.int cc)]) (XS.store1 (o := s6) rfl h6 rfl) ?_
      refine XS.iload X103.here hx rfl (hb hby d_jdk_52_method_22_24) rfl ?_
      refine XS.sipush X103.here hx rfl (hb hby d_jdk_52_method_22_26) ?_
      exact kt
    by_cases hc105 : (255 : Int32) < cc
    ·
      have hfl : fl ds = pre.length := by rw [hk, fl_app _ hl]; show _ + (if (255 : Int32) < cc then 0 else fl r + 1) = _; rw [if_pos hc105]; rfl
      have W106 : ∀ zQ, SS p e below T103 m 34 #[.val (.ref t), .val (.int (Int32.ofNat (bg + pre.length))), .val (.ref dst), .val (.int (Int32.ofNat pre.length)), .val (.int (Int32.ofNat n)), .val (.int (Int32.ofNat pre.length)), .val (.int cc)] [(.int (Int32.ofNat pre.length))] zQ → Steps p.tables e below (T0.setTop (mkF m 10 #[.val (.ref t), .val (.int (Int32.ofNat (bg + pre.length))), .val (.ref dst), .val (.int (Int32.ofNat pre.length)), .val (.int (Int32.ofNat n)), .val (.int (Int32.ofNat pre.length)), s6] [])) zQ := by
        intro tt kt
        refine W104 tt ?_
        refine XS.icmpNo X103.here hx rfl (hb hby d_jdk_52_method_22_29) rfl (tlt hc105).2.2.2 ?_
        refine XS.iload X103.here hx rfl (hb hby d_jdk_52_method_22_32) rfl ?_
        exact kt
      have hR107 : Arv Z h0 dst kd .byte (Int32.ofNat n) (l1 (ds.take (fl ds))) (.int (0 : Int32)) := by rw [show ds.take (fl ds) = pre from by rw [hfl, hk]; exact List.take_left]; exact Vd
      exact ⟨T103, _, h0, X103, eq103, N103, (Keep.refl h0 [dst]), hR107, fun fs hr => W106 _ (retI X103 hx hret (hb hby d_jdk_52_method_22_34) (by rw [show (Value.int (Int32.ofNat pre.length)) = (Value.int (Int32.ofNat (fl ds))) from (by rw [hfl])]; exact hr))⟩
    ·
      obtain ⟨cl108, Ar108, q108, S108, M108, H108, F108g⟩ := id Vd
      have hin108 : ¬ ((Int32.ofNat pre.length) < 0 ∨ cl108.slots.size ≤ ((Int32.ofNat pre.length)).toNatClampNeg) := inb_of S108 ⟨own_nneg (by omega), own_lt (by omega) (by omega)⟩
      obtain ⟨T108, h108, X108, e108, Wr108, st108⟩ := stB X103 hx hZ eq103 Ar108 (j := (Int32.ofNat pre.length)) hin108 (g := (mkF m 40 #[.val (.ref t), .val (.int (Int32.ofNat (bg + pre.length))), .val (.ref dst), .val (.int (Int32.ofNat pre.length)), .val (.int (Int32.ofNat n)), .val (.int (Int32.ofNat pre.length)), .val (.int cc)] [(.int (cc.toInt8.toInt32)), (.int (Int32.ofNat pre.length)), (.ref dst)])) rfl rfl (hb hby d_jdk_52_method_22_40)
      have G108 : Arv Z h108 dst kd .byte (Int32.ofNat n) ((l1 pre) ++ [(.int (nar .byte (cc.toInt8.toInt32)))]) (.int (0 : Int32)) := Arv.push Ar108 q108 S108 M108 H108 F108g (fits_nar_byte _) Wr108 (by rw [own_cl (by omega), l1_len])
      have K108 := Keep.of_wr Wr108
      have N108 := Fr.snoc X108 N103 hg
      have J108 : Arv Z h108 dst kd .byte (Int32.ofNat n) (l1 (pre ++ [cc])) (.int (0 : Int32)) := by rw [← l1_snoc, ← own_narb]; exact G108
      have W109 : ∀ zQ, SS p e below T108 m 10 #[.val (.ref t), .val (.int (Int32.ofNat (bg + (pre ++ [cc]).length))), .val (.ref dst), .val (.int (Int32.ofNat (pre ++ [cc]).length)), .val (.int (Int32.ofNat n)), .val (.int (Int32.ofNat (pre ++ [cc]).length)), .val (.int cc)] [] zQ → Steps p.tables e below (T0.setTop (mkF m 10 #[.val (.ref t), .val (.int (Int32.ofNat (bg + pre.length))), .val (.ref dst), .val (.int (Int32.ofNat pre.length)), .val (.int (Int32.ofNat n)), .val (.int (Int32.ofNat pre.length)), s6] [])) zQ := by
        intro tt kt
        refine W104 tt ?_
        refine XS.icmpYes X103.here hx rfl (pc0 := 29) (pc' := 35) rfl (hb hby d_jdk_52_method_22_29) rfl (flt hc105).2.2.2 (by decide) (by decide) ?_
        refine XS.aloadN X103.here hx rfl (hb hby d_jdk_52_method_22_35) rfl rfl ?_
        refine XS.iloadN X103.here hx rfl (hb hby d_jdk_52_method_22_36) rfl ?_
        refine XS.iload X103.here hx rfl (hb hby d_jdk_52_method_22_37) rfl ?_
        refine XS.i2b X103.here hx rfl (hb hby d_jdk_52_method_22_39) rfl ?_
        show SS p e below T103 m 40 #[.val (.ref t), .val (.int (Int32.ofNat (bg + pre.length))), .val (.ref dst), .val (.int (Int32.ofNat pre.length)), .val (.int (Int32.ofNat n)), .val (.int (Int32.ofNat pre.length)), .val (.int cc)] [(.int (cc.toInt8.toInt32)), (.int (Int32.ofNat pre.length)), (.ref dst)] _
        refine st108 _ ?_
        show SS p e below T108 m 41 #[.val (.ref t), .val (.int (Int32.ofNat (bg + pre.length))), .val (.ref dst), .val (.int (Int32.ofNat pre.length)), .val (.int (Int32.ofNat n)), .val (.int (Int32.ofNat pre.length)), .val (.int cc)] [] _
        refine XS.iinc X108.here hx rfl (hb hby d_jdk_52_method_22_41) rfl (l' := #[.val (.ref t), .val (.int ((Int32.ofNat (bg + pre.length)) + (1 : Int32))), .val (.ref dst), .val (.int (Int32.ofNat pre.length)), .val (.int (Int32.ofNat n)), .val (.int (Int32.ofNat pre.length)), .val (.int cc)]) rfl ?_
        show SS p e below T108 m 44 #[.val (.ref t), .val (.int ((Int32.ofNat (bg + pre.length)) + (1 : Int32))), .val (.ref dst), .val (.int (Int32.ofNat pre.length)), .val (.int (Int32.ofNat n)), .val (.int (Int32.ofNat pre.length)), .val (.int cc)] [] _
        rw [show ((Int32.ofNat (bg + pre.length)) + (1 : Int32)) = (Int32.ofNat (bg + (pre ++ [cc]).length)) from (by rw [own_succ]; simp [Nat.add_assoc])]
        show SS p e below T108 m 44 #[.val (.ref t), .val (.int (Int32.ofNat (bg + (pre ++ [cc]).length))), .val (.ref dst), .val (.int (Int32.ofNat pre.length)), .val (.int (Int32.ofNat n)), .val (.int (Int32.ofNat pre.length)), .val (.int cc)] [] _
        refine XS.iinc X108.here hx rfl (hb hby d_jdk_52_method_22_44) rfl (l' := #[.val (.ref t), .val (.int (Int32.ofNat (bg + (pre ++ [cc]).length))), .val (.ref dst), .val (.int ((Int32.ofNat pre.length) + (1 : Int32))), .val (.int (Int32.ofNat n)), .val (.int (Int32.ofNat pre.length)), .val (.int cc)]) rfl ?_
        show SS p e below T108 m 47 #[.val (.ref t), .val (.int (Int32.ofNat (bg + (pre ++ [cc]).length))), .val (.ref dst), .val (.int ((Int32.ofNat pre.length) + (1 : Int32))), .val (.int (Int32.ofNat n)), .val (.int (Int32.ofNat pre.length)), .val (.int cc)] [] _
        refine XS.iinc X108.here hx rfl (hb hby d_jdk_52_method_22_47) rfl (l' := #[.val (.ref t), .val (.int (Int32.ofNat (bg + (pre ++ [cc]).length))), .val (.ref dst), .val (.int ((Int32.ofNat pre.length) + (1 : Int32))), .val (.int (Int32.ofNat n)), .val (.int ((Int32.ofNat pre.length) + (1 : Int32))), .val (.int cc)]) rfl ?_
        show SS p e below T108 m 50 #[.val (.ref t), .val (.int (Int32.ofNat (bg + (pre ++ [cc]).length))), .val (.ref dst), .val (.int ((Int32.ofNat pre.length) + (1 : Int32))), .val (.int (Int32.ofNat n)), .val (.int ((Int32.ofNat pre.length) + (1 : Int32))), .val (.int cc)] [] _
        rw [show ((Int32.ofNat pre.length) + (1 : Int32)) = (Int32.ofNat (pre ++ [cc]).length) from (by rw [own_succ]; simp)]
        refine XS.goto X108.here hx rfl (pc0 := 50) (pc' := 10) rfl (hb hby d_jdk_52_method_22_50) (by decide) (by decide) ?_
        exact kt
      have O111 : Old Z n0 h108 := (O0.keep K108 (allS hg all0))
      have F112 : Arv Z h108 t kb .byte (Int32.ofNat (2 * cs.length)) (u16 cs) (.int (0 : Int32)) := (Vs.keep K108 (ninS hne nin0))
      obtain ⟨T110, L110, h110, X110, e110, N110, K110, P110_0, st110⟩ := ih (pre ++ [cc]) (.val (.int cc)) T108 _ h108 X108 e108 N108 (Nat.le_trans Z0 K108.1) O111 F112 J108 (lat_snoc hl hc105) (One.val rfl) (by rw [hk]; simp)
      exact ⟨T110, L110, h110, X110, e110, N110, (Keep.trans (Keep.trans (Keep.refl h0 [dst]) K108 (allS (Or.inl (List.mem_of_getElem? (i := 0) rfl)) all0)) K110 (allS (Or.inl (List.mem_of_getElem? (i := 0) rfl)) all0)), P110_0, fun tt kt => W109 _ (st110 _ kt)⟩
def Q_compress22 (Z : State) (t : Addr) (dst : Addr) (bg : Nat) (n : Nat) (kb : ClassId) (kd : ClassId) (cs : List Int32) (fm : Value) (h0 : Heap) (n0 : Nat) (vQ_ : Option Value) (hQ_ : Heap) (LQ_ : List Loc) : Prop := vQ_ = some (.int (Int32.ofNat (fl ((cs.drop bg).take n)))) ∧ Fr n0 LQ_ ∧ Keep h0 hQ_ [dst] ∧ Arv Z hQ_ dst kd .byte (Int32.ofNat n) (l1 (((cs.drop bg).take n).take (fl ((cs.drop bg).take n)))) (.int (0 : Int32))
set_option maxRecDepth 65536 in
set_option maxHeartbeats 40000000 in
theorem rm_compress22 (l : Launch) (Z : State) (a0 : Array Value) (hw : HW a0 Z) (ws : List Jvm.Cond) (t : Addr) (dst : Addr) (bg : Nat) (n : Nat) (kb : ClassId) (kd : ClassId) (cs : List Int32) (fm : Value) (h0 : Heap) (n0 : Nat) (Z0 : n0 ≤ h0.size) (O0 : Old Z n0 h0) (S_fm : Sta Z Z.heap "jdk/internal/util/Preconditions" "SIOOBE_FORMATTER" "Ljava/util/function/BiFunction;" fm) (hfm : fm.isRef = true) (S_ad : Sta Z Z.heap "java/lang/StringUTF16" "$assertionsDisabled" "Z" (.int (1 : Int32))) (S_hi : Sta Z Z.heap "java/lang/StringUTF16" "HI_BYTE_SHIFT" "I" (.int (0 : Int32))) (S_lo : Sta Z Z.heap "java/lang/StringUTF16" "LO_BYTE_SHIFT" "I" (.int (8 : Int32))) (Vs : Arv Z h0 t kb .byte (Int32.ofNat (2 * cs.length)) (u16 cs) (.int (0 : Int32))) (Vd : Arv Z h0 dst kd .byte (Int32.ofNat n) [] (.int (0 : Int32))) (hne : t ≠ dst) (hg : n0 ≤ dst) (ok : OkS cs) (hbn : bg + n ≤ cs.length) :
    MetFree l yn32 (head1 (Jvm.Cond.code yn32 jdk_52_method_22_code 7 (some .int) :: ws) ({ frames := 3, cells := 0, slots := 0, locals := 43 } : Room)) (fun aQ_ UQ => aQ_ = #[(.ref t), (.int (Int32.ofNat bg)), (.ref dst), (.int (0 : Int32)), (.int (Int32.ofNat n))] ∧ Z.Warmed39 UQ.vm ∧ UQ.heap = h0) (fun _ _ _ _ _ => True) (fun _ UQ oQ UQ' => ∃ vQ_ LQ_, oQ = .returned vQ_ ∧ Q_compress22 Z t dst bg n kb kd cs fm h0 n0 vQ_ UQ'.heap LQ_ ∧ FrameEnd UQ oQ UQ' LQ_ ({ frames := 3, cells := 0, slots := 0, locals := 43 } : Room).cells ({ frames := 3, cells := 0, slots := 0, locals := 43 } : Room).slots) := by
  refine MetFree.of_bodySF (plainFor_of_name pn_java_lang_StringUTF16) hisR ?_
  intro p e s m args below meth cO s₁ Bd hml0 hP hK
  obtain ⟨rfl, hZ, hh⟩ := hP
  have hx := Bd.exec
  have hby := Bd.bytes
  have hml : cO.maxLocals = 7 := hml0
  have hown : s.vm.findClass "java/lang/StringUTF16" = some m.cls := findClass_of_methodNamed Bd.named
  have hnm := (name_of_methodNamed Bd.named Bd.method).1
  have X0 : Stand p l e ({ frames := 3, cells := 0, slots := 0, locals := 43 } : Room) s m #[(.ref t), (.int (Int32.ofNat bg)), (.ref dst), (.int (0 : Int32)), (.int (Int32.ofNat n))] below meth cO s₁ [] 0 0 := Stand.of_body Bd
  have e0 : s₁.heap = h0 := by rw [← hh, Bd.state]; rfl
  have N0 := Fr.nil n0
  have W0 : ∀ zQ, SS p e below s₁ m 0 #[.val (.ref t), .val (.int (Int32.ofNat bg)), .val (.ref dst), .val (.int (0 : Int32)), .val (.int (Int32.ofNat n)), .unset, .unset] [] zQ → Steps p.tables e below (s₁.setTop (entryFrame m #[(.ref t), (.int (Int32.ofNat bg)), (.ref dst), (.int (0 : Int32)), (.int (Int32.ofNat n))] 7)) zQ := fun tt kt => castTop (ef_compress22 m t (Int32.ofNat bg) dst (0 : Int32) (Int32.ofNat n)) kt
  have hn9 : cs.length < 1048576 := ok.2
  obtain ⟨_, _, ⟨T101, L101, k101, n101⟩, -, X101, ⟨Lc101, hQ101, l101, y101, z101⟩, st101⟩ := Jvm.LawKit.callS X0 hx (y := yn25) hown (mvT hZ (w184 hw)) (mvT hZ (w185 hw)) (mvT hZ (w22 hw)) (mvT hZ (w186 hw)) (by decide) (backOf (W := 0) (rm_u16checkOC l Z a0 hw [] t bg n cs.length kb (u16 cs) fm h0 n0 Z0 O0 S_fm hfm Vs hbn (by omega)) hZ (w186 hw) (w22 hw) (by decide) (by decide)) (g := (mkF m 4 #[.val (.ref t), .val (.int (Int32.ofNat bg)), .val (.ref dst), .val (.int (0 : Int32)), .val (.int (Int32.ofNat n)), .unset, .unset] [(.ref t), (.int (Int32.ofNat n)), (.int (Int32.ofNat bg))])) rfl (by rw [hml]; rfl) (argsL := [(.int (Int32.ofNat bg)), (.int (Int32.ofNat n)), (.ref t)]) (rest := []) (lenOf pd__28_II_5b_B_29_V rfl) rfl (by show 2 * 0 + _ ≤ _; exact Nat.le_of_eq rfl) (hb hby d_jdk_52_method_22_4) (fun _ _ => ⟨rfl, e0, (Nat.le_of_ble_eq_true rfl), (Nat.le_of_ble_eq_true rfl)⟩)
  dsimp only [Pt.U, Pt.locs, Pt.cells, Pt.slots] at X101 l101 y101 z101 st101 hQ101
  subst l101 y101 z101
  obtain ⟨rfl, Nq101, eq101⟩ := hQ101
  have N101 := Fr.app N0 Nq101
  have hdl : ((cs.drop bg).take n).length = n := by simp; omega
  have W102 : ∀ zQ, SS p e below T101 m 10 #[.val (.ref t), .val (.int (Int32.ofNat bg)), .val (.ref dst), .val (.int (0 : Int32)), .val (.int (Int32.ofNat n)), .val (.int (0 : Int32)), .unset] [] zQ → Steps p.tables e below (s₁.setTop (entryFrame m #[(.ref t), (.int (Int32.ofNat bg)), (.ref dst), (.int (0 : Int32)), (.int (Int32.ofNat n))] 7)) zQ := by
    intro tt kt
    refine W0 tt ?_
    refine XS.iloadN X0.here hx rfl (hb hby d_jdk_52_method_22_0) rfl ?_
    refine XS.iload X0.here hx rfl (hb hby d_jdk_52_method_22_1) rfl ?_
    refine XS.aloadN X0.here hx rfl (hb hby d_jdk_52_method_22_3) rfl rfl ?_
    show SS p e below s₁ m 4 #[.val (.ref t), .val (.int (Int32.ofNat bg)), .val (.ref dst), .val (.int (0 : Int32)), .val (.int (Int32.ofNat n)), .unset, .unset] [(.ref t), (.int (Int32.ofNat n)), (.int (Int32.ofNat bg))] _
    refine st101 _ ?_
    refine XS.iconst X101.here hx rfl (hb hby d_jdk_52_method_22_7) ?_
    refine XS.istore X101.here hx rfl (hb hby d_jdk_52_method_22_8) rfl (l' := #[.val (.ref t), .val (.int (Int32.ofNat bg)), .val (.ref dst), .val (.int (0 : Int32)), .val (.int (Int32.ofNat n)), .val (.int (0 : Int32)), .unset]) rfl ?_
    exact kt
  obtain ⟨T103, L103, h103, X103, e103, Nl103, K103, P103_0, st103⟩ := lp_compr2 hx hZ hw hby hml hown (by decide) (by decide) (by decide) (by decide) Bd.returns t dst kb kd cs bg n ((cs.drop bg).take n) n0 S_ad S_hi S_lo hne hg ok rfl hdl hbn ((cs.drop bg).take n) [] .unset T101 _ h0 X101 eq101 N101 Z0 O0 Vs Vd rfl One.u rfl
  obtain ⟨fs, hr, hrun, hended, hW, hsame⟩ := X103.leave (v := some (.int (Int32.ofNat (fl ((cs.drop bg).take n))))) (fun h => by rw [Bd.returns] at h; cases h)
  refine ⟨_, _, W102 _ (st103 _ hr), hrun, hended, _, _, rfl, ?_, ⟨_, rfl⟩, hW, hsame.mono (by decide) (by decide)⟩
  show Q_compress22 Z t dst bg n kb kd cs fm h0 n0 _ T103.heap _
  rw [e103]
  exact ⟨rfl, Nl103, (Keep.trans (Keep.refl h0 [dst]) K103 (allS (Or.inl (List.mem_of_getElem? (i := 0) rfl)) all0)), P103_0⟩
def Q_compress17 (Z : State) (t : Addr) (bg : Nat) (n : Nat) (kb : ClassId) (cs : List Int32) (fm : Value) (h0 : Heap) (n0 : Nat) (vQ_ : Option Value) (hQ_ : Heap) (LQ_ : List Loc) : Prop := ∃ r : Addr, ∃ kr : ClassId, vQ_ = some (.ref r) ∧ Fr n0 LQ_ ∧ Keep h0 hQ_ [] ∧ h0.size ≤ r ∧ Arv Z hQ_ r kr .byte (Int32.ofNat (blen ((cs.drop bg).take n))) (enc ((cs.drop bg).take n)) (.int (0 : Int32))
set_option maxRecDepth 65536 in
set_option maxHeartbeats 40000000 in
theorem rm_compress17 (l : Launch) (Z : State) (a0 : Array Value) (hw : HW a0 Z) (ws : List Jvm.Cond) (t : Addr) (bg : Nat) (n : Nat) (kb : ClassId) (cs : List Int32) (fm : Value) (h0 : Heap) (n0 : Nat) (Z0 : n0 ≤ h0.size) (O0 : Old Z n0 h0) (S_fm : Sta Z Z.heap "jdk/internal/util/Preconditions" "SIOOBE_FORMATTER" "Ljava/util/function/BiFunction;" fm) (hfm : fm.isRef = true) (S_ad : Sta Z Z.heap "java/lang/StringUTF16" "$assertionsDisabled" "Z" (.int (1 : Int32))) (S_hi : Sta Z Z.heap "java/lang/StringUTF16" "HI_BYTE_SHIFT" "I" (.int (0 : Int32))) (S_lo : Sta Z Z.heap "java/lang/StringUTF16" "LO_BYTE_SHIFT" "I" (.int (8 : Int32))) (Vs : Arv Z h0 t kb .byte (Int32.ofNat (2 * cs.length)) (u16 cs) (.int (0 : Int32))) (hn0 : 0 < n) (hbn : bg + n ≤ cs.length) (hnn : n < cs.length) (ok : OkS cs) (hcap : cs.length ≤ 4) :
    MetFree l yn33 (head1 (Jvm.Cond.code yn33 jdk_52_method_17_code 6 (some (.array .byte)) :: ws) ({ frames := 4, cells := 2, slots := 12, locals := 94 } : Room)) (fun aQ_ UQ => aQ_ = #[(.ref t), (.int (Int32.ofNat bg)), (.int (Int32.ofNat n))] ∧ Z.Warmed39 UQ.vm ∧ UQ.heap = h0) (fun _ _ _ _ _ => True) (fun _ UQ oQ UQ' => ∃ vQ_ LQ_, oQ = .returned vQ_ ∧ Q_compress17 Z t bg n kb cs fm h0 n0 vQ_ UQ'.heap LQ_ ∧ FrameEnd UQ oQ UQ' LQ_ ({ frames := 4, cells := 2, slots := 12, locals := 94 } : Room).cells ({ frames := 4, cells := 2, slots := 12, locals := 94 } : Room).slots) := by
  refine MetFree.of_bodySF (plainFor_of_name pn_java_lang_StringUTF16) hisR ?_
  intro p e s m args below meth cO s₁ Bd hml0 hP hK
  obtain ⟨rfl, hZ, hh⟩ := hP
  have hx := Bd.exec
  have hby := Bd.bytes
  have hml : cO.maxLocals = 6 := hml0
  have hown : s.vm.findClass "java/lang/StringUTF16" = some m.cls := findClass_of_methodNamed Bd.named
  have hnm := (name_of_methodNamed Bd.named Bd.method).1
  have X0 : Stand p l e ({ frames := 4, cells := 2, slots := 12, locals := 94 } : Room) s m #[(.ref t), (.int (Int32.ofNat bg)), (.int (Int32.ofNat n))] below meth cO s₁ [] 0 0 := Stand.of_body Bd
  have e0 : s₁.heap = h0 := by rw [← hh, Bd.state]; rfl
  have N0 := Fr.nil n0
  have W0 : ∀ zQ, SS p e below s₁ m 0 #[.val (.ref t), .val (.int (Int32.ofNat bg)), .val (.int (Int32.ofNat n)), .unset, .unset, .unset] [] zQ → Steps p.tables e below (s₁.setTop (entryFrame m #[(.ref t), (.int (Int32.ofNat bg)), (.int (Int32.ofNat n))] 6)) zQ := fun tt kt => castTop (ef_compress17 m t (Int32.ofNat bg) (Int32.ofNat n)) kt
  have hn9 : cs.length < 1048576 := ok.2
  have hdl : ((cs.drop bg).take n).length = n := by simp; omega
  obtain ⟨T101, h101, k101, X101, e101, E101, A101, st101⟩ := newP X0 hx hZ (aty := .byte) (w24 hw) e0 (g := (mkF m 1 #[.val (.ref t), .val (.int (Int32.ofNat bg)), .val (.int (Int32.ofNat n)), .unset, .unset, .unset] [(.int (Int32.ofNat n))])) rfl (hb hby d_jdk_52_method_17_1) (n := (Int32.ofNat n)) rfl (own_nneg (by omega)) (cap := 4) (by rw [own_cl (by omega)]; omega) (by decide) (by decide) (by decide)
  obtain ⟨b101, g101⟩ : ∃ z, z = h0.size := ⟨_, rfl⟩
  rw [← g101] at A101 st101
  have K101 := (Keep.refl h0 []).ext E101
  have G101 : Arv Z h101 b101 k101 .byte (Int32.ofNat n) [] (.int (0 : Int32)) := Arv.new A101 (own_nneg (by omega))
  have F102 : Arv Z h101 t kb .byte (Int32.ofNat (2 * cs.length)) (u16 cs) (.int (0 : Int32)) := (Vs.keep K101 nin0)
  have O103 : Old Z n0 h101 := (O0.keep K101 all0)
  obtain ⟨_, _, ⟨T104, L104, k104, n104⟩, -, X104, ⟨Lc104, hQ104, l104, y104, z104⟩, st104⟩ := Jvm.LawKit.callS X101 hx (y := yn32) hown (mvT hZ (w181 hw)) (mvT hZ (w182 hw)) (mvT hZ (w22 hw)) (mvT hZ (w183 hw)) (by decide) (backOf (W := 0) (rm_compress22 l Z a0 hw [] t b101 bg n kb k101 cs fm h101 n0 (Nat.le_trans Z0 K101.1) O103 S_fm hfm S_ad S_hi S_lo F102 G101 (Nat.ne_of_lt (Nat.lt_of_lt_of_le Vs.lt (Nat.le_of_eq g101.symm))) (Nat.le_trans Z0 (Nat.le_of_eq g101.symm)) ok hbn) hZ (w183 hw) (w22 hw) (by decide) (by decide)) (g := (mkF m 9 #[.val (.ref t), .val (.int (Int32.ofNat bg)), .val (.int (Int32.ofNat n)), .val (.ref b101), .unset, .unset] [(.int (Int32.ofNat n)), (.int (0 : Int32)), (.ref b101), (.int (Int32.ofNat bg)), (.ref t)])) rfl (by rw [hml]; rfl) (argsL := [(.ref t), (.int (Int32.ofNat bg)), (.ref b101), (.int (0 : Int32)), (.int (Int32.ofNat n))]) (rest := []) (lenOf pd__28__5b_BI_5b_BII_29_I rfl) rfl (by show 2 * 0 + _ ≤ _; exact Nat.le_of_eq rfl) (hb hby d_jdk_52_method_17_9) (fun _ _ => ⟨rfl, e101, (Nat.le_of_ble_eq_true rfl), (Nat.le_of_ble_eq_true rfl)⟩)
  dsimp only [Pt.U, Pt.locs, Pt.cells, Pt.slots] at X104 l104 y104 z104 st104 hQ104
  subst l104 y104 z104
  obtain ⟨rfl, Nq104, K104, P104_0⟩ := hQ104
  have N104 := Fr.app N0 Nq104
  have W105 : ∀ zQ, SS p e below T104 m 17 #[.val (.ref t), .val (.int (Int32.ofNat bg)), .val (.int (Int32.ofNat n)), .val (.ref b101), .val (.int (Int32.ofNat (fl ((cs.drop bg).take n)))), .unset] [(.int (Int32.ofNat n)), (.int (Int32.ofNat (fl ((cs.drop bg).take n))))] zQ → Steps p.tables e below (s₁.setTop (entryFrame m #[(.ref t), (.int (Int32.ofNat bg)), (.int (Int32.ofNat n))] 6)) zQ := by
    intro tt kt
    refine W0 tt ?_
    refine XS.iloadN X0.here hx rfl (hb hby d_jdk_52_method_17_0) rfl ?_
    show SS p e below s₁ m 1 #[.val (.ref t), .val (.int (Int32.ofNat bg)), .val (.int (Int32.ofNat n)), .unset, .unset, .unset] [(.int (Int32.ofNat n))] _
    refine st101 _ ?_
    refine XS.astoreN X101.here hx rfl (hb hby d_jdk_52_method_17_3) rfl rfl (l' := #[.val (.ref t), .val (.int (Int32.ofNat bg)), .val (.int (Int32.ofNat n)), .val (.ref b101), .unset, .unset]) rfl ?_
    refine XS.aloadN X101.here hx rfl (hb hby d_jdk_52_method_17_4) rfl rfl ?_
    refine XS.iloadN X101.here hx rfl (hb hby d_jdk_52_method_17_5) rfl ?_
    refine XS.aloadN X101.here hx rfl (hb hby d_jdk_52_method_17_6) rfl rfl ?_
    refine XS.iconst X101.here hx rfl (hb hby d_jdk_52_method_17_7) ?_
    show SS p e below T101 m 8 #[.val (.ref t), .val (.int (Int32.ofNat bg)), .val (.int (Int32.ofNat n)), .val (.ref b101), .unset, .unset] [(.int (0 : Int32)), (.ref b101), (.int (Int32.ofNat bg)), (.ref t)] _
    refine XS.iloadN X101.here hx rfl (hb hby d_jdk_52_method_17_8) rfl ?_
    show SS p e below T101 m 9 #[.val (.ref t), .val (.int (Int32.ofNat bg)), .val (.int (Int32.ofNat n)), .val (.ref b101), .unset, .unset] [(.int (Int32.ofNat n)), (.int (0 : Int32)), (.ref b101), (.int (Int32.ofNat bg)), (.ref t)] _
    refine st104 _ ?_
    refine XS.istore X104.here hx rfl (hb hby d_jdk_52_method_17_12) rfl (l' := #[.val (.ref t), .val (.int (Int32.ofNat bg)), .val (.int (Int32.ofNat n)), .val (.ref b101), .val (.int (Int32.ofNat (fl ((cs.drop bg).take n)))), .unset]) rfl ?_
    refine XS.iload X104.here hx rfl (hb hby d_jdk_52_method_17_14) rfl ?_
    refine XS.iloadN X104.here hx rfl (hb hby d_jdk_52_method_17_16) rfl ?_
    exact kt
  by_cases hc106 : (Int32.ofNat (fl ((cs.drop bg).take n))) = (Int32.ofNat n)
  ·
    have hl : lat ((cs.drop bg).take n) = true := fl_ne (by have := fl_le ((cs.drop bg).take n); have q := congrArg Int32.toInt hc106; rw [own_i (by omega), own_i (by omega)] at q; omega)
    have W107 : ∀ zQ, SS p e below T104 m 65 #[.val (.ref t), .val (.int (Int32.ofNat bg)), .val (.int (Int32.ofNat n)), .val (.ref b101), .val (.int (Int32.ofNat (fl ((cs.drop bg).take n)))), .unset] [(.ref b101)] zQ → Steps p.tables e below (s₁.setTop (entryFrame m #[(.ref t), (.int (Int32.ofNat bg)), (.int (Int32.ofNat n))] 6)) zQ := by
      intro tt kt
      refine W105 tt ?_
      refine XS.icmpYes X104.here hx rfl (pc0 := 17) (pc' := 64) rfl (hb hby d_jdk_52_method_17_17) rfl (teq hc106).1 (by decide) (by decide) ?_
      refine XS.aloadN X104.here hx rfl (hb hby d_jdk_52_method_17_64) rfl rfl ?_
      exact kt
    have hR108 : Arv Z T104.heap b101 k101 .byte (Int32.ofNat (blen ((cs.drop bg).take n))) (enc ((cs.drop bg).take n)) (.int (0 : Int32)) := by have q := enc_lat hl; rw [q.1, q.2.1, hdl]; rw [show ((cs.drop bg).take n).take (fl ((cs.drop bg).take n)) = ((cs.drop bg).take n) from by rw [fl_lat hl]; exact List.take_of_length_le (Nat.le_refl _)] at P104_0; exact P104_0
    obtain ⟨fs, hr, hrun, hended, hW, hsame⟩ := X104.leave (v := some (.ref b101)) (fun h => by rw [Bd.returns] at h; cases h)
    refine ⟨_, _, W107 _ (own_retR X104 hx Bd.returns rfl rfl (hb hby d_jdk_52_method_17_65) hr), hrun, hended, _, _, rfl, ?_, ⟨_, rfl⟩, hW, hsame.mono (by decide) (by decide)⟩
    show Q_compress17 Z t bg n kb cs fm h0 n0 _ T104.heap _
    exact ⟨b101, k101, rfl, N104, (Keep.trans (Keep.trans (Keep.refl h0 []) K101 all0) K104 (allS (Or.inr (Nat.le_of_eq g101.symm)) all0)), (Nat.le_of_eq g101.symm), hR108⟩
  ·
    have hl : ¬ lat ((cs.drop bg).take n) = true := fun q => hc106 (by rw [fl_lat q, hdl])
    obtain ⟨_, _, ⟨T109, L109, k109, n109⟩, -, X109, ⟨Lc109, hQ109, l109, y109, z109⟩, st109⟩ := Jvm.LawKit.callS X104 hx (y := yn14) hown (mvT hZ (w149 hw)) (mvT hZ (w150 hw)) (mvT hZ (w22 hw)) (mvT hZ (w151 hw)) (by decide) (backOf (W := 2) (rm_nbl l Z a0 hw [] (bg + n) T104.heap n0 (Nat.le_trans Z0 (Nat.le_trans K101.1 K104.1)) (by omega)) hZ (w151 hw) (w22 hw) (by decide) (by decide)) (g := (mkF m 27 #[.val (.ref t), .val (.int (Int32.ofNat bg)), .val (.int (Int32.ofNat n)), .val (.ref b101), .val (.int (Int32.ofNat (fl ((cs.drop bg).take n)))), .unset] [(.int (Int32.ofNat (bg + n))), (.int (Int32.ofNat (2 * bg))), (.ref t)])) rfl (by rw [hml]; rfl) (argsL := [(.int (Int32.ofNat (bg + n)))]) (rest := [(.int (Int32.ofNat (2 * bg))), (.ref t)]) (lenOf pd__28_I_29_I rfl) rfl (by show 2 * 0 + _ ≤ _; exact Nat.le_of_eq rfl) (hb hby d_jdk_52_method_17_27) (fun _ _ => ⟨rfl, rfl, (Nat.le_of_ble_eq_true rfl), (Nat.le_of_ble_eq_true rfl)⟩)
    dsimp only [Pt.U, Pt.locs, Pt.cells, Pt.slots] at X109 l109 y109 z109 st109 hQ109
    subst l109 y109 z109
    obtain ⟨rfl, Nq109, eq109⟩ := hQ109
    have N109 := Fr.app N104 Nq109
    have F110 : Arv Z T104.heap t kb .byte (Int32.ofNat (2 * cs.length)) (u16 cs) (.int (0 : Int32)) := (F102.keep K104 (ninS (Nat.ne_of_lt (Nat.lt_of_lt_of_le Vs.lt (Nat.le_of_eq g101.symm))) nin0))
    obtain ⟨_, _, ⟨T111, L111, k111, n111⟩, -, X111, ⟨Lc111, hQ111, l111, y111, z111⟩, st111⟩ := Jvm.LawKit.callS X109 hx (y := yn29) hown (mvT hZ (w193 hw)) (mvT hZ (w105 hw)) (mvT hZ (w106 hw)) (mvT hZ (w107 hw)) (by decide) (backOf (W := 0) (rm_cor l Z a0 hw [] t (2 * bg) (2 * (bg + n)) (2 * cs.length) kb (u16 cs) T104.heap n0 (Nat.le_trans Z0 (Nat.le_trans K101.1 K104.1)) F110 (u16_len cs) (by omega) (by omega) (by omega) (by omega) (by omega)) hZ (w107 hw) (w106 hw) (by decide) (by decide)) (g := (mkF m 30 #[.val (.ref t), .val (.int (Int32.ofNat bg)), .val (.int (Int32.ofNat n)), .val (.ref b101), .val (.int (Int32.ofNat (fl ((cs.drop bg).take n)))), .unset] [(.int (Int32.ofNat (2 * (bg + n)))), (.int (Int32.ofNat (2 * bg))), (.ref t)])) rfl (by rw [hml]; rfl) (argsL := [(.ref t), (.int (Int32.ofNat (2 * bg))), (.int (Int32.ofNat (2 * (bg + n))))]) (rest := []) (lenOf pd__28__5b_BII_29__5b_B rfl) rfl (by show 2 * 0 + _ ≤ _; exact Nat.le_of_eq rfl) (hb hby d_jdk_52_method_17_30) (fun _ _ => ⟨rfl, eq109, (Nat.le_of_ble_eq_true rfl), (Nat.le_of_ble_eq_true rfl)⟩)
    dsimp only [Pt.U, Pt.locs, Pt.cells, Pt.slots] at X111 l111 y111 z111 st111 hQ111
    subst l111 y111 z111
    obtain ⟨r_112, kr_113, rfl, Nq111, K111, P111_0, P111_1⟩ := hQ111
    have N111 := Fr.app N109 Nq111
    have J114 : Arv Z T111.heap r_112 kr_113 .byte (Int32.ofNat (2 * ((cs.drop bg).take n).length)) (u16 ((cs.drop bg).take n)) (.int (0 : Int32)) := by rw [hdl, ← own_u16s cs bg n]; rw [show 2 * (bg + n) - 2 * bg = 2 * n from by omega] at P111_1; exact P111_1
    have O115 : Old Z n0 T111.heap := ((O103.keep K104 (allS (Nat.le_trans Z0 (Nat.le_of_eq g101.symm)) all0)).keep K111 all0)
    obtain ⟨_, _, ⟨T116, L116, k116, n116⟩, -, X116, ⟨Lc116, hQ116, l116, y116, z116⟩, st116⟩ := Jvm.LawKit.callS X111 hx (y := yn6) hown (mvT hZ (w159 hw)) (mvT hZ (w160 hw)) (mvT hZ (w22 hw)) (mvT hZ (w161 hw)) (by decide) (backOf (W := 0) (rm_getChar l Z a0 hw [] r_112 (fl ((cs.drop bg).take n)) kr_113 ((cs.drop bg).take n) T111.heap n0 (Nat.le_trans Z0 (Nat.le_trans (Nat.le_trans K101.1 K104.1) K111.1)) O115 S_ad S_hi S_lo J114 (fl_nlat hl).1 (own_okdt ok)) hZ (w161 hw) (w22 hw) (by decide) (by decide)) (g := (mkF m 39 #[.val (.ref t), .val (.int (Int32.ofNat bg)), .val (.int (Int32.ofNat n)), .val (.ref b101), .val (.int (Int32.ofNat (fl ((cs.drop bg).take n)))), .val (.ref r_112)] [(.int (Int32.ofNat (fl ((cs.drop bg).take n)))), (.ref r_112)])) rfl (by rw [hml]; rfl) (argsL := [(.ref r_112), (.int (Int32.ofNat (fl ((cs.drop bg).take n))))]) (rest := []) (lenOf pd__28__5b_BI_29_C rfl) rfl (by show 2 * 0 + _ ≤ _; exact Nat.le_of_eq rfl) (hb hby d_jdk_52_method_17_39) (fun _ _ => ⟨rfl, rfl, (Nat.le_of_ble_eq_true rfl), (Nat.le_of_ble_eq_true rfl)⟩)
    dsimp only [Pt.U, Pt.locs, Pt.cells, Pt.slots] at X116 l116 y116 z116 st116 hQ116
    subst l116 y116 z116
    obtain ⟨rfl, Nq116, eq116⟩ := hQ116
    have N116 := Fr.app N111 Nq116
    have W117 : ∀ zQ, SS p e below T116 m 63 #[.val (.ref t), .val (.int (Int32.ofNat bg)), .val (.int (Int32.ofNat n)), .val (.ref b101), .val (.int (Int32.ofNat (fl ((cs.drop bg).take n)))), .val (.ref r_112)] [(.ref r_112)] zQ → Steps p.tables e below (s₁.setTop (entryFrame m #[(.ref t), (.int (Int32.ofNat bg)), (.int (Int32.ofNat n))] 6)) zQ := by
      intro tt kt
      refine W105 tt ?_
      refine XS.icmpNo X104.here hx rfl (hb hby d_jdk_52_method_17_17) rfl (feq hc106).1 ?_
      refine XS.aloadN X104.here hx rfl (hb hby d_jdk_52_method_17_20) rfl rfl ?_
      refine XS.iloadN X104.here hx rfl (hb hby d_jdk_52_method_17_21) rfl ?_
      refine XS.iconst X104.here hx rfl (hb hby d_jdk_52_method_17_22) ?_
      refine XS.ishl X104.here hx rfl (hb hby d_jdk_52_method_17_23) rfl ?_
      show SS p e below T104 m 24 #[.val (.ref t), .val (.int (Int32.ofNat bg)), .val (.int (Int32.ofNat n)), .val (.ref b101), .val (.int (Int32.ofNat (fl ((cs.drop bg).take n)))), .unset] [(.int ((Int32.ofNat bg) <<< ((1 : Int32) &&& 31))), (.ref t)] _
      rw [show ((Int32.ofNat bg) <<< ((1 : Int32) &&& 31)) = (Int32.ofNat (2 * bg)) from own_shl1 (by omega)]
      refine XS.iloadN X104.here hx rfl (hb hby d_jdk_52_method_17_24) rfl ?_
      refine XS.iloadN X104.here hx rfl (hb hby d_jdk_52_method_17_25) rfl ?_
      refine XS.iadd X104.here hx rfl (hb hby d_jdk_52_method_17_26) rfl ?_
      show SS p e below T104 m 27 #[.val (.ref t), .val (.int (Int32.ofNat bg)), .val (.int (Int32.ofNat n)), .val (.ref b101), .val (.int (Int32.ofNat (fl ((cs.drop bg).take n)))), .unset] [(.int ((Int32.ofNat bg) + (Int32.ofNat n))), (.int (Int32.ofNat (2 * bg))), (.ref t)] _
      rw [show ((Int32.ofNat bg) + (Int32.ofNat n)) = (Int32.ofNat (bg + n)) from (Int32.ofNat_add bg n).symm]
      show SS p e below T104 m 27 #[.val (.ref t), .val (.int (Int32.ofNat bg)), .val (.int (Int32.ofNat n)), .val (.ref b101), .val (.int (Int32.ofNat (fl ((cs.drop bg).take n)))), .unset] [(.int (Int32.ofNat (bg + n))), (.int (Int32.ofNat (2 * bg))), (.ref t)] _
      refine st109 _ ?_
      show SS p e below T109 m 30 #[.val (.ref t), .val (.int (Int32.ofNat bg)), .val (.int (Int32.ofNat n)), .val (.ref b101), .val (.int (Int32.ofNat (fl ((cs.drop bg).take n)))), .unset] [(.int (Int32.ofNat (2 * (bg + n)))), (.int (Int32.ofNat (2 * bg))), (.ref t)] _
      refine st111 _ ?_
      refine XS.astore X111.here hx rfl (hb hby d_jdk_52_method_17_33) rfl rfl (l' := #[.val (.ref t), .val (.int (Int32.ofNat bg)), .val (.int (Int32.ofNat n)), .val (.ref b101), .val (.int (Int32.ofNat (fl ((cs.drop bg).take n)))), .val (.ref r_112)]) rfl ?_
      refine XS.aload X111.here hx rfl (hb hby d_jdk_52_method_17_35) rfl rfl ?_
      refine XS.iload X111.here hx rfl (hb hby d_jdk_52_method_17_37) rfl ?_
      show SS p e below T111 m 39 #[.val (.ref t), .val (.int (Int32.ofNat bg)), .val (.int (Int32.ofNat n)), .val (.ref b101), .val (.int (Int32.ofNat (fl ((cs.drop bg).take n)))), .val (.ref r_112)] [(.int (Int32.ofNat (fl ((cs.drop bg).take n)))), (.ref r_112)] _
      refine st116 _ ?_
      refine XS.sipush X116.here hx rfl (hb hby d_jdk_52_method_17_42) ?_
      refine XS.icmpYes X116.here hx rfl (pc0 := 45) (pc' := 61) rfl (hb hby d_jdk_52_method_17_45) rfl (tlt (fl_nlat hl).2).2.2.1 (by decide) (by decide) ?_
      refine XS.aload X116.here hx rfl (hb hby d_jdk_52_method_17_61) rfl rfl ?_
      exact kt
    have hR118 : Arv Z T111.heap r_112 kr_113 .byte (Int32.ofNat (blen ((cs.drop bg).take n))) (enc ((cs.drop bg).take n)) (.int (0 : Int32)) := by have q := enc_nlat hl; rw [q.1, q.2.1]; exact J114
    obtain ⟨fs, hr, hrun, hended, hW, hsame⟩ := X116.leave (v := some (.ref r_112)) (fun h => by rw [Bd.returns] at h; cases h)
    refine ⟨_, _, W117 _ (own_retR X116 hx Bd.returns rfl rfl (hb hby d_jdk_52_method_17_63) hr), hrun, hended, _, _, rfl, ?_, ⟨_, rfl⟩, hW, hsame.mono (by decide) (by decide)⟩
    show Q_compress17 Z t bg n kb cs fm h0 n0 _ T116.heap _
    rw [eq116]
    exact ⟨r_112, kr_113, rfl, N116, (Keep.trans (Keep.trans (Keep.trans (Keep.refl h0 []) K101 all0) K104 (allS (Or.inr (Nat.le_of_eq g101.symm)) all0)) K111 all0), (Nat.le_trans (Nat.le_trans K101.1 K104.1) P111_0), hR118⟩
def Q_u16new (Z : State) (t : Addr) (bg : Nat) (n : Nat) (kb : ClassId) (cs : List Int32) (cS : Int32) (fm : Value) (h0 : Heap) (n0 : Nat) (vQ_ : Option Value) (hQ_ : Heap) (LQ_ : List Loc) : Prop := ∃ r : Addr, ∃ t2 : Addr, ∃ kb2 : ClassId, vQ_ = some (.ref r) ∧ Fr n0 LQ_ ∧ Keep h0 hQ_ [] ∧ h0.size ≤ r ∧ h0.size ≤ t2 ∧ Str Z hQ_ r t2 kb2 ((cs.drop bg).take n)
set_option maxRecDepth 65536 in
set_option maxHeartbeats 40000000 in
theorem rm_u16new (l : Launch) (Z : State) (a0 : Array Value) (hw : HW a0 Z) (ws : List Jvm.Cond) (t : Addr) (bg : Nat) (n : Nat) (kb : ClassId) (cs : List Int32) (cS : Int32) (fm : Value) (h0 : Heap) (n0 : Nat) (Z0 : n0 ≤ h0.size) (O0 : Old Z n0 h0) (S_cs : Sta Z Z.heap "java/lang/String" "COMPACT_STRINGS" "Z" (.int cS)) (hcS : ¬ (cS = (0 : Int32))) (S_fm : Sta Z Z.heap "jdk/internal/util/Preconditions" "SIOOBE_FORMATTER" "Ljava/util/function/BiFunction;" fm) (hfm : fm.isRef = true) (S_ad : Sta Z Z.heap "java/lang/StringUTF16" "$assertionsDisabled" "Z" (.int (1 : Int32))) (S_hi : Sta Z Z.heap "java/lang/StringUTF16" "HI_BYTE_SHIFT" "I" (.int (0 : Int32))) (S_lo : Sta Z Z.heap "java/lang/StringUTF16" "LO_BYTE_SHIFT" "I" (.int (8 : Int32))) (A1 : Arv Z h0 t kb .byte (Int32.ofNat (2 * cs.length)) (u16 cs) (.int (0 : Int32))) (hn0 : 0 < n) (hbn : bg + n ≤ cs.length) (hnn : n < cs.length) (ok : OkS cs) (hcap : cs.length ≤ 4) :
    MetFree l yn34 (head1 (Jvm.Cond.code yn34 jdk_52_method_69_code 5 (some (.object "java/lang/String")) :: ws) ({ frames := 5, cells := 3, slots := 16, locals := 111 } : Room)) (fun aQ_ UQ => aQ_ = #[(.ref t), (.int (Int32.ofNat bg)), (.int (Int32.ofNat n))] ∧ Z.Warmed39 UQ.vm ∧ UQ.heap = h0) (fun _ _ _ _ _ => True) (fun _ UQ oQ UQ' => ∃ vQ_ LQ_, oQ = .returned vQ_ ∧ Q_u16new Z t bg n kb cs cS fm h0 n0 vQ_ UQ'.heap LQ_ ∧ FrameEnd UQ oQ UQ' LQ_ ({ frames := 5, cells := 3, slots := 16, locals := 111 } : Room).cells ({ frames := 5, cells := 3, slots := 16, locals := 111 } : Room).slots) := by
  refine MetFree.of_bodySF (plainFor_of_name pn_java_lang_StringUTF16) hisR ?_
  intro p e s m args below meth cO s₁ Bd hml0 hP hK
  obtain ⟨rfl, hZ, hh⟩ := hP
  have hx := Bd.exec
  have hby := Bd.bytes
  have hml : cO.maxLocals = 5 := hml0
  have hown : s.vm.findClass "java/lang/StringUTF16" = some m.cls := findClass_of_methodNamed Bd.named
  have hnm := (name_of_methodNamed Bd.named Bd.method).1
  have X0 : Stand p l e ({ frames := 5, cells := 3, slots := 16, locals := 111 } : Room) s m #[(.ref t), (.int (Int32.ofNat bg)), (.int (Int32.ofNat n))] below meth cO s₁ [] 0 0 := Stand.of_body Bd
  have e0 : s₁.heap = h0 := by rw [← hh, Bd.state]; rfl
  have N0 := Fr.nil n0
  have W0 : ∀ zQ, SS p e below s₁ m 0 #[.val (.ref t), .val (.int (Int32.ofNat bg)), .val (.int (Int32.ofNat n)), .unset, .unset] [] zQ → Steps p.tables e below (s₁.setTop (entryFrame m #[(.ref t), (.int (Int32.ofNat bg)), (.int (Int32.ofNat n))] 5)) zQ := fun tt kt => castTop (ef_u16new m t (Int32.ofNat bg) (Int32.ofNat n)) kt
  have hn9 : cs.length < 1048576 := ok.2
  have hdl : ((cs.drop bg).take n).length = n := by simp; omega
  have F102 : Sta Z h0 "java/lang/String" "COMPACT_STRINGS" "Z" (.int cS) := S_cs.ext O0.2
  obtain ⟨T101, X101, e101, st101⟩ := getS2 X0 hx hZ hown (host := "") (Or.inl (w177 hw)) Via.refl e0 F102 (g := (mkF m 8 #[.val (.ref t), .val (.int (Int32.ofNat bg)), .val (.int (Int32.ofNat n)), .unset, .unset] [])) rfl (hb hby d_jdk_52_method_69_8)
  obtain ⟨_, _, ⟨T103, L103, k103, n103⟩, -, X103, ⟨Lc103, hQ103, l103, y103, z103⟩, st103⟩ := Jvm.LawKit.callS X101 hx (y := yn33) hown (mvT hZ (w178 hw)) (mvT hZ (w179 hw)) (mvT hZ (w22 hw)) (mvT hZ (w180 hw)) (by decide) (backOf (W := 0) (rm_compress17 l Z a0 hw [] t bg n kb cs fm h0 n0 Z0 O0 S_fm hfm S_ad S_hi S_lo A1 hn0 hbn hnn ok hcap) hZ (w180 hw) (w22 hw) (by decide) (by decide)) (g := (mkF m 17 #[.val (.ref t), .val (.int (Int32.ofNat bg)), .val (.int (Int32.ofNat n)), .unset, .unset] [(.int (Int32.ofNat n)), (.int (Int32.ofNat bg)), (.ref t)])) rfl (by rw [hml]; rfl) (argsL := [(.ref t), (.int (Int32.ofNat bg)), (.int (Int32.ofNat n))]) (rest := []) (lenOf pd__28__5b_BII_29__5b_B rfl) rfl (by show 2 * 0 + _ ≤ _; exact Nat.le_of_eq rfl) (hb hby d_jdk_52_method_69_17) (fun _ _ => ⟨rfl, e101, (Nat.le_of_ble_eq_true rfl), (Nat.le_of_ble_eq_true rfl)⟩)
  dsimp only [Pt.U, Pt.locs, Pt.cells, Pt.slots] at X103 l103 y103 z103 st103 hQ103
  subst l103 y103 z103
  obtain ⟨r_104, kr_105, rfl, Nq103, K103, P103_0, P103_1⟩ := hQ103
  have N103 := Fr.app N0 Nq103
  obtain ⟨_, _, ⟨T106, L106, k106, n106⟩, -, X106, ⟨Lc106, hQ106, l106, y106, z106⟩, st106⟩ := Jvm.LawKit.callS X103 hx (y := yn13) hown (mvT hZ (w194 hw)) (mvT hZ (w29 hw)) (mvT hZ (w22 hw)) (mvT hZ (w30 hw)) (by decide) (backOf (W := 0) (rm_coderOf l Z a0 hw [] r_104 kr_105 (enc ((cs.drop bg).take n)) ((cs.drop bg).take n) T103.heap n0 (Nat.le_trans Z0 K103.1) P103_1 (own_okdt ok)) hZ (w30 hw) (w22 hw) (by decide) (by decide)) (g := (mkF m 23 #[.val (.ref t), .val (.int (Int32.ofNat bg)), .val (.int (Int32.ofNat ((cs.drop bg).take n).length)), .val (.ref r_104), .unset] [(.int (Int32.ofNat ((cs.drop bg).take n).length)), (.ref r_104)])) rfl (by rw [hml]; rfl) (argsL := [(.ref r_104), (.int (Int32.ofNat ((cs.drop bg).take n).length))]) (rest := []) (lenOf pd__28__5b_BI_29_B rfl) rfl (by show 2 * 0 + _ ≤ _; exact Nat.le_of_eq rfl) (hb hby d_jdk_52_method_69_23) (fun _ _ => ⟨rfl, rfl, (Nat.le_of_ble_eq_true rfl), (Nat.le_of_ble_eq_true rfl)⟩)
  dsimp only [Pt.U, Pt.locs, Pt.cells, Pt.slots] at X106 l106 y106 z106 st106 hQ106
  subst l106 y106 z106
  obtain ⟨rfl, Nq106, eq106⟩ := hQ106
  have N106 := Fr.app N103 Nq106
  obtain ⟨T107, h107, X107, e107, E107, A107, D107, U107, st107⟩ := newO X106 hx hZ hown (w195 hw) (w7 hw) (w8 hw) eq106 (g := (mkF m 28 #[.val (.ref t), .val (.int (Int32.ofNat bg)), .val (.int (Int32.ofNat ((cs.drop bg).take n).length)), .val (.ref r_104), .val (.int (cdr ((cs.drop bg).take n)))] [])) rfl (hb hby d_jdk_52_method_69_28) (by decide) (by decide)
  obtain ⟨b107, g107⟩ : ∃ z, z = T103.heap.size := ⟨_, rfl⟩
  rw [← g107] at A107 D107 U107 st107
  have K107 := (Keep.refl T103.heap []).ext E107
  have G107_coder : Fld Z h107 b107 "java/lang/String" "coder" "B" (.int (0 : Int32)) := D107 (Or.inr (w32 hw)) (ty := .byte) (by decide)
  have G107_value : Fld Z h107 b107 "java/lang/String" "value" "[B" .null := D107 (Or.inr (w34 hw)) (ty := (.array .byte)) (by decide)
  obtain ⟨_, _, ⟨T108, L108, k108, n108⟩, -, X108, ⟨Lc108, hQ108, l108, y108, z108⟩, st108⟩ := X107.specialBack hx (y := yn30) rfl hown (mvT hZ (w196 hw)) (mvT hZ (w123 hw)) (mvT hZ (w124 hw)) (by decide) (backOf (W := 1) (rm_sinitB l Z a0 hw [] b107 r_104 (cdr ((cs.drop bg).take n)) h107 n0 (Nat.le_trans Z0 (Nat.le_trans K103.1 K107.1)) A107 G107_value G107_coder (Nat.le_trans Z0 (Nat.le_trans K103.1 (Nat.le_of_eq g107.symm))) (own_narcdr _) (own_fitcdr _)) hZ (w124 hw) (w8 hw) (by decide) (by decide)) (g := (mkF m 35 #[.val (.ref t), .val (.int (Int32.ofNat bg)), .val (.int (Int32.ofNat ((cs.drop bg).take n).length)), .val (.ref r_104), .val (.int (cdr ((cs.drop bg).take n)))] [(.int (cdr ((cs.drop bg).take n))), (.ref r_104), (.ref b107), (.ref b107)])) rfl (by rw [hml]; rfl) (Steps.refl _) (a := b107) (argsL := [(.ref r_104), (.int (cdr ((cs.drop bg).take n)))]) (rest := [(.ref b107)]) (lenOf pd__28__5b_BB_29_V rfl) rfl (by show 2 * 0 + _ ≤ _; exact Nat.le_of_eq rfl) (hb hby d_jdk_52_method_69_35) (fun _ _ => ⟨rfl, e107, (Nat.le_of_ble_eq_true rfl), (Nat.le_of_ble_eq_true rfl)⟩)
  dsimp only [Pt.U, Pt.locs, Pt.cells, Pt.slots] at X108 l108 y108 z108 st108 hQ108
  subst l108 y108 z108
  obtain ⟨rfl, Nq108, K108, P108_0, P108_1, P108_2⟩ := hQ108
  have N108 := Fr.app N106 Nq108
  have W109 : ∀ zQ, SS p e below T108 m 38 #[.val (.ref t), .val (.int (Int32.ofNat bg)), .val (.int (Int32.ofNat ((cs.drop bg).take n).length)), .val (.ref r_104), .val (.int (cdr ((cs.drop bg).take n)))] [(.ref b107)] zQ → Steps p.tables e below (s₁.setTop (entryFrame m #[(.ref t), (.int (Int32.ofNat bg)), (.int (Int32.ofNat n))] 5)) zQ := by
    intro tt kt
    refine W0 tt ?_
    refine XS.iloadN X0.here hx rfl (hb hby d_jdk_52_method_69_0) rfl ?_
    refine XS.ifYes X0.here hx rfl (pc0 := 1) (pc' := 8) rfl (hb hby d_jdk_52_method_69_1) rfl ((if0 _ _).trans (feq (fun q => by have := own_zero (by omega) q; omega)).2) (by decide) (by decide) ?_
    show SS p e below s₁ m 8 #[.val (.ref t), .val (.int (Int32.ofNat bg)), .val (.int (Int32.ofNat n)), .unset, .unset] [] _
    refine st101 _ ?_
    refine XS.ifNo X101.here hx rfl (hb hby d_jdk_52_method_69_11) rfl ((if0 _ _).trans (feq hcS).1) ?_
    refine XS.aloadN X101.here hx rfl (hb hby d_jdk_52_method_69_14) rfl rfl ?_
    refine XS.iloadN X101.here hx rfl (hb hby d_jdk_52_method_69_15) rfl ?_
    refine XS.iloadN X101.here hx rfl (hb hby d_jdk_52_method_69_16) rfl ?_
    show SS p e below T101 m 17 #[.val (.ref t), .val (.int (Int32.ofNat bg)), .val (.int (Int32.ofNat n)), .unset, .unset] [(.int (Int32.ofNat n)), (.int (Int32.ofNat bg)), (.ref t)] _
    refine st103 _ ?_
    refine XS.astoreN X103.here hx rfl (hb hby d_jdk_52_method_69_20) rfl rfl (l' := #[.val (.ref t), .val (.int (Int32.ofNat bg)), .val (.int (Int32.ofNat n)), .val (.ref r_104), .unset]) rfl ?_
    refine XS.aloadN X103.here hx rfl (hb hby d_jdk_52_method_69_21) rfl rfl ?_
    show SS p e below T103 m 22 #[.val (.ref t), .val (.int (Int32.ofNat bg)), .val (.int (Int32.ofNat n)), .val (.ref r_104), .unset] [(.ref r_104)] _
    rw [show (Int32.ofNat n) = (Int32.ofNat ((cs.drop bg).take n).length) from (by rw [hdl])]
    refine XS.iloadN X103.here hx rfl (hb hby d_jdk_52_method_69_22) rfl ?_
    show SS p e below T103 m 23 #[.val (.ref t), .val (.int (Int32.ofNat bg)), .val (.int (Int32.ofNat ((cs.drop bg).take n).length)), .val (.ref r_104), .unset] [(.int (Int32.ofNat ((cs.drop bg).take n).length)), (.ref r_104)] _
    refine st106 _ ?_
    refine XS.istore X106.here hx rfl (hb hby d_jdk_52_method_69_26) rfl (l' := #[.val (.ref t), .val (.int (Int32.ofNat bg)), .val (.int (Int32.ofNat ((cs.drop bg).take n).length)), .val (.ref r_104), .val (.int (cdr ((cs.drop bg).take n)))]) rfl ?_
    show SS p e below T106 m 28 #[.val (.ref t), .val (.int (Int32.ofNat bg)), .val (.int (Int32.ofNat ((cs.drop bg).take n).length)), .val (.ref r_104), .val (.int (cdr ((cs.drop bg).take n)))] [] _
    refine st107 _ ?_
    refine XS.dup X107.here hx rfl (hb hby d_jdk_52_method_69_31) rfl rfl ?_
    refine XS.aloadN X107.here hx rfl (hb hby d_jdk_52_method_69_32) rfl rfl ?_
    refine XS.iload X107.here hx rfl (hb hby d_jdk_52_method_69_33) rfl ?_
    show SS p e below T107 m 35 #[.val (.ref t), .val (.int (Int32.ofNat bg)), .val (.int (Int32.ofNat ((cs.drop bg).take n).length)), .val (.ref r_104), .val (.int (cdr ((cs.drop bg).take n)))] [(.int (cdr ((cs.drop bg).take n))), (.ref r_104), (.ref b107), (.ref b107)] _
    refine st108.trans ?_
    exact kt
  have F110 : Arv Z T108.heap r_104 kr_105 .byte (Int32.ofNat (blen ((cs.drop bg).take n))) (enc ((cs.drop bg).take n)) (.int (0 : Int32)) := ((P103_1.keep K107 nin0).keep K108 (ninS (Nat.ne_of_lt (Nat.lt_of_lt_of_le P103_1.lt (Nat.le_of_eq g107.symm))) nin0))
  obtain ⟨fs, hr, hrun, hended, hW, hsame⟩ := X108.leave (v := some (.ref b107)) (fun h => by rw [Bd.returns] at h; cases h)
  refine ⟨_, _, W109 _ (own_retR X108 hx Bd.returns rfl rfl (hb hby d_jdk_52_method_69_38) hr), hrun, hended, _, _, rfl, ?_, ⟨_, rfl⟩, hW, hsame.mono (by decide) (by decide)⟩
  show Q_u16new Z t bg n kb cs cS fm h0 n0 _ T108.heap _
  exact ⟨b107, r_104, kr_105, rfl, N108, (Keep.trans (Keep.trans (Keep.trans (Keep.refl h0 []) K103 all0) K107 all0) K108 (allS (Or.inr (Nat.le_trans K103.1 (Nat.le_of_eq g107.symm))) all0)), (Nat.le_trans K103.1 (Nat.le_of_eq g107.symm)), P103_0, ⟨P108_0, P108_1, P108_2, F110, own_okdt ok⟩⟩
def Q_subMid (Z : State) (a : Addr) (bg : Nat) (n : Nat) (t : Addr) (kb : ClassId) (cs : List Int32) (cS : Int32) (fm : Value) (h0 : Heap) (n0 : Nat) (vQ_ : Option Value) (hQ_ : Heap) (LQ_ : List Loc) : Prop := ∃ r : Addr, ∃ t2 : Addr, ∃ kb2 : ClassId, vQ_ = some (.ref r) ∧ Fr n0 LQ_ ∧ Keep h0 hQ_ [] ∧ h0.size ≤ r ∧ h0.size ≤ t2 ∧ Str Z hQ_ r t2 kb2 ((cs.drop bg).take n)
set_option maxRecDepth 65536 in
set_option maxHeartbeats 40000000 in
theorem rm_subMid (l : Launch) (Z : State) (a0 : Array Value) (hw : HW a0 Z) (ws : List Jvm.Cond) (a : Addr) (bg : Nat) (n : Nat) (t : Addr) (kb : ClassId) (cs : List Int32) (cS : Int32) (fm : Value) (h0 : Heap) (n0 : Nat) (Z0 : n0 ≤ h0.size) (O0 : Old Z n0 h0) (S_cs : Sta Z Z.heap "java/lang/String" "COMPACT_STRINGS" "Z" (.int cS)) (hcS : ¬ (cS = (0 : Int32))) (S_fm : Sta Z Z.heap "jdk/internal/util/Preconditions" "SIOOBE_FORMATTER" "Ljava/util/function/BiFunction;" fm) (hfm : fm.isRef = true) (S_ad : Sta Z Z.heap "java/lang/StringUTF16" "$assertionsDisabled" "Z" (.int (1 : Int32))) (S_hi : Sta Z Z.heap "java/lang/StringUTF16" "HI_BYTE_SHIFT" "I" (.int (0 : Int32))) (S_lo : Sta Z Z.heap "java/lang/StringUTF16" "LO_BYTE_SHIFT" "I" (.int (8 : Int32))) (hS : Str Z h0 a t kb cs) (hn0 : 0 < n) (hbn : bg + n ≤ cs.length) (hnn : n < cs.length) (hcap : cs.length ≤ 4) :
    MetFree l yn35 (head1 (Jvm.Cond.code yn35 jdk_42_method_92_code 5 (some (.object "java/lang/String")) :: ws) ({ frames := 6, cells := 3, slots := 16, locals := 127 } : Room)) (fun aQ_ UQ => aQ_ = #[(.ref a), (.int (Int32.ofNat bg)), (.int (Int32.ofNat (bg + n)))] ∧ Z.Warmed39 UQ.vm ∧ UQ.heap = h0) (fun _ _ _ _ _ => True) (fun _ UQ oQ UQ' => ∃ vQ_ LQ_, oQ = .returned vQ_ ∧ Q_subMid Z a bg n t kb cs cS fm h0 n0 vQ_ UQ'.heap LQ_ ∧ FrameEnd UQ oQ UQ' LQ_ ({ frames := 6, cells := 3, slots := 16, locals := 127 } : Room).cells ({ frames := 6, cells := 3, slots := 16, locals := 127 } : Room).slots) := by
  refine MetFree.of_bodySF (plainFor_of_name pn_java_lang_String) hisR ?_
  intro p e s m args below meth cO s₁ Bd hml0 hP hK
  obtain ⟨rfl, hZ, hh⟩ := hP
  have hx := Bd.exec
  have hby := Bd.bytes
  have hml : cO.maxLocals = 5 := hml0
  have hown : s.vm.findClass "java/lang/String" = some m.cls := findClass_of_methodNamed Bd.named
  have hnm := (name_of_methodNamed Bd.named Bd.method).1
  have X0 : Stand p l e ({ frames := 6, cells := 3, slots := 16, locals := 127 } : Room) s m #[(.ref a), (.int (Int32.ofNat bg)), (.int (Int32.ofNat (bg + n)))] below meth cO s₁ [] 0 0 := Stand.of_body Bd
  have e0 : s₁.heap = h0 := by rw [← hh, Bd.state]; rfl
  have N0 := Fr.nil n0
  have W0 : ∀ zQ, SS p e below s₁ m 0 #[.val (.ref a), .val (.int (Int32.ofNat bg)), .val (.int (Int32.ofNat (bg + n))), .unset, .unset] [] zQ → Steps p.tables e below (s₁.setTop (entryFrame m #[(.ref a), (.int (Int32.ofNat bg)), (.int (Int32.ofNat (bg + n)))] 5)) zQ := fun tt kt => castTop (ef_subMid m a (Int32.ofNat bg) (Int32.ofNat (bg + n))) kt
  obtain ⟨hE, hV, hC, hA, ok⟩ := hS
  have hn9 : cs.length < 1048576 := ok.2
  obtain ⟨cq101, kq101, q101a, q101b, q101c⟩ := isOf hZ e0 hE
  obtain ⟨_, _, ⟨T101, L101, k101, n101⟩, -, X101, ⟨Lc101, hQ101, l101, y101, z101⟩, st101⟩ := X0.virtualBack hx (y := yn11) (z := yn11) hown (mvT hZ (w48 hw)) (mvT hZ (w49 hw)) (notFace_of_selects (args := #[]) (mvT hZ (w51 hw))) (mvT hZ (w51 hw)) (mvT hZ (w50 hw)) (by decide) (backOf (W := 0) (rm_length l Z a0 hw [] a t kb cs cS h0 n0 Z0 O0 S_cs hcS ⟨hE, hV, hC, hA, ok⟩) hZ (w52 hw) (w8 hw) (by decide) (by decide)) q101a q101c (g := (mkF m 1 #[.val (.ref a), .val (.int (Int32.ofNat bg)), .val (.int (Int32.ofNat (bg + n))), .unset, .unset] [(.ref a)])) rfl (by rw [hml]; rfl) (Steps.refl _) (argsL := []) (rest := []) (lenOf pd__28__29_I rfl) rfl (by show 2 * 0 + _ ≤ _; exact Nat.le_of_eq rfl) (hb hby d_jdk_42_method_92_1) (fun _ _ => ⟨rfl, e0, (Nat.le_of_ble_eq_true rfl), (Nat.le_of_ble_eq_true rfl)⟩)
  dsimp only [Pt.U, Pt.locs, Pt.cells, Pt.slots] at X101 l101 y101 z101 st101 hQ101
  subst l101 y101 z101
  obtain ⟨rfl, Nq101, eq101⟩ := hQ101
  have N101 := Fr.app N0 Nq101
  obtain ⟨_, _, ⟨T102, L102, k102, n102⟩, -, X102, ⟨Lc102, hQ102, l102, y102, z102⟩, st102⟩ := Jvm.LawKit.callS X101 hx (y := yn22) hown (mvT hZ (w58 hw)) (mvT hZ (w59 hw)) (mvT hZ (w8 hw)) (mvT hZ (w60 hw)) (by decide) (backOf (W := 0) (rm_scheckBE l Z a0 hw [] (Int32.ofNat bg) (Int32.ofNat (bg + n)) (Int32.ofNat cs.length) fm h0 n0 Z0 O0 S_fm hfm (own_nneg (by omega)) (own_nlt (by omega) (by omega)) (own_nlt (by omega) (by omega))) hZ (w60 hw) (w8 hw) (by decide) (by decide)) (g := (mkF m 8 #[.val (.ref a), .val (.int (Int32.ofNat bg)), .val (.int (Int32.ofNat (bg + n))), .val (.int (Int32.ofNat cs.length)), .unset] [(.int (Int32.ofNat cs.length)), (.int (Int32.ofNat (bg + n))), (.int (Int32.ofNat bg))])) rfl (by rw [hml]; rfl) (argsL := [(.int (Int32.ofNat bg)), (.int (Int32.ofNat (bg + n))), (.int (Int32.ofNat cs.length))]) (rest := []) (lenOf pd__28_III_29_V rfl) rfl (by show 2 * 0 + _ ≤ _; exact Nat.le_of_eq rfl) (hb hby d_jdk_42_method_92_8) (fun _ _ => ⟨rfl, eq101, (Nat.le_of_ble_eq_true rfl), (Nat.le_of_ble_eq_true rfl)⟩)
  dsimp only [Pt.U, Pt.locs, Pt.cells, Pt.slots] at X102 l102 y102 z102 st102 hQ102
  subst l102 y102 z102
  obtain ⟨rfl, Nq102, eq102⟩ := hQ102
  have N102 := Fr.app N101 Nq102
  have W103 : ∀ zQ, SS p e below T102 m 12 #[.val (.ref a), .val (.int (Int32.ofNat bg)), .val (.int (Int32.ofNat (bg + n))), .val (.int (Int32.ofNat cs.length)), .unset] [(.int (Int32.ofNat bg))] zQ → Steps p.tables e below (s₁.setTop (entryFrame m #[(.ref a), (.int (Int32.ofNat bg)), (.int (Int32.ofNat (bg + n)))] 5)) zQ := by
    intro tt kt
    refine W0 tt ?_
    refine XS.aloadN X0.here hx rfl (hb hby d_jdk_42_method_92_0) rfl rfl ?_
    show SS p e below s₁ m 1 #[.val (.ref a), .val (.int (Int32.ofNat bg)), .val (.int (Int32.ofNat (bg + n))), .unset, .unset] [(.ref a)] _
    refine st101.trans ?_
    refine XS.istoreN X101.here hx rfl (hb hby d_jdk_42_method_92_4) rfl (l' := #[.val (.ref a), .val (.int (Int32.ofNat bg)), .val (.int (Int32.ofNat (bg + n))), .val (.int (Int32.ofNat cs.length)), .unset]) rfl ?_
    refine XS.iloadN X101.here hx rfl (hb hby d_jdk_42_method_92_5) rfl ?_
    refine XS.iloadN X101.here hx rfl (hb hby d_jdk_42_method_92_6) rfl ?_
    refine XS.iloadN X101.here hx rfl (hb hby d_jdk_42_method_92_7) rfl ?_
    show SS p e below T101 m 8 #[.val (.ref a), .val (.int (Int32.ofNat bg)), .val (.int (Int32.ofNat (bg + n))), .val (.int (Int32.ofNat cs.length)), .unset] [(.int (Int32.ofNat cs.length)), (.int (Int32.ofNat (bg + n))), (.int (Int32.ofNat bg))] _
    refine st102 _ ?_
    refine XS.iloadN X102.here hx rfl (hb hby d_jdk_42_method_92_11) rfl ?_
    exact kt
  by_cases hc104 : (Int32.ofNat bg) = (0 : Int32)
  ·
    obtain ⟨cq105, kq105, q105a, q105b, q105c⟩ := isOf hZ eq102 hE
    obtain ⟨_, _, ⟨T105, L105, k105, n105⟩, -, X105, ⟨Lc105, hQ105, l105, y105, z105⟩, st105⟩ := X102.virtualBack hx (y := yn8) (z := yn8) hown (mvT hZ (w66 hw)) (mvT hZ (w67 hw)) (notFace_of_selects (args := #[]) (mvT hZ (w69 hw))) (mvT hZ (w69 hw)) (mvT hZ (w68 hw)) (by decide) (backOf (W := 0) (rm_isLatin1 l Z a0 hw [] a (cdr cs) cS h0 n0 Z0 O0 S_cs hcS hC) hZ (w70 hw) (w8 hw) (by decide) (by decide)) q105a q105c (g := (mkF m 28 #[.val (.ref a), .val (.int (Int32.ofNat bg)), .val (.int (Int32.ofNat (bg + n))), .val (.int (Int32.ofNat cs.length)), .val (.int (Int32.ofNat n))] [(.ref a)])) rfl (by rw [hml]; rfl) (Steps.refl _) (argsL := []) (rest := []) (lenOf pd__28__29_Z rfl) rfl (by show 2 * 0 + _ ≤ _; exact Nat.le_of_eq rfl) (hb hby d_jdk_42_method_92_28) (fun _ _ => ⟨rfl, eq102, (Nat.le_of_ble_eq_true rfl), (Nat.le_of_ble_eq_true rfl)⟩)
    dsimp only [Pt.U, Pt.locs, Pt.cells, Pt.slots] at X105 l105 y105 z105 st105 hQ105
    subst l105 y105 z105
    obtain ⟨rfl, Nq105, eq105⟩ := hQ105
    have N105 := Fr.app N102 Nq105
    have W106 : ∀ zQ, SS p e below T105 m 31 #[.val (.ref a), .val (.int (Int32.ofNat bg)), .val (.int (Int32.ofNat (bg + n))), .val (.int (Int32.ofNat cs.length)), .val (.int (Int32.ofNat n))] [(.int (if (cdr cs) = (0 : Int32) then (1 : Int32) else (0 : Int32)))] zQ → Steps p.tables e below (s₁.setTop (entryFrame m #[(.ref a), (.int (Int32.ofNat bg)), (.int (Int32.ofNat (bg + n)))] 5)) zQ := by
      intro tt kt
      refine W103 tt ?_
      refine XS.ifNo X102.here hx rfl (hb hby d_jdk_42_method_92_12) rfl ((if0 _ _).trans (teq hc104).2) ?_
      refine XS.iloadN X102.here hx rfl (hb hby d_jdk_42_method_92_15) rfl ?_
      refine XS.iloadN X102.here hx rfl (hb hby d_jdk_42_method_92_16) rfl ?_
      refine XS.icmpYes X102.here hx rfl (pc0 := 17) (pc' := 22) rfl (hb hby d_jdk_42_method_92_17) rfl (feq (own_neq (by have := own_zero (by omega) hc104; omega) (by omega) (by omega))).2 (by decide) (by decide) ?_
      refine XS.iloadN X102.here hx rfl (hb hby d_jdk_42_method_92_22) rfl ?_
      refine XS.iloadN X102.here hx rfl (hb hby d_jdk_42_method_92_23) rfl ?_
      show SS p e below T102 m 24 #[.val (.ref a), .val (.int (Int32.ofNat bg)), .val (.int (Int32.ofNat (bg + n))), .val (.int (Int32.ofNat cs.length)), .unset] [(.int (Int32.ofNat bg)), (.int (Int32.ofNat (bg + n)))] _
      refine XS.isub X102.here hx rfl (hb hby d_jdk_42_method_92_24) rfl ?_
      show SS p e below T102 m 25 #[.val (.ref a), .val (.int (Int32.ofNat bg)), .val (.int (Int32.ofNat (bg + n))), .val (.int (Int32.ofNat cs.length)), .unset] [(.int ((Int32.ofNat (bg + n)) - (Int32.ofNat bg)))] _
      rw [show ((Int32.ofNat (bg + n)) - (Int32.ofNat bg)) = (Int32.ofNat n) from (by rw [own_sub (by omega) (by omega)]; congr 1; omega)]
      refine XS.istore X102.here hx rfl (hb hby d_jdk_42_method_92_25) rfl (l' := #[.val (.ref a), .val (.int (Int32.ofNat bg)), .val (.int (Int32.ofNat (bg + n))), .val (.int (Int32.ofNat cs.length)), .val (.int (Int32.ofNat n))]) rfl ?_
      refine XS.aloadN X102.here hx rfl (hb hby d_jdk_42_method_92_27) rfl rfl ?_
      show SS p e below T102 m 28 #[.val (.ref a), .val (.int (Int32.ofNat bg)), .val (.int (Int32.ofNat (bg + n))), .val (.int (Int32.ofNat cs.length)), .val (.int (Int32.ofNat n))] [(.ref a)] _
      refine st105.trans ?_
      exact kt
    by_cases hc107 : (cdr cs) = (0 : Int32)
    ·
      have hl := cdr_lat hc107
      have hA108 : Arv Z h0 t kb .byte (Int32.ofNat cs.length) (l1 cs) (.int (0 : Int32)) := by have q := enc_lat hl; rw [← q.1, ← q.2.1]; exact hA
      obtain ⟨T109, X109, e109, st109⟩ := getF X105 hx hZ hown (host := "") (Or.inl (w33 hw)) Via.refl eq105 hV (g := (mkF m 35 #[.val (.ref a), .val (.int (Int32.ofNat bg)), .val (.int (Int32.ofNat (bg + n))), .val (.int (Int32.ofNat cs.length)), .val (.int (Int32.ofNat n))] [(.ref a)])) rfl rfl (hb hby d_jdk_42_method_92_35)
      obtain ⟨_, _, ⟨T110, L110, k110, n110⟩, -, X110, ⟨Lc110, hQ110, l110, y110, z110⟩, st110⟩ := Jvm.LawKit.callS X109 hx (y := yn31) hown (mvT hZ (w71 hw)) (mvT hZ (w72 hw)) (mvT hZ (w73 hw)) (mvT hZ (w74 hw)) (by decide) (backOf (W := 0) (rm_l1new l Z a0 hw [] t bg n kb cs h0 n0 Z0 hA108 hl hn0 hbn hnn ok hcap) hZ (w74 hw) (w73 hw) (by decide) (by decide)) (g := (mkF m 41 #[.val (.ref a), .val (.int (Int32.ofNat bg)), .val (.int (Int32.ofNat (bg + n))), .val (.int (Int32.ofNat cs.length)), .val (.int (Int32.ofNat n))] [(.int (Int32.ofNat n)), (.int (Int32.ofNat bg)), (.ref t)])) rfl (by rw [hml]; rfl) (argsL := [(.ref t), (.int (Int32.ofNat bg)), (.int (Int32.ofNat n))]) (rest := []) (lenOf pd__28__5b_BII_29_Ljava_2f_lang_2f_String_3b_ rfl) rfl (by show 2 * 0 + _ ≤ _; exact Nat.le_of_eq rfl) (hb hby d_jdk_42_method_92_41) (fun _ _ => ⟨rfl, e109, (Nat.le_of_ble_eq_true rfl), (Nat.le_of_ble_eq_true rfl)⟩)
      dsimp only [Pt.U, Pt.locs, Pt.cells, Pt.slots] at X110 l110 y110 z110 st110 hQ110
      subst l110 y110 z110
      obtain ⟨r_111, t2_112, kb2_113, rfl, Nq110, K110, P110_0, P110_1, P110_2⟩ := hQ110
      have N110 := Fr.app N105 Nq110
      have W114 : ∀ zQ, SS p e below T110 m 57 #[.val (.ref a), .val (.int (Int32.ofNat bg)), .val (.int (Int32.ofNat (bg + n))), .val (.int (Int32.ofNat cs.length)), .val (.int (Int32.ofNat n))] [(.ref r_111)] zQ → Steps p.tables e below (s₁.setTop (entryFrame m #[(.ref a), (.int (Int32.ofNat bg)), (.int (Int32.ofNat (bg + n)))] 5)) zQ := by
        intro tt kt
        refine W106 tt ?_
        rw [show (if (cdr cs) = (0 : Int32) then (1 : Int32) else (0 : Int32)) = (1 : Int32) from if_pos hc107]
        refine XS.ifNo X105.here hx rfl (hb hby d_jdk_42_method_92_31) rfl ((if0 _ _).trans (feq (by decide)).1) ?_
        refine XS.aloadN X105.here hx rfl (hb hby d_jdk_42_method_92_34) rfl rfl ?_
        show SS p e below T105 m 35 #[.val (.ref a), .val (.int (Int32.ofNat bg)), .val (.int (Int32.ofNat (bg + n))), .val (.int (Int32.ofNat cs.length)), .val (.int (Int32.ofNat n))] [(.ref a)] _
        refine st109 _ ?_
        refine XS.iloadN X109.here hx rfl (hb hby d_jdk_42_method_92_38) rfl ?_
        refine XS.iload X109.here hx rfl (hb hby d_jdk_42_method_92_39) rfl ?_
        show SS p e below T109 m 41 #[.val (.ref a), .val (.int (Int32.ofNat bg)), .val (.int (Int32.ofNat (bg + n))), .val (.int (Int32.ofNat cs.length)), .val (.int (Int32.ofNat n))] [(.int (Int32.ofNat n)), (.int (Int32.ofNat bg)), (.ref t)] _
        refine st110 _ ?_
        refine XS.goto X110.here hx rfl (pc0 := 44) (pc' := 57) rfl (hb hby d_jdk_42_method_92_44) (by decide) (by decide) ?_
        exact kt
      obtain ⟨fs, hr, hrun, hended, hW, hsame⟩ := X110.leave (v := some (.ref r_111)) (fun h => by rw [Bd.returns] at h; cases h)
      refine ⟨_, _, W114 _ (own_retR X110 hx Bd.returns rfl rfl (hb hby d_jdk_42_method_92_57) hr), hrun, hended, _, _, rfl, ?_, ⟨_, rfl⟩, hW, hsame.mono (by decide) (by decide)⟩
      show Q_subMid Z a bg n t kb cs cS fm h0 n0 _ T110.heap _
      exact ⟨r_111, t2_112, kb2_113, rfl, N110, (Keep.trans (Keep.refl h0 []) K110 all0), P110_0, P110_1, P110_2⟩
    ·
      have hl := cdr_nlat hc107
      have hA115 : Arv Z h0 t kb .byte (Int32.ofNat (2 * cs.length)) (u16 cs) (.int (0 : Int32)) := by have q := enc_nlat hl; rw [← q.1, ← q.2.1]; exact hA
      obtain ⟨T116, X116, e116, st116⟩ := getF X105 hx hZ hown (host := "") (Or.inl (w33 hw)) Via.refl eq105 hV (g := (mkF m 48 #[.val (.ref a), .val (.int (Int32.ofNat bg)), .val (.int (Int32.ofNat (bg + n))), .val (.int (Int32.ofNat cs.length)), .val (.int (Int32.ofNat n))] [(.ref a)])) rfl rfl (hb hby d_jdk_42_method_92_48)
      obtain ⟨_, _, ⟨T117, L117, k117, n117⟩, -, X117, ⟨Lc117, hQ117, l117, y117, z117⟩, st117⟩ := Jvm.LawKit.callS X116 hx (y := yn34) hown (mvT hZ (w172 hw)) (mvT hZ (w173 hw)) (mvT hZ (w22 hw)) (mvT hZ (w174 hw)) (by decide) (backOf (W := 0) (rm_u16new l Z a0 hw [] t bg n kb cs cS fm h0 n0 Z0 O0 S_cs hcS S_fm hfm S_ad S_hi S_lo hA115 hn0 hbn hnn ok hcap) hZ (w174 hw) (w22 hw) (by decide) (by decide)) (g := (mkF m 54 #[.val (.ref a), .val (.int (Int32.ofNat bg)), .val (.int (Int32.ofNat (bg + n))), .val (.int (Int32.ofNat cs.length)), .val (.int (Int32.ofNat n))] [(.int (Int32.ofNat n)), (.int (Int32.ofNat bg)), (.ref t)])) rfl (by rw [hml]; rfl) (argsL := [(.ref t), (.int (Int32.ofNat bg)), (.int (Int32.ofNat n))]) (rest := []) (lenOf pd__28__5b_BII_29_Ljava_2f_lang_2f_String_3b_ rfl) rfl (by show 2 * 0 + _ ≤ _; exact Nat.le_of_eq rfl) (hb hby d_jdk_42_method_92_54) (fun _ _ => ⟨rfl, e116, (Nat.le_of_ble_eq_true rfl), (Nat.le_of_ble_eq_true rfl)⟩)
      dsimp only [Pt.U, Pt.locs, Pt.cells, Pt.slots] at X117 l117 y117 z117 st117 hQ117
      subst l117 y117 z117
      obtain ⟨r_118, t2_119, kb2_120, rfl, Nq117, K117, P117_0, P117_1, P117_2⟩ := hQ117
      have N117 := Fr.app N105 Nq117
      have W121 : ∀ zQ, SS p e below T117 m 57 #[.val (.ref a), .val (.int (Int32.ofNat bg)), .val (.int (Int32.ofNat (bg + n))), .val (.int (Int32.ofNat cs.length)), .val (.int (Int32.ofNat n))] [(.ref r_118)] zQ → Steps p.tables e below (s₁.setTop (entryFrame m #[(.ref a), (.int (Int32.ofNat bg)), (.int (Int32.ofNat (bg + n)))] 5)) zQ := by
        intro tt kt
        refine W106 tt ?_
        rw [show (if (cdr cs) = (0 : Int32) then (1 : Int32) else (0 : Int32)) = (0 : Int32) from if_neg hc107]
        refine XS.ifYes X105.here hx rfl (pc0 := 31) (pc' := 47) rfl (hb hby d_jdk_42_method_92_31) rfl ((if0 _ _).trans (teq (by decide)).1) (by decide) (by decide) ?_
        refine XS.aloadN X105.here hx rfl (hb hby d_jdk_42_method_92_47) rfl rfl ?_
        show SS p e below T105 m 48 #[.val (.ref a), .val (.int (Int32.ofNat bg)), .val (.int (Int32.ofNat (bg + n))), .val (.int (Int32.ofNat cs.length)), .val (.int (Int32.ofNat n))] [(.ref a)] _
        refine st116 _ ?_
        refine XS.iloadN X116.here hx rfl (hb hby d_jdk_42_method_92_51) rfl ?_
        refine XS.iload X116.here hx rfl (hb hby d_jdk_42_method_92_52) rfl ?_
        show SS p e below T116 m 54 #[.val (.ref a), .val (.int (Int32.ofNat bg)), .val (.int (Int32.ofNat (bg + n))), .val (.int (Int32.ofNat cs.length)), .val (.int (Int32.ofNat n))] [(.int (Int32.ofNat n)), (.int (Int32.ofNat bg)), (.ref t)] _
        refine st117 _ ?_
        exact kt
      obtain ⟨fs, hr, hrun, hended, hW, hsame⟩ := X117.leave (v := some (.ref r_118)) (fun h => by rw [Bd.returns] at h; cases h)
      refine ⟨_, _, W121 _ (own_retR X117 hx Bd.returns rfl rfl (hb hby d_jdk_42_method_92_57) hr), hrun, hended, _, _, rfl, ?_, ⟨_, rfl⟩, hW, hsame.mono (by decide) (by decide)⟩
      show Q_subMid Z a bg n t kb cs cS fm h0 n0 _ T117.heap _
      exact ⟨r_118, t2_119, kb2_120, rfl, N117, (Keep.trans (Keep.refl h0 []) K117 all0), P117_0, P117_1, P117_2⟩
  ·
    obtain ⟨cq122, kq122, q122a, q122b, q122c⟩ := isOf hZ eq102 hE
    obtain ⟨_, _, ⟨T122, L122, k122, n122⟩, -, X122, ⟨Lc122, hQ122, l122, y122, z122⟩, st122⟩ := X102.virtualBack hx (y := yn8) (z := yn8) hown (mvT hZ (w66 hw)) (mvT hZ (w67 hw)) (notFace_of_selects (args := #[]) (mvT hZ (w69 hw))) (mvT hZ (w69 hw)) (mvT hZ (w68 hw)) (by decide) (backOf (W := 0) (rm_isLatin1 l Z a0 hw [] a (cdr cs) cS h0 n0 Z0 O0 S_cs hcS hC) hZ (w70 hw) (w8 hw) (by decide) (by decide)) q122a q122c (g := (mkF m 28 #[.val (.ref a), .val (.int (Int32.ofNat bg)), .val (.int (Int32.ofNat (bg + n))), .val (.int (Int32.ofNat cs.length)), .val (.int (Int32.ofNat n))] [(.ref a)])) rfl (by rw [hml]; rfl) (Steps.refl _) (argsL := []) (rest := []) (lenOf pd__28__29_Z rfl) rfl (by show 2 * 0 + _ ≤ _; exact Nat.le_of_eq rfl) (hb hby d_jdk_42_method_92_28) (fun _ _ => ⟨rfl, eq102, (Nat.le_of_ble_eq_true rfl), (Nat.le_of_ble_eq_true rfl)⟩)
    dsimp only [Pt.U, Pt.locs, Pt.cells, Pt.slots] at X122 l122 y122 z122 st122 hQ122
    subst l122 y122 z122
    obtain ⟨rfl, Nq122, eq122⟩ := hQ122
    have N122 := Fr.app N102 Nq122
    have W123 : ∀ zQ, SS p e below T122 m 31 #[.val (.ref a), .val (.int (Int32.ofNat bg)), .val (.int (Int32.ofNat (bg + n))), .val (.int (Int32.ofNat cs.length)), .val (.int (Int32.ofNat n))] [(.int (if (cdr cs) = (0 : Int32) then (1 : Int32) else (0 : Int32)))] zQ → Steps p.tables e below (s₁.setTop (entryFrame m #[(.ref a), (.int (Int32.ofNat bg)), (.int (Int32.ofNat (bg + n)))] 5)) zQ := by
      intro tt kt
      refine W103 tt ?_
      refine XS.ifYes X102.here hx rfl (pc0 := 12) (pc' := 22) rfl (hb hby d_jdk_42_method_92_12) rfl ((if0 _ _).trans (feq hc104).2) (by decide) (by decide) ?_
      refine XS.iloadN X102.here hx rfl (hb hby d_jdk_42_method_92_22) rfl ?_
      refine XS.iloadN X102.here hx rfl (hb hby d_jdk_42_method_92_23) rfl ?_
      refine XS.isub X102.here hx rfl (hb hby d_jdk_42_method_92_24) rfl ?_
      show SS p e below T102 m 25 #[.val (.ref a), .val (.int (Int32.ofNat bg)), .val (.int (Int32.ofNat (bg + n))), .val (.int (Int32.ofNat cs.length)), .unset] [(.int ((Int32.ofNat (bg + n)) - (Int32.ofNat bg)))] _
      rw [show ((Int32.ofNat (bg + n)) - (Int32.ofNat bg)) = (Int32.ofNat n) from (by rw [own_sub (by omega) (by omega)]; congr 1; omega)]
      refine XS.istore X102.here hx rfl (hb hby d_jdk_42_method_92_25) rfl (l' := #[.val (.ref a), .val (.int (Int32.ofNat bg)), .val (.int (Int32.ofNat (bg + n))), .val (.int (Int32.ofNat cs.length)), .val (.int (Int32.ofNat n))]) rfl ?_
      refine XS.aloadN X102.here hx rfl (hb hby d_jdk_42_method_92_27) rfl rfl ?_
      show SS p e below T102 m 28 #[.val (.ref a), .val (.int (Int32.ofNat bg)), .val (.int (Int32.ofNat (bg + n))), .val (.int (Int32.ofNat cs.length)), .val (.int (Int32.ofNat n))] [(.ref a)] _
      refine st122.trans ?_
      exact kt
    by_cases hc124 : (cdr cs) = (0 : Int32)
    ·
      have hl := cdr_lat hc124
      have hA125 : Arv Z h0 t kb .byte (Int32.ofNat cs.length) (l1 cs) (.int (0 : Int32)) := by have q := enc_lat hl; rw [← q.1, ← q.2.1]; exact hA
      obtain ⟨T126, X126, e126, st126⟩ := getF X122 hx hZ hown (host := "") (Or.inl (w33 hw)) Via.refl eq122 hV (g := (mkF m 35 #[.val (.ref a), .val (.int (Int32.ofNat bg)), .val (.int (Int32.ofNat (bg + n))), .val (.int (Int32.ofNat cs.length)), .val (.int (Int32.ofNat n))] [(.ref a)])) rfl rfl (hb hby d_jdk_42_method_92_35)
      obtain ⟨_, _, ⟨T127, L127, k127, n127⟩, -, X127, ⟨Lc127, hQ127, l127, y127, z127⟩, st127⟩ := Jvm.LawKit.callS X126 hx (y := yn31) hown (mvT hZ (w71 hw)) (mvT hZ (w72 hw)) (mvT hZ (w73 hw)) (mvT hZ (w74 hw)) (by decide) (backOf (W := 0) (rm_l1new l Z a0 hw [] t bg n kb cs h0 n0 Z0 hA125 hl hn0 hbn hnn ok hcap) hZ (w74 hw) (w73 hw) (by decide) (by decide)) (g := (mkF m 41 #[.val (.ref a), .val (.int (Int32.ofNat bg)), .val (.int (Int32.ofNat (bg + n))), .val (.int (Int32.ofNat cs.length)), .val (.int (Int32.ofNat n))] [(.int (Int32.ofNat n)), (.int (Int32.ofNat bg)), (.ref t)])) rfl (by rw [hml]; rfl) (argsL := [(.ref t), (.int (Int32.ofNat bg)), (.int (Int32.ofNat n))]) (rest := []) (lenOf pd__28__5b_BII_29_Ljava_2f_lang_2f_String_3b_ rfl) rfl (by show 2 * 0 + _ ≤ _; exact Nat.le_of_eq rfl) (hb hby d_jdk_42_method_92_41) (fun _ _ => ⟨rfl, e126, (Nat.le_of_ble_eq_true rfl), (Nat.le_of_ble_eq_true rfl)⟩)
      dsimp only [Pt.U, Pt.locs, Pt.cells, Pt.slots] at X127 l127 y127 z127 st127 hQ127
      subst l127 y127 z127
      obtain ⟨r_128, t2_129, kb2_130, rfl, Nq127, K127, P127_0, P127_1, P127_2⟩ := hQ127
      have N127 := Fr.app N122 Nq127
      have W131 : ∀ zQ, SS p e below T127 m 57 #[.val (.ref a), .val (.int (Int32.ofNat bg)), .val (.int (Int32.ofNat (bg + n))), .val (.int (Int32.ofNat cs.length)), .val (.int (Int32.ofNat n))] [(.ref r_128)] zQ → Steps p.tables e below (s₁.setTop (entryFrame m #[(.ref a), (.int (Int32.ofNat bg)), (.int (Int32.ofNat (bg + n)))] 5)) zQ := by
        intro tt kt
        refine W123 tt ?_
        rw [show (if (cdr cs) = (0 : Int32) then (1 : Int32) else (0 : Int32)) = (1 : Int32) from if_pos hc124]
        refine XS.ifNo X122.here hx rfl (hb hby d_jdk_42_method_92_31) rfl ((if0 _ _).trans (feq (by decide)).1) ?_
        refine XS.aloadN X122.here hx rfl (hb hby d_jdk_42_method_92_34) rfl rfl ?_
        show SS p e below T122 m 35 #[.val (.ref a), .val (.int (Int32.ofNat bg)), .val (.int (Int32.ofNat (bg + n))), .val (.int (Int32.ofNat cs.length)), .val (.int (Int32.ofNat n))] [(.ref a)] _
        refine st126 _ ?_
        refine XS.iloadN X126.here hx rfl (hb hby d_jdk_42_method_92_38) rfl ?_
        refine XS.iload X126.here hx rfl (hb hby d_jdk_42_method_92_39) rfl ?_
        show SS p e below T126 m 41 #[.val (.ref a), .val (.int (Int32.ofNat bg)), .val (.int (Int32.ofNat (bg + n))), .val (.int (Int32.ofNat cs.length)), .val (.int (Int32.ofNat n))] [(.int (Int32.ofNat n)), (.int (Int32.ofNat bg)), (.ref t)] _
        refine st127 _ ?_
        refine XS.goto X127.here hx rfl (pc0 := 44) (pc' := 57) rfl (hb hby d_jdk_42_method_92_44) (by decide) (by decide) ?_
        exact kt
      obtain ⟨fs, hr, hrun, hended, hW, hsame⟩ := X127.leave (v := some (.ref r_128)) (fun h => by rw [Bd.returns] at h; cases h)
      refine ⟨_, _, W131 _ (own_retR X127 hx Bd.returns rfl rfl (hb hby d_jdk_42_method_92_57) hr), hrun, hended, _, _, rfl, ?_, ⟨_, rfl⟩, hW, hsame.mono (by decide) (by decide)⟩
      show Q_subMid Z a bg n t kb cs cS fm h0 n0 _ T127.heap _
      exact ⟨r_128, t2_129, kb2_130, rfl, N127, (Keep.trans (Keep.refl h0 []) K127 all0), P127_0, P127_1, P127_2⟩
    ·
      have hl := cdr_nlat hc124
      have hA132 : Arv Z h0 t kb .byte (Int32.ofNat (2 * cs.length)) (u16 cs) (.int (0 : Int32)) := by have q := enc_nlat hl; rw [← q.1, ← q.2.1]; exact hA
      obtain ⟨T133, X133, e133, st133⟩ := getF X122 hx hZ hown (host := "") (Or.inl (w33 hw)) Via.refl eq122 hV (g := (mkF m 48 #[.val (.ref a), .val (.int (Int32.ofNat bg)), .val (.int (Int32.ofNat (bg + n))), .val (.int (Int32.ofNat cs.length)), .val (.int (Int32.ofNat n))] [(.ref a)])) rfl rfl (hb hby d_jdk_42_method_92_48)
      obtain ⟨_, _, ⟨T134, L134, k134, n134⟩, -, X134, ⟨Lc134, hQ134, l134, y134, z134⟩, st134⟩ := Jvm.LawKit.callS X133 hx (y := yn34) hown (mvT hZ (w172 hw)) (mvT hZ (w173 hw)) (mvT hZ (w22 hw)) (mvT hZ (w174 hw)) (by decide) (backOf (W := 0) (rm_u16new l Z a0 hw [] t bg n kb cs cS fm h0 n0 Z0 O0 S_cs hcS S_fm hfm S_ad S_hi S_lo hA132 hn0 hbn hnn ok hcap) hZ (w174 hw) (w22 hw) (by decide) (by decide)) (g := (mkF m 54 #[.val (.ref a), .val (.int (Int32.ofNat bg)), .val (.int (Int32.ofNat (bg + n))), .val (.int (Int32.ofNat cs.length)), .val (.int (Int32.ofNat n))] [(.int (Int32.ofNat n)), (.int (Int32.ofNat bg)), (.ref t)])) rfl (by rw [hml]; rfl) (argsL := [(.ref t), (.int (Int32.ofNat bg)), (.int (Int32.ofNat n))]) (rest := []) (lenOf pd__28__5b_BII_29_Ljava_2f_lang_2f_String_3b_ rfl) rfl (by show 2 * 0 + _ ≤ _; exact Nat.le_of_eq rfl) (hb hby d_jdk_42_method_92_54) (fun _ _ => ⟨rfl, e133, (Nat.le_of_ble_eq_true rfl), (Nat.le_of_ble_eq_true rfl)⟩)
      dsimp only [Pt.U, Pt.locs, Pt.cells, Pt.slots] at X134 l134 y134 z134 st134 hQ134
      subst l134 y134 z134
      obtain ⟨r_135, t2_136, kb2_137, rfl, Nq134, K134, P134_0, P134_1, P134_2⟩ := hQ134
      have N134 := Fr.app N122 Nq134
      have W138 : ∀ zQ, SS p e below T134 m 57 #[.val (.ref a), .val (.int (Int32.ofNat bg)), .val (.int (Int32.ofNat (bg + n))), .val (.int (Int32.ofNat cs.length)), .val (.int (Int32.ofNat n))] [(.ref r_135)] zQ → Steps p.tables e below (s₁.setTop (entryFrame m #[(.ref a), (.int (Int32.ofNat bg)), (.int (Int32.ofNat (bg + n)))] 5)) zQ := by
        intro tt kt
        refine W123 tt ?_
        rw [show (if (cdr cs) = (0 : Int32) then (1 : Int32) else (0 : Int32)) = (0 : Int32) from if_neg hc124]
        refine XS.ifYes X122.here hx rfl (pc0 := 31) (pc' := 47) rfl (hb hby d_jdk_42_method_92_31) rfl ((if0 _ _).trans (teq (by decide)).1) (by decide) (by decide) ?_
        refine XS.aloadN X122.here hx rfl (hb hby d_jdk_42_method_92_47) rfl rfl ?_
        show SS p e below T122 m 48 #[.val (.ref a), .val (.int (Int32.ofNat bg)), .val (.int (Int32.ofNat (bg + n))), .val (.int (Int32.ofNat cs.length)), .val (.int (Int32.ofNat n))] [(.ref a)] _
        refine st133 _ ?_
        refine XS.iloadN X133.here hx rfl (hb hby d_jdk_42_method_92_51) rfl ?_
        refine XS.iload X133.here hx rfl (hb hby d_jdk_42_method_92_52) rfl ?_
        show SS p e below T133 m 54 #[.val (.ref a), .val (.int (Int32.ofNat bg)), .val (.int (Int32.ofNat (bg + n))), .val (.int (Int32.ofNat cs.length)), .val (.int (Int32.ofNat n))] [(.int (Int32.ofNat n)), (.int (Int32.ofNat bg)), (.ref t)] _
        refine st134 _ ?_
        exact kt
      obtain ⟨fs, hr, hrun, hended, hW, hsame⟩ := X134.leave (v := some (.ref r_135)) (fun h => by rw [Bd.returns] at h; cases h)
      refine ⟨_, _, W138 _ (own_retR X134 hx Bd.returns rfl rfl (hb hby d_jdk_42_method_92_57) hr), hrun, hended, _, _, rfl, ?_, ⟨_, rfl⟩, hW, hsame.mono (by decide) (by decide)⟩
      show Q_subMid Z a bg n t kb cs cS fm h0 n0 _ T134.heap _
      exact ⟨r_135, t2_136, kb2_137, rfl, N134, (Keep.trans (Keep.refl h0 []) K134 all0), P134_0, P134_1, P134_2⟩
def Q_subAll (Z : State) (a : Addr) (t : Addr) (kb : ClassId) (cs : List Int32) (cS : Int32) (fm : Value) (h0 : Heap) (n0 : Nat) (vQ_ : Option Value) (hQ_ : Heap) (LQ_ : List Loc) : Prop := vQ_ = some (.ref a) ∧ Fr n0 LQ_ ∧ hQ_ = h0
set_option maxRecDepth 65536 in
set_option maxHeartbeats 40000000 in
theorem rm_subAll (l : Launch) (Z : State) (a0 : Array Value) (hw : HW a0 Z) (ws : List Jvm.Cond) (a : Addr) (t : Addr) (kb : ClassId) (cs : List Int32) (cS : Int32) (fm : Value) (h0 : Heap) (n0 : Nat) (Z0 : n0 ≤ h0.size) (O0 : Old Z n0 h0) (S_cs : Sta Z Z.heap "java/lang/String" "COMPACT_STRINGS" "Z" (.int cS)) (hcS : ¬ (cS = (0 : Int32))) (S_fm : Sta Z Z.heap "jdk/internal/util/Preconditions" "SIOOBE_FORMATTER" "Ljava/util/function/BiFunction;" fm) (hfm : fm.isRef = true) (hS : Str Z h0 a t kb cs) :
    MetFree l yn35 (head1 (Jvm.Cond.code yn35 jdk_42_method_92_code 5 (some (.object "java/lang/String")) :: ws) ({ frames := 2, cells := 0, slots := 0, locals := 29 } : Room)) (fun aQ_ UQ => aQ_ = #[(.ref a), (.int (0 : Int32)), (.int (Int32.ofNat cs.length))] ∧ Z.Warmed39 UQ.vm ∧ UQ.heap = h0) (fun _ _ _ _ _ => True) (fun _ UQ oQ UQ' => ∃ vQ_ LQ_, oQ = .returned vQ_ ∧ Q_subAll Z a t kb cs cS fm h0 n0 vQ_ UQ'.heap LQ_ ∧ FrameEnd UQ oQ UQ' LQ_ ({ frames := 2, cells := 0, slots := 0, locals := 29 } : Room).cells ({ frames := 2, cells := 0, slots := 0, locals := 29 } : Room).slots) := by
  refine MetFree.of_bodySF (plainFor_of_name pn_java_lang_String) hisR ?_
  intro p e s m args below meth cO s₁ Bd hml0 hP hK
  obtain ⟨rfl, hZ, hh⟩ := hP
  have hx := Bd.exec
  have hby := Bd.bytes
  have hml : cO.maxLocals = 5 := hml0
  have hown : s.vm.findClass "java/lang/String" = some m.cls := findClass_of_methodNamed Bd.named
  have hnm := (name_of_methodNamed Bd.named Bd.method).1
  have X0 : Stand p l e ({ frames := 2, cells := 0, slots := 0, locals := 29 } : Room) s m #[(.ref a), (.int (0 : Int32)), (.int (Int32.ofNat cs.length))] below meth cO s₁ [] 0 0 := Stand.of_body Bd
  have e0 : s₁.heap = h0 := by rw [← hh, Bd.state]; rfl
  have N0 := Fr.nil n0
  have W0 : ∀ zQ, SS p e below s₁ m 0 #[.val (.ref a), .val (.int (0 : Int32)), .val (.int (Int32.ofNat cs.length)), .unset, .unset] [] zQ → Steps p.tables e below (s₁.setTop (entryFrame m #[(.ref a), (.int (0 : Int32)), (.int (Int32.ofNat cs.length))] 5)) zQ := fun tt kt => castTop (ef_subAll m a (0 : Int32) (Int32.ofNat cs.length)) kt
  obtain ⟨hE, hV, hC, hA, ok⟩ := hS
  have hn9 : cs.length < 1048576 := ok.2
  obtain ⟨cq101, kq101, q101a, q101b, q101c⟩ := isOf hZ e0 hE
  obtain ⟨_, _, ⟨T101, L101, k101, n101⟩, -, X101, ⟨Lc101, hQ101, l101, y101, z101⟩, st101⟩ := X0.virtualBack hx (y := yn11) (z := yn11) hown (mvT hZ (w48 hw)) (mvT hZ (w49 hw)) (notFace_of_selects (args := #[]) (mvT hZ (w51 hw))) (mvT hZ (w51 hw)) (mvT hZ (w50 hw)) (by decide) (backOf (W := 0) (rm_length l Z a0 hw [] a t kb cs cS h0 n0 Z0 O0 S_cs hcS ⟨hE, hV, hC, hA, ok⟩) hZ (w52 hw) (w8 hw) (by decide) (by decide)) q101a q101c (g := (mkF m 1 #[.val (.ref a), .val (.int (0 : Int32)), .val (.int (Int32.ofNat cs.length)), .unset, .unset] [(.ref a)])) rfl (by rw [hml]; rfl) (Steps.refl _) (argsL := []) (rest := []) (lenOf pd__28__29_I rfl) rfl (by show 2 * 0 + _ ≤ _; exact Nat.le_of_eq rfl) (hb hby d_jdk_42_method_92_1) (fun _ _ => ⟨rfl, e0, (Nat.le_of_ble_eq_true rfl), (Nat.le_of_ble_eq_true rfl)⟩)
  dsimp only [Pt.U, Pt.locs, Pt.cells, Pt.slots] at X101 l101 y101 z101 st101 hQ101
  subst l101 y101 z101
  obtain ⟨rfl, Nq101, eq101⟩ := hQ101
  have N101 := Fr.app N0 Nq101
  obtain ⟨_, _, ⟨T102, L102, k102, n102⟩, -, X102, ⟨Lc102, hQ102, l102, y102, z102⟩, st102⟩ := Jvm.LawKit.callS X101 hx (y := yn22) hown (mvT hZ (w58 hw)) (mvT hZ (w59 hw)) (mvT hZ (w8 hw)) (mvT hZ (w60 hw)) (by decide) (backOf (W := 0) (rm_scheckBE l Z a0 hw [] (0 : Int32) (Int32.ofNat cs.length) (Int32.ofNat cs.length) fm h0 n0 Z0 O0 S_fm hfm (by decide) (own_nneg (by omega)) (own_nlt (by omega) (by omega))) hZ (w60 hw) (w8 hw) (by decide) (by decide)) (g := (mkF m 8 #[.val (.ref a), .val (.int (0 : Int32)), .val (.int (Int32.ofNat cs.length)), .val (.int (Int32.ofNat cs.length)), .unset] [(.int (Int32.ofNat cs.length)), (.int (Int32.ofNat cs.length)), (.int (0 : Int32))])) rfl (by rw [hml]; rfl) (argsL := [(.int (0 : Int32)), (.int (Int32.ofNat cs.length)), (.int (Int32.ofNat cs.length))]) (rest := []) (lenOf pd__28_III_29_V rfl) rfl (by show 2 * 0 + _ ≤ _; exact Nat.le_of_eq rfl) (hb hby d_jdk_42_method_92_8) (fun _ _ => ⟨rfl, eq101, (Nat.le_of_ble_eq_true rfl), (Nat.le_of_ble_eq_true rfl)⟩)
  dsimp only [Pt.U, Pt.locs, Pt.cells, Pt.slots] at X102 l102 y102 z102 st102 hQ102
  subst l102 y102 z102
  obtain ⟨rfl, Nq102, eq102⟩ := hQ102
  have N102 := Fr.app N101 Nq102
  have W103 : ∀ zQ, SS p e below T102 m 21 #[.val (.ref a), .val (.int (0 : Int32)), .val (.int (Int32.ofNat cs.length)), .val (.int (Int32.ofNat cs.length)), .unset] [(.ref a)] zQ → Steps p.tables e below (s₁.setTop (entryFrame m #[(.ref a), (.int (0 : Int32)), (.int (Int32.ofNat cs.length))] 5)) zQ := by
    intro tt kt
    refine W0 tt ?_
    refine XS.aloadN X0.here hx rfl (hb hby d_jdk_42_method_92_0) rfl rfl ?_
    show SS p e below s₁ m 1 #[.val (.ref a), .val (.int (0 : Int32)), .val (.int (Int32.ofNat cs.length)), .unset, .unset] [(.ref a)] _
    refine st101.trans ?_
    refine XS.istoreN X101.here hx rfl (hb hby d_jdk_42_method_92_4) rfl (l' := #[.val (.ref a), .val (.int (0 : Int32)), .val (.int (Int32.ofNat cs.length)), .val (.int (Int32.ofNat cs.length)), .unset]) rfl ?_
    refine XS.iloadN X101.here hx rfl (hb hby d_jdk_42_method_92_5) rfl ?_
    refine XS.iloadN X101.here hx rfl (hb hby d_jdk_42_method_92_6) rfl ?_
    refine XS.iloadN X101.here hx rfl (hb hby d_jdk_42_method_92_7) rfl ?_
    show SS p e below T101 m 8 #[.val (.ref a), .val (.int (0 : Int32)), .val (.int (Int32.ofNat cs.length)), .val (.int (Int32.ofNat cs.length)), .unset] [(.int (Int32.ofNat cs.length)), (.int (Int32.ofNat cs.length)), (.int (0 : Int32))] _
    refine st102 _ ?_
    refine XS.iloadN X102.here hx rfl (hb hby d_jdk_42_method_92_11) rfl ?_
    refine XS.ifNo X102.here hx rfl (hb hby d_jdk_42_method_92_12) rfl ((if0 _ _).trans (teq (by decide)).2) ?_
    refine XS.iloadN X102.here hx rfl (hb hby d_jdk_42_method_92_15) rfl ?_
    refine XS.iloadN X102.here hx rfl (hb hby d_jdk_42_method_92_16) rfl ?_
    refine XS.icmpNo X102.here hx rfl (hb hby d_jdk_42_method_92_17) rfl (teq rfl).2 ?_
    show SS p e below T102 m 20 #[.val (.ref a), .val (.int (0 : Int32)), .val (.int (Int32.ofNat cs.length)), .val (.int (Int32.ofNat cs.length)), .unset] [] _
    refine XS.aloadN X102.here hx rfl (hb hby d_jdk_42_method_92_20) rfl rfl ?_
    exact kt
  obtain ⟨fs, hr, hrun, hended, hW, hsame⟩ := X102.leave (v := some (.ref a)) (fun h => by rw [Bd.returns] at h; cases h)
  refine ⟨_, _, W103 _ (own_retR X102 hx Bd.returns rfl rfl (hb hby d_jdk_42_method_92_21) hr), hrun, hended, _, _, rfl, ?_, ⟨_, rfl⟩, hW, hsame.mono (by decide) (by decide)⟩
  show Q_subAll Z a t kb cs cS fm h0 n0 _ T102.heap _
  rw [eq102]
  exact ⟨rfl, N102, rfl⟩
def Q_endsLine (Z : State) (a : Addr) (i : Nat) (t : Addr) (kb : ClassId) (cs : List Int32) (cS : Int32) (fm : Value) (h0 : Heap) (n0 : Nat) (vQ_ : Option Value) (hQ_ : Heap) (LQ_ : List Loc) : Prop := vQ_ = some (.int (el cs i)) ∧ Fr n0 LQ_ ∧ hQ_ = h0
set_option maxRecDepth 65536 in
set_option maxHeartbeats 40000000 in
theorem rm_endsLine (l : Launch) (Z : State) (a0 : Array Value) (hw : HW a0 Z) (ws : List Jvm.Cond) (a : Addr) (i : Nat) (t : Addr) (kb : ClassId) (cs : List Int32) (cS : Int32) (fm : Value) (h0 : Heap) (n0 : Nat) (Z0 : n0 ≤ h0.size) (O0 : Old Z n0 h0) (S_cs : Sta Z Z.heap "java/lang/String" "COMPACT_STRINGS" "Z" (.int cS)) (hcS : ¬ (cS = (0 : Int32))) (S_fm : Sta Z Z.heap "jdk/internal/util/Preconditions" "SIOOBE_FORMATTER" "Ljava/util/function/BiFunction;" fm) (hfm : fm.isRef = true) (S_ad : Sta Z Z.heap "java/lang/StringUTF16" "$assertionsDisabled" "Z" (.int (1 : Int32))) (S_hi : Sta Z Z.heap "java/lang/StringUTF16" "HI_BYTE_SHIFT" "I" (.int (0 : Int32))) (S_lo : Sta Z Z.heap "java/lang/StringUTF16" "LO_BYTE_SHIFT" "I" (.int (8 : Int32))) (hS : Str Z h0 a t kb cs) (hi : i < cs.length) :
    MetFree l yn36 (head1 (Jvm.Cond.code yn36 prog_12_method_5_code 3 (some .boolean) :: ws) ({ frames := 5, cells := 0, slots := 0, locals := 66 } : Room)) (fun aQ_ UQ => aQ_ = #[(.ref a), (.int (Int32.ofNat i))] ∧ Z.Warmed39 UQ.vm ∧ UQ.heap = h0) (fun _ _ _ _ _ => True) (fun _ UQ oQ UQ' => ∃ vQ_ LQ_, oQ = .returned vQ_ ∧ Q_endsLine Z a i t kb cs cS fm h0 n0 vQ_ UQ'.heap LQ_ ∧ FrameEnd UQ oQ UQ' LQ_ ({ frames := 5, cells := 0, slots := 0, locals := 66 } : Room).cells ({ frames := 5, cells := 0, slots := 0, locals := 66 } : Room).slots) := by
  refine MetFree.of_bodySF (plainFor_of_name pn_com_example_vestline_vestline_input_TextFiles) hisR ?_
  intro p e s m args below meth cO s₁ Bd hml0 hP hK
  obtain ⟨rfl, hZ, hh⟩ := hP
  have hx := Bd.exec
  have hby := Bd.bytes
  have hml : cO.maxLocals = 3 := hml0
  have hown : s.vm.findClass "com/example/vestline/vestline/input/TextFiles" = some m.cls := findClass_of_methodNamed Bd.named
  have hnm := (name_of_methodNamed Bd.named Bd.method).1
  have X0 : Stand p l e ({ frames := 5, cells := 0, slots := 0, locals := 66 } : Room) s m #[(.ref a), (.int (Int32.ofNat i))] below meth cO s₁ [] 0 0 := Stand.of_body Bd
  have e0 : s₁.heap = h0 := by rw [← hh, Bd.state]; rfl
  have N0 := Fr.nil n0
  have W0 : ∀ zQ, SS p e below s₁ m 0 #[.val (.ref a), .val (.int (Int32.ofNat i)), .unset] [] zQ → Steps p.tables e below (s₁.setTop (entryFrame m #[(.ref a), (.int (Int32.ofNat i))] 3)) zQ := fun tt kt => castTop (ef_endsLine m a (Int32.ofNat i)) kt
  have hn : cs.length < 1048576 := hS.2.2.2.2.2
  obtain ⟨cq101, kq101, q101a, q101b, q101c⟩ := isOf hZ e0 hS.1
  obtain ⟨_, _, ⟨T101, L101, k101, n101⟩, -, X101, ⟨Lc101, hQ101, l101, y101, z101⟩, st101⟩ := X0.virtualBack hx (y := yn9) (z := yn9) hown (mvT hZ (w129 hw)) (mvT hZ (w130 hw)) (notFace_of_selects (args := #[]) (mvT hZ (w132 hw))) (mvT hZ (w132 hw)) (mvT hZ (w131 hw)) (by decide) (backOf (W := 0) (rm_charAt l Z a0 hw [] a i t kb cs cS fm h0 n0 Z0 O0 S_cs hcS S_fm hfm S_ad S_hi S_lo hS hi) hZ (w133 hw) (w8 hw) (by decide) (by decide)) q101a q101c (g := (mkF m 2 #[.val (.ref a), .val (.int (Int32.ofNat i)), .unset] [(.int (Int32.ofNat i)), (.ref a)])) rfl (by rw [hml]; rfl) (Steps.refl _) (argsL := [(.int (Int32.ofNat i))]) (rest := []) (lenOf pd__28_I_29_C rfl) rfl (by show 2 * 0 + _ ≤ _; exact Nat.le_of_eq rfl) (hb hby d_prog_12_method_5_2) (fun _ _ => ⟨rfl, e0, (Nat.le_of_ble_eq_true rfl), (Nat.le_of_ble_eq_true rfl)⟩)
  dsimp only [Pt.U, Pt.locs, Pt.cells, Pt.slots] at X101 l101 y101 z101 st101 hQ101
  subst l101 y101 z101
  obtain ⟨rfl, Nq101, eq101⟩ := hQ101
  have N101 := Fr.app N0 Nq101
  have W102 : ∀ zQ, SS p e below T101 m 9 #[.val (.ref a), .val (.int (Int32.ofNat i)), .val (.int (cs.getD i 0))] [(.int (10 : Int32)), (.int (cs.getD i 0))] zQ → Steps p.tables e below (s₁.setTop (entryFrame m #[(.ref a), (.int (Int32.ofNat i))] 3)) zQ := by
    intro tt kt
    refine W0 tt ?_
    refine XS.aloadN X0.here hx rfl (hb hby d_prog_12_method_5_0) rfl rfl ?_
    refine XS.iloadN X0.here hx rfl (hb hby d_prog_12_method_5_1) rfl ?_
    show SS p e below s₁ m 2 #[.val (.ref a), .val (.int (Int32.ofNat i)), .unset] [(.int (Int32.ofNat i)), (.ref a)] _
    refine st101.trans ?_
    refine XS.istoreN X101.here hx rfl (hb hby d_prog_12_method_5_5) rfl (l' := #[.val (.ref a), .val (.int (Int32.ofNat i)), .val (.int (cs.getD i 0))]) rfl ?_
    refine XS.iloadN X101.here hx rfl (hb hby d_prog_12_method_5_6) rfl ?_
    refine XS.bipush X101.here hx rfl (hb hby d_prog_12_method_5_7) ?_
    exact kt
  by_cases hc103 : (cs.getD i 0) = (10 : Int32)
  ·
    have W104 : ∀ zQ, SS p e below T101 m 45 #[.val (.ref a), .val (.int (Int32.ofNat i)), .val (.int (cs.getD i 0))] [(.int (1 : Int32))] zQ → Steps p.tables e below (s₁.setTop (entryFrame m #[(.ref a), (.int (Int32.ofNat i))] 3)) zQ := by
      intro tt kt
      refine W102 tt ?_
      refine XS.icmpYes X101.here hx rfl (pc0 := 9) (pc' := 40) rfl (hb hby d_prog_12_method_5_9) rfl (teq hc103).1 (by decide) (by decide) ?_
      refine XS.iconst X101.here hx rfl (hb hby d_prog_12_method_5_40) ?_
      refine XS.goto X101.here hx rfl (pc0 := 41) (pc' := 45) rfl (hb hby d_prog_12_method_5_41) (by decide) (by decide) ?_
      exact kt
    obtain ⟨fs, hr, hrun, hended, hW, hsame⟩ := X101.leave (v := some (.int (nar .boolean (1 : Int32)))) (fun h => by rw [Bd.returns] at h; cases h)
    refine ⟨_, _, W104 _ (retN X101 hx (t := .boolean) Bd.returns (by simp) (hb hby d_prog_12_method_5_45) hr), hrun, hended, _, _, rfl, ?_, ⟨_, rfl⟩, hW, hsame.mono (by decide) (by decide)⟩
    show Q_endsLine Z a i t kb cs cS fm h0 n0 _ T101.heap _
    rw [eq101]
    exact ⟨(congrArg (fun q => some (Value.int q)) (by simp only [el, if_pos hc103]; first | done | decide)), N101, rfl⟩
  ·
    have W105 : ∀ zQ, SS p e below T101 m 15 #[.val (.ref a), .val (.int (Int32.ofNat i)), .val (.int (cs.getD i 0))] [(.int (13 : Int32)), (.int (cs.getD i 0))] zQ → Steps p.tables e below (s₁.setTop (entryFrame m #[(.ref a), (.int (Int32.ofNat i))] 3)) zQ := by
      intro tt kt
      refine W102 tt ?_
      refine XS.icmpNo X101.here hx rfl (hb hby d_prog_12_method_5_9) rfl (feq hc103).1 ?_
      refine XS.iloadN X101.here hx rfl (hb hby d_prog_12_method_5_12) rfl ?_
      refine XS.bipush X101.here hx rfl (hb hby d_prog_12_method_5_13) ?_
      exact kt
    by_cases hc106 : (cs.getD i 0) = (13 : Int32)
    ·
      obtain ⟨cq107, kq107, q107a, q107b, q107c⟩ := isOf hZ eq101 hS.1
      obtain ⟨_, _, ⟨T107, L107, k107, n107⟩, -, X107, ⟨Lc107, hQ107, l107, y107, z107⟩, st107⟩ := X101.virtualBack hx (y := yn11) (z := yn11) hown (mvT hZ (w176 hw)) (mvT hZ (w49 hw)) (notFace_of_selects (args := #[]) (mvT hZ (w51 hw))) (mvT hZ (w51 hw)) (mvT hZ (w50 hw)) (by decide) (backOf (W := 1) (rm_length l Z a0 hw [] a t kb cs cS h0 n0 Z0 O0 S_cs hcS hS) hZ (w52 hw) (w8 hw) (by decide) (by decide)) q107a q107c (g := (mkF m 22 #[.val (.ref a), .val (.int (Int32.ofNat i)), .val (.int (cs.getD i 0))] [(.ref a), (.int (Int32.ofNat (i + 1)))])) rfl (by rw [hml]; rfl) (Steps.refl _) (argsL := []) (rest := [(.int (Int32.ofNat (i + 1)))]) (lenOf pd__28__29_I rfl) rfl (by show 2 * 0 + _ ≤ _; exact Nat.le_of_eq rfl) (hb hby d_prog_12_method_5_22) (fun _ _ => ⟨rfl, eq101, (Nat.le_of_ble_eq_true rfl), (Nat.le_of_ble_eq_true rfl)⟩)
      dsimp only [Pt.U, Pt.locs, Pt.cells, Pt.slots] at X107 l107 y107 z107 st107 hQ107
      subst l107 y107 z107
      obtain ⟨rfl, Nq107, eq107⟩ := hQ107
      have N107 := Fr.app N101 Nq107
      have W108 : ∀ zQ, SS p e below T107 m 25 #[.val (.ref a), .val (.int (Int32.ofNat i)), .val (.int (cs.getD i 0))] [(.int (Int32.ofNat cs.length)), (.int (Int32.ofNat (i + 1)))] zQ → Steps p.tables e below (s₁.setTop (entryFrame m #[(.ref a), (.int (Int32.ofNat i))] 3)) zQ := by
        intro tt kt
        refine W105 tt ?_
        refine XS.icmpNo X101.here hx rfl (hb hby d_prog_12_method_5_15) rfl (teq hc106).2 ?_
        refine XS.iloadN X101.here hx rfl (hb hby d_prog_12_method_5_18) rfl ?_
        refine XS.iconst X101.here hx rfl (hb hby d_prog_12_method_5_19) ?_
        refine XS.iadd X101.here hx rfl (hb hby d_prog_12_method_5_20) rfl ?_
        show SS p e below T101 m 21 #[.val (.ref a), .val (.int (Int32.ofNat i)), .val (.int (cs.getD i 0))] [(.int ((Int32.ofNat i) + (1 : Int32)))] _
        rw [show ((Int32.ofNat i) + (1 : Int32)) = (Int32.ofNat (i + 1)) from own_succ _]
        refine XS.aloadN X101.here hx rfl (hb hby d_prog_12_method_5_21) rfl rfl ?_
        show SS p e below T101 m 22 #[.val (.ref a), .val (.int (Int32.ofNat i)), .val (.int (cs.getD i 0))] [(.ref a), (.int (Int32.ofNat (i + 1)))] _
        refine st107.trans ?_
        exact kt
      by_cases hc109 : (Int32.ofNat (i + 1)) = (Int32.ofNat cs.length)
      ·
        have hq : i + 1 = cs.length := by have q := congrArg Int32.toInt hc109; rw [own_i (by omega), own_i (by omega)] at q; omega
        have W110 : ∀ zQ, SS p e below T107 m 45 #[.val (.ref a), .val (.int (Int32.ofNat i)), .val (.int (cs.getD i 0))] [(.int (1 : Int32))] zQ → Steps p.tables e below (s₁.setTop (entryFrame m #[(.ref a), (.int (Int32.ofNat i))] 3)) zQ := by
          intro tt kt
          refine W108 tt ?_
          refine XS.icmpYes X107.here hx rfl (pc0 := 25) (pc' := 40) rfl (hb hby d_prog_12_method_5_25) rfl (teq hc109).1 (by decide) (by decide) ?_
          refine XS.iconst X107.here hx rfl (hb hby d_prog_12_method_5_40) ?_
          refine XS.goto X107.here hx rfl (pc0 := 41) (pc' := 45) rfl (hb hby d_prog_12_method_5_41) (by decide) (by decide) ?_
          exact kt
        obtain ⟨fs, hr, hrun, hended, hW, hsame⟩ := X107.leave (v := some (.int (nar .boolean (1 : Int32)))) (fun h => by rw [Bd.returns] at h; cases h)
        refine ⟨_, _, W110 _ (retN X107 hx (t := .boolean) Bd.returns (by simp) (hb hby d_prog_12_method_5_45) hr), hrun, hended, _, _, rfl, ?_, ⟨_, rfl⟩, hW, hsame.mono (by decide) (by decide)⟩
        show Q_endsLine Z a i t kb cs cS fm h0 n0 _ T107.heap _
        rw [eq107]
        exact ⟨(congrArg (fun q => some (Value.int q)) (by simp only [el, if_neg hc103, if_pos hc106, if_pos hq]; first | done | decide)), N107, rfl⟩
      ·
        have hq : ¬ i + 1 = cs.length := fun q => hc109 (by rw [q])
        obtain ⟨cq111, kq111, q111a, q111b, q111c⟩ := isOf hZ eq107 hS.1
        obtain ⟨_, _, ⟨T111, L111, k111, n111⟩, -, X111, ⟨Lc111, hQ111, l111, y111, z111⟩, st111⟩ := X107.virtualBack hx (y := yn9) (z := yn9) hown (mvT hZ (w129 hw)) (mvT hZ (w130 hw)) (notFace_of_selects (args := #[]) (mvT hZ (w132 hw))) (mvT hZ (w132 hw)) (mvT hZ (w131 hw)) (by decide) (backOf (W := 0) (rm_charAt l Z a0 hw [] a (i + 1) t kb cs cS fm h0 n0 Z0 O0 S_cs hcS S_fm hfm S_ad S_hi S_lo hS (by omega)) hZ (w133 hw) (w8 hw) (by decide) (by decide)) q111a q111c (g := (mkF m 32 #[.val (.ref a), .val (.int (Int32.ofNat i)), .val (.int (cs.getD i 0))] [(.int (Int32.ofNat (i + 1))), (.ref a)])) rfl (by rw [hml]; rfl) (Steps.refl _) (argsL := [(.int (Int32.ofNat (i + 1)))]) (rest := []) (lenOf pd__28_I_29_C rfl) rfl (by show 2 * 0 + _ ≤ _; exact Nat.le_of_eq rfl) (hb hby d_prog_12_method_5_32) (fun _ _ => ⟨rfl, eq107, (Nat.le_of_ble_eq_true rfl), (Nat.le_of_ble_eq_true rfl)⟩)
        dsimp only [Pt.U, Pt.locs, Pt.cells, Pt.slots] at X111 l111 y111 z111 st111 hQ111
        subst l111 y111 z111
        obtain ⟨rfl, Nq111, eq111⟩ := hQ111
        have N111 := Fr.app N107 Nq111
        have W112 : ∀ zQ, SS p e below T111 m 37 #[.val (.ref a), .val (.int (Int32.ofNat i)), .val (.int (cs.getD i 0))] [(.int (10 : Int32)), (.int (cs.getD (i + 1) 0))] zQ → Steps p.tables e below (s₁.setTop (entryFrame m #[(.ref a), (.int (Int32.ofNat i))] 3)) zQ := by
          intro tt kt
          refine W108 tt ?_
          refine XS.icmpNo X107.here hx rfl (hb hby d_prog_12_method_5_25) rfl (feq hc109).1 ?_
          refine XS.aloadN X107.here hx rfl (hb hby d_prog_12_method_5_28) rfl rfl ?_
          refine XS.iloadN X107.here hx rfl (hb hby d_prog_12_method_5_29) rfl ?_
          refine XS.iconst X107.here hx rfl (hb hby d_prog_12_method_5_30) ?_
          refine XS.iadd X107.here hx rfl (hb hby d_prog_12_method_5_31) rfl ?_
          show SS p e below T107 m 32 #[.val (.ref a), .val (.int (Int32.ofNat i)), .val (.int (cs.getD i 0))] [(.int ((Int32.ofNat i) + (1 : Int32))), (.ref a)] _
          rw [show ((Int32.ofNat i) + (1 : Int32)) = (Int32.ofNat (i + 1)) from own_succ _]
          show SS p e below T107 m 32 #[.val (.ref a), .val (.int (Int32.ofNat i)), .val (.int (cs.getD i 0))] [(.int (Int32.ofNat (i + 1))), (.ref a)] _
          refine st111.trans ?_
          refine XS.bipush X111.here hx rfl (hb hby d_prog_12_method_5_35) ?_
          exact kt
        by_cases hc113 : (cs.getD (i + 1) 0) = (10 : Int32)
        ·
          have W114 : ∀ zQ, SS p e below T111 m 45 #[.val (.ref a), .val (.int (Int32.ofNat i)), .val (.int (cs.getD i 0))] [(.int (0 : Int32))] zQ → Steps p.tables e below (s₁.setTop (entryFrame m #[(.ref a), (.int (Int32.ofNat i))] 3)) zQ := by
            intro tt kt
            refine W112 tt ?_
            refine XS.icmpYes X111.here hx rfl (pc0 := 37) (pc' := 44) rfl (hb hby d_prog_12_method_5_37) rfl (teq hc113).1 (by decide) (by decide) ?_
            refine XS.iconst X111.here hx rfl (hb hby d_prog_12_method_5_44) ?_
            exact kt
          obtain ⟨fs, hr, hrun, hended, hW, hsame⟩ := X111.leave (v := some (.int (nar .boolean (0 : Int32)))) (fun h => by rw [Bd.returns] at h; cases h)
          refine ⟨_, _, W114 _ (retN X111 hx (t := .boolean) Bd.returns (by simp) (hb hby d_prog_12_method_5_45) hr), hrun, hended, _, _, rfl, ?_, ⟨_, rfl⟩, hW, hsame.mono (by decide) (by decide)⟩
          show Q_endsLine Z a i t kb cs cS fm h0 n0 _ T111.heap _
          rw [eq111]
          exact ⟨(congrArg (fun q => some (Value.int q)) (by simp only [el, if_neg hc103, if_pos hc106, if_neg hq, if_pos hc113]; first | done | decide)), N111, rfl⟩
        ·
          have W115 : ∀ zQ, SS p e below T111 m 45 #[.val (.ref a), .val (.int (Int32.ofNat i)), .val (.int (cs.getD i 0))] [(.int (1 : Int32))] zQ → Steps p.tables e below (s₁.setTop (entryFrame m #[(.ref a), (.int (Int32.ofNat i))] 3)) zQ := by
            intro tt kt
            refine W112 tt ?_
            refine XS.icmpNo X111.here hx rfl (hb hby d_prog_12_method_5_37) rfl (feq hc113).1 ?_
            refine XS.iconst X111.here hx rfl (hb hby d_prog_12_method_5_40) ?_
            refine XS.goto X111.here hx rfl (pc0 := 41) (pc' := 45) rfl (hb hby d_prog_12_method_5_41) (by decide) (by decide) ?_
            exact kt
          obtain ⟨fs, hr, hrun, hended, hW, hsame⟩ := X111.leave (v := some (.int (nar .boolean (1 : Int32)))) (fun h => by rw [Bd.returns] at h; cases h)
          refine ⟨_, _, W115 _ (retN X111 hx (t := .boolean) Bd.returns (by simp) (hb hby d_prog_12_method_5_45) hr), hrun, hended, _, _, rfl, ?_, ⟨_, rfl⟩, hW, hsame.mono (by decide) (by decide)⟩
          show Q_endsLine Z a i t kb cs cS fm h0 n0 _ T111.heap _
          rw [eq111]
          exact ⟨(congrArg (fun q => some (Value.int q)) (by simp only [el, if_neg hc103, if_pos hc106, if_neg hq, if_neg hc113]; first | done | decide)), N111, rfl⟩
    ·
      have W116 : ∀ zQ, SS p e below T101 m 45 #[.val (.ref a), .val (.int (Int32.ofNat i)), .val (.int (cs.getD i 0))] [(.int (0 : Int32))] zQ → Steps p.tables e below (s₁.setTop (entryFrame m #[(.ref a), (.int (Int32.ofNat i))] 3)) zQ := by
        intro tt kt
        refine W105 tt ?_
        refine XS.icmpYes X101.here hx rfl (pc0 := 15) (pc' := 44) rfl (hb hby d_prog_12_method_5_15) rfl (feq hc106).2 (by decide) (by decide) ?_
        refine XS.iconst X101.here hx rfl (hb hby d_prog_12_method_5_44) ?_
        exact kt
      obtain ⟨fs, hr, hrun, hended, hW, hsame⟩ := X101.leave (v := some (.int (nar .boolean (0 : Int32)))) (fun h => by rw [Bd.returns] at h; cases h)
      refine ⟨_, _, W116 _ (retN X101 hx (t := .boolean) Bd.returns (by simp) (hb hby d_prog_12_method_5_45) hr), hrun, hended, _, _, rfl, ?_, ⟨_, rfl⟩, hW, hsame.mono (by decide) (by decide)⟩
      show Q_endsLine Z a i t kb cs cS fm h0 n0 _ T101.heap _
      rw [eq101]
      exact ⟨(congrArg (fun q => some (Value.int q)) (by simp only [el, if_neg hc103, if_neg hc106]; first | done | decide)), N101, rfl⟩
def Q_l1new0 (Z : State) (t : Addr) (j : Int32) (h0 : Heap) (n0 : Nat) (vQ_ : Option Value) (hQ_ : Heap) (LQ_ : List Loc) : Prop := ∃ r : Addr, vQ_ = some (.ref r) ∧ Fr n0 LQ_ ∧ Keep h0 hQ_ []
set_option maxRecDepth 65536 in
set_option maxHeartbeats 40000000 in
theorem rm_l1new0 (l : Launch) (Z : State) (a0 : Array Value) (hw : HW a0 Z) (ws : List Jvm.Cond) (t : Addr) (j : Int32) (h0 : Heap) (n0 : Nat) (Z0 : n0 ≤ h0.size)  :
    MetFree l yn31 (head1 (Jvm.Cond.code yn31 jdk_43_method_47_code 3 (some (.object "java/lang/String")) :: ws) ({ frames := 0, cells := 2, slots := 4, locals := 0 } : Room)) (fun aQ_ UQ => aQ_ = #[(.ref t), (.int j), (.int (0 : Int32))] ∧ Z.Warmed39 UQ.vm ∧ UQ.heap = h0) (fun _ _ _ _ _ => True) (fun _ UQ oQ UQ' => ∃ vQ_ LQ_, oQ = .returned vQ_ ∧ Q_l1new0 Z t j h0 n0 vQ_ UQ'.heap LQ_ ∧ ReturnedEndW UQ oQ UQ' LQ_ ({ frames := 0, cells := 2, slots := 4, locals := 0 } : Room).cells ({ frames := 0, cells := 2, slots := 4, locals := 0 } : Room).slots) := by
  refine MetFree.of_bodySF (plainFor_of_name pn_java_lang_StringLatin1) hisR ?_
  intro p e s m args below meth cO s₁ Bd hml0 hP hK
  obtain ⟨rfl, hZ, hh⟩ := hP
  have hx := Bd.exec
  have hby := Bd.bytes
  have hml : cO.maxLocals = 3 := hml0
  have hown : s.vm.findClass "java/lang/StringLatin1" = some m.cls := findClass_of_methodNamed Bd.named
  have hnm := (name_of_methodNamed Bd.named Bd.method).1
  have X0 : Stand p l e ({ frames := 0, cells := 2, slots := 4, locals := 0 } : Room) (s.setVm s.vm) m #[(.ref t), (.int j), (.int (0 : Int32))] below meth cO s₁ [] 0 0 := Stand.of_body Bd
  have e0 : s₁.heap = h0 := by rw [← hh, Bd.state]; rfl
  have N0 := Fr.nil n0
  have hZ0 : Z.Warmed39 (s.setVm s.vm).vm := hZ
  have hown0 : (s.setVm s.vm).vm.findClass "java/lang/StringLatin1" = some m.cls := hown
  have hS0 : s.Since s.vm 0 := (State.WarmedH.refl s).since 0
  have hk0 : 0 ≤ h0.size := Nat.zero_le _
  have W0 : ∀ zQ, SS p e below s₁ m 0 #[.val (.ref t), .val (.int j), .val (.int (0 : Int32))] [] zQ → Steps p.tables e below (s₁.setTop (entryFrame m #[(.ref t), (.int j), (.int (0 : Int32))] 3)) zQ := fun tt kt => castTop (ef_l1new0 m t j (0 : Int32)) kt
  obtain ⟨b101, T101, h101, k101, X101, e101, E101, hS101, hk101, hZ101, hown101, st101⟩ := ldcS X0 hx hZ0 hown0 (w75 hw) (own_wS hw) e0 hS0 hk0 (g := (mkF m 4 #[.val (.ref t), .val (.int j), .val (.int (0 : Int32))] [])) rfl (hb hby d_jdk_43_method_47_4) (n := 0) (by decide) (by decide) (by decide) (by decide)
  have K101 := (Keep.refl h0 []).ext E101
  have W102 : ∀ zQ, SS p e below T101 m 6 #[.val (.ref t), .val (.int j), .val (.int (0 : Int32))] [(.ref b101)] zQ → Steps p.tables e below (s₁.setTop (entryFrame m #[(.ref t), (.int j), (.int (0 : Int32))] 3)) zQ := by
    intro tt kt
    refine W0 tt ?_
    refine XS.iloadN X0.here hx rfl (hb hby d_jdk_43_method_47_0) rfl ?_
    refine XS.ifNo X0.here hx rfl (hb hby d_jdk_43_method_47_1) rfl ((if0 _ _).trans (teq (by decide)).2) ?_
    show SS p e below s₁ m 4 #[.val (.ref t), .val (.int j), .val (.int (0 : Int32))] [] _
    refine st101 _ ?_
    exact kt
  obtain ⟨fs, hr, hrun, hended, hRW⟩ := Jvm.Stand.leaveW X101 hS101 (by rw [e101]; exact hk101) (v := some (.ref b101)) (fun h => by rw [Bd.returns] at h; cases h) (BodyLoose.notSynchronized Bd)
  refine ⟨_, _, W102 _ (own_retR X101 hx Bd.returns rfl rfl (hb hby d_jdk_43_method_47_6) hr), hrun, hended, _, _, rfl, ?_, own_rw hRW (by decide) (by decide)⟩
  show Q_l1new0 Z t j h0 n0 _ T101.heap _
  rw [e101]
  exact ⟨b101, rfl, N0, (Keep.trans (Keep.refl h0 []) K101 all0)⟩
def Q_u16new0 (Z : State) (t : Addr) (j : Int32) (h0 : Heap) (n0 : Nat) (vQ_ : Option Value) (hQ_ : Heap) (LQ_ : List Loc) : Prop := ∃ r : Addr, vQ_ = some (.ref r) ∧ Fr n0 LQ_ ∧ Keep h0 hQ_ []
set_option maxRecDepth 65536 in
set_option maxHeartbeats 40000000 in
theorem rm_u16new0 (l : Launch) (Z : State) (a0 : Array Value) (hw : HW a0 Z) (ws : List Jvm.Cond) (t : Addr) (j : Int32) (h0 : Heap) (n0 : Nat) (Z0 : n0 ≤ h0.size)  :
    MetFree l yn34 (head1 (Jvm.Cond.code yn34 jdk_52_method_69_code 5 (some (.object "java/lang/String")) :: ws) ({ frames := 0, cells := 2, slots := 4, locals := 0 } : Room)) (fun aQ_ UQ => aQ_ = #[(.ref t), (.int j), (.int (0 : Int32))] ∧ Z.Warmed39 UQ.vm ∧ UQ.heap = h0) (fun _ _ _ _ _ => True) (fun _ UQ oQ UQ' => ∃ vQ_ LQ_, oQ = .returned vQ_ ∧ Q_u16new0 Z t j h0 n0 vQ_ UQ'.heap LQ_ ∧ ReturnedEndW UQ oQ UQ' LQ_ ({ frames := 0, cells := 2, slots := 4, locals := 0 } : Room).cells ({ frames := 0, cells := 2, slots := 4, locals := 0 } : Room).slots) := by
  refine MetFree.of_bodySF (plainFor_of_name pn_java_lang_StringUTF16) hisR ?_
  intro p e s m args below meth cO s₁ Bd hml0 hP hK
  obtain ⟨rfl, hZ, hh⟩ := hP
  have hx := Bd.exec
  have hby := Bd.bytes
  have hml : cO.maxLocals = 5 := hml0
  have hown : s.vm.findClass "java/lang/StringUTF16" = some m.cls := findClass_of_methodNamed Bd.named
  have hnm := (name_of_methodNamed Bd.named Bd.method).1
  have X0 : Stand p l e ({ frames := 0, cells := 2, slots := 4, locals := 0 } : Room) (s.setVm s.vm) m #[(.ref t), (.int j), (.int (0 : Int32))] below meth cO s₁ [] 0 0 := Stand.of_body Bd
  have e0 : s₁.heap = h0 := by rw [← hh, Bd.state]; rfl
  have N0 := Fr.nil n0
  have hZ0 : Z.Warmed39 (s.setVm s.vm).vm := hZ
  have hown0 : (s.setVm s.vm).vm.findClass "java/lang/StringUTF16" = some m.cls := hown
  have hS0 : s.Since s.vm 0 := (State.WarmedH.refl s).since 0
  have hk0 : 0 ≤ h0.size := Nat.zero_le _
  have W0 : ∀ zQ, SS p e below s₁ m 0 #[.val (.ref t), .val (.int j), .val (.int (0 : Int32)), .unset, .unset] [] zQ → Steps p.tables e below (s₁.setTop (entryFrame m #[(.ref t), (.int j), (.int (0 : Int32))] 5)) zQ := fun tt kt => castTop (ef_u16new0 m t j (0 : Int32)) kt
  obtain ⟨b101, T101, h101, k101, X101, e101, E101, hS101, hk101, hZ101, hown101, st101⟩ := ldcSW X0 hx hZ0 hown0 (w175 hw) (own_wS hw) e0 hS0 hk0 (g := (mkF m 4 #[.val (.ref t), .val (.int j), .val (.int (0 : Int32)), .unset, .unset] [])) rfl (hb hby d_jdk_52_method_69_4) (n := 0) (by decide) (by decide) (by decide) (by decide)
  have K101 := (Keep.refl h0 []).ext E101
  have W102 : ∀ zQ, SS p e below T101 m 7 #[.val (.ref t), .val (.int j), .val (.int (0 : Int32)), .unset, .unset] [(.ref b101)] zQ → Steps p.tables e below (s₁.setTop (entryFrame m #[(.ref t), (.int j), (.int (0 : Int32))] 5)) zQ := by
    intro tt kt
    refine W0 tt ?_
    refine XS.iloadN X0.here hx rfl (hb hby d_jdk_52_method_69_0) rfl ?_
    refine XS.ifNo X0.here hx rfl (hb hby d_jdk_52_method_69_1) rfl ((if0 _ _).trans (teq (by decide)).2) ?_
    show SS p e below s₁ m 4 #[.val (.ref t), .val (.int j), .val (.int (0 : Int32)), .unset, .unset] [] _
    refine st101 _ ?_
    exact kt
  obtain ⟨fs, hr, hrun, hended, hRW⟩ := Jvm.Stand.leaveW X101 hS101 (by rw [e101]; exact hk101) (v := some (.ref b101)) (fun h => by rw [Bd.returns] at h; cases h) (BodyLoose.notSynchronized Bd)
  refine ⟨_, _, W102 _ (own_retR X101 hx Bd.returns rfl rfl (hb hby d_jdk_52_method_69_7) hr), hrun, hended, _, _, rfl, ?_, own_rw hRW (by decide) (by decide)⟩
  show Q_u16new0 Z t j h0 n0 _ T101.heap _
  rw [e101]
  exact ⟨b101, rfl, N0, (Keep.trans (Keep.refl h0 []) K101 all0)⟩
def Q_sub0 (Z : State) (a : Addr) (t : Addr) (kb : ClassId) (cs : List Int32) (cS : Int32) (fm : Value) (h0 : Heap) (n0 : Nat) (vQ_ : Option Value) (hQ_ : Heap) (LQ_ : List Loc) : Prop := ∃ r : Addr, vQ_ = some (.ref r) ∧ Fr n0 LQ_ ∧ Keep h0 hQ_ []
set_option maxRecDepth 65536 in
set_option maxHeartbeats 40000000 in
theorem rm_sub0 (l : Launch) (Z : State) (a0 : Array Value) (hw : HW a0 Z) (ws : List Jvm.Cond) (a : Addr) (t : Addr) (kb : ClassId) (cs : List Int32) (cS : Int32) (fm : Value) (h0 : Heap) (n0 : Nat) (Z0 : n0 ≤ h0.size) (O0 : Old Z n0 h0) (S_cs : Sta Z Z.heap "java/lang/String" "COMPACT_STRINGS" "Z" (.int cS)) (hcS : ¬ (cS = (0 : Int32))) (S_fm : Sta Z Z.heap "jdk/internal/util/Preconditions" "SIOOBE_FORMATTER" "Ljava/util/function/BiFunction;" fm) (hfm : fm.isRef = true) (hS : Str Z h0 a t kb cs) (hp : 0 < cs.length) :
    MetFree l yn35 (head1 (Jvm.Cond.code yn35 jdk_42_method_92_code 5 (some (.object "java/lang/String")) :: ws) ({ frames := 2, cells := 2, slots := 4, locals := 29 } : Room)) (fun aQ_ UQ => aQ_ = #[(.ref a), (.int (0 : Int32)), (.int (0 : Int32))] ∧ Z.Warmed39 UQ.vm ∧ UQ.heap = h0) (fun _ _ _ _ _ => True) (fun _ UQ oQ UQ' => ∃ vQ_ LQ_, oQ = .returned vQ_ ∧ Q_sub0 Z a t kb cs cS fm h0 n0 vQ_ UQ'.heap LQ_ ∧ ReturnedEndW UQ oQ UQ' LQ_ ({ frames := 2, cells := 2, slots := 4, locals := 29 } : Room).cells ({ frames := 2, cells := 2, slots := 4, locals := 29 } : Room).slots) := by
  refine MetFree.of_bodySF (plainFor_of_name pn_java_lang_String) hisR ?_
  intro p e s m args below meth cO s₁ Bd hml0 hP hK
  obtain ⟨rfl, hZ, hh⟩ := hP
  have hx := Bd.exec
  have hby := Bd.bytes
  have hml : cO.maxLocals = 5 := hml0
  have hown : s.vm.findClass "java/lang/String" = some m.cls := findClass_of_methodNamed Bd.named
  have hnm := (name_of_methodNamed Bd.named Bd.method).1
  have X0 : Stand p l e ({ frames := 2, cells := 2, slots := 4, locals := 29 } : Room) (s.setVm s.vm) m #[(.ref a), (.int (0 : Int32)), (.int (0 : Int32))] below meth cO s₁ [] 0 0 := Stand.of_body Bd
  have e0 : s₁.heap = h0 := by rw [← hh, Bd.state]; rfl
  have N0 := Fr.nil n0
  have hZ0 : Z.Warmed39 (s.setVm s.vm).vm := hZ
  have hown0 : (s.setVm s.vm).vm.findClass "java/lang/String" = some m.cls := hown
  have hS0 : s.Since s.vm 0 := (State.WarmedH.refl s).since 0
  have hk0 : 0 ≤ h0.size := Nat.zero_le _
  have W0 : ∀ zQ, SS p e below s₁ m 0 #[.val (.ref a), .val (.int (0 : Int32)), .val (.int (0 : Int32)), .unset, .unset] [] zQ → Steps p.tables e below (s₁.setTop (entryFrame m #[(.ref a), (.int (0 : Int32)), (.int (0 : Int32))] 5)) zQ := fun tt kt => castTop (ef_sub0 m a (0 : Int32) (0 : Int32)) kt
  obtain ⟨hE, hV, hC, hA, ok⟩ := hS
  have hn9 : cs.length < 1048576 := ok.2
  obtain ⟨cq101, kq101, q101a, q101b, q101c⟩ := isOf hZ0 e0 hE
  obtain ⟨_, _, ⟨T101, L101, k101, n101⟩, -, X101, ⟨Lc101, hQ101, l101, y101, z101⟩, st101⟩ := X0.virtualBack hx (y := yn11) (z := yn11) hown0 (mvT hZ0 (w48 hw)) (mvT hZ0 (w49 hw)) (notFace_of_selects (args := #[]) (mvT hZ0 (w51 hw))) (mvT hZ0 (w51 hw)) (mvT hZ0 (w50 hw)) (by decide) (backOf (W := 0) (rm_length l Z a0 hw [] a t kb cs cS h0 n0 Z0 O0 S_cs hcS ⟨hE, hV, hC, hA, ok⟩) hZ0 (w52 hw) (w8 hw) (by decide) (by decide)) q101a q101c (g := (mkF m 1 #[.val (.ref a), .val (.int (0 : Int32)), .val (.int (0 : Int32)), .unset, .unset] [(.ref a)])) rfl (by rw [hml]; rfl) (Steps.refl _) (argsL := []) (rest := []) (lenOf pd__28__29_I rfl) rfl (by show 2 * 0 + _ ≤ _; exact Nat.le_of_eq rfl) (hb hby d_jdk_42_method_92_1) (fun _ _ => ⟨rfl, e0, (Nat.le_of_ble_eq_true rfl), (Nat.le_of_ble_eq_true rfl)⟩)
  dsimp only [Pt.U, Pt.locs, Pt.cells, Pt.slots] at X101 l101 y101 z101 st101 hQ101
  subst l101 y101 z101
  obtain ⟨rfl, Nq101, eq101⟩ := hQ101
  have N101 := Fr.app N0 Nq101
  obtain ⟨_, _, ⟨T102, L102, k102, n102⟩, -, X102, ⟨Lc102, hQ102, l102, y102, z102⟩, st102⟩ := Jvm.LawKit.callS X101 hx (y := yn22) hown0 (mvT hZ0 (w58 hw)) (mvT hZ0 (w59 hw)) (mvT hZ0 (w8 hw)) (mvT hZ0 (w60 hw)) (by decide) (backOf (W := 0) (rm_scheckBE l Z a0 hw [] (0 : Int32) (0 : Int32) (Int32.ofNat cs.length) fm h0 n0 Z0 O0 S_fm hfm (by decide) (by decide) (own_nneg (by omega))) hZ0 (w60 hw) (w8 hw) (by decide) (by decide)) (g := (mkF m 8 #[.val (.ref a), .val (.int (0 : Int32)), .val (.int (0 : Int32)), .val (.int (Int32.ofNat cs.length)), .unset] [(.int (Int32.ofNat cs.length)), (.int (0 : Int32)), (.int (0 : Int32))])) rfl (by rw [hml]; rfl) (argsL := [(.int (0 : Int32)), (.int (0 : Int32)), (.int (Int32.ofNat cs.length))]) (rest := []) (lenOf pd__28_III_29_V rfl) rfl (by show 2 * 0 + _ ≤ _; exact Nat.le_of_eq rfl) (hb hby d_jdk_42_method_92_8) (fun _ _ => ⟨rfl, eq101, (Nat.le_of_ble_eq_true rfl), (Nat.le_of_ble_eq_true rfl)⟩)
  dsimp only [Pt.U, Pt.locs, Pt.cells, Pt.slots] at X102 l102 y102 z102 st102 hQ102
  subst l102 y102 z102
  obtain ⟨rfl, Nq102, eq102⟩ := hQ102
  have N102 := Fr.app N101 Nq102
  obtain ⟨cq103, kq103, q103a, q103b, q103c⟩ := isOf hZ0 eq102 hE
  obtain ⟨_, _, ⟨T103, L103, k103, n103⟩, -, X103, ⟨Lc103, hQ103, l103, y103, z103⟩, st103⟩ := X102.virtualBack hx (y := yn8) (z := yn8) hown0 (mvT hZ0 (w66 hw)) (mvT hZ0 (w67 hw)) (notFace_of_selects (args := #[]) (mvT hZ0 (w69 hw))) (mvT hZ0 (w69 hw)) (mvT hZ0 (w68 hw)) (by decide) (backOf (W := 0) (rm_isLatin1 l Z a0 hw [] a (cdr cs) cS h0 n0 Z0 O0 S_cs hcS hC) hZ0 (w70 hw) (w8 hw) (by decide) (by decide)) q103a q103c (g := (mkF m 28 #[.val (.ref a), .val (.int (0 : Int32)), .val (.int (0 : Int32)), .val (.int (Int32.ofNat cs.length)), .val (.int (0 : Int32))] [(.ref a)])) rfl (by rw [hml]; rfl) (Steps.refl _) (argsL := []) (rest := []) (lenOf pd__28__29_Z rfl) rfl (by show 2 * 0 + _ ≤ _; exact Nat.le_of_eq rfl) (hb hby d_jdk_42_method_92_28) (fun _ _ => ⟨rfl, eq102, (Nat.le_of_ble_eq_true rfl), (Nat.le_of_ble_eq_true rfl)⟩)
  dsimp only [Pt.U, Pt.locs, Pt.cells, Pt.slots] at X103 l103 y103 z103 st103 hQ103
  subst l103 y103 z103
  obtain ⟨rfl, Nq103, eq103⟩ := hQ103
  have N103 := Fr.app N102 Nq103
  have W104 : ∀ zQ, SS p e below T103 m 31 #[.val (.ref a), .val (.int (0 : Int32)), .val (.int (0 : Int32)), .val (.int (Int32.ofNat cs.length)), .val (.int (0 : Int32))] [(.int (if (cdr cs) = (0 : Int32) then (1 : Int32) else (0 : Int32)))] zQ → Steps p.tables e below (s₁.setTop (entryFrame m #[(.ref a), (.int (0 : Int32)), (.int (0 : Int32))] 5)) zQ := by
    intro tt kt
    refine W0 tt ?_
    refine XS.aloadN X0.here hx rfl (hb hby d_jdk_42_method_92_0) rfl rfl ?_
    show SS p e below s₁ m 1 #[.val (.ref a), .val (.int (0 : Int32)), .val (.int (0 : Int32)), .unset, .unset] [(.ref a)] _
    refine st101.trans ?_
    refine XS.istoreN X101.here hx rfl (hb hby d_jdk_42_method_92_4) rfl (l' := #[.val (.ref a), .val (.int (0 : Int32)), .val (.int (0 : Int32)), .val (.int (Int32.ofNat cs.length)), .unset]) rfl ?_
    refine XS.iloadN X101.here hx rfl (hb hby d_jdk_42_method_92_5) rfl ?_
    refine XS.iloadN X101.here hx rfl (hb hby d_jdk_42_method_92_6) rfl ?_
    refine XS.iloadN X101.here hx rfl (hb hby d_jdk_42_method_92_7) rfl ?_
    show SS p e below T101 m 8 #[.val (.ref a), .val (.int (0 : Int32)), .val (.int (0 : Int32)), .val (.int (Int32.ofNat cs.length)), .unset] [(.int (Int32.ofNat cs.length)), (.int (0 : Int32)), (.int (0 : Int32))] _
    refine st102 _ ?_
    refine XS.iloadN X102.here hx rfl (hb hby d_jdk_42_method_92_11) rfl ?_
    refine XS.ifNo X102.here hx rfl (hb hby d_jdk_42_method_92_12) rfl ((if0 _ _).trans (teq (by decide)).2) ?_
    refine XS.iloadN X102.here hx rfl (hb hby d_jdk_42_method_92_15) rfl ?_
    refine XS.iloadN X102.here hx rfl (hb hby d_jdk_42_method_92_16) rfl ?_
    refine XS.icmpYes X102.here hx rfl (pc0 := 17) (pc' := 22) rfl (hb hby d_jdk_42_method_92_17) rfl (feq (fun q => by have := own_zero (by omega) q.symm; omega)).2 (by decide) (by decide) ?_
    show SS p e below T102 m 22 #[.val (.ref a), .val (.int (0 : Int32)), .val (.int (0 : Int32)), .val (.int (Int32.ofNat cs.length)), .unset] [] _
    refine XS.iloadN X102.here hx rfl (hb hby d_jdk_42_method_92_22) rfl ?_
    refine XS.iloadN X102.here hx rfl (hb hby d_jdk_42_method_92_23) rfl ?_
    refine XS.isub X102.here hx rfl (hb hby d_jdk_42_method_92_24) rfl ?_
    refine XS.istore X102.here hx rfl (hb hby d_jdk_42_method_92_25) rfl (l' := #[.val (.ref a), .val (.int (0 : Int32)), .val (.int (0 : Int32)), .val (.int (Int32.ofNat cs.length)), .val (.int (0 : Int32))]) rfl ?_
    refine XS.aloadN X102.here hx rfl (hb hby d_jdk_42_method_92_27) rfl rfl ?_
    show SS p e below T102 m 28 #[.val (.ref a), .val (.int (0 : Int32)), .val (.int (0 : Int32)), .val (.int (Int32.ofNat cs.length)), .val (.int (0 : Int32))] [(.ref a)] _
    refine st103.trans ?_
    exact kt
  by_cases hc105 : (cdr cs) = (0 : Int32)
  ·
    obtain ⟨T106, X106, e106, st106⟩ := getF X103 hx hZ0 hown0 (host := "") (Or.inl (w33 hw)) Via.refl eq103 hV (g := (mkF m 35 #[.val (.ref a), .val (.int (0 : Int32)), .val (.int (0 : Int32)), .val (.int (Int32.ofNat cs.length)), .val (.int (0 : Int32))] [(.ref a)])) rfl rfl (hb hby d_jdk_42_method_92_35)
    obtain ⟨_, _, ⟨T107, L107, k107, n107⟩, -, X107', hS107', hgr107, ⟨Lc107, hQ107, l107, y107, z107⟩, st107⟩ := callSS X106 hx (y := yn31) hown0 (mvT hZ0 (w71 hw)) (mvT hZ0 (w72 hw)) (mvT hZ0 (w73 hw)) (mvT hZ0 (w74 hw)) (by decide) (backOfS (W := 0) (rm_l1new0 l Z a0 hw [] t (0 : Int32) h0 n0 Z0 ) hZ0 (w74 hw) (w73 hw) (by decide) (by decide)) (g := (mkF m 41 #[.val (.ref a), .val (.int (0 : Int32)), .val (.int (0 : Int32)), .val (.int (Int32.ofNat cs.length)), .val (.int (0 : Int32))] [(.int (0 : Int32)), (.int (0 : Int32)), (.ref t)])) rfl (by rw [hml]; rfl) (argsL := [(.ref t), (.int (0 : Int32)), (.int (0 : Int32))]) (rest := []) (lenOf pd__28__5b_BII_29_Ljava_2f_lang_2f_String_3b_ rfl) rfl (by show 2 * 0 + _ ≤ _; exact Nat.le_of_eq rfl) (hb hby d_jdk_42_method_92_41) (fun _ _ => ⟨rfl, e106, (Nat.le_of_ble_eq_true rfl), (Nat.le_of_ble_eq_true rfl)⟩)
    dsimp only [Pt.U, Pt.locs, Pt.cells, Pt.slots] at X107' hS107' hgr107 l107 y107 z107 st107 hQ107
    subst l107 y107 z107
    obtain ⟨X107, hS107, hZ107, hown107⟩ := rebS hS0 (by rw [e106]; exact hk0) X107' hS107' hgr107 hZ0 hown0
    obtain ⟨r_108, rfl, Nq107, K107⟩ := hQ107
    have N107 := Fr.app N103 Nq107
    have hk107 : T107.heap.size ≤ T107.heap.size := Nat.le_refl _
    have W109 : ∀ zQ, SS p e below T107 m 57 #[.val (.ref a), .val (.int (0 : Int32)), .val (.int (0 : Int32)), .val (.int (Int32.ofNat cs.length)), .val (.int (0 : Int32))] [(.ref r_108)] zQ → Steps p.tables e below (s₁.setTop (entryFrame m #[(.ref a), (.int (0 : Int32)), (.int (0 : Int32))] 5)) zQ := by
      intro tt kt
      refine W104 tt ?_
      rw [show (if (cdr cs) = (0 : Int32) then (1 : Int32) else (0 : Int32)) = (1 : Int32) from if_pos hc105]
      refine XS.ifNo X103.here hx rfl (hb hby d_jdk_42_method_92_31) rfl ((if0 _ _).trans (feq (by decide)).1) ?_
      refine XS.aloadN X103.here hx rfl (hb hby d_jdk_42_method_92_34) rfl rfl ?_
      show SS p e below T103 m 35 #[.val (.ref a), .val (.int (0 : Int32)), .val (.int (0 : Int32)), .val (.int (Int32.ofNat cs.length)), .val (.int (0 : Int32))] [(.ref a)] _
      refine st106 _ ?_
      refine XS.iloadN X106.here hx rfl (hb hby d_jdk_42_method_92_38) rfl ?_
      refine XS.iload X106.here hx rfl (hb hby d_jdk_42_method_92_39) rfl ?_
      show SS p e below T106 m 41 #[.val (.ref a), .val (.int (0 : Int32)), .val (.int (0 : Int32)), .val (.int (Int32.ofNat cs.length)), .val (.int (0 : Int32))] [(.int (0 : Int32)), (.int (0 : Int32)), (.ref t)] _
      refine st107.trans ?_
      refine XS.goto X107.here hx rfl (pc0 := 44) (pc' := 57) rfl (hb hby d_jdk_42_method_92_44) (by decide) (by decide) ?_
      exact kt
    obtain ⟨fs, hr, hrun, hended, hRW⟩ := Jvm.Stand.leaveW X107 hS107 hk107 (v := some (.ref r_108)) (fun h => by rw [Bd.returns] at h; cases h) (BodyLoose.notSynchronized Bd)
    refine ⟨_, _, W109 _ (own_retR X107 hx Bd.returns rfl rfl (hb hby d_jdk_42_method_92_57) hr), hrun, hended, _, _, rfl, ?_, own_rw hRW (by decide) (by decide)⟩
    show Q_sub0 Z a t kb cs cS fm h0 n0 _ T107.heap _
    exact ⟨r_108, rfl, N107, (Keep.trans (Keep.refl h0 []) K107 all0)⟩
  ·
    obtain ⟨T110, X110, e110, st110⟩ := getF X103 hx hZ0 hown0 (host := "") (Or.inl (w33 hw)) Via.refl eq103 hV (g := (mkF m 48 #[.val (.ref a), .val (.int (0 : Int32)), .val (.int (0 : Int32)), .val (.int (Int32.ofNat cs.length)), .val (.int (0 : Int32))] [(.ref a)])) rfl rfl (hb hby d_jdk_42_method_92_48)
    obtain ⟨_, _, ⟨T111, L111, k111, n111⟩, -, X111', hS111', hgr111, ⟨Lc111, hQ111, l111, y111, z111⟩, st111⟩ := callSS X110 hx (y := yn34) hown0 (mvT hZ0 (w172 hw)) (mvT hZ0 (w173 hw)) (mvT hZ0 (w22 hw)) (mvT hZ0 (w174 hw)) (by decide) (backOfS (W := 0) (rm_u16new0 l Z a0 hw [] t (0 : Int32) h0 n0 Z0 ) hZ0 (w174 hw) (w22 hw) (by decide) (by decide)) (g := (mkF m 54 #[.val (.ref a), .val (.int (0 : Int32)), .val (.int (0 : Int32)), .val (.int (Int32.ofNat cs.length)), .val (.int (0 : Int32))] [(.int (0 : Int32)), (.int (0 : Int32)), (.ref t)])) rfl (by rw [hml]; rfl) (argsL := [(.ref t), (.int (0 : Int32)), (.int (0 : Int32))]) (rest := []) (lenOf pd__28__5b_BII_29_Ljava_2f_lang_2f_String_3b_ rfl) rfl (by show 2 * 0 + _ ≤ _; exact Nat.le_of_eq rfl) (hb hby d_jdk_42_method_92_54) (fun _ _ => ⟨rfl, e110, (Nat.le_of_ble_eq_true rfl), (Nat.le_of_ble_eq_true rfl)⟩)
    dsimp only [Pt.U, Pt.locs, Pt.cells, Pt.slots] at X111' hS111' hgr111 l111 y111 z111 st111 hQ111
    subst l111 y111 z111
    obtain ⟨X111, hS111, hZ111, hown111⟩ := rebS hS0 (by rw [e110]; exact hk0) X111' hS111' hgr111 hZ0 hown0
    obtain ⟨r_112, rfl, Nq111, K111⟩ := hQ111
    have N111 := Fr.app N103 Nq111
    have hk111 : T111.heap.size ≤ T111.heap.size := Nat.le_refl _
    have W113 : ∀ zQ, SS p e below T111 m 57 #[.val (.ref a), .val (.int (0 : Int32)), .val (.int (0 : Int32)), .val (.int (Int32.ofNat cs.length)), .val (.int (0 : Int32))] [(.ref r_112)] zQ → Steps p.tables e below (s₁.setTop (entryFrame m #[(.ref a), (.int (0 : Int32)), (.int (0 : Int32))] 5)) zQ := by
      intro tt kt
      refine W104 tt ?_
      rw [show (if (cdr cs) = (0 : Int32) then (1 : Int32) else (0 : Int32)) = (0 : Int32) from if_neg hc105]
      refine XS.ifYes X103.here hx rfl (pc0 := 31) (pc' := 47) rfl (hb hby d_jdk_42_method_92_31) rfl ((if0 _ _).trans (teq (by decide)).1) (by decide) (by decide) ?_
      refine XS.aloadN X103.here hx rfl (hb hby d_jdk_42_method_92_47) rfl rfl ?_
      show SS p e below T103 m 48 #[.val (.ref a), .val (.int (0 : Int32)), .val (.int (0 : Int32)), .val (.int (Int32.ofNat cs.length)), .val (.int (0 : Int32))] [(.ref a)] _
      refine st110 _ ?_
      refine XS.iloadN X110.here hx rfl (hb hby d_jdk_42_method_92_51) rfl ?_
      refine XS.iload X110.here hx rfl (hb hby d_jdk_42_method_92_52) rfl ?_
      show SS p e below T110 m 54 #[.val (.ref a), .val (.int (0 : Int32)), .val (.int (0 : Int32)), .val (.int (Int32.ofNat cs.length)), .val (.int (0 : Int32))] [(.int (0 : Int32)), (.int (0 : Int32)), (.ref t)] _
      refine st111.trans ?_
      exact kt
    obtain ⟨fs, hr, hrun, hended, hRW⟩ := Jvm.Stand.leaveW X111 hS111 hk111 (v := some (.ref r_112)) (fun h => by rw [Bd.returns] at h; cases h) (BodyLoose.notSynchronized Bd)
    refine ⟨_, _, W113 _ (own_retR X111 hx Bd.returns rfl rfl (hb hby d_jdk_42_method_92_57) hr), hrun, hended, _, _, rfl, ?_, own_rw hRW (by decide) (by decide)⟩
    show Q_sub0 Z a t kb cs cS fm h0 n0 _ T111.heap _
    exact ⟨r_112, rfl, N111, (Keep.trans (Keep.refl h0 []) K111 all0)⟩
def Q_recinit (Z : State) (a : Addr) (h0 : Heap) (n0 : Nat) (vQ_ : Option Value) (hQ_ : Heap) (LQ_ : List Loc) : Prop := vQ_ = none ∧ Fr n0 LQ_ ∧ hQ_ = h0
set_option maxRecDepth 65536 in
set_option maxHeartbeats 40000000 in
theorem rm_recinit (l : Launch) (Z : State) (a0 : Array Value) (hw : HW a0 Z) (ws : List Jvm.Cond) (a : Addr) (h0 : Heap) (n0 : Nat) (Z0 : n0 ≤ h0.size)  :
    MetFree l yn37 (head1 (Jvm.Cond.code yn37 jdk_30_method_1_code 1 none :: ws) ({ frames := 1, cells := 0, slots := 0, locals := 12 } : Room)) (fun aQ_ UQ => aQ_ = #[(.ref a)] ∧ Z.Warmed39 UQ.vm ∧ UQ.heap = h0) (fun _ _ _ _ _ => True) (fun _ UQ oQ UQ' => ∃ vQ_ LQ_, oQ = .returned vQ_ ∧ Q_recinit Z a h0 n0 vQ_ UQ'.heap LQ_ ∧ FrameEnd UQ oQ UQ' LQ_ ({ frames := 1, cells := 0, slots := 0, locals := 12 } : Room).cells ({ frames := 1, cells := 0, slots := 0, locals := 12 } : Room).slots) := by
  refine MetFree.of_bodySF (plainFor_of_name pn_java_lang_Record) hisR ?_
  intro p e s m args below meth cO s₁ Bd hml0 hP hK
  obtain ⟨rfl, hZ, hh⟩ := hP
  have hx := Bd.exec
  have hby := Bd.bytes
  have hml : cO.maxLocals = 1 := hml0
  have hown : s.vm.findClass "java/lang/Record" = some m.cls := findClass_of_methodNamed Bd.named
  have hnm := (name_of_methodNamed Bd.named Bd.method).1
  have X0 : Stand p l e ({ frames := 1, cells := 0, slots := 0, locals := 12 } : Room) s m #[(.ref a)] below meth cO s₁ [] 0 0 := Stand.of_body Bd
  have e0 : s₁.heap = h0 := by rw [← hh, Bd.state]; rfl
  have N0 := Fr.nil n0
  have W0 : ∀ zQ, SS p e below s₁ m 0 #[.val (.ref a)] [] zQ → Steps p.tables e below (s₁.setTop (entryFrame m #[(.ref a)] 1)) zQ := fun tt kt => castTop (ef_recinit m a) kt
  obtain ⟨T101, X101, e101, st101⟩ := initO X0 hx hZ hown (w88 hw) (w17 hw) (w18 hw) e0 (g := (mkF m 1 #[.val (.ref a)] [(.ref a)])) rfl (by rw [hml]; rfl) rfl (hb hby d_jdk_30_method_1_1) (by decide) (W := 0) (by show 2 * 0 + _ ≤ _; exact Nat.le_of_eq rfl) (by decide)
  have W102 : ∀ zQ, SS p e below T101 m 4 #[.val (.ref a)] [] zQ → Steps p.tables e below (s₁.setTop (entryFrame m #[(.ref a)] 1)) zQ := by
    intro tt kt
    refine W0 tt ?_
    refine XS.aloadN X0.here hx rfl (hb hby d_jdk_30_method_1_0) rfl rfl ?_
    show SS p e below s₁ m 1 #[.val (.ref a)] [(.ref a)] _
    refine st101 _ ?_
    exact kt
  obtain ⟨fs, hr, hrun, hended, hW, hsame⟩ := X101.leave (v := none) (fun _ => rfl)
  refine ⟨_, _, W102 _ (X101.returnOut hx Bd.returns (hb hby d_jdk_30_method_1_4) hr), hrun, hended, _, _, rfl, ?_, ⟨_, rfl⟩, hW, hsame.mono (by decide) (by decide)⟩
  show Q_recinit Z a h0 n0 _ T101.heap _
  rw [e101]
  exact ⟨rfl, N0, rfl⟩
def Q_tpinit (Z : State) (a : Addr) (c1 : Int32) (c2 : Int32) (h0 : Heap) (n0 : Nat) (vQ_ : Option Value) (hQ_ : Heap) (LQ_ : List Loc) : Prop := vQ_ = none ∧ Fr n0 LQ_ ∧ Keep h0 hQ_ [a] ∧ Exa Z hQ_ a "com/example/vestline/vestline/input/TextPosition" ∧ Fld Z hQ_ a "com/example/vestline/vestline/input/TextPosition" "line" "I" (.int c1) ∧ Fld Z hQ_ a "com/example/vestline/vestline/input/TextPosition" "character" "I" (.int c2)
set_option maxRecDepth 65536 in
set_option maxHeartbeats 40000000 in
theorem rm_tpinit (l : Launch) (Z : State) (a0 : Array Value) (hw : HW a0 Z) (ws : List Jvm.Cond) (a : Addr) (c1 : Int32) (c2 : Int32) (h0 : Heap) (n0 : Nat) (Z0 : n0 ≤ h0.size) (E1 : Exa Z h0 a "com/example/vestline/vestline/input/TextPosition") (F1 : Fld Z h0 a "com/example/vestline/vestline/input/TextPosition" "line" "I" (.int (0 : Int32))) (F2 : Fld Z h0 a "com/example/vestline/vestline/input/TextPosition" "character" "I" (.int (0 : Int32))) (g1 : n0 ≤ a) :
    MetFree l yn38 (head1 (Jvm.Cond.code yn38 prog_13_method_1_code 3 none :: ws) ({ frames := 2, cells := 0, slots := 0, locals := 24 } : Room)) (fun aQ_ UQ => aQ_ = #[(.ref a), (.int c1), (.int c2)] ∧ Z.Warmed39 UQ.vm ∧ UQ.heap = h0) (fun _ _ _ _ _ => True) (fun _ UQ oQ UQ' => ∃ vQ_ LQ_, oQ = .returned vQ_ ∧ Q_tpinit Z a c1 c2 h0 n0 vQ_ UQ'.heap LQ_ ∧ FrameEnd UQ oQ UQ' LQ_ ({ frames := 2, cells := 0, slots := 0, locals := 24 } : Room).cells ({ frames := 2, cells := 0, slots := 0, locals := 24 } : Room).slots) := by
  refine MetFree.of_bodySF (plainFor_of_name pn_com_example_vestline_vestline_input_TextPosition) hisR ?_
  intro p e s m args below meth cO s₁ Bd hml0 hP hK
  obtain ⟨rfl, hZ, hh⟩ := hP
  have hx := Bd.exec
  have hby := Bd.bytes
  have hml : cO.maxLocals = 3 := hml0
  have hown : s.vm.findClass "com/example/vestline/vestline/input/TextPosition" = some m.cls := findClass_of_methodNamed Bd.named
  have hnm := (name_of_methodNamed Bd.named Bd.method).1
  have X0 : Stand p l e ({ frames := 2, cells := 0, slots := 0, locals := 24 } : Room) s m #[(.ref a), (.int c1), (.int c2)] below meth cO s₁ [] 0 0 := Stand.of_body Bd
  have e0 : s₁.heap = h0 := by rw [← hh, Bd.state]; rfl
  have N0 := Fr.nil n0
  have W0 : ∀ zQ, SS p e below s₁ m 0 #[.val (.ref a), .val (.int c1), .val (.int c2)] [] zQ → Steps p.tables e below (s₁.setTop (entryFrame m #[(.ref a), (.int c1), (.int c2)] 3)) zQ := fun tt kt => castTop (ef_tpinit m a c1 c2) kt
  obtain ⟨_, _, ⟨T101, L101, k101, n101⟩, -, X101, ⟨Lc101, hQ101, l101, y101, z101⟩, st101⟩ := X0.specialBack hx (y := yn37) rfl hown (mvT hZ (w83 hw)) (mvT hZ (w84 hw)) (mvT hZ (w87 hw)) (by decide) (backOf (W := 0) (rm_recinit l Z a0 hw [] a h0 n0 Z0 ) hZ (w87 hw) (w86 hw) (by decide) (by decide)) (g := (mkF m 1 #[.val (.ref a), .val (.int c1), .val (.int c2)] [(.ref a)])) rfl (by rw [hml]; rfl) (Steps.refl _) (a := a) (argsL := []) (rest := []) (lenOf pd__28__29_V rfl) rfl (by show 2 * 0 + _ ≤ _; exact Nat.le_of_eq rfl) (hb hby d_prog_13_method_1_1) (fun _ _ => ⟨rfl, e0, (Nat.le_of_ble_eq_true rfl), (Nat.le_of_ble_eq_true rfl)⟩)
  dsimp only [Pt.U, Pt.locs, Pt.cells, Pt.slots] at X101 l101 y101 z101 st101 hQ101
  subst l101 y101 z101
  obtain ⟨rfl, Nq101, eq101⟩ := hQ101
  have N101 := Fr.app N0 Nq101
  obtain ⟨T102, h102, X102, e102, Wr102, st102⟩ := putF X101 hx hZ hown (host := "") (Or.inl (w89 hw)) Via.refl eq101 F1 E1 (Or.inr ⟨(w90 hw), rfl, hnm⟩) (w79 hw) (ty := .int) (by decide) rfl rfl (g := (mkF m 6 #[.val (.ref a), .val (.int c1), .val (.int c2)] [(.int c1), (.ref a)])) rfl rfl (hb hby d_prog_13_method_1_6)
  have K102 := Keep.of_wr Wr102
  have G102 := F1.same Wr102
  have N102 := Fr.snoc X102 N101 g1
  have F103 : Exa Z h102 a "com/example/vestline/vestline/input/TextPosition" := (E1.keep K102)
  have F104 : Fld Z h102 a "com/example/vestline/vestline/input/TextPosition" "character" "I" (.int (0 : Int32)) := (Fld.other Wr102 F2 (Or.inr (slot_ne (Or.inr (w92 hw)) (Or.inr (w90 hw)) (by decide) (t := .int) (t' := .int) (by decide) (by decide))))
  obtain ⟨T105, h105, X105, e105, Wr105, st105⟩ := putF X102 hx hZ hown (host := "") (Or.inl (w91 hw)) Via.refl e102 F104 F103 (Or.inr ⟨(w92 hw), rfl, hnm⟩) (w79 hw) (ty := .int) (by decide) rfl rfl (g := (mkF m 11 #[.val (.ref a), .val (.int c1), .val (.int c2)] [(.int c2), (.ref a)])) rfl rfl (hb hby d_prog_13_method_1_11)
  have K105 := Keep.of_wr Wr105
  have G105 := F104.same Wr105
  have N105 := Fr.snoc X105 N102 g1
  have W106 : ∀ zQ, SS p e below T105 m 14 #[.val (.ref a), .val (.int c1), .val (.int c2)] [] zQ → Steps p.tables e below (s₁.setTop (entryFrame m #[(.ref a), (.int c1), (.int c2)] 3)) zQ := by
    intro tt kt
    refine W0 tt ?_
    refine XS.aloadN X0.here hx rfl (hb hby d_prog_13_method_1_0) rfl rfl ?_
    show SS p e below s₁ m 1 #[.val (.ref a), .val (.int c1), .val (.int c2)] [(.ref a)] _
    refine st101.trans ?_
    refine XS.aloadN X101.here hx rfl (hb hby d_prog_13_method_1_4) rfl rfl ?_
    refine XS.iloadN X101.here hx rfl (hb hby d_prog_13_method_1_5) rfl ?_
    show SS p e below T101 m 6 #[.val (.ref a), .val (.int c1), .val (.int c2)] [(.int c1), (.ref a)] _
    refine st102 _ ?_
    refine XS.aloadN X102.here hx rfl (hb hby d_prog_13_method_1_9) rfl rfl ?_
    refine XS.iloadN X102.here hx rfl (hb hby d_prog_13_method_1_10) rfl ?_
    show SS p e below T102 m 11 #[.val (.ref a), .val (.int c1), .val (.int c2)] [(.int c2), (.ref a)] _
    refine st105 _ ?_
    exact kt
  have F107 : Exa Z h105 a "com/example/vestline/vestline/input/TextPosition" := (F103.keep K105)
  have F108 : Fld Z h105 a "com/example/vestline/vestline/input/TextPosition" "line" "I" (.int c1) := (Fld.other Wr105 G102 (Or.inr (slot_ne (Or.inr (w90 hw)) (Or.inr (w92 hw)) (by decide) (t := .int) (t' := .int) (by decide) (by decide))))
  obtain ⟨fs, hr, hrun, hended, hW, hsame⟩ := X105.leave (v := none) (fun _ => rfl)
  refine ⟨_, _, W106 _ (X105.returnOut hx Bd.returns (hb hby d_prog_13_method_1_14) hr), hrun, hended, _, _, rfl, ?_, ⟨_, rfl⟩, hW, hsame.mono (by decide) (by decide)⟩
  show Q_tpinit Z a c1 c2 h0 n0 _ T105.heap _
  rw [e105]
  exact ⟨rfl, N105, (Keep.trans (Keep.trans (Keep.refl h0 [a]) K102 (allS (Or.inl (List.mem_of_getElem? (i := 0) rfl)) all0)) K105 (allS (Or.inl (List.mem_of_getElem? (i := 0) rfl)) all0)), F107, F108, G105⟩
def Q_line (Z : State) (a : Addr) (w : Int32) (h0 : Heap) (n0 : Nat) (vQ_ : Option Value) (hQ_ : Heap) (LQ_ : List Loc) : Prop := vQ_ = some (.int w) ∧ Fr n0 LQ_ ∧ hQ_ = h0
set_option maxRecDepth 65536 in
set_option maxHeartbeats 40000000 in
theorem rm_line (l : Launch) (Z : State) (a0 : Array Value) (hw : HW a0 Z) (ws : List Jvm.Cond) (a : Addr) (w : Int32) (h0 : Heap) (n0 : Nat) (Z0 : n0 ≤ h0.size) (F1 : Fld Z h0 a "com/example/vestline/vestline/input/TextPosition" "line" "I" (.int w)) :
    MetFree l yn39 (head1 (Jvm.Cond.code yn39 prog_13_method_6_code 1 (some .int) :: ws) ({ frames := 0, cells := 0, slots := 0, locals := 0 } : Room)) (fun aQ_ UQ => aQ_ = #[(.ref a)] ∧ Z.Warmed39 UQ.vm ∧ UQ.heap = h0) (fun _ _ _ _ _ => True) (fun _ UQ oQ UQ' => ∃ vQ_ LQ_, oQ = .returned vQ_ ∧ Q_line Z a w h0 n0 vQ_ UQ'.heap LQ_ ∧ FrameEnd UQ oQ UQ' LQ_ ({ frames := 0, cells := 0, slots := 0, locals := 0 } : Room).cells ({ frames := 0, cells := 0, slots := 0, locals := 0 } : Room).slots) := by
  refine MetFree.of_bodySF (plainFor_of_name pn_com_example_vestline_vestline_input_TextPosition) hisR ?_
  intro p e s m args below meth cO s₁ Bd hml0 hP hK
  obtain ⟨rfl, hZ, hh⟩ := hP
  have hx := Bd.exec
  have hby := Bd.bytes
  have hml : cO.maxLocals = 1 := hml0
  have hown : s.vm.findClass "com/example/vestline/vestline/input/TextPosition" = some m.cls := findClass_of_methodNamed Bd.named
  have hnm := (name_of_methodNamed Bd.named Bd.method).1
  have X0 : Stand p l e ({ frames := 0, cells := 0, slots := 0, locals := 0 } : Room) s m #[(.ref a)] below meth cO s₁ [] 0 0 := Stand.of_body Bd
  have e0 : s₁.heap = h0 := by rw [← hh, Bd.state]; rfl
  have N0 := Fr.nil n0
  have W0 : ∀ zQ, SS p e below s₁ m 0 #[.val (.ref a)] [] zQ → Steps p.tables e below (s₁.setTop (entryFrame m #[(.ref a)] 1)) zQ := fun tt kt => castTop (ef_line m a) kt
  obtain ⟨T101, X101, e101, st101⟩ := getF X0 hx hZ hown (host := "") (Or.inl (w89 hw)) Via.refl e0 F1 (g := (mkF m 1 #[.val (.ref a)] [(.ref a)])) rfl rfl (hb hby d_prog_13_method_6_1)
  have W102 : ∀ zQ, SS p e below T101 m 4 #[.val (.ref a)] [(.int w)] zQ → Steps p.tables e below (s₁.setTop (entryFrame m #[(.ref a)] 1)) zQ := by
    intro tt kt
    refine W0 tt ?_
    refine XS.aloadN X0.here hx rfl (hb hby d_prog_13_method_6_0) rfl rfl ?_
    show SS p e below s₁ m 1 #[.val (.ref a)] [(.ref a)] _
    refine st101 _ ?_
    exact kt
  obtain ⟨fs, hr, hrun, hended, hW, hsame⟩ := X101.leave (v := some (.int w)) (fun h => by rw [Bd.returns] at h; cases h)
  refine ⟨_, _, W102 _ (retI X101 hx Bd.returns (hb hby d_prog_13_method_6_4) hr), hrun, hended, _, _, rfl, ?_, ⟨_, rfl⟩, hW, hsame.mono (by decide) (by decide)⟩
  show Q_line Z a w h0 n0 _ T101.heap _
  rw [e101]
  exact ⟨rfl, N0, rfl⟩
def Q_character (Z : State) (a : Addr) (w : Int32) (h0 : Heap) (n0 : Nat) (vQ_ : Option Value) (hQ_ : Heap) (LQ_ : List Loc) : Prop := vQ_ = some (.int w) ∧ Fr n0 LQ_ ∧ hQ_ = h0
set_option maxRecDepth 65536 in
set_option maxHeartbeats 40000000 in
theorem rm_character (l : Launch) (Z : State) (a0 : Array Value) (hw : HW a0 Z) (ws : List Jvm.Cond) (a : Addr) (w : Int32) (h0 : Heap) (n0 : Nat) (Z0 : n0 ≤ h0.size) (F1 : Fld Z h0 a "com/example/vestline/vestline/input/TextPosition" "character" "I" (.int w)) :
    MetFree l yn40 (head1 (Jvm.Cond.code yn40 prog_13_method_7_code 1 (some .int) :: ws) ({ frames := 0, cells := 0, slots := 0, locals := 0 } : Room)) (fun aQ_ UQ => aQ_ = #[(.ref a)] ∧ Z.Warmed39 UQ.vm ∧ UQ.heap = h0) (fun _ _ _ _ _ => True) (fun _ UQ oQ UQ' => ∃ vQ_ LQ_, oQ = .returned vQ_ ∧ Q_character Z a w h0 n0 vQ_ UQ'.heap LQ_ ∧ FrameEnd UQ oQ UQ' LQ_ ({ frames := 0, cells := 0, slots := 0, locals := 0 } : Room).cells ({ frames := 0, cells := 0, slots := 0, locals := 0 } : Room).slots) := by
  refine MetFree.of_bodySF (plainFor_of_name pn_com_example_vestline_vestline_input_TextPosition) hisR ?_
  intro p e s m args below meth cO s₁ Bd hml0 hP hK
  obtain ⟨rfl, hZ, hh⟩ := hP
  have hx := Bd.exec
  have hby := Bd.bytes
  have hml : cO.maxLocals = 1 := hml0
  have hown : s.vm.findClass "com/example/vestline/vestline/input/TextPosition" = some m.cls := findClass_of_methodNamed Bd.named
  have hnm := (name_of_methodNamed Bd.named Bd.method).1
  have X0 : Stand p l e ({ frames := 0, cells := 0, slots := 0, locals := 0 } : Room) s m #[(.ref a)] below meth cO s₁ [] 0 0 := Stand.of_body Bd
  have e0 : s₁.heap = h0 := by rw [← hh, Bd.state]; rfl
  have N0 := Fr.nil n0
  have W0 : ∀ zQ, SS p e below s₁ m 0 #[.val (.ref a)] [] zQ → Steps p.tables e below (s₁.setTop (entryFrame m #[(.ref a)] 1)) zQ := fun tt kt => castTop (ef_character m a) kt
  obtain ⟨T101, X101, e101, st101⟩ := getF X0 hx hZ hown (host := "") (Or.inl (w91 hw)) Via.refl e0 F1 (g := (mkF m 1 #[.val (.ref a)] [(.ref a)])) rfl rfl (hb hby d_prog_13_method_7_1)
  have W102 : ∀ zQ, SS p e below T101 m 4 #[.val (.ref a)] [(.int w)] zQ → Steps p.tables e below (s₁.setTop (entryFrame m #[(.ref a)] 1)) zQ := by
    intro tt kt
    refine W0 tt ?_
    refine XS.aloadN X0.here hx rfl (hb hby d_prog_13_method_7_0) rfl rfl ?_
    show SS p e below s₁ m 1 #[.val (.ref a)] [(.ref a)] _
    refine st101 _ ?_
    exact kt
  obtain ⟨fs, hr, hrun, hended, hW, hsame⟩ := X101.leave (v := some (.int w)) (fun h => by rw [Bd.returns] at h; cases h)
  refine ⟨_, _, W102 _ (retI X101 hx Bd.returns (hb hby d_prog_13_method_7_4) hr), hrun, hended, _, _, rfl, ?_, ⟨_, rfl⟩, hW, hsame.mono (by decide) (by decide)⟩
  show Q_character Z a w h0 n0 _ T101.heap _
  rw [e101]
  exact ⟨rfl, N0, rfl⟩
def ek (k i : Nat) (x0 x1 x2 x3 : Int32) : Int32 := el (if k = 4 then [x0, x1, x2, x3] else (([x0, x1, x2, x3].drop 0).take k)) i
def ln (k : Nat) (x0 x1 x2 x3 : Int32) : Nat → Int32 | 0 => 1 | i + 1 => if ek k i x0 x1 x2 x3 = (0 : Int32) then ln k x0 x1 x2 x3 i else ln k x0 x1 x2 x3 i + 1
def lo (k : Nat) (x0 x1 x2 x3 : Int32) : Nat → Int32 | 0 => 0 | i + 1 => if ek k i x0 x1 x2 x3 = (0 : Int32) then lo k x0 x1 x2 x3 i else Int32.ofNat (i + 1)
def Q_after0 (Z : State) (a : Addr) (t : Addr) (kb : ClassId) (x0 : Int32) (x1 : Int32) (x2 : Int32) (x3 : Int32) (cS : Int32) (fm : Value) (h0 : Heap) (n0 : Nat) (vQ_ : Option Value) (hQ_ : Heap) (LQ_ : List Loc) : Prop := ∃ r : Addr, vQ_ = some (.ref r) ∧ Fr n0 LQ_ ∧ Keep h0 hQ_ [] ∧ h0.size ≤ r ∧ Exa Z hQ_ r "com/example/vestline/vestline/input/TextPosition" ∧ Fld Z hQ_ r "com/example/vestline/vestline/input/TextPosition" "line" "I" (.int (1 : Int32)) ∧ Fld Z hQ_ r "com/example/vestline/vestline/input/TextPosition" "character" "I" (.int (0 : Int32))
set_option maxRecDepth 65536 in
set_option maxHeartbeats 40000000 in
theorem rm_after0 (l : Launch) (Z : State) (a0 : Array Value) (hw : HW a0 Z) (ws : List Jvm.Cond) (a : Addr) (t : Addr) (kb : ClassId) (x0 : Int32) (x1 : Int32) (x2 : Int32) (x3 : Int32) (cS : Int32) (fm : Value) (h0 : Heap) (n0 : Nat) (Z0 : n0 ≤ h0.size) (O0 : Old Z n0 h0) (S_cs : Sta Z Z.heap "java/lang/String" "COMPACT_STRINGS" "Z" (.int cS)) (hcS : ¬ (cS = (0 : Int32))) (S_fm : Sta Z Z.heap "jdk/internal/util/Preconditions" "SIOOBE_FORMATTER" "Ljava/util/function/BiFunction;" fm) (hfm : fm.isRef = true) (hS : Str Z h0 a t kb [x0, x1, x2, x3]) :
    MetFree l yn41 (head1 (Jvm.Cond.code yn41 prog_13_method_2_code 6 (some (.object "com/example/vestline/vestline/input/TextPosition")) :: ws) ({ frames := 3, cells := 3, slots := 6, locals := 45 } : Room)) (fun aQ_ UQ => aQ_ = #[(.ref a), (.int (0 : Int32))] ∧ Z.Warmed39 UQ.vm ∧ UQ.heap = h0) (fun _ _ _ _ _ => True) (fun _ UQ oQ UQ' => ∃ vQ_ LQ_, oQ = .returned vQ_ ∧ Q_after0 Z a t kb x0 x1 x2 x3 cS fm h0 n0 vQ_ UQ'.heap LQ_ ∧ ReturnedEndW UQ oQ UQ' LQ_ ({ frames := 3, cells := 3, slots := 6, locals := 45 } : Room).cells ({ frames := 3, cells := 3, slots := 6, locals := 45 } : Room).slots) := by
  refine MetFree.of_bodySF (plainFor_of_name pn_com_example_vestline_vestline_input_TextPosition) hisR ?_
  intro p e s m args below meth cO s₁ Bd hml0 hP hK
  obtain ⟨rfl, hZ, hh⟩ := hP
  have hx := Bd.exec
  have hby := Bd.bytes
  have hml : cO.maxLocals = 6 := hml0
  have hown : s.vm.findClass "com/example/vestline/vestline/input/TextPosition" = some m.cls := findClass_of_methodNamed Bd.named
  have hnm := (name_of_methodNamed Bd.named Bd.method).1
  have X0 : Stand p l e ({ frames := 3, cells := 3, slots := 6, locals := 45 } : Room) (s.setVm s.vm) m #[(.ref a), (.int (0 : Int32))] below meth cO s₁ [] 0 0 := Stand.of_body Bd
  have e0 : s₁.heap = h0 := by rw [← hh, Bd.state]; rfl
  have N0 := Fr.nil n0
  have hZ0 : Z.Warmed39 (s.setVm s.vm).vm := hZ
  have hown0 : (s.setVm s.vm).vm.findClass "com/example/vestline/vestline/input/TextPosition" = some m.cls := hown
  have hS0 : s.Since s.vm 0 := (State.WarmedH.refl s).since 0
  have hk0 : 0 ≤ h0.size := Nat.zero_le _
  have W0 : ∀ zQ, SS p e below s₁ m 0 #[.val (.ref a), .val (.int (0 : Int32)), .unset, .unset, .unset, .unset] [] zQ → Steps p.tables e below (s₁.setTop (entryFrame m #[(.ref a), (.int (0 : Int32))] 6)) zQ := fun tt kt => castTop (ef_after0 m a (0 : Int32)) kt
  obtain ⟨cq101, kq101, q101a, q101b, q101c⟩ := isOf hZ0 e0 hS.1
  obtain ⟨_, _, ⟨T101, L101, k101, n101⟩, -, X101', hS101', hgr101, ⟨Lc101, hQ101, l101, y101, z101⟩, st101⟩ := X0.virtualBackS hx (y := yn35) (z := yn35) hown0 (mvT hZ0 (w43 hw)) (mvT hZ0 (w44 hw)) (notFace_of_selects (args := #[]) (mvT hZ0 (w46 hw))) (mvT hZ0 (w46 hw)) (mvT hZ0 (w45 hw)) (by decide) (backOfS (W := 0) (rm_sub0 l Z a0 hw [] a t kb [x0, x1, x2, x3] cS fm h0 n0 Z0 O0 S_cs hcS S_fm hfm hS (Nat.le_of_ble_eq_true rfl)) hZ0 (w47 hw) (w8 hw) (by decide) (by decide)) q101a q101c (g := (mkF m 3 #[.val (.ref a), .val (.int (0 : Int32)), .unset, .unset, .unset, .unset] [(.int (0 : Int32)), (.int (0 : Int32)), (.ref a)])) rfl (by rw [hml]; rfl) (Steps.refl _) (argsL := [(.int (0 : Int32)), (.int (0 : Int32))]) (rest := []) (lenOf pd__28_II_29_Ljava_2f_lang_2f_String_3b_ rfl) rfl (by show 2 * 0 + _ ≤ _; exact Nat.le_of_eq rfl) (hb hby d_prog_13_method_2_3) (fun _ _ => ⟨rfl, e0, (Nat.le_of_ble_eq_true rfl), (Nat.le_of_ble_eq_true rfl)⟩)
  dsimp only [Pt.U, Pt.locs, Pt.cells, Pt.slots] at X101' hS101' hgr101 l101 y101 z101 st101 hQ101
  subst l101 y101 z101
  obtain ⟨X101, hS101, hZ101, hown101⟩ := rebS hS0 (by rw [e0]; exact hk0) X101' hS101' hgr101 hZ0 hown0
  obtain ⟨r_102, rfl, Nq101, K101⟩ := hQ101
  have N101 := Fr.app N0 Nq101
  have hk101 : T101.heap.size ≤ T101.heap.size := Nat.le_refl _
  obtain ⟨T103, h103, X103, e103, E103, A103, D103, U103, st103⟩ := newO X101 hx hZ101 hown101 (w78 hw) (w79 hw) (w41 hw) rfl (g := (mkF m 45 #[.val (.ref a), .val (.int (0 : Int32)), .val (.ref r_102), .val (.int (1 : Int32)), .val (.int (0 : Int32)), .val (.int (0 : Int32))] [])) rfl (hb hby d_prog_13_method_2_45) (by decide) (by decide)
  obtain ⟨b103, g103⟩ : ∃ z, z = T101.heap.size := ⟨_, rfl⟩
  rw [← g103] at A103 D103 U103 st103
  have K103 := (Keep.refl T101.heap []).ext E103
  have G103_line : Fld Z h103 b103 "com/example/vestline/vestline/input/TextPosition" "line" "I" (.int (0 : Int32)) := D103 (Or.inr (w90 hw)) (ty := .int) (by decide)
  have G103_character : Fld Z h103 b103 "com/example/vestline/vestline/input/TextPosition" "character" "I" (.int (0 : Int32)) := D103 (Or.inr (w92 hw)) (ty := .int) (by decide)
  obtain ⟨_, _, ⟨T104, L104, k104, n104⟩, -, X104, ⟨Lc104, hQ104, l104, y104, z104⟩, st104⟩ := X103.specialBack hx (y := yn38) rfl hown101 (mvT hZ101 (w80 hw)) (mvT hZ101 (w81 hw)) (mvT hZ101 (w82 hw)) (by decide) (backOf (W := 1) (rm_tpinit l Z a0 hw [] b103 (1 : Int32) (0 : Int32) h103 n0 (Nat.le_trans Z0 (Nat.le_trans K101.1 K103.1)) A103 G103_line G103_character (Nat.le_trans Z0 (Nat.le_trans K101.1 (Nat.le_of_eq g103.symm)))) hZ101 (w82 hw) (w41 hw) (by decide) (by decide)) (g := (mkF m 54 #[.val (.ref a), .val (.int (0 : Int32)), .val (.ref r_102), .val (.int (1 : Int32)), .val (.int (0 : Int32)), .val (.int (0 : Int32))] [(.int (0 : Int32)), (.int (1 : Int32)), (.ref b103), (.ref b103)])) rfl (by rw [hml]; rfl) (Steps.refl _) (a := b103) (argsL := [(.int (1 : Int32)), (.int (0 : Int32))]) (rest := [(.ref b103)]) (lenOf pd__28_II_29_V rfl) rfl (by show 2 * 0 + _ ≤ _; exact Nat.le_of_eq rfl) (hb hby d_prog_13_method_2_54) (fun _ _ => ⟨rfl, e103, (Nat.le_of_ble_eq_true rfl), (Nat.le_of_ble_eq_true rfl)⟩)
  dsimp only [Pt.U, Pt.locs, Pt.cells, Pt.slots] at X104 l104 y104 z104 st104 hQ104
  subst l104 y104 z104
  obtain ⟨rfl, Nq104, K104, P104_0, P104_1, P104_2⟩ := hQ104
  have N104 := Fr.app N101 Nq104
  have W105 : ∀ zQ, SS p e below T104 m 57 #[.val (.ref a), .val (.int (0 : Int32)), .val (.ref r_102), .val (.int (1 : Int32)), .val (.int (0 : Int32)), .val (.int (0 : Int32))] [(.ref b103)] zQ → Steps p.tables e below (s₁.setTop (entryFrame m #[(.ref a), (.int (0 : Int32))] 6)) zQ := by
    intro tt kt
    refine W0 tt ?_
    refine XS.aloadN X0.here hx rfl (hb hby d_prog_13_method_2_0) rfl rfl ?_
    refine XS.iconst X0.here hx rfl (hb hby d_prog_13_method_2_1) ?_
    refine XS.iloadN X0.here hx rfl (hb hby d_prog_13_method_2_2) rfl ?_
    show SS p e below s₁ m 3 #[.val (.ref a), .val (.int (0 : Int32)), .unset, .unset, .unset, .unset] [(.int (0 : Int32)), (.int (0 : Int32)), (.ref a)] _
    refine st101.trans ?_
    refine XS.astoreN X101.here hx rfl (hb hby d_prog_13_method_2_6) rfl rfl (l' := #[.val (.ref a), .val (.int (0 : Int32)), .val (.ref r_102), .unset, .unset, .unset]) rfl ?_
    refine XS.iconst X101.here hx rfl (hb hby d_prog_13_method_2_7) ?_
    refine XS.istoreN X101.here hx rfl (hb hby d_prog_13_method_2_8) rfl (l' := #[.val (.ref a), .val (.int (0 : Int32)), .val (.ref r_102), .val (.int (1 : Int32)), .unset, .unset]) rfl ?_
    refine XS.iconst X101.here hx rfl (hb hby d_prog_13_method_2_9) ?_
    refine XS.istore X101.here hx rfl (hb hby d_prog_13_method_2_10) rfl (l' := #[.val (.ref a), .val (.int (0 : Int32)), .val (.ref r_102), .val (.int (1 : Int32)), .val (.int (0 : Int32)), .unset]) rfl ?_
    show SS p e below T101 m 12 #[.val (.ref a), .val (.int (0 : Int32)), .val (.ref r_102), .val (.int (1 : Int32)), .val (.int (0 : Int32)), .unset] [] _
    refine XS.iconst X101.here hx rfl (hb hby d_prog_13_method_2_12) ?_
    refine XS.istore X101.here hx rfl (hb hby d_prog_13_method_2_13) rfl (l' := #[.val (.ref a), .val (.int (0 : Int32)), .val (.ref r_102), .val (.int (1 : Int32)), .val (.int (0 : Int32)), .val (.int (0 : Int32))]) rfl ?_
    refine XS.iload X101.here hx rfl (hb hby d_prog_13_method_2_15) rfl ?_
    refine XS.iloadN X101.here hx rfl (hb hby d_prog_13_method_2_17) rfl ?_
    refine XS.icmpYes X101.here hx rfl (pc0 := 18) (pc' := 45) rfl (hb hby d_prog_13_method_2_18) rfl (flt (by decide)).2.1 (by decide) (by decide) ?_
    show SS p e below T101 m 45 #[.val (.ref a), .val (.int (0 : Int32)), .val (.ref r_102), .val (.int (1 : Int32)), .val (.int (0 : Int32)), .val (.int (0 : Int32))] [] _
    refine st103 _ ?_
    refine XS.dup X103.here hx rfl (hb hby d_prog_13_method_2_48) rfl rfl ?_
    refine XS.iloadN X103.here hx rfl (hb hby d_prog_13_method_2_49) rfl ?_
    refine XS.iloadN X103.here hx rfl (hb hby d_prog_13_method_2_50) rfl ?_
    refine XS.iload X103.here hx rfl (hb hby d_prog_13_method_2_51) rfl ?_
    refine XS.isub X103.here hx rfl (hb hby d_prog_13_method_2_53) rfl ?_
    show SS p e below T103 m 54 #[.val (.ref a), .val (.int (0 : Int32)), .val (.ref r_102), .val (.int (1 : Int32)), .val (.int (0 : Int32)), .val (.int (0 : Int32))] [(.int (0 : Int32)), (.int (1 : Int32)), (.ref b103), (.ref b103)] _
    refine st104.trans ?_
    exact kt
  obtain ⟨fs, hr, hrun, hended, hRW⟩ := Jvm.Stand.leaveW X104 hS101 (Nat.le_trans hk101 (Nat.le_trans K103.1 K104.1)) (v := some (.ref b103)) (fun h => by rw [Bd.returns] at h; cases h) (BodyLoose.notSynchronized Bd)
  refine ⟨_, _, W105 _ (own_retR X104 hx Bd.returns rfl rfl (hb hby d_prog_13_method_2_57) hr), hrun, hended, _, _, rfl, ?_, own_rw hRW (by decide) (by decide)⟩
  show Q_after0 Z a t kb x0 x1 x2 x3 cS fm h0 n0 _ T104.heap _
  exact ⟨b103, rfl, N104, (Keep.trans (Keep.trans (Keep.trans (Keep.refl h0 []) K101 all0) K103 all0) K104 (allS (Or.inr (Nat.le_trans K101.1 (Nat.le_of_eq g103.symm))) all0)), (Nat.le_trans K101.1 (Nat.le_of_eq g103.symm)), P104_0, P104_1, P104_2⟩
def Q_after1 (Z : State) (a : Addr) (t : Addr) (kb : ClassId) (x0 : Int32) (x1 : Int32) (x2 : Int32) (x3 : Int32) (cS : Int32) (fm : Value) (h0 : Heap) (n0 : Nat) (vQ_ : Option Value) (hQ_ : Heap) (LQ_ : List Loc) : Prop := ∃ r : Addr, vQ_ = some (.ref r) ∧ Fr n0 LQ_ ∧ Keep h0 hQ_ [] ∧ h0.size ≤ r ∧ Exa Z hQ_ r "com/example/vestline/vestline/input/TextPosition" ∧ Fld Z hQ_ r "com/example/vestline/vestline/input/TextPosition" "line" "I" (.int (ln 1 x0 x1 x2 x3 1)) ∧ Fld Z hQ_ r "com/example/vestline/vestline/input/TextPosition" "character" "I" (.int ((1 : Int32) - (lo 1 x0 x1 x2 x3 1)))
set_option maxRecDepth 65536 in
set_option maxHeartbeats 40000000 in
theorem rm_after1 (l : Launch) (Z : State) (a0 : Array Value) (hw : HW a0 Z) (ws : List Jvm.Cond) (a : Addr) (t : Addr) (kb : ClassId) (x0 : Int32) (x1 : Int32) (x2 : Int32) (x3 : Int32) (cS : Int32) (fm : Value) (h0 : Heap) (n0 : Nat) (Z0 : n0 ≤ h0.size) (O0 : Old Z n0 h0) (S_cs : Sta Z Z.heap "java/lang/String" "COMPACT_STRINGS" "Z" (.int cS)) (hcS : ¬ (cS = (0 : Int32))) (S_fm : Sta Z Z.heap "jdk/internal/util/Preconditions" "SIOOBE_FORMATTER" "Ljava/util/function/BiFunction;" fm) (hfm : fm.isRef = true) (S_ad : Sta Z Z.heap "java/lang/StringUTF16" "$assertionsDisabled" "Z" (.int (1 : Int32))) (S_hi : Sta Z Z.heap "java/lang/StringUTF16" "HI_BYTE_SHIFT" "I" (.int (0 : Int32))) (S_lo : Sta Z Z.heap "java/lang/StringUTF16" "LO_BYTE_SHIFT" "I" (.int (8 : Int32))) (hS : Str Z h0 a t kb [x0, x1, x2, x3]) :
    MetFree l yn41 (head1 (Jvm.Cond.code yn41 prog_13_method_2_code 6 (some (.object "com/example/vestline/vestline/input/TextPosition")) :: ws) ({ frames := 7, cells := 4, slots := 18, locals := 143 } : Room)) (fun aQ_ UQ => aQ_ = #[(.ref a), (.int (1 : Int32))] ∧ Z.Warmed39 UQ.vm ∧ UQ.heap = h0) (fun _ _ _ _ _ => True) (fun _ UQ oQ UQ' => ∃ vQ_ LQ_, oQ = .returned vQ_ ∧ Q_after1 Z a t kb x0 x1 x2 x3 cS fm h0 n0 vQ_ UQ'.heap LQ_ ∧ FrameEnd UQ oQ UQ' LQ_ ({ frames := 7, cells := 4, slots := 18, locals := 143 } : Room).cells ({ frames := 7, cells := 4, slots := 18, locals := 143 } : Room).slots) := by
  refine MetFree.of_bodySF (plainFor_of_name pn_com_example_vestline_vestline_input_TextPosition) hisR ?_
  intro p e s m args below meth cO s₁ Bd hml0 hP hK
  obtain ⟨rfl, hZ, hh⟩ := hP
  have hx := Bd.exec
  have hby := Bd.bytes
  have hml : cO.maxLocals = 6 := hml0
  have hown : s.vm.findClass "com/example/vestline/vestline/input/TextPosition" = some m.cls := findClass_of_methodNamed Bd.named
  have hnm := (name_of_methodNamed Bd.named Bd.method).1
  have X0 : Stand p l e ({ frames := 7, cells := 4, slots := 18, locals := 143 } : Room) s m #[(.ref a), (.int (1 : Int32))] below meth cO s₁ [] 0 0 := Stand.of_body Bd
  have e0 : s₁.heap = h0 := by rw [← hh, Bd.state]; rfl
  have N0 := Fr.nil n0
  have W0 : ∀ zQ, SS p e below s₁ m 0 #[.val (.ref a), .val (.int (1 : Int32)), .unset, .unset, .unset, .unset] [] zQ → Steps p.tables e below (s₁.setTop (entryFrame m #[(.ref a), (.int (1 : Int32))] 6)) zQ := fun tt kt => castTop (ef_after1 m a (1 : Int32)) kt
  obtain ⟨cq101, kq101, q101a, q101b, q101c⟩ := isOf hZ e0 hS.1
  obtain ⟨_, _, ⟨T101, L101, k101, n101⟩, -, X101, ⟨Lc101, hQ101, l101, y101, z101⟩, st101⟩ := X0.virtualBack hx (y := yn35) (z := yn35) hown (mvT hZ (w43 hw)) (mvT hZ (w44 hw)) (notFace_of_selects (args := #[]) (mvT hZ (w46 hw))) (mvT hZ (w46 hw)) (mvT hZ (w45 hw)) (by decide) (backOf (W := 0) (rm_subMid l Z a0 hw [] a 0 1 t kb [x0, x1, x2, x3] cS fm h0 n0 Z0 O0 S_cs hcS S_fm hfm S_ad S_hi S_lo hS (Nat.le_of_ble_eq_true rfl) (Nat.le_of_ble_eq_true rfl) (Nat.le_of_ble_eq_true rfl) (Nat.le_of_ble_eq_true rfl)) hZ (w47 hw) (w8 hw) (by decide) (by decide)) q101a q101c (g := (mkF m 3 #[.val (.ref a), .val (.int (1 : Int32)), .unset, .unset, .unset, .unset] [(.int (1 : Int32)), (.int (0 : Int32)), (.ref a)])) rfl (by rw [hml]; rfl) (Steps.refl _) (argsL := [(.int (0 : Int32)), (.int (1 : Int32))]) (rest := []) (lenOf pd__28_II_29_Ljava_2f_lang_2f_String_3b_ rfl) rfl (by show 2 * 0 + _ ≤ _; exact Nat.le_of_eq rfl) (hb hby d_prog_13_method_2_3) (fun _ _ => ⟨rfl, e0, (Nat.le_of_ble_eq_true rfl), (Nat.le_of_ble_eq_true rfl)⟩)
  dsimp only [Pt.U, Pt.locs, Pt.cells, Pt.slots] at X101 l101 y101 z101 st101 hQ101
  subst l101 y101 z101
  obtain ⟨r_102, t2_103, kb2_104, rfl, Nq101, K101, P101_0, P101_1, P101_2⟩ := hQ101
  have N101 := Fr.app N0 Nq101
  have O105 : Old Z n0 T101.heap := (O0.keep K101 all0)
  obtain ⟨_, _, ⟨T106, L106, k106, n106⟩, -, X106, ⟨Lc106, hQ106, l106, y106, z106⟩, st106⟩ := Jvm.LawKit.callS X101 hx (y := yn36) hown (mvT hZ (w125 hw)) (mvT hZ (w126 hw)) (mvT hZ (w127 hw)) (mvT hZ (w128 hw)) (by decide) (backOf (W := 0) (rm_endsLine l Z a0 hw [] r_102 0 t2_103 kb2_104 (([x0, x1, x2, x3].drop 0).take 1) cS fm T101.heap n0 (Nat.le_trans Z0 K101.1) O105 S_cs hcS S_fm hfm S_ad S_hi S_lo P101_2 (Nat.le_of_ble_eq_true rfl)) hZ (w128 hw) (w127 hw) (by decide) (by decide)) (g := (mkF m 24 #[.val (.ref a), .val (.int (1 : Int32)), .val (.ref r_102), .val (.int (1 : Int32)), .val (.int (0 : Int32)), .val (.int (0 : Int32))] [(.int (0 : Int32)), (.ref r_102)])) rfl (by rw [hml]; rfl) (argsL := [(.ref r_102), (.int (0 : Int32))]) (rest := []) (lenOf pd__28_Ljava_2f_lang_2f_String_3b_I_29_Z rfl) rfl (by show 2 * 0 + _ ≤ _; exact Nat.le_of_eq rfl) (hb hby d_prog_13_method_2_24) (fun _ _ => ⟨rfl, rfl, (Nat.le_of_ble_eq_true rfl), (Nat.le_of_ble_eq_true rfl)⟩)
  dsimp only [Pt.U, Pt.locs, Pt.cells, Pt.slots] at X106 l106 y106 z106 st106 hQ106
  subst l106 y106 z106
  obtain ⟨rfl, Nq106, eq106⟩ := hQ106
  have N106 := Fr.app N101 Nq106
  have W107 : ∀ zQ, SS p e below T106 m 27 #[.val (.ref a), .val (.int (1 : Int32)), .val (.ref r_102), .val (.int (1 : Int32)), .val (.int (0 : Int32)), .val (.int (0 : Int32))] [(.int (ek 1 0 x0 x1 x2 x3))] zQ → Steps p.tables e below (s₁.setTop (entryFrame m #[(.ref a), (.int (1 : Int32))] 6)) zQ := by
    intro tt kt
    refine W0 tt ?_
    refine XS.aloadN X0.here hx rfl (hb hby d_prog_13_method_2_0) rfl rfl ?_
    refine XS.iconst X0.here hx rfl (hb hby d_prog_13_method_2_1) ?_
    refine XS.iloadN X0.here hx rfl (hb hby d_prog_13_method_2_2) rfl ?_
    show SS p e below s₁ m 3 #[.val (.ref a), .val (.int (1 : Int32)), .unset, .unset, .unset, .unset] [(.int (1 : Int32)), (.int (0 : Int32)), (.ref a)] _
    refine st101.trans ?_
    refine XS.astoreN X101.here hx rfl (hb hby d_prog_13_method_2_6) rfl rfl (l' := #[.val (.ref a), .val (.int (1 : Int32)), .val (.ref r_102), .unset, .unset, .unset]) rfl ?_
    refine XS.iconst X101.here hx rfl (hb hby d_prog_13_method_2_7) ?_
    refine XS.istoreN X101.here hx rfl (hb hby d_prog_13_method_2_8) rfl (l' := #[.val (.ref a), .val (.int (1 : Int32)), .val (.ref r_102), .val (.int (1 : Int32)), .unset, .unset]) rfl ?_
    refine XS.iconst X101.here hx rfl (hb hby d_prog_13_method_2_9) ?_
    refine XS.istore X101.here hx rfl (hb hby d_prog_13_method_2_10) rfl (l' := #[.val (.ref a), .val (.int (1 : Int32)), .val (.ref r_102), .val (.int (1 : Int32)), .val (.int (0 : Int32)), .unset]) rfl ?_
    show SS p e below T101 m 12 #[.val (.ref a), .val (.int (1 : Int32)), .val (.ref r_102), .val (.int (1 : Int32)), .val (.int (0 : Int32)), .unset] [] _
    refine XS.iconst X101.here hx rfl (hb hby d_prog_13_method_2_12) ?_
    refine XS.istore X101.here hx rfl (hb hby d_prog_13_method_2_13) rfl (l' := #[.val (.ref a), .val (.int (1 : Int32)), .val (.ref r_102), .val (.int (1 : Int32)), .val (.int (0 : Int32)), .val (.int (0 : Int32))]) rfl ?_
    refine XS.iload X101.here hx rfl (hb hby d_prog_13_method_2_15) rfl ?_
    refine XS.iloadN X101.here hx rfl (hb hby d_prog_13_method_2_17) rfl ?_
    refine XS.icmpNo X101.here hx rfl (hb hby d_prog_13_method_2_18) rfl (tlt (by decide)).2.1 ?_
    refine XS.aloadN X101.here hx rfl (hb hby d_prog_13_method_2_21) rfl rfl ?_
    show SS p e below T101 m 22 #[.val (.ref a), .val (.int (1 : Int32)), .val (.ref r_102), .val (.int (1 : Int32)), .val (.int (0 : Int32)), .val (.int (0 : Int32))] [(.ref r_102)] _
    refine XS.iload X101.here hx rfl (hb hby d_prog_13_method_2_22) rfl ?_
    show SS p e below T101 m 24 #[.val (.ref a), .val (.int (1 : Int32)), .val (.ref r_102), .val (.int (1 : Int32)), .val (.int (0 : Int32)), .val (.int (0 : Int32))] [(.int (0 : Int32)), (.ref r_102)] _
    refine st106 _ ?_
    show SS p e below T106 m 27 #[.val (.ref a), .val (.int (1 : Int32)), .val (.ref r_102), .val (.int (1 : Int32)), .val (.int (0 : Int32)), .val (.int (0 : Int32))] [(.int (el (([x0, x1, x2, x3].drop 0).take 1) 0))] _
    rw [show (el (([x0, x1, x2, x3].drop 0).take 1) 0) = (ek 1 0 x0 x1 x2 x3) from rfl]
    exact kt
  have W109 : ∀ zQ, SS p e below T106 m 39 #[.val (.ref a), .val (.int (1 : Int32)), .val (.ref r_102), .val (.int (if (ek 1 0 x0 x1 x2 x3) = (0 : Int32) then (1 : Int32) else (2 : Int32))), .val (.int (if (ek 1 0 x0 x1 x2 x3) = (0 : Int32) then (0 : Int32) else (1 : Int32))), .val (.int (0 : Int32))] [] zQ → Steps p.tables e below (s₁.setTop (entryFrame m #[(.ref a), (.int (1 : Int32))] 6)) zQ := by
    intro tt kt
    refine W107 tt ?_
    by_cases hj108 : (ek 1 0 x0 x1 x2 x3) = (0 : Int32)
    ·
      refine XS.ifYes X106.here hx rfl (pc0 := 27) (pc' := 39) rfl (hb hby d_prog_13_method_2_27) rfl ((if0 _ _).trans (teq hj108).1) (by decide) (by decide) ?_
      exact castTop (by first | rfl | (simp only [if_pos hj108]; first | done | rfl)) kt
    ·
      refine XS.ifNo X106.here hx rfl (hb hby d_prog_13_method_2_27) rfl ((if0 _ _).trans (feq hj108).1) ?_
      show SS p e below T106 m 30 #[.val (.ref a), .val (.int (1 : Int32)), .val (.ref r_102), .val (.int (1 : Int32)), .val (.int (0 : Int32)), .val (.int (0 : Int32))] [] _
      refine XS.iinc X106.here hx rfl (hb hby d_prog_13_method_2_30) rfl (l' := #[.val (.ref a), .val (.int (1 : Int32)), .val (.ref r_102), .val (.int (2 : Int32)), .val (.int (0 : Int32)), .val (.int (0 : Int32))]) rfl ?_
      refine XS.iload X106.here hx rfl (hb hby d_prog_13_method_2_33) rfl ?_
      refine XS.iconst X106.here hx rfl (hb hby d_prog_13_method_2_35) ?_
      refine XS.iadd X106.here hx rfl (hb hby d_prog_13_method_2_36) rfl ?_
      refine XS.istore X106.here hx rfl (hb hby d_prog_13_method_2_37) rfl (l' := #[.val (.ref a), .val (.int (1 : Int32)), .val (.ref r_102), .val (.int (2 : Int32)), .val (.int (1 : Int32)), .val (.int (0 : Int32))]) rfl ?_
      exact castTop (by first | rfl | (simp only [if_neg hj108]; first | done | rfl)) kt
  obtain ⟨T110, h110, X110, e110, E110, A110, D110, U110, st110⟩ := newO X106 hx hZ hown (w78 hw) (w79 hw) (w41 hw) eq106 (g := (mkF m 45 #[.val (.ref a), .val (.int (1 : Int32)), .val (.ref r_102), .val (.int (ln 1 x0 x1 x2 x3 1)), .val (.int (lo 1 x0 x1 x2 x3 1)), .val (.int (1 : Int32))] [])) rfl (hb hby d_prog_13_method_2_45) (by decide) (by decide)
  obtain ⟨b110, g110⟩ : ∃ z, z = T101.heap.size := ⟨_, rfl⟩
  rw [← g110] at A110 D110 U110 st110
  have K110 := (Keep.refl T101.heap []).ext E110
  have G110_line : Fld Z h110 b110 "com/example/vestline/vestline/input/TextPosition" "line" "I" (.int (0 : Int32)) := D110 (Or.inr (w90 hw)) (ty := .int) (by decide)
  have G110_character : Fld Z h110 b110 "com/example/vestline/vestline/input/TextPosition" "character" "I" (.int (0 : Int32)) := D110 (Or.inr (w92 hw)) (ty := .int) (by decide)
  obtain ⟨_, _, ⟨T111, L111, k111, n111⟩, -, X111, ⟨Lc111, hQ111, l111, y111, z111⟩, st111⟩ := X110.specialBack hx (y := yn38) rfl hown (mvT hZ (w80 hw)) (mvT hZ (w81 hw)) (mvT hZ (w82 hw)) (by decide) (backOf (W := 1) (rm_tpinit l Z a0 hw [] b110 (ln 1 x0 x1 x2 x3 1) ((1 : Int32) - (lo 1 x0 x1 x2 x3 1)) h110 n0 (Nat.le_trans Z0 (Nat.le_trans K101.1 K110.1)) A110 G110_line G110_character (Nat.le_trans Z0 (Nat.le_trans K101.1 (Nat.le_of_eq g110.symm)))) hZ (w82 hw) (w41 hw) (by decide) (by decide)) (g := (mkF m 54 #[.val (.ref a), .val (.int (1 : Int32)), .val (.ref r_102), .val (.int (ln 1 x0 x1 x2 x3 1)), .val (.int (lo 1 x0 x1 x2 x3 1)), .val (.int (1 : Int32))] [(.int ((1 : Int32) - (lo 1 x0 x1 x2 x3 1))), (.int (ln 1 x0 x1 x2 x3 1)), (.ref b110), (.ref b110)])) rfl (by rw [hml]; rfl) (Steps.refl _) (a := b110) (argsL := [(.int (ln 1 x0 x1 x2 x3 1)), (.int ((1 : Int32) - (lo 1 x0 x1 x2 x3 1)))]) (rest := [(.ref b110)]) (lenOf pd__28_II_29_V rfl) rfl (by show 2 * 0 + _ ≤ _; exact Nat.le_of_eq rfl) (hb hby d_prog_13_method_2_54) (fun _ _ => ⟨rfl, e110, (Nat.le_of_ble_eq_true rfl), (Nat.le_of_ble_eq_true rfl)⟩)
  dsimp only [Pt.U, Pt.locs, Pt.cells, Pt.slots] at X111 l111 y111 z111 st111 hQ111
  subst l111 y111 z111
  obtain ⟨rfl, Nq111, K111, P111_0, P111_1, P111_2⟩ := hQ111
  have N111 := Fr.app N106 Nq111
  have W112 : ∀ zQ, SS p e below T111 m 57 #[.val (.ref a), .val (.int (1 : Int32)), .val (.ref r_102), .val (.int (ln 1 x0 x1 x2 x3 1)), .val (.int (lo 1 x0 x1 x2 x3 1)), .val (.int (1 : Int32))] [(.ref b110)] zQ → Steps p.tables e below (s₁.setTop (entryFrame m #[(.ref a), (.int (1 : Int32))] 6)) zQ := by
    intro tt kt
    refine W109 tt ?_
    rw [show (if (ek 1 0 x0 x1 x2 x3) = (0 : Int32) then (1 : Int32) else (2 : Int32)) = (ln 1 x0 x1 x2 x3 1) from rfl]
    show SS p e below T106 m 39 #[.val (.ref a), .val (.int (1 : Int32)), .val (.ref r_102), .val (.int (ln 1 x0 x1 x2 x3 1)), .val (.int (if (ek 1 0 x0 x1 x2 x3) = (0 : Int32) then (0 : Int32) else (1 : Int32))), .val (.int (0 : Int32))] [] _
    rw [show (if (ek 1 0 x0 x1 x2 x3) = (0 : Int32) then (0 : Int32) else (1 : Int32)) = (lo 1 x0 x1 x2 x3 1) from rfl]
    show SS p e below T106 m 39 #[.val (.ref a), .val (.int (1 : Int32)), .val (.ref r_102), .val (.int (ln 1 x0 x1 x2 x3 1)), .val (.int (lo 1 x0 x1 x2 x3 1)), .val (.int (0 : Int32))] [] _
    refine XS.iinc X106.here hx rfl (hb hby d_prog_13_method_2_39) rfl (l' := #[.val (.ref a), .val (.int (1 : Int32)), .val (.ref r_102), .val (.int (ln 1 x0 x1 x2 x3 1)), .val (.int (lo 1 x0 x1 x2 x3 1)), .val (.int (1 : Int32))]) rfl ?_
    refine XS.goto X106.here hx rfl (pc0 := 42) (pc' := 15) rfl (hb hby d_prog_13_method_2_42) (by decide) (by decide) ?_
    refine XS.iload X106.here hx rfl (hb hby d_prog_13_method_2_15) rfl ?_
    refine XS.iloadN X106.here hx rfl (hb hby d_prog_13_method_2_17) rfl ?_
    refine XS.icmpYes X106.here hx rfl (pc0 := 18) (pc' := 45) rfl (hb hby d_prog_13_method_2_18) rfl (flt (by decide)).2.1 (by decide) (by decide) ?_
    show SS p e below T106 m 45 #[.val (.ref a), .val (.int (1 : Int32)), .val (.ref r_102), .val (.int (ln 1 x0 x1 x2 x3 1)), .val (.int (lo 1 x0 x1 x2 x3 1)), .val (.int (1 : Int32))] [] _
    refine st110 _ ?_
    refine XS.dup X110.here hx rfl (hb hby d_prog_13_method_2_48) rfl rfl ?_
    refine XS.iloadN X110.here hx rfl (hb hby d_prog_13_method_2_49) rfl ?_
    refine XS.iloadN X110.here hx rfl (hb hby d_prog_13_method_2_50) rfl ?_
    refine XS.iload X110.here hx rfl (hb hby d_prog_13_method_2_51) rfl ?_
    refine XS.isub X110.here hx rfl (hb hby d_prog_13_method_2_53) rfl ?_
    show SS p e below T110 m 54 #[.val (.ref a), .val (.int (1 : Int32)), .val (.ref r_102), .val (.int (ln 1 x0 x1 x2 x3 1)), .val (.int (lo 1 x0 x1 x2 x3 1)), .val (.int (1 : Int32))] [(.int ((1 : Int32) - (lo 1 x0 x1 x2 x3 1))), (.int (ln 1 x0 x1 x2 x3 1)), (.ref b110), (.ref b110)] _
    refine st111.trans ?_
    exact kt
  obtain ⟨fs, hr, hrun, hended, hW, hsame⟩ := X111.leave (v := some (.ref b110)) (fun h => by rw [Bd.returns] at h; cases h)
  refine ⟨_, _, W112 _ (own_retR X111 hx Bd.returns rfl rfl (hb hby d_prog_13_method_2_57) hr), hrun, hended, _, _, rfl, ?_, ⟨_, rfl⟩, hW, hsame.mono (by decide) (by decide)⟩
  show Q_after1 Z a t kb x0 x1 x2 x3 cS fm h0 n0 _ T111.heap _
  exact ⟨b110, rfl, N111, (Keep.trans (Keep.trans (Keep.trans (Keep.refl h0 []) K101 all0) K110 all0) K111 (allS (Or.inr (Nat.le_trans K101.1 (Nat.le_of_eq g110.symm))) all0)), (Nat.le_trans K101.1 (Nat.le_of_eq g110.symm)), P111_0, P111_1, P111_2⟩
def Q_after2 (Z : State) (a : Addr) (t : Addr) (kb : ClassId) (x0 : Int32) (x1 : Int32) (x2 : Int32) (x3 : Int32) (cS : Int32) (fm : Value) (h0 : Heap) (n0 : Nat) (vQ_ : Option Value) (hQ_ : Heap) (LQ_ : List Loc) : Prop := ∃ r : Addr, vQ_ = some (.ref r) ∧ Fr n0 LQ_ ∧ Keep h0 hQ_ [] ∧ h0.size ≤ r ∧ Exa Z hQ_ r "com/example/vestline/vestline/input/TextPosition" ∧ Fld Z hQ_ r "com/example/vestline/vestline/input/TextPosition" "line" "I" (.int (ln 2 x0 x1 x2 x3 2)) ∧ Fld Z hQ_ r "com/example/vestline/vestline/input/TextPosition" "character" "I" (.int ((2 : Int32) - (lo 2 x0 x1 x2 x3 2)))
set_option maxRecDepth 65536 in
set_option maxHeartbeats 40000000 in
theorem rm_after2 (l : Launch) (Z : State) (a0 : Array Value) (hw : HW a0 Z) (ws : List Jvm.Cond) (a : Addr) (t : Addr) (kb : ClassId) (x0 : Int32) (x1 : Int32) (x2 : Int32) (x3 : Int32) (cS : Int32) (fm : Value) (h0 : Heap) (n0 : Nat) (Z0 : n0 ≤ h0.size) (O0 : Old Z n0 h0) (S_cs : Sta Z Z.heap "java/lang/String" "COMPACT_STRINGS" "Z" (.int cS)) (hcS : ¬ (cS = (0 : Int32))) (S_fm : Sta Z Z.heap "jdk/internal/util/Preconditions" "SIOOBE_FORMATTER" "Ljava/util/function/BiFunction;" fm) (hfm : fm.isRef = true) (S_ad : Sta Z Z.heap "java/lang/StringUTF16" "$assertionsDisabled" "Z" (.int (1 : Int32))) (S_hi : Sta Z Z.heap "java/lang/StringUTF16" "HI_BYTE_SHIFT" "I" (.int (0 : Int32))) (S_lo : Sta Z Z.heap "java/lang/StringUTF16" "LO_BYTE_SHIFT" "I" (.int (8 : Int32))) (hS : Str Z h0 a t kb [x0, x1, x2, x3]) :
    MetFree l yn41 (head1 (Jvm.Cond.code yn41 prog_13_method_2_code 6 (some (.object "com/example/vestline/vestline/input/TextPosition")) :: ws) ({ frames := 7, cells := 4, slots := 18, locals := 143 } : Room)) (fun aQ_ UQ => aQ_ = #[(.ref a), (.int (2 : Int32))] ∧ Z.Warmed39 UQ.vm ∧ UQ.heap = h0) (fun _ _ _ _ _ => True) (fun _ UQ oQ UQ' => ∃ vQ_ LQ_, oQ = .returned vQ_ ∧ Q_after2 Z a t kb x0 x1 x2 x3 cS fm h0 n0 vQ_ UQ'.heap LQ_ ∧ FrameEnd UQ oQ UQ' LQ_ ({ frames := 7, cells := 4, slots := 18, locals := 143 } : Room).cells ({ frames := 7, cells := 4, slots := 18, locals := 143 } : Room).slots) := by
  refine MetFree.of_bodySF (plainFor_of_name pn_com_example_vestline_vestline_input_TextPosition) hisR ?_
  intro p e s m args below meth cO s₁ Bd hml0 hP hK
  obtain ⟨rfl, hZ, hh⟩ := hP
  have hx := Bd.exec
  have hby := Bd.bytes
  have hml : cO.maxLocals = 6 := hml0
  have hown : s.vm.findClass "com/example/vestline/vestline/input/TextPosition" = some m.cls := findClass_of_methodNamed Bd.named
  have hnm := (name_of_methodNamed Bd.named Bd.method).1
  have X0 : Stand p l e ({ frames := 7, cells := 4, slots := 18, locals := 143 } : Room) s m #[(.ref a), (.int (2 : Int32))] below meth cO s₁ [] 0 0 := Stand.of_body Bd
  have e0 : s₁.heap = h0 := by rw [← hh, Bd.state]; rfl
  have N0 := Fr.nil n0
  have W0 : ∀ zQ, SS p e below s₁ m 0 #[.val (.ref a), .val (.int (2 : Int32)), .unset, .unset, .unset, .unset] [] zQ → Steps p.tables e below (s₁.setTop (entryFrame m #[(.ref a), (.int (2 : Int32))] 6)) zQ := fun tt kt => castTop (ef_after2 m a (2 : Int32)) kt
  obtain ⟨cq101, kq101, q101a, q101b, q101c⟩ := isOf hZ e0 hS.1
  obtain ⟨_, _, ⟨T101, L101, k101, n101⟩, -, X101, ⟨Lc101, hQ101, l101, y101, z101⟩, st101⟩ := X0.virtualBack hx (y := yn35) (z := yn35) hown (mvT hZ (w43 hw)) (mvT hZ (w44 hw)) (notFace_of_selects (args := #[]) (mvT hZ (w46 hw))) (mvT hZ (w46 hw)) (mvT hZ (w45 hw)) (by decide) (backOf (W := 0) (rm_subMid l Z a0 hw [] a 0 2 t kb [x0, x1, x2, x3] cS fm h0 n0 Z0 O0 S_cs hcS S_fm hfm S_ad S_hi S_lo hS (Nat.le_of_ble_eq_true rfl) (Nat.le_of_ble_eq_true rfl) (Nat.le_of_ble_eq_true rfl) (Nat.le_of_ble_eq_true rfl)) hZ (w47 hw) (w8 hw) (by decide) (by decide)) q101a q101c (g := (mkF m 3 #[.val (.ref a), .val (.int (2 : Int32)), .unset, .unset, .unset, .unset] [(.int (2 : Int32)), (.int (0 : Int32)), (.ref a)])) rfl (by rw [hml]; rfl) (Steps.refl _) (argsL := [(.int (0 : Int32)), (.int (2 : Int32))]) (rest := []) (lenOf pd__28_II_29_Ljava_2f_lang_2f_String_3b_ rfl) rfl (by show 2 * 0 + _ ≤ _; exact Nat.le_of_eq rfl) (hb hby d_prog_13_method_2_3) (fun _ _ => ⟨rfl, e0, (Nat.le_of_ble_eq_true rfl), (Nat.le_of_ble_eq_true rfl)⟩)
  dsimp only [Pt.U, Pt.locs, Pt.cells, Pt.slots] at X101 l101 y101 z101 st101 hQ101
  subst l101 y101 z101
  obtain ⟨r_102, t2_103, kb2_104, rfl, Nq101, K101, P101_0, P101_1, P101_2⟩ := hQ101
  have N101 := Fr.app N0 Nq101
  have O105 : Old Z n0 T101.heap := (O0.keep K101 all0)
  obtain ⟨_, _, ⟨T106, L106, k106, n106⟩, -, X106, ⟨Lc106, hQ106, l106, y106, z106⟩, st106⟩ := Jvm.LawKit.callS X101 hx (y := yn36) hown (mvT hZ (w125 hw)) (mvT hZ (w126 hw)) (mvT hZ (w127 hw)) (mvT hZ (w128 hw)) (by decide) (backOf (W := 0) (rm_endsLine l Z a0 hw [] r_102 0 t2_103 kb2_104 (([x0, x1, x2, x3].drop 0).take 2) cS fm T101.heap n0 (Nat.le_trans Z0 K101.1) O105 S_cs hcS S_fm hfm S_ad S_hi S_lo P101_2 (Nat.le_of_ble_eq_true rfl)) hZ (w128 hw) (w127 hw) (by decide) (by decide)) (g := (mkF m 24 #[.val (.ref a), .val (.int (2 : Int32)), .val (.ref r_102), .val (.int (1 : Int32)), .val (.int (0 : Int32)), .val (.int (0 : Int32))] [(.int (0 : Int32)), (.ref r_102)])) rfl (by rw [hml]; rfl) (argsL := [(.ref r_102), (.int (0 : Int32))]) (rest := []) (lenOf pd__28_Ljava_2f_lang_2f_String_3b_I_29_Z rfl) rfl (by show 2 * 0 + _ ≤ _; exact Nat.le_of_eq rfl) (hb hby d_prog_13_method_2_24) (fun _ _ => ⟨rfl, rfl, (Nat.le_of_ble_eq_true rfl), (Nat.le_of_ble_eq_true rfl)⟩)
  dsimp only [Pt.U, Pt.locs, Pt.cells, Pt.slots] at X106 l106 y106 z106 st106 hQ106
  subst l106 y106 z106
  obtain ⟨rfl, Nq106, eq106⟩ := hQ106
  have N106 := Fr.app N101 Nq106
  have W107 : ∀ zQ, SS p e below T106 m 27 #[.val (.ref a), .val (.int (2 : Int32)), .val (.ref r_102), .val (.int (1 : Int32)), .val (.int (0 : Int32)), .val (.int (0 : Int32))] [(.int (ek 2 0 x0 x1 x2 x3))] zQ → Steps p.tables e below (s₁.setTop (entryFrame m #[(.ref a), (.int (2 : Int32))] 6)) zQ := by
    intro tt kt
    refine W0 tt ?_
    refine XS.aloadN X0.here hx rfl (hb hby d_prog_13_method_2_0) rfl rfl ?_
    refine XS.iconst X0.here hx rfl (hb hby d_prog_13_method_2_1) ?_
    refine XS.iloadN X0.here hx rfl (hb hby d_prog_13_method_2_2) rfl ?_
    show SS p e below s₁ m 3 #[.val (.ref a), .val (.int (2 : Int32)), .unset, .unset, .unset, .unset] [(.int (2 : Int32)), (.int (0 : Int32)), (.ref a)] _
    refine st101.trans ?_
    refine XS.astoreN X101.here hx rfl (hb hby d_prog_13_method_2_6) rfl rfl (l' := #[.val (.ref a), .val (.int (2 : Int32)), .val (.ref r_102), .unset, .unset, .unset]) rfl ?_
    refine XS.iconst X101.here hx rfl (hb hby d_prog_13_method_2_7) ?_
    refine XS.istoreN X101.here hx rfl (hb hby d_prog_13_method_2_8) rfl (l' := #[.val (.ref a), .val (.int (2 : Int32)), .val (.ref r_102), .val (.int (1 : Int32)), .unset, .unset]) rfl ?_
    refine XS.iconst X101.here hx rfl (hb hby d_prog_13_method_2_9) ?_
    refine XS.istore X101.here hx rfl (hb hby d_prog_13_method_2_10) rfl (l' := #[.val (.ref a), .val (.int (2 : Int32)), .val (.ref r_102), .val (.int (1 : Int32)), .val (.int (0 : Int32)), .unset]) rfl ?_
    show SS p e below T101 m 12 #[.val (.ref a), .val (.int (2 : Int32)), .val (.ref r_102), .val (.int (1 : Int32)), .val (.int (0 : Int32)), .unset] [] _
    refine XS.iconst X101.here hx rfl (hb hby d_prog_13_method_2_12) ?_
    refine XS.istore X101.here hx rfl (hb hby d_prog_13_method_2_13) rfl (l' := #[.val (.ref a), .val (.int (2 : Int32)), .val (.ref r_102), .val (.int (1 : Int32)), .val (.int (0 : Int32)), .val (.int (0 : Int32))]) rfl ?_
    refine XS.iload X101.here hx rfl (hb hby d_prog_13_method_2_15) rfl ?_
    refine XS.iloadN X101.here hx rfl (hb hby d_prog_13_method_2_17) rfl ?_
    refine XS.icmpNo X101.here hx rfl (hb hby d_prog_13_method_2_18) rfl (tlt (by decide)).2.1 ?_
    refine XS.aloadN X101.here hx rfl (hb hby d_prog_13_method_2_21) rfl rfl ?_
    show SS p e below T101 m 22 #[.val (.ref a), .val (.int (2 : Int32)), .val (.ref r_102), .val (.int (1 : Int32)), .val (.int (0 : Int32)), .val (.int (0 : Int32))] [(.ref r_102)] _
    refine XS.iload X101.here hx rfl (hb hby d_prog_13_method_2_22) rfl ?_
    show SS p e below T101 m 24 #[.val (.ref a), .val (.int (2 : Int32)), .val (.ref r_102), .val (.int (1 : Int32)), .val (.int (0 : Int32)), .val (.int (0 : Int32))] [(.int (0 : Int32)), (.ref r_102)] _
    refine st106 _ ?_
    show SS p e below T106 m 27 #[.val (.ref a), .val (.int (2 : Int32)), .val (.ref r_102), .val (.int (1 : Int32)), .val (.int (0 : Int32)), .val (.int (0 : Int32))] [(.int (el (([x0, x1, x2, x3].drop 0).take 2) 0))] _
    rw [show (el (([x0, x1, x2, x3].drop 0).take 2) 0) = (ek 2 0 x0 x1 x2 x3) from rfl]
    exact kt
  have W109 : ∀ zQ, SS p e below T106 m 39 #[.val (.ref a), .val (.int (2 : Int32)), .val (.ref r_102), .val (.int (if (ek 2 0 x0 x1 x2 x3) = (0 : Int32) then (1 : Int32) else (2 : Int32))), .val (.int (if (ek 2 0 x0 x1 x2 x3) = (0 : Int32) then (0 : Int32) else (1 : Int32))), .val (.int (0 : Int32))] [] zQ → Steps p.tables e below (s₁.setTop (entryFrame m #[(.ref a), (.int (2 : Int32))] 6)) zQ := by
    intro tt kt
    refine W107 tt ?_
    by_cases hj108 : (ek 2 0 x0 x1 x2 x3) = (0 : Int32)
    ·
      refine XS.ifYes X106.here hx rfl (pc0 := 27) (pc' := 39) rfl (hb hby d_prog_13_method_2_27) rfl ((if0 _ _).trans (teq hj108).1) (by decide) (by decide) ?_
      exact castTop (by first | rfl | (simp only [if_pos hj108]; first | done | rfl)) kt
    ·
      refine XS.ifNo X106.here hx rfl (hb hby d_prog_13_method_2_27) rfl ((if0 _ _).trans (feq hj108).1) ?_
      show SS p e below T106 m 30 #[.val (.ref a), .val (.int (2 : Int32)), .val (.ref r_102), .val (.int (1 : Int32)), .val (.int (0 : Int32)), .val (.int (0 : Int32))] [] _
      refine XS.iinc X106.here hx rfl (hb hby d_prog_13_method_2_30) rfl (l' := #[.val (.ref a), .val (.int (2 : Int32)), .val (.ref r_102), .val (.int (2 : Int32)), .val (.int (0 : Int32)), .val (.int (0 : Int32))]) rfl ?_
      refine XS.iload X106.here hx rfl (hb hby d_prog_13_method_2_33) rfl ?_
      refine XS.iconst X106.here hx rfl (hb hby d_prog_13_method_2_35) ?_
      refine XS.iadd X106.here hx rfl (hb hby d_prog_13_method_2_36) rfl ?_
      refine XS.istore X106.here hx rfl (hb hby d_prog_13_method_2_37) rfl (l' := #[.val (.ref a), .val (.int (2 : Int32)), .val (.ref r_102), .val (.int (2 : Int32)), .val (.int (1 : Int32)), .val (.int (0 : Int32))]) rfl ?_
      exact castTop (by first | rfl | (simp only [if_neg hj108]; first | done | rfl)) kt
  obtain ⟨_, _, ⟨T110, L110, k110, n110⟩, -, X110, ⟨Lc110, hQ110, l110, y110, z110⟩, st110⟩ := Jvm.LawKit.callS X106 hx (y := yn36) hown (mvT hZ (w125 hw)) (mvT hZ (w126 hw)) (mvT hZ (w127 hw)) (mvT hZ (w128 hw)) (by decide) (backOf (W := 0) (rm_endsLine l Z a0 hw [] r_102 1 t2_103 kb2_104 (([x0, x1, x2, x3].drop 0).take 2) cS fm T101.heap n0 (Nat.le_trans Z0 K101.1) O105 S_cs hcS S_fm hfm S_ad S_hi S_lo P101_2 (Nat.le_of_ble_eq_true rfl)) hZ (w128 hw) (w127 hw) (by decide) (by decide)) (g := (mkF m 24 #[.val (.ref a), .val (.int (2 : Int32)), .val (.ref r_102), .val (.int (ln 2 x0 x1 x2 x3 1)), .val (.int (lo 2 x0 x1 x2 x3 1)), .val (.int (1 : Int32))] [(.int (1 : Int32)), (.ref r_102)])) rfl (by rw [hml]; rfl) (argsL := [(.ref r_102), (.int (1 : Int32))]) (rest := []) (lenOf pd__28_Ljava_2f_lang_2f_String_3b_I_29_Z rfl) rfl (by show 2 * 0 + _ ≤ _; exact Nat.le_of_eq rfl) (hb hby d_prog_13_method_2_24) (fun _ _ => ⟨rfl, eq106, (Nat.le_of_ble_eq_true rfl), (Nat.le_of_ble_eq_true rfl)⟩)
  dsimp only [Pt.U, Pt.locs, Pt.cells, Pt.slots] at X110 l110 y110 z110 st110 hQ110
  subst l110 y110 z110
  obtain ⟨rfl, Nq110, eq110⟩ := hQ110
  have N110 := Fr.app N106 Nq110
  have W111 : ∀ zQ, SS p e below T110 m 27 #[.val (.ref a), .val (.int (2 : Int32)), .val (.ref r_102), .val (.int (ln 2 x0 x1 x2 x3 1)), .val (.int (lo 2 x0 x1 x2 x3 1)), .val (.int (1 : Int32))] [(.int (ek 2 1 x0 x1 x2 x3))] zQ → Steps p.tables e below (s₁.setTop (entryFrame m #[(.ref a), (.int (2 : Int32))] 6)) zQ := by
    intro tt kt
    refine W109 tt ?_
    rw [show (if (ek 2 0 x0 x1 x2 x3) = (0 : Int32) then (1 : Int32) else (2 : Int32)) = (ln 2 x0 x1 x2 x3 1) from rfl]
    show SS p e below T106 m 39 #[.val (.ref a), .val (.int (2 : Int32)), .val (.ref r_102), .val (.int (ln 2 x0 x1 x2 x3 1)), .val (.int (if (ek 2 0 x0 x1 x2 x3) = (0 : Int32) then (0 : Int32) else (1 : Int32))), .val (.int (0 : Int32))] [] _
    rw [show (if (ek 2 0 x0 x1 x2 x3) = (0 : Int32) then (0 : Int32) else (1 : Int32)) = (lo 2 x0 x1 x2 x3 1) from rfl]
    show SS p e below T106 m 39 #[.val (.ref a), .val (.int (2 : Int32)), .val (.ref r_102), .val (.int (ln 2 x0 x1 x2 x3 1)), .val (.int (lo 2 x0 x1 x2 x3 1)), .val (.int (0 : Int32))] [] _
    refine XS.iinc X106.here hx rfl (hb hby d_prog_13_method_2_39) rfl (l' := #[.val (.ref a), .val (.int (2 : Int32)), .val (.ref r_102), .val (.int (ln 2 x0 x1 x2 x3 1)), .val (.int (lo 2 x0 x1 x2 x3 1)), .val (.int (1 : Int32))]) rfl ?_
    refine XS.goto X106.here hx rfl (pc0 := 42) (pc' := 15) rfl (hb hby d_prog_13_method_2_42) (by decide) (by decide) ?_
    refine XS.iload X106.here hx rfl (hb hby d_prog_13_method_2_15) rfl ?_
    refine XS.iloadN X106.here hx rfl (hb hby d_prog_13_method_2_17) rfl ?_
    refine XS.icmpNo X106.here hx rfl (hb hby d_prog_13_method_2_18) rfl (tlt (by decide)).2.1 ?_
    refine XS.aloadN X106.here hx rfl (hb hby d_prog_13_method_2_21) rfl rfl ?_
    show SS p e below T106 m 22 #[.val (.ref a), .val (.int (2 : Int32)), .val (.ref r_102), .val (.int (ln 2 x0 x1 x2 x3 1)), .val (.int (lo 2 x0 x1 x2 x3 1)), .val (.int (1 : Int32))] [(.ref r_102)] _
    refine XS.iload X106.here hx rfl (hb hby d_prog_13_method_2_22) rfl ?_
    show SS p e below T106 m 24 #[.val (.ref a), .val (.int (2 : Int32)), .val (.ref r_102), .val (.int (ln 2 x0 x1 x2 x3 1)), .val (.int (lo 2 x0 x1 x2 x3 1)), .val (.int (1 : Int32))] [(.int (1 : Int32)), (.ref r_102)] _
    refine st110 _ ?_
    show SS p e below T110 m 27 #[.val (.ref a), .val (.int (2 : Int32)), .val (.ref r_102), .val (.int (ln 2 x0 x1 x2 x3 1)), .val (.int (lo 2 x0 x1 x2 x3 1)), .val (.int (1 : Int32))] [(.int (el (([x0, x1, x2, x3].drop 0).take 2) 1))] _
    rw [show (el (([x0, x1, x2, x3].drop 0).take 2) 1) = (ek 2 1 x0 x1 x2 x3) from rfl]
    exact kt
  have W113 : ∀ zQ, SS p e below T110 m 39 #[.val (.ref a), .val (.int (2 : Int32)), .val (.ref r_102), .val (.int (if (ek 2 1 x0 x1 x2 x3) = (0 : Int32) then (ln 2 x0 x1 x2 x3 1) else ((ln 2 x0 x1 x2 x3 1) + (1 : Int32)))), .val (.int (if (ek 2 1 x0 x1 x2 x3) = (0 : Int32) then (lo 2 x0 x1 x2 x3 1) else (2 : Int32))), .val (.int (1 : Int32))] [] zQ → Steps p.tables e below (s₁.setTop (entryFrame m #[(.ref a), (.int (2 : Int32))] 6)) zQ := by
    intro tt kt
    refine W111 tt ?_
    by_cases hj112 : (ek 2 1 x0 x1 x2 x3) = (0 : Int32)
    ·
      refine XS.ifYes X110.here hx rfl (pc0 := 27) (pc' := 39) rfl (hb hby d_prog_13_method_2_27) rfl ((if0 _ _).trans (teq hj112).1) (by decide) (by decide) ?_
      exact castTop (by first | rfl | (simp only [if_pos hj112]; first | done | rfl)) kt
    ·
      refine XS.ifNo X110.here hx rfl (hb hby d_prog_13_method_2_27) rfl ((if0 _ _).trans (feq hj112).1) ?_
      show SS p e below T110 m 30 #[.val (.ref a), .val (.int (2 : Int32)), .val (.ref r_102), .val (.int (ln 2 x0 x1 x2 x3 1)), .val (.int (lo 2 x0 x1 x2 x3 1)), .val (.int (1 : Int32))] [] _
      refine XS.iinc X110.here hx rfl (hb hby d_prog_13_method_2_30) rfl (l' := #[.val (.ref a), .val (.int (2 : Int32)), .val (.ref r_102), .val (.int ((ln 2 x0 x1 x2 x3 1) + (1 : Int32))), .val (.int (lo 2 x0 x1 x2 x3 1)), .val (.int (1 : Int32))]) rfl ?_
      refine XS.iload X110.here hx rfl (hb hby d_prog_13_method_2_33) rfl ?_
      refine XS.iconst X110.here hx rfl (hb hby d_prog_13_method_2_35) ?_
      refine XS.iadd X110.here hx rfl (hb hby d_prog_13_method_2_36) rfl ?_
      refine XS.istore X110.here hx rfl (hb hby d_prog_13_method_2_37) rfl (l' := #[.val (.ref a), .val (.int (2 : Int32)), .val (.ref r_102), .val (.int ((ln 2 x0 x1 x2 x3 1) + (1 : Int32))), .val (.int (2 : Int32)), .val (.int (1 : Int32))]) rfl ?_
      exact castTop (by first | rfl | (simp only [if_neg hj112]; first | done | rfl)) kt
  obtain ⟨T114, h114, X114, e114, E114, A114, D114, U114, st114⟩ := newO X110 hx hZ hown (w78 hw) (w79 hw) (w41 hw) eq110 (g := (mkF m 45 #[.val (.ref a), .val (.int (2 : Int32)), .val (.ref r_102), .val (.int (ln 2 x0 x1 x2 x3 2)), .val (.int (lo 2 x0 x1 x2 x3 2)), .val (.int (2 : Int32))] [])) rfl (hb hby d_prog_13_method_2_45) (by decide) (by decide)
  obtain ⟨b114, g114⟩ : ∃ z, z = T101.heap.size := ⟨_, rfl⟩
  rw [← g114] at A114 D114 U114 st114
  have K114 := (Keep.refl T101.heap []).ext E114
  have G114_line : Fld Z h114 b114 "com/example/vestline/vestline/input/TextPosition" "line" "I" (.int (0 : Int32)) := D114 (Or.inr (w90 hw)) (ty := .int) (by decide)
  have G114_character : Fld Z h114 b114 "com/example/vestline/vestline/input/TextPosition" "character" "I" (.int (0 : Int32)) := D114 (Or.inr (w92 hw)) (ty := .int) (by decide)
  obtain ⟨_, _, ⟨T115, L115, k115, n115⟩, -, X115, ⟨Lc115, hQ115, l115, y115, z115⟩, st115⟩ := X114.specialBack hx (y := yn38) rfl hown (mvT hZ (w80 hw)) (mvT hZ (w81 hw)) (mvT hZ (w82 hw)) (by decide) (backOf (W := 1) (rm_tpinit l Z a0 hw [] b114 (ln 2 x0 x1 x2 x3 2) ((2 : Int32) - (lo 2 x0 x1 x2 x3 2)) h114 n0 (Nat.le_trans Z0 (Nat.le_trans K101.1 K114.1)) A114 G114_line G114_character (Nat.le_trans Z0 (Nat.le_trans K101.1 (Nat.le_of_eq g114.symm)))) hZ (w82 hw) (w41 hw) (by decide) (by decide)) (g := (mkF m 54 #[.val (.ref a), .val (.int (2 : Int32)), .val (.ref r_102), .val (.int (ln 2 x0 x1 x2 x3 2)), .val (.int (lo 2 x0 x1 x2 x3 2)), .val (.int (2 : Int32))] [(.int ((2 : Int32) - (lo 2 x0 x1 x2 x3 2))), (.int (ln 2 x0 x1 x2 x3 2)), (.ref b114), (.ref b114)])) rfl (by rw [hml]; rfl) (Steps.refl _) (a := b114) (argsL := [(.int (ln 2 x0 x1 x2 x3 2)), (.int ((2 : Int32) - (lo 2 x0 x1 x2 x3 2)))]) (rest := [(.ref b114)]) (lenOf pd__28_II_29_V rfl) rfl (by show 2 * 0 + _ ≤ _; exact Nat.le_of_eq rfl) (hb hby d_prog_13_method_2_54) (fun _ _ => ⟨rfl, e114, (Nat.le_of_ble_eq_true rfl), (Nat.le_of_ble_eq_true rfl)⟩)
  dsimp only [Pt.U, Pt.locs, Pt.cells, Pt.slots] at X115 l115 y115 z115 st115 hQ115
  subst l115 y115 z115
  obtain ⟨rfl, Nq115, K115, P115_0, P115_1, P115_2⟩ := hQ115
  have N115 := Fr.app N110 Nq115
  have W116 : ∀ zQ, SS p e below T115 m 57 #[.val (.ref a), .val (.int (2 : Int32)), .val (.ref r_102), .val (.int (ln 2 x0 x1 x2 x3 2)), .val (.int (lo 2 x0 x1 x2 x3 2)), .val (.int (2 : Int32))] [(.ref b114)] zQ → Steps p.tables e below (s₁.setTop (entryFrame m #[(.ref a), (.int (2 : Int32))] 6)) zQ := by
    intro tt kt
    refine W113 tt ?_
    rw [show (if (ek 2 1 x0 x1 x2 x3) = (0 : Int32) then (ln 2 x0 x1 x2 x3 1) else ((ln 2 x0 x1 x2 x3 1) + (1 : Int32))) = (ln 2 x0 x1 x2 x3 2) from rfl]
    show SS p e below T110 m 39 #[.val (.ref a), .val (.int (2 : Int32)), .val (.ref r_102), .val (.int (ln 2 x0 x1 x2 x3 2)), .val (.int (if (ek 2 1 x0 x1 x2 x3) = (0 : Int32) then (lo 2 x0 x1 x2 x3 1) else (2 : Int32))), .val (.int (1 : Int32))] [] _
    rw [show (if (ek 2 1 x0 x1 x2 x3) = (0 : Int32) then (lo 2 x0 x1 x2 x3 1) else (2 : Int32)) = (lo 2 x0 x1 x2 x3 2) from rfl]
    show SS p e below T110 m 39 #[.val (.ref a), .val (.int (2 : Int32)), .val (.ref r_102), .val (.int (ln 2 x0 x1 x2 x3 2)), .val (.int (lo 2 x0 x1 x2 x3 2)), .val (.int (1 : Int32))] [] _
    refine XS.iinc X110.here hx rfl (hb hby d_prog_13_method_2_39) rfl (l' := #[.val (.ref a), .val (.int (2 : Int32)), .val (.ref r_102), .val (.int (ln 2 x0 x1 x2 x3 2)), .val (.int (lo 2 x0 x1 x2 x3 2)), .val (.int (2 : Int32))]) rfl ?_
    refine XS.goto X110.here hx rfl (pc0 := 42) (pc' := 15) rfl (hb hby d_prog_13_method_2_42) (by decide) (by decide) ?_
    refine XS.iload X110.here hx rfl (hb hby d_prog_13_method_2_15) rfl ?_
    refine XS.iloadN X110.here hx rfl (hb hby d_prog_13_method_2_17) rfl ?_
    refine XS.icmpYes X110.here hx rfl (pc0 := 18) (pc' := 45) rfl (hb hby d_prog_13_method_2_18) rfl (flt (by decide)).2.1 (by decide) (by decide) ?_
    show SS p e below T110 m 45 #[.val (.ref a), .val (.int (2 : Int32)), .val (.ref r_102), .val (.int (ln 2 x0 x1 x2 x3 2)), .val (.int (lo 2 x0 x1 x2 x3 2)), .val (.int (2 : Int32))] [] _
    refine st114 _ ?_
    refine XS.dup X114.here hx rfl (hb hby d_prog_13_method_2_48) rfl rfl ?_
    refine XS.iloadN X114.here hx rfl (hb hby d_prog_13_method_2_49) rfl ?_
    refine XS.iloadN X114.here hx rfl (hb hby d_prog_13_method_2_50) rfl ?_
    refine XS.iload X114.here hx rfl (hb hby d_prog_13_method_2_51) rfl ?_
    refine XS.isub X114.here hx rfl (hb hby d_prog_13_method_2_53) rfl ?_
    show SS p e below T114 m 54 #[.val (.ref a), .val (.int (2 : Int32)), .val (.ref r_102), .val (.int (ln 2 x0 x1 x2 x3 2)), .val (.int (lo 2 x0 x1 x2 x3 2)), .val (.int (2 : Int32))] [(.int ((2 : Int32) - (lo 2 x0 x1 x2 x3 2))), (.int (ln 2 x0 x1 x2 x3 2)), (.ref b114), (.ref b114)] _
    refine st115.trans ?_
    exact kt
  obtain ⟨fs, hr, hrun, hended, hW, hsame⟩ := X115.leave (v := some (.ref b114)) (fun h => by rw [Bd.returns] at h; cases h)
  refine ⟨_, _, W116 _ (own_retR X115 hx Bd.returns rfl rfl (hb hby d_prog_13_method_2_57) hr), hrun, hended, _, _, rfl, ?_, ⟨_, rfl⟩, hW, hsame.mono (by decide) (by decide)⟩
  show Q_after2 Z a t kb x0 x1 x2 x3 cS fm h0 n0 _ T115.heap _
  exact ⟨b114, rfl, N115, (Keep.trans (Keep.trans (Keep.trans (Keep.refl h0 []) K101 all0) K114 all0) K115 (allS (Or.inr (Nat.le_trans K101.1 (Nat.le_of_eq g114.symm))) all0)), (Nat.le_trans K101.1 (Nat.le_of_eq g114.symm)), P115_0, P115_1, P115_2⟩
def Q_after3 (Z : State) (a : Addr) (t : Addr) (kb : ClassId) (x0 : Int32) (x1 : Int32) (x2 : Int32) (x3 : Int32) (cS : Int32) (fm : Value) (h0 : Heap) (n0 : Nat) (vQ_ : Option Value) (hQ_ : Heap) (LQ_ : List Loc) : Prop := ∃ r : Addr, vQ_ = some (.ref r) ∧ Fr n0 LQ_ ∧ Keep h0 hQ_ [] ∧ h0.size ≤ r ∧ Exa Z hQ_ r "com/example/vestline/vestline/input/TextPosition" ∧ Fld Z hQ_ r "com/example/vestline/vestline/input/TextPosition" "line" "I" (.int (ln 3 x0 x1 x2 x3 3)) ∧ Fld Z hQ_ r "com/example/vestline/vestline/input/TextPosition" "character" "I" (.int ((3 : Int32) - (lo 3 x0 x1 x2 x3 3)))
set_option maxRecDepth 65536 in
set_option maxHeartbeats 40000000 in
theorem rm_after3 (l : Launch) (Z : State) (a0 : Array Value) (hw : HW a0 Z) (ws : List Jvm.Cond) (a : Addr) (t : Addr) (kb : ClassId) (x0 : Int32) (x1 : Int32) (x2 : Int32) (x3 : Int32) (cS : Int32) (fm : Value) (h0 : Heap) (n0 : Nat) (Z0 : n0 ≤ h0.size) (O0 : Old Z n0 h0) (S_cs : Sta Z Z.heap "java/lang/String" "COMPACT_STRINGS" "Z" (.int cS)) (hcS : ¬ (cS = (0 : Int32))) (S_fm : Sta Z Z.heap "jdk/internal/util/Preconditions" "SIOOBE_FORMATTER" "Ljava/util/function/BiFunction;" fm) (hfm : fm.isRef = true) (S_ad : Sta Z Z.heap "java/lang/StringUTF16" "$assertionsDisabled" "Z" (.int (1 : Int32))) (S_hi : Sta Z Z.heap "java/lang/StringUTF16" "HI_BYTE_SHIFT" "I" (.int (0 : Int32))) (S_lo : Sta Z Z.heap "java/lang/StringUTF16" "LO_BYTE_SHIFT" "I" (.int (8 : Int32))) (hS : Str Z h0 a t kb [x0, x1, x2, x3]) :
    MetFree l yn41 (head1 (Jvm.Cond.code yn41 prog_13_method_2_code 6 (some (.object "com/example/vestline/vestline/input/TextPosition")) :: ws) ({ frames := 7, cells := 4, slots := 18, locals := 143 } : Room)) (fun aQ_ UQ => aQ_ = #[(.ref a), (.int (3 : Int32))] ∧ Z.Warmed39 UQ.vm ∧ UQ.heap = h0) (fun _ _ _ _ _ => True) (fun _ UQ oQ UQ' => ∃ vQ_ LQ_, oQ = .returned vQ_ ∧ Q_after3 Z a t kb x0 x1 x2 x3 cS fm h0 n0 vQ_ UQ'.heap LQ_ ∧ FrameEnd UQ oQ UQ' LQ_ ({ frames := 7, cells := 4, slots := 18, locals := 143 } : Room).cells ({ frames := 7, cells := 4, slots := 18, locals := 143 } : Room).slots) := by
  refine MetFree.of_bodySF (plainFor_of_name pn_com_example_vestline_vestline_input_TextPosition) hisR ?_
  intro p e s m args below meth cO s₁ Bd hml0 hP hK
  obtain ⟨rfl, hZ, hh⟩ := hP
  have hx := Bd.exec
  have hby := Bd.bytes
  have hml : cO.maxLocals = 6 := hml0
  have hown : s.vm.findClass "com/example/vestline/vestline/input/TextPosition" = some m.cls := findClass_of_methodNamed Bd.named
  have hnm := (name_of_methodNamed Bd.named Bd.method).1
  have X0 : Stand p l e ({ frames := 7, cells := 4, slots := 18, locals := 143 } : Room) s m #[(.ref a), (.int (3 : Int32))] below meth cO s₁ [] 0 0 := Stand.of_body Bd
  have e0 : s₁.heap = h0 := by rw [← hh, Bd.state]; rfl
  have N0 := Fr.nil n0
  have W0 : ∀ zQ, SS p e below s₁ m 0 #[.val (.ref a), .val (.int (3 : Int32)), .unset, .unset, .unset, .unset] [] zQ → Steps p.tables e below (s₁.setTop (entryFrame m #[(.ref a), (.int (3 : Int32))] 6)) zQ := fun tt kt => castTop (ef_after3 m a (3 : Int32)) kt
  obtain ⟨cq101, kq101, q101a, q101b, q101c⟩ := isOf hZ e0 hS.1
  obtain ⟨_, _, ⟨T101, L101, k101, n101⟩, -, X101, ⟨Lc101, hQ101, l101, y101, z101⟩, st101⟩ := X0.virtualBack hx (y := yn35) (z := yn35) hown (mvT hZ (w43 hw)) (mvT hZ (w44 hw)) (notFace_of_selects (args := #[]) (mvT hZ (w46 hw))) (mvT hZ (w46 hw)) (mvT hZ (w45 hw)) (by decide) (backOf (W := 0) (rm_subMid l Z a0 hw [] a 0 3 t kb [x0, x1, x2, x3] cS fm h0 n0 Z0 O0 S_cs hcS S_fm hfm S_ad S_hi S_lo hS (Nat.le_of_ble_eq_true rfl) (Nat.le_of_ble_eq_true rfl) (Nat.le_of_ble_eq_true rfl) (Nat.le_of_ble_eq_true rfl)) hZ (w47 hw) (w8 hw) (by decide) (by decide)) q101a q101c (g := (mkF m 3 #[.val (.ref a), .val (.int (3 : Int32)), .unset, .unset, .unset, .unset] [(.int (3 : Int32)), (.int (0 : Int32)), (.ref a)])) rfl (by rw [hml]; rfl) (Steps.refl _) (argsL := [(.int (0 : Int32)), (.int (3 : Int32))]) (rest := []) (lenOf pd__28_II_29_Ljava_2f_lang_2f_String_3b_ rfl) rfl (by show 2 * 0 + _ ≤ _; exact Nat.le_of_eq rfl) (hb hby d_prog_13_method_2_3) (fun _ _ => ⟨rfl, e0, (Nat.le_of_ble_eq_true rfl), (Nat.le_of_ble_eq_true rfl)⟩)
  dsimp only [Pt.U, Pt.locs, Pt.cells, Pt.slots] at X101 l101 y101 z101 st101 hQ101
  subst l101 y101 z101
  obtain ⟨r_102, t2_103, kb2_104, rfl, Nq101, K101, P101_0, P101_1, P101_2⟩ := hQ101
  have N101 := Fr.app N0 Nq101
  have O105 : Old Z n0 T101.heap := (O0.keep K101 all0)
  obtain ⟨_, _, ⟨T106, L106, k106, n106⟩, -, X106, ⟨Lc106, hQ106, l106, y106, z106⟩, st106⟩ := Jvm.LawKit.callS X101 hx (y := yn36) hown (mvT hZ (w125 hw)) (mvT hZ (w126 hw)) (mvT hZ (w127 hw)) (mvT hZ (w128 hw)) (by decide) (backOf (W := 0) (rm_endsLine l Z a0 hw [] r_102 0 t2_103 kb2_104 (([x0, x1, x2, x3].drop 0).take 3) cS fm T101.heap n0 (Nat.le_trans Z0 K101.1) O105 S_cs hcS S_fm hfm S_ad S_hi S_lo P101_2 (Nat.le_of_ble_eq_true rfl)) hZ (w128 hw) (w127 hw) (by decide) (by decide)) (g := (mkF m 24 #[.val (.ref a), .val (.int (3 : Int32)), .val (.ref r_102), .val (.int (1 : Int32)), .val (.int (0 : Int32)), .val (.int (0 : Int32))] [(.int (0 : Int32)), (.ref r_102)])) rfl (by rw [hml]; rfl) (argsL := [(.ref r_102), (.int (0 : Int32))]) (rest := []) (lenOf pd__28_Ljava_2f_lang_2f_String_3b_I_29_Z rfl) rfl (by show 2 * 0 + _ ≤ _; exact Nat.le_of_eq rfl) (hb hby d_prog_13_method_2_24) (fun _ _ => ⟨rfl, rfl, (Nat.le_of_ble_eq_true rfl), (Nat.le_of_ble_eq_true rfl)⟩)
  dsimp only [Pt.U, Pt.locs, Pt.cells, Pt.slots] at X106 l106 y106 z106 st106 hQ106
  subst l106 y106 z106
  obtain ⟨rfl, Nq106, eq106⟩ := hQ106
  have N106 := Fr.app N101 Nq106
  have W107 : ∀ zQ, SS p e below T106 m 27 #[.val (.ref a), .val (.int (3 : Int32)), .val (.ref r_102), .val (.int (1 : Int32)), .val (.int (0 : Int32)), .val (.int (0 : Int32))] [(.int (ek 3 0 x0 x1 x2 x3))] zQ → Steps p.tables e below (s₁.setTop (entryFrame m #[(.ref a), (.int (3 : Int32))] 6)) zQ := by
    intro tt kt
    refine W0 tt ?_
    refine XS.aloadN X0.here hx rfl (hb hby d_prog_13_method_2_0) rfl rfl ?_
    refine XS.iconst X0.here hx rfl (hb hby d_prog_13_method_2_1) ?_
    refine XS.iloadN X0.here hx rfl (hb hby d_prog_13_method_2_2) rfl ?_
    show SS p e below s₁ m 3 #[.val (.ref a), .val (.int (3 : Int32)), .unset, .unset, .unset, .unset] [(.int (3 : Int32)), (.int (0 : Int32)), (.ref a)] _
    refine st101.trans ?_
    refine XS.astoreN X101.here hx rfl (hb hby d_prog_13_method_2_6) rfl rfl (l' := #[.val (.ref a), .val (.int (3 : Int32)), .val (.ref r_102), .unset, .unset, .unset]) rfl ?_
    refine XS.iconst X101.here hx rfl (hb hby d_prog_13_method_2_7) ?_
    refine XS.istoreN X101.here hx rfl (hb hby d_prog_13_method_2_8) rfl (l' := #[.val (.ref a), .val (.int (3 : Int32)), .val (.ref r_102), .val (.int (1 : Int32)), .unset, .unset]) rfl ?_
    refine XS.iconst X101.here hx rfl (hb hby d_prog_13_method_2_9) ?_
    refine XS.istore X101.here hx rfl (hb hby d_prog_13_method_2_10) rfl (l' := #[.val (.ref a), .val (.int (3 : Int32)), .val (.ref r_102), .val (.int (1 : Int32)), .val (.int (0 : Int32)), .unset]) rfl ?_
    show SS p e below T101 m 12 #[.val (.ref a), .val (.int (3 : Int32)), .val (.ref r_102), .val (.int (1 : Int32)), .val (.int (0 : Int32)), .unset] [] _
    refine XS.iconst X101.here hx rfl (hb hby d_prog_13_method_2_12) ?_
    refine XS.istore X101.here hx rfl (hb hby d_prog_13_method_2_13) rfl (l' := #[.val (.ref a), .val (.int (3 : Int32)), .val (.ref r_102), .val (.int (1 : Int32)), .val (.int (0 : Int32)), .val (.int (0 : Int32))]) rfl ?_
    refine XS.iload X101.here hx rfl (hb hby d_prog_13_method_2_15) rfl ?_
    refine XS.iloadN X101.here hx rfl (hb hby d_prog_13_method_2_17) rfl ?_
    refine XS.icmpNo X101.here hx rfl (hb hby d_prog_13_method_2_18) rfl (tlt (by decide)).2.1 ?_
    refine XS.aloadN X101.here hx rfl (hb hby d_prog_13_method_2_21) rfl rfl ?_
    show SS p e below T101 m 22 #[.val (.ref a), .val (.int (3 : Int32)), .val (.ref r_102), .val (.int (1 : Int32)), .val (.int (0 : Int32)), .val (.int (0 : Int32))] [(.ref r_102)] _
    refine XS.iload X101.here hx rfl (hb hby d_prog_13_method_2_22) rfl ?_
    show SS p e below T101 m 24 #[.val (.ref a), .val (.int (3 : Int32)), .val (.ref r_102), .val (.int (1 : Int32)), .val (.int (0 : Int32)), .val (.int (0 : Int32))] [(.int (0 : Int32)), (.ref r_102)] _
    refine st106 _ ?_
    show SS p e below T106 m 27 #[.val (.ref a), .val (.int (3 : Int32)), .val (.ref r_102), .val (.int (1 : Int32)), .val (.int (0 : Int32)), .val (.int (0 : Int32))] [(.int (el (([x0, x1, x2, x3].drop 0).take 3) 0))] _
    rw [show (el (([x0, x1, x2, x3].drop 0).take 3) 0) = (ek 3 0 x0 x1 x2 x3) from rfl]
    exact kt
  have W109 : ∀ zQ, SS p e below T106 m 39 #[.val (.ref a), .val (.int (3 : Int32)), .val (.ref r_102), .val (.int (if (ek 3 0 x0 x1 x2 x3) = (0 : Int32) then (1 : Int32) else (2 : Int32))), .val (.int (if (ek 3 0 x0 x1 x2 x3) = (0 : Int32) then (0 : Int32) else (1 : Int32))), .val (.int (0 : Int32))] [] zQ → Steps p.tables e below (s₁.setTop (entryFrame m #[(.ref a), (.int (3 : Int32))] 6)) zQ := by
    intro tt kt
    refine W107 tt ?_
    by_cases hj108 : (ek 3 0 x0 x1 x2 x3) = (0 : Int32)
    ·
      refine XS.ifYes X106.here hx rfl (pc0 := 27) (pc' := 39) rfl (hb hby d_prog_13_method_2_27) rfl ((if0 _ _).trans (teq hj108).1) (by decide) (by decide) ?_
      exact castTop (by first | rfl | (simp only [if_pos hj108]; first | done | rfl)) kt
    ·
      refine XS.ifNo X106.here hx rfl (hb hby d_prog_13_method_2_27) rfl ((if0 _ _).trans (feq hj108).1) ?_
      show SS p e below T106 m 30 #[.val (.ref a), .val (.int (3 : Int32)), .val (.ref r_102), .val (.int (1 : Int32)), .val (.int (0 : Int32)), .val (.int (0 : Int32))] [] _
      refine XS.iinc X106.here hx rfl (hb hby d_prog_13_method_2_30) rfl (l' := #[.val (.ref a), .val (.int (3 : Int32)), .val (.ref r_102), .val (.int (2 : Int32)), .val (.int (0 : Int32)), .val (.int (0 : Int32))]) rfl ?_
      refine XS.iload X106.here hx rfl (hb hby d_prog_13_method_2_33) rfl ?_
      refine XS.iconst X106.here hx rfl (hb hby d_prog_13_method_2_35) ?_
      refine XS.iadd X106.here hx rfl (hb hby d_prog_13_method_2_36) rfl ?_
      refine XS.istore X106.here hx rfl (hb hby d_prog_13_method_2_37) rfl (l' := #[.val (.ref a), .val (.int (3 : Int32)), .val (.ref r_102), .val (.int (2 : Int32)), .val (.int (1 : Int32)), .val (.int (0 : Int32))]) rfl ?_
      exact castTop (by first | rfl | (simp only [if_neg hj108]; first | done | rfl)) kt
  obtain ⟨_, _, ⟨T110, L110, k110, n110⟩, -, X110, ⟨Lc110, hQ110, l110, y110, z110⟩, st110⟩ := Jvm.LawKit.callS X106 hx (y := yn36) hown (mvT hZ (w125 hw)) (mvT hZ (w126 hw)) (mvT hZ (w127 hw)) (mvT hZ (w128 hw)) (by decide) (backOf (W := 0) (rm_endsLine l Z a0 hw [] r_102 1 t2_103 kb2_104 (([x0, x1, x2, x3].drop 0).take 3) cS fm T101.heap n0 (Nat.le_trans Z0 K101.1) O105 S_cs hcS S_fm hfm S_ad S_hi S_lo P101_2 (Nat.le_of_ble_eq_true rfl)) hZ (w128 hw) (w127 hw) (by decide) (by decide)) (g := (mkF m 24 #[.val (.ref a), .val (.int (3 : Int32)), .val (.ref r_102), .val (.int (ln 3 x0 x1 x2 x3 1)), .val (.int (lo 3 x0 x1 x2 x3 1)), .val (.int (1 : Int32))] [(.int (1 : Int32)), (.ref r_102)])) rfl (by rw [hml]; rfl) (argsL := [(.ref r_102), (.int (1 : Int32))]) (rest := []) (lenOf pd__28_Ljava_2f_lang_2f_String_3b_I_29_Z rfl) rfl (by show 2 * 0 + _ ≤ _; exact Nat.le_of_eq rfl) (hb hby d_prog_13_method_2_24) (fun _ _ => ⟨rfl, eq106, (Nat.le_of_ble_eq_true rfl), (Nat.le_of_ble_eq_true rfl)⟩)
  dsimp only [Pt.U, Pt.locs, Pt.cells, Pt.slots] at X110 l110 y110 z110 st110 hQ110
  subst l110 y110 z110
  obtain ⟨rfl, Nq110, eq110⟩ := hQ110
  have N110 := Fr.app N106 Nq110
  have W111 : ∀ zQ, SS p e below T110 m 27 #[.val (.ref a), .val (.int (3 : Int32)), .val (.ref r_102), .val (.int (ln 3 x0 x1 x2 x3 1)), .val (.int (lo 3 x0 x1 x2 x3 1)), .val (.int (1 : Int32))] [(.int (ek 3 1 x0 x1 x2 x3))] zQ → Steps p.tables e below (s₁.setTop (entryFrame m #[(.ref a), (.int (3 : Int32))] 6)) zQ := by
    intro tt kt
    refine W109 tt ?_
    rw [show (if (ek 3 0 x0 x1 x2 x3) = (0 : Int32) then (1 : Int32) else (2 : Int32)) = (ln 3 x0 x1 x2 x3 1) from rfl]
    show SS p e below T106 m 39 #[.val (.ref a), .val (.int (3 : Int32)), .val (.ref r_102), .val (.int (ln 3 x0 x1 x2 x3 1)), .val (.int (if (ek 3 0 x0 x1 x2 x3) = (0 : Int32) then (0 : Int32) else (1 : Int32))), .val (.int (0 : Int32))] [] _
    rw [show (if (ek 3 0 x0 x1 x2 x3) = (0 : Int32) then (0 : Int32) else (1 : Int32)) = (lo 3 x0 x1 x2 x3 1) from rfl]
    show SS p e below T106 m 39 #[.val (.ref a), .val (.int (3 : Int32)), .val (.ref r_102), .val (.int (ln 3 x0 x1 x2 x3 1)), .val (.int (lo 3 x0 x1 x2 x3 1)), .val (.int (0 : Int32))] [] _
    refine XS.iinc X106.here hx rfl (hb hby d_prog_13_method_2_39) rfl (l' := #[.val (.ref a), .val (.int (3 : Int32)), .val (.ref r_102), .val (.int (ln 3 x0 x1 x2 x3 1)), .val (.int (lo 3 x0 x1 x2 x3 1)), .val (.int (1 : Int32))]) rfl ?_
    refine XS.goto X106.here hx rfl (pc0 := 42) (pc' := 15) rfl (hb hby d_prog_13_method_2_42) (by decide) (by decide) ?_
    refine XS.iload X106.here hx rfl (hb hby d_prog_13_method_2_15) rfl ?_
    refine XS.iloadN X106.here hx rfl (hb hby d_prog_13_method_2_17) rfl ?_
    refine XS.icmpNo X106.here hx rfl (hb hby d_prog_13_method_2_18) rfl (tlt (by decide)).2.1 ?_
    refine XS.aloadN X106.here hx rfl (hb hby d_prog_13_method_2_21) rfl rfl ?_
    show SS p e below T106 m 22 #[.val (.ref a), .val (.int (3 : Int32)), .val (.ref r_102), .val (.int (ln 3 x0 x1 x2 x3 1)), .val (.int (lo 3 x0 x1 x2 x3 1)), .val (.int (1 : Int32))] [(.ref r_102)] _
    refine XS.iload X106.here hx rfl (hb hby d_prog_13_method_2_22) rfl ?_
    show SS p e below T106 m 24 #[.val (.ref a), .val (.int (3 : Int32)), .val (.ref r_102), .val (.int (ln 3 x0 x1 x2 x3 1)), .val (.int (lo 3 x0 x1 x2 x3 1)), .val (.int (1 : Int32))] [(.int (1 : Int32)), (.ref r_102)] _
    refine st110 _ ?_
    show SS p e below T110 m 27 #[.val (.ref a), .val (.int (3 : Int32)), .val (.ref r_102), .val (.int (ln 3 x0 x1 x2 x3 1)), .val (.int (lo 3 x0 x1 x2 x3 1)), .val (.int (1 : Int32))] [(.int (el (([x0, x1, x2, x3].drop 0).take 3) 1))] _
    rw [show (el (([x0, x1, x2, x3].drop 0).take 3) 1) = (ek 3 1 x0 x1 x2 x3) from rfl]
    exact kt
  have W113 : ∀ zQ, SS p e below T110 m 39 #[.val (.ref a), .val (.int (3 : Int32)), .val (.ref r_102), .val (.int (if (ek 3 1 x0 x1 x2 x3) = (0 : Int32) then (ln 3 x0 x1 x2 x3 1) else ((ln 3 x0 x1 x2 x3 1) + (1 : Int32)))), .val (.int (if (ek 3 1 x0 x1 x2 x3) = (0 : Int32) then (lo 3 x0 x1 x2 x3 1) else (2 : Int32))), .val (.int (1 : Int32))] [] zQ → Steps p.tables e below (s₁.setTop (entryFrame m #[(.ref a), (.int (3 : Int32))] 6)) zQ := by
    intro tt kt
    refine W111 tt ?_
    by_cases hj112 : (ek 3 1 x0 x1 x2 x3) = (0 : Int32)
    ·
      refine XS.ifYes X110.here hx rfl (pc0 := 27) (pc' := 39) rfl (hb hby d_prog_13_method_2_27) rfl ((if0 _ _).trans (teq hj112).1) (by decide) (by decide) ?_
      exact castTop (by first | rfl | (simp only [if_pos hj112]; first | done | rfl)) kt
    ·
      refine XS.ifNo X110.here hx rfl (hb hby d_prog_13_method_2_27) rfl ((if0 _ _).trans (feq hj112).1) ?_
      show SS p e below T110 m 30 #[.val (.ref a), .val (.int (3 : Int32)), .val (.ref r_102), .val (.int (ln 3 x0 x1 x2 x3 1)), .val (.int (lo 3 x0 x1 x2 x3 1)), .val (.int (1 : Int32))] [] _
      refine XS.iinc X110.here hx rfl (hb hby d_prog_13_method_2_30) rfl (l' := #[.val (.ref a), .val (.int (3 : Int32)), .val (.ref r_102), .val (.int ((ln 3 x0 x1 x2 x3 1) + (1 : Int32))), .val (.int (lo 3 x0 x1 x2 x3 1)), .val (.int (1 : Int32))]) rfl ?_
      refine XS.iload X110.here hx rfl (hb hby d_prog_13_method_2_33) rfl ?_
      refine XS.iconst X110.here hx rfl (hb hby d_prog_13_method_2_35) ?_
      refine XS.iadd X110.here hx rfl (hb hby d_prog_13_method_2_36) rfl ?_
      refine XS.istore X110.here hx rfl (hb hby d_prog_13_method_2_37) rfl (l' := #[.val (.ref a), .val (.int (3 : Int32)), .val (.ref r_102), .val (.int ((ln 3 x0 x1 x2 x3 1) + (1 : Int32))), .val (.int (2 : Int32)), .val (.int (1 : Int32))]) rfl ?_
      exact castTop (by first | rfl | (simp only [if_neg hj112]; first | done | rfl)) kt
  obtain ⟨_, _, ⟨T114, L114, k114, n114⟩, -, X114, ⟨Lc114, hQ114, l114, y114, z114⟩, st114⟩ := Jvm.LawKit.callS X110 hx (y := yn36) hown (mvT hZ (w125 hw)) (mvT hZ (w126 hw)) (mvT hZ (w127 hw)) (mvT hZ (w128 hw)) (by decide) (backOf (W := 0) (rm_endsLine l Z a0 hw [] r_102 2 t2_103 kb2_104 (([x0, x1, x2, x3].drop 0).take 3) cS fm T101.heap n0 (Nat.le_trans Z0 K101.1) O105 S_cs hcS S_fm hfm S_ad S_hi S_lo P101_2 (Nat.le_of_ble_eq_true rfl)) hZ (w128 hw) (w127 hw) (by decide) (by decide)) (g := (mkF m 24 #[.val (.ref a), .val (.int (3 : Int32)), .val (.ref r_102), .val (.int (ln 3 x0 x1 x2 x3 2)), .val (.int (lo 3 x0 x1 x2 x3 2)), .val (.int (2 : Int32))] [(.int (2 : Int32)), (.ref r_102)])) rfl (by rw [hml]; rfl) (argsL := [(.ref r_102), (.int (2 : Int32))]) (rest := []) (lenOf pd__28_Ljava_2f_lang_2f_String_3b_I_29_Z rfl) rfl (by show 2 * 0 + _ ≤ _; exact Nat.le_of_eq rfl) (hb hby d_prog_13_method_2_24) (fun _ _ => ⟨rfl, eq110, (Nat.le_of_ble_eq_true rfl), (Nat.le_of_ble_eq_true rfl)⟩)
  dsimp only [Pt.U, Pt.locs, Pt.cells, Pt.slots] at X114 l114 y114 z114 st114 hQ114
  subst l114 y114 z114
  obtain ⟨rfl, Nq114, eq114⟩ := hQ114
  have N114 := Fr.app N110 Nq114
  have W115 : ∀ zQ, SS p e below T114 m 27 #[.val (.ref a), .val (.int (3 : Int32)), .val (.ref r_102), .val (.int (ln 3 x0 x1 x2 x3 2)), .val (.int (lo 3 x0 x1 x2 x3 2)), .val (.int (2 : Int32))] [(.int (ek 3 2 x0 x1 x2 x3))] zQ → Steps p.tables e below (s₁.setTop (entryFrame m #[(.ref a), (.int (3 : Int32))] 6)) zQ := by
    intro tt kt
    refine W113 tt ?_
    rw [show (if (ek 3 1 x0 x1 x2 x3) = (0 : Int32) then (ln 3 x0 x1 x2 x3 1) else ((ln 3 x0 x1 x2 x3 1) + (1 : Int32))) = (ln 3 x0 x1 x2 x3 2) from rfl]
    show SS p e below T110 m 39 #[.val (.ref a), .val (.int (3 : Int32)), .val (.ref r_102), .val (.int (ln 3 x0 x1 x2 x3 2)), .val (.int (if (ek 3 1 x0 x1 x2 x3) = (0 : Int32) then (lo 3 x0 x1 x2 x3 1) else (2 : Int32))), .val (.int (1 : Int32))] [] _
    rw [show (if (ek 3 1 x0 x1 x2 x3) = (0 : Int32) then (lo 3 x0 x1 x2 x3 1) else (2 : Int32)) = (lo 3 x0 x1 x2 x3 2) from rfl]
    show SS p e below T110 m 39 #[.val (.ref a), .val (.int (3 : Int32)), .val (.ref r_102), .val (.int (ln 3 x0 x1 x2 x3 2)), .val (.int (lo 3 x0 x1 x2 x3 2)), .val (.int (1 : Int32))] [] _
    refine XS.iinc X110.here hx rfl (hb hby d_prog_13_method_2_39) rfl (l' := #[.val (.ref a), .val (.int (3 : Int32)), .val (.ref r_102), .val (.int (ln 3 x0 x1 x2 x3 2)), .val (.int (lo 3 x0 x1 x2 x3 2)), .val (.int (2 : Int32))]) rfl ?_
    refine XS.goto X110.here hx rfl (pc0 := 42) (pc' := 15) rfl (hb hby d_prog_13_method_2_42) (by decide) (by decide) ?_
    refine XS.iload X110.here hx rfl (hb hby d_prog_13_method_2_15) rfl ?_
    refine XS.iloadN X110.here hx rfl (hb hby d_prog_13_method_2_17) rfl ?_
    refine XS.icmpNo X110.here hx rfl (hb hby d_prog_13_method_2_18) rfl (tlt (by decide)).2.1 ?_
    refine XS.aloadN X110.here hx rfl (hb hby d_prog_13_method_2_21) rfl rfl ?_
    show SS p e below T110 m 22 #[.val (.ref a), .val (.int (3 : Int32)), .val (.ref r_102), .val (.int (ln 3 x0 x1 x2 x3 2)), .val (.int (lo 3 x0 x1 x2 x3 2)), .val (.int (2 : Int32))] [(.ref r_102)] _
    refine XS.iload X110.here hx rfl (hb hby d_prog_13_method_2_22) rfl ?_
    show SS p e below T110 m 24 #[.val (.ref a), .val (.int (3 : Int32)), .val (.ref r_102), .val (.int (ln 3 x0 x1 x2 x3 2)), .val (.int (lo 3 x0 x1 x2 x3 2)), .val (.int (2 : Int32))] [(.int (2 : Int32)), (.ref r_102)] _
    refine st114 _ ?_
    show SS p e below T114 m 27 #[.val (.ref a), .val (.int (3 : Int32)), .val (.ref r_102), .val (.int (ln 3 x0 x1 x2 x3 2)), .val (.int (lo 3 x0 x1 x2 x3 2)), .val (.int (2 : Int32))] [(.int (el (([x0, x1, x2, x3].drop 0).take 3) 2))] _
    rw [show (el (([x0, x1, x2, x3].drop 0).take 3) 2) = (ek 3 2 x0 x1 x2 x3) from rfl]
    exact kt
  have W117 : ∀ zQ, SS p e below T114 m 39 #[.val (.ref a), .val (.int (3 : Int32)), .val (.ref r_102), .val (.int (if (ek 3 2 x0 x1 x2 x3) = (0 : Int32) then (ln 3 x0 x1 x2 x3 2) else ((ln 3 x0 x1 x2 x3 2) + (1 : Int32)))), .val (.int (if (ek 3 2 x0 x1 x2 x3) = (0 : Int32) then (lo 3 x0 x1 x2 x3 2) else (3 : Int32))), .val (.int (2 : Int32))] [] zQ → Steps p.tables e below (s₁.setTop (entryFrame m #[(.ref a), (.int (3 : Int32))] 6)) zQ := by
    intro tt kt
    refine W115 tt ?_
    by_cases hj116 : (ek 3 2 x0 x1 x2 x3) = (0 : Int32)
    ·
      refine XS.ifYes X114.here hx rfl (pc0 := 27) (pc' := 39) rfl (hb hby d_prog_13_method_2_27) rfl ((if0 _ _).trans (teq hj116).1) (by decide) (by decide) ?_
      exact castTop (by first | rfl | (simp only [if_pos hj116]; first | done | rfl)) kt
    ·
      refine XS.ifNo X114.here hx rfl (hb hby d_prog_13_method_2_27) rfl ((if0 _ _).trans (feq hj116).1) ?_
      show SS p e below T114 m 30 #[.val (.ref a), .val (.int (3 : Int32)), .val (.ref r_102), .val (.int (ln 3 x0 x1 x2 x3 2)), .val (.int (lo 3 x0 x1 x2 x3 2)), .val (.int (2 : Int32))] [] _
      refine XS.iinc X114.here hx rfl (hb hby d_prog_13_method_2_30) rfl (l' := #[.val (.ref a), .val (.int (3 : Int32)), .val (.ref r_102), .val (.int ((ln 3 x0 x1 x2 x3 2) + (1 : Int32))), .val (.int (lo 3 x0 x1 x2 x3 2)), .val (.int (2 : Int32))]) rfl ?_
      refine XS.iload X114.here hx rfl (hb hby d_prog_13_method_2_33) rfl ?_
      refine XS.iconst X114.here hx rfl (hb hby d_prog_13_method_2_35) ?_
      refine XS.iadd X114.here hx rfl (hb hby d_prog_13_method_2_36) rfl ?_
      refine XS.istore X114.here hx rfl (hb hby d_prog_13_method_2_37) rfl (l' := #[.val (.ref a), .val (.int (3 : Int32)), .val (.ref r_102), .val (.int ((ln 3 x0 x1 x2 x3 2) + (1 : Int32))), .val (.int (3 : Int32)), .val (.int (2 : Int32))]) rfl ?_
      exact castTop (by first | rfl | (simp only [if_neg hj116]; first | done | rfl)) kt
  obtain ⟨T118, h118, X118, e118, E118, A118, D118, U118, st118⟩ := newO X114 hx hZ hown (w78 hw) (w79 hw) (w41 hw) eq114 (g := (mkF m 45 #[.val (.ref a), .val (.int (3 : Int32)), .val (.ref r_102), .val (.int (ln 3 x0 x1 x2 x3 3)), .val (.int (lo 3 x0 x1 x2 x3 3)), .val (.int (3 : Int32))] [])) rfl (hb hby d_prog_13_method_2_45) (by decide) (by decide)
  obtain ⟨b118, g118⟩ : ∃ z, z = T101.heap.size := ⟨_, rfl⟩
  rw [← g118] at A118 D118 U118 st118
  have K118 := (Keep.refl T101.heap []).ext E118
  have G118_line : Fld Z h118 b118 "com/example/vestline/vestline/input/TextPosition" "line" "I" (.int (0 : Int32)) := D118 (Or.inr (w90 hw)) (ty := .int) (by decide)
  have G118_character : Fld Z h118 b118 "com/example/vestline/vestline/input/TextPosition" "character" "I" (.int (0 : Int32)) := D118 (Or.inr (w92 hw)) (ty := .int) (by decide)
  obtain ⟨_, _, ⟨T119, L119, k119, n119⟩, -, X119, ⟨Lc119, hQ119, l119, y119, z119⟩, st119⟩ := X118.specialBack hx (y := yn38) rfl hown (mvT hZ (w80 hw)) (mvT hZ (w81 hw)) (mvT hZ (w82 hw)) (by decide) (backOf (W := 1) (rm_tpinit l Z a0 hw [] b118 (ln 3 x0 x1 x2 x3 3) ((3 : Int32) - (lo 3 x0 x1 x2 x3 3)) h118 n0 (Nat.le_trans Z0 (Nat.le_trans K101.1 K118.1)) A118 G118_line G118_character (Nat.le_trans Z0 (Nat.le_trans K101.1 (Nat.le_of_eq g118.symm)))) hZ (w82 hw) (w41 hw) (by decide) (by decide)) (g := (mkF m 54 #[.val (.ref a), .val (.int (3 : Int32)), .val (.ref r_102), .val (.int (ln 3 x0 x1 x2 x3 3)), .val (.int (lo 3 x0 x1 x2 x3 3)), .val (.int (3 : Int32))] [(.int ((3 : Int32) - (lo 3 x0 x1 x2 x3 3))), (.int (ln 3 x0 x1 x2 x3 3)), (.ref b118), (.ref b118)])) rfl (by rw [hml]; rfl) (Steps.refl _) (a := b118) (argsL := [(.int (ln 3 x0 x1 x2 x3 3)), (.int ((3 : Int32) - (lo 3 x0 x1 x2 x3 3)))]) (rest := [(.ref b118)]) (lenOf pd__28_II_29_V rfl) rfl (by show 2 * 0 + _ ≤ _; exact Nat.le_of_eq rfl) (hb hby d_prog_13_method_2_54) (fun _ _ => ⟨rfl, e118, (Nat.le_of_ble_eq_true rfl), (Nat.le_of_ble_eq_true rfl)⟩)
  dsimp only [Pt.U, Pt.locs, Pt.cells, Pt.slots] at X119 l119 y119 z119 st119 hQ119
  subst l119 y119 z119
  obtain ⟨rfl, Nq119, K119, P119_0, P119_1, P119_2⟩ := hQ119
  have N119 := Fr.app N114 Nq119
  have W120 : ∀ zQ, SS p e below T119 m 57 #[.val (.ref a), .val (.int (3 : Int32)), .val (.ref r_102), .val (.int (ln 3 x0 x1 x2 x3 3)), .val (.int (lo 3 x0 x1 x2 x3 3)), .val (.int (3 : Int32))] [(.ref b118)] zQ → Steps p.tables e below (s₁.setTop (entryFrame m #[(.ref a), (.int (3 : Int32))] 6)) zQ := by
    intro tt kt
    refine W117 tt ?_
    rw [show (if (ek 3 2 x0 x1 x2 x3) = (0 : Int32) then (ln 3 x0 x1 x2 x3 2) else ((ln 3 x0 x1 x2 x3 2) + (1 : Int32))) = (ln 3 x0 x1 x2 x3 3) from rfl]
    show SS p e below T114 m 39 #[.val (.ref a), .val (.int (3 : Int32)), .val (.ref r_102), .val (.int (ln 3 x0 x1 x2 x3 3)), .val (.int (if (ek 3 2 x0 x1 x2 x3) = (0 : Int32) then (lo 3 x0 x1 x2 x3 2) else (3 : Int32))), .val (.int (2 : Int32))] [] _
    rw [show (if (ek 3 2 x0 x1 x2 x3) = (0 : Int32) then (lo 3 x0 x1 x2 x3 2) else (3 : Int32)) = (lo 3 x0 x1 x2 x3 3) from rfl]
    show SS p e below T114 m 39 #[.val (.ref a), .val (.int (3 : Int32)), .val (.ref r_102), .val (.int (ln 3 x0 x1 x2 x3 3)), .val (.int (lo 3 x0 x1 x2 x3 3)), .val (.int (2 : Int32))] [] _
    refine XS.iinc X114.here hx rfl (hb hby d_prog_13_method_2_39) rfl (l' := #[.val (.ref a), .val (.int (3 : Int32)), .val (.ref r_102), .val (.int (ln 3 x0 x1 x2 x3 3)), .val (.int (lo 3 x0 x1 x2 x3 3)), .val (.int (3 : Int32))]) rfl ?_
    refine XS.goto X114.here hx rfl (pc0 := 42) (pc' := 15) rfl (hb hby d_prog_13_method_2_42) (by decide) (by decide) ?_
    refine XS.iload X114.here hx rfl (hb hby d_prog_13_method_2_15) rfl ?_
    refine XS.iloadN X114.here hx rfl (hb hby d_prog_13_method_2_17) rfl ?_
    refine XS.icmpYes X114.here hx rfl (pc0 := 18) (pc' := 45) rfl (hb hby d_prog_13_method_2_18) rfl (flt (by decide)).2.1 (by decide) (by decide) ?_
    show SS p e below T114 m 45 #[.val (.ref a), .val (.int (3 : Int32)), .val (.ref r_102), .val (.int (ln 3 x0 x1 x2 x3 3)), .val (.int (lo 3 x0 x1 x2 x3 3)), .val (.int (3 : Int32))] [] _
    refine st118 _ ?_
    refine XS.dup X118.here hx rfl (hb hby d_prog_13_method_2_48) rfl rfl ?_
    refine XS.iloadN X118.here hx rfl (hb hby d_prog_13_method_2_49) rfl ?_
    refine XS.iloadN X118.here hx rfl (hb hby d_prog_13_method_2_50) rfl ?_
    refine XS.iload X118.here hx rfl (hb hby d_prog_13_method_2_51) rfl ?_
    refine XS.isub X118.here hx rfl (hb hby d_prog_13_method_2_53) rfl ?_
    show SS p e below T118 m 54 #[.val (.ref a), .val (.int (3 : Int32)), .val (.ref r_102), .val (.int (ln 3 x0 x1 x2 x3 3)), .val (.int (lo 3 x0 x1 x2 x3 3)), .val (.int (3 : Int32))] [(.int ((3 : Int32) - (lo 3 x0 x1 x2 x3 3))), (.int (ln 3 x0 x1 x2 x3 3)), (.ref b118), (.ref b118)] _
    refine st119.trans ?_
    exact kt
  obtain ⟨fs, hr, hrun, hended, hW, hsame⟩ := X119.leave (v := some (.ref b118)) (fun h => by rw [Bd.returns] at h; cases h)
  refine ⟨_, _, W120 _ (own_retR X119 hx Bd.returns rfl rfl (hb hby d_prog_13_method_2_57) hr), hrun, hended, _, _, rfl, ?_, ⟨_, rfl⟩, hW, hsame.mono (by decide) (by decide)⟩
  show Q_after3 Z a t kb x0 x1 x2 x3 cS fm h0 n0 _ T119.heap _
  exact ⟨b118, rfl, N119, (Keep.trans (Keep.trans (Keep.trans (Keep.refl h0 []) K101 all0) K118 all0) K119 (allS (Or.inr (Nat.le_trans K101.1 (Nat.le_of_eq g118.symm))) all0)), (Nat.le_trans K101.1 (Nat.le_of_eq g118.symm)), P119_0, P119_1, P119_2⟩
def Q_after4 (Z : State) (a : Addr) (t : Addr) (kb : ClassId) (x0 : Int32) (x1 : Int32) (x2 : Int32) (x3 : Int32) (cS : Int32) (fm : Value) (h0 : Heap) (n0 : Nat) (vQ_ : Option Value) (hQ_ : Heap) (LQ_ : List Loc) : Prop := ∃ r : Addr, vQ_ = some (.ref r) ∧ Fr n0 LQ_ ∧ Keep h0 hQ_ [] ∧ h0.size ≤ r ∧ Exa Z hQ_ r "com/example/vestline/vestline/input/TextPosition" ∧ Fld Z hQ_ r "com/example/vestline/vestline/input/TextPosition" "line" "I" (.int (ln 4 x0 x1 x2 x3 4)) ∧ Fld Z hQ_ r "com/example/vestline/vestline/input/TextPosition" "character" "I" (.int ((4 : Int32) - (lo 4 x0 x1 x2 x3 4)))
set_option maxRecDepth 65536 in
set_option maxHeartbeats 40000000 in
theorem rm_after4 (l : Launch) (Z : State) (a0 : Array Value) (hw : HW a0 Z) (ws : List Jvm.Cond) (a : Addr) (t : Addr) (kb : ClassId) (x0 : Int32) (x1 : Int32) (x2 : Int32) (x3 : Int32) (cS : Int32) (fm : Value) (h0 : Heap) (n0 : Nat) (Z0 : n0 ≤ h0.size) (O0 : Old Z n0 h0) (S_cs : Sta Z Z.heap "java/lang/String" "COMPACT_STRINGS" "Z" (.int cS)) (hcS : ¬ (cS = (0 : Int32))) (S_fm : Sta Z Z.heap "jdk/internal/util/Preconditions" "SIOOBE_FORMATTER" "Ljava/util/function/BiFunction;" fm) (hfm : fm.isRef = true) (S_ad : Sta Z Z.heap "java/lang/StringUTF16" "$assertionsDisabled" "Z" (.int (1 : Int32))) (S_hi : Sta Z Z.heap "java/lang/StringUTF16" "HI_BYTE_SHIFT" "I" (.int (0 : Int32))) (S_lo : Sta Z Z.heap "java/lang/StringUTF16" "LO_BYTE_SHIFT" "I" (.int (8 : Int32))) (hS : Str Z h0 a t kb [x0, x1, x2, x3]) :
    MetFree l yn41 (head1 (Jvm.Cond.code yn41 prog_13_method_2_code 6 (some (.object "com/example/vestline/vestline/input/TextPosition")) :: ws) ({ frames := 6, cells := 1, slots := 2, locals := 80 } : Room)) (fun aQ_ UQ => aQ_ = #[(.ref a), (.int (4 : Int32))] ∧ Z.Warmed39 UQ.vm ∧ UQ.heap = h0) (fun _ _ _ _ _ => True) (fun _ UQ oQ UQ' => ∃ vQ_ LQ_, oQ = .returned vQ_ ∧ Q_after4 Z a t kb x0 x1 x2 x3 cS fm h0 n0 vQ_ UQ'.heap LQ_ ∧ FrameEnd UQ oQ UQ' LQ_ ({ frames := 6, cells := 1, slots := 2, locals := 80 } : Room).cells ({ frames := 6, cells := 1, slots := 2, locals := 80 } : Room).slots) := by
  refine MetFree.of_bodySF (plainFor_of_name pn_com_example_vestline_vestline_input_TextPosition) hisR ?_
  intro p e s m args below meth cO s₁ Bd hml0 hP hK
  obtain ⟨rfl, hZ, hh⟩ := hP
  have hx := Bd.exec
  have hby := Bd.bytes
  have hml : cO.maxLocals = 6 := hml0
  have hown : s.vm.findClass "com/example/vestline/vestline/input/TextPosition" = some m.cls := findClass_of_methodNamed Bd.named
  have hnm := (name_of_methodNamed Bd.named Bd.method).1
  have X0 : Stand p l e ({ frames := 6, cells := 1, slots := 2, locals := 80 } : Room) s m #[(.ref a), (.int (4 : Int32))] below meth cO s₁ [] 0 0 := Stand.of_body Bd
  have e0 : s₁.heap = h0 := by rw [← hh, Bd.state]; rfl
  have N0 := Fr.nil n0
  have W0 : ∀ zQ, SS p e below s₁ m 0 #[.val (.ref a), .val (.int (4 : Int32)), .unset, .unset, .unset, .unset] [] zQ → Steps p.tables e below (s₁.setTop (entryFrame m #[(.ref a), (.int (4 : Int32))] 6)) zQ := fun tt kt => castTop (ef_after4 m a (4 : Int32)) kt
  obtain ⟨cq101, kq101, q101a, q101b, q101c⟩ := isOf hZ e0 hS.1
  obtain ⟨_, _, ⟨T101, L101, k101, n101⟩, -, X101, ⟨Lc101, hQ101, l101, y101, z101⟩, st101⟩ := X0.virtualBack hx (y := yn35) (z := yn35) hown (mvT hZ (w43 hw)) (mvT hZ (w44 hw)) (notFace_of_selects (args := #[]) (mvT hZ (w46 hw))) (mvT hZ (w46 hw)) (mvT hZ (w45 hw)) (by decide) (backOf (W := 0) (rm_subAll l Z a0 hw [] a t kb [x0, x1, x2, x3] cS fm h0 n0 Z0 O0 S_cs hcS S_fm hfm hS) hZ (w47 hw) (w8 hw) (by decide) (by decide)) q101a q101c (g := (mkF m 3 #[.val (.ref a), .val (.int (4 : Int32)), .unset, .unset, .unset, .unset] [(.int (4 : Int32)), (.int (0 : Int32)), (.ref a)])) rfl (by rw [hml]; rfl) (Steps.refl _) (argsL := [(.int (0 : Int32)), (.int (4 : Int32))]) (rest := []) (lenOf pd__28_II_29_Ljava_2f_lang_2f_String_3b_ rfl) rfl (by show 2 * 0 + _ ≤ _; exact Nat.le_of_eq rfl) (hb hby d_prog_13_method_2_3) (fun _ _ => ⟨rfl, e0, (Nat.le_of_ble_eq_true rfl), (Nat.le_of_ble_eq_true rfl)⟩)
  dsimp only [Pt.U, Pt.locs, Pt.cells, Pt.slots] at X101 l101 y101 z101 st101 hQ101
  subst l101 y101 z101
  obtain ⟨rfl, Nq101, eq101⟩ := hQ101
  have N101 := Fr.app N0 Nq101
  obtain ⟨_, _, ⟨T102, L102, k102, n102⟩, -, X102, ⟨Lc102, hQ102, l102, y102, z102⟩, st102⟩ := Jvm.LawKit.callS X101 hx (y := yn36) hown (mvT hZ (w125 hw)) (mvT hZ (w126 hw)) (mvT hZ (w127 hw)) (mvT hZ (w128 hw)) (by decide) (backOf (W := 0) (rm_endsLine l Z a0 hw [] a 0 t kb [x0, x1, x2, x3] cS fm h0 n0 Z0 O0 S_cs hcS S_fm hfm S_ad S_hi S_lo hS (Nat.le_of_ble_eq_true rfl)) hZ (w128 hw) (w127 hw) (by decide) (by decide)) (g := (mkF m 24 #[.val (.ref a), .val (.int (4 : Int32)), .val (.ref a), .val (.int (1 : Int32)), .val (.int (0 : Int32)), .val (.int (0 : Int32))] [(.int (0 : Int32)), (.ref a)])) rfl (by rw [hml]; rfl) (argsL := [(.ref a), (.int (0 : Int32))]) (rest := []) (lenOf pd__28_Ljava_2f_lang_2f_String_3b_I_29_Z rfl) rfl (by show 2 * 0 + _ ≤ _; exact Nat.le_of_eq rfl) (hb hby d_prog_13_method_2_24) (fun _ _ => ⟨rfl, eq101, (Nat.le_of_ble_eq_true rfl), (Nat.le_of_ble_eq_true rfl)⟩)
  dsimp only [Pt.U, Pt.locs, Pt.cells, Pt.slots] at X102 l102 y102 z102 st102 hQ102
  subst l102 y102 z102
  obtain ⟨rfl, Nq102, eq102⟩ := hQ102
  have N102 := Fr.app N101 Nq102
  have W103 : ∀ zQ, SS p e below T102 m 27 #[.val (.ref a), .val (.int (4 : Int32)), .val (.ref a), .val (.int (1 : Int32)), .val (.int (0 : Int32)), .val (.int (0 : Int32))] [(.int (ek 4 0 x0 x1 x2 x3))] zQ → Steps p.tables e below (s₁.setTop (entryFrame m #[(.ref a), (.int (4 : Int32))] 6)) zQ := by
    intro tt kt
    refine W0 tt ?_
    refine XS.aloadN X0.here hx rfl (hb hby d_prog_13_method_2_0) rfl rfl ?_
    refine XS.iconst X0.here hx rfl (hb hby d_prog_13_method_2_1) ?_
    refine XS.iloadN X0.here hx rfl (hb hby d_prog_13_method_2_2) rfl ?_
    show SS p e below s₁ m 3 #[.val (.ref a), .val (.int (4 : Int32)), .unset, .unset, .unset, .unset] [(.int (4 : Int32)), (.int (0 : Int32)), (.ref a)] _
    refine st101.trans ?_
    refine XS.astoreN X101.here hx rfl (hb hby d_prog_13_method_2_6) rfl rfl (l' := #[.val (.ref a), .val (.int (4 : Int32)), .val (.ref a), .unset, .unset, .unset]) rfl ?_
    refine XS.iconst X101.here hx rfl (hb hby d_prog_13_method_2_7) ?_
    refine XS.istoreN X101.here hx rfl (hb hby d_prog_13_method_2_8) rfl (l' := #[.val (.ref a), .val (.int (4 : Int32)), .val (.ref a), .val (.int (1 : Int32)), .unset, .unset]) rfl ?_
    refine XS.iconst X101.here hx rfl (hb hby d_prog_13_method_2_9) ?_
    refine XS.istore X101.here hx rfl (hb hby d_prog_13_method_2_10) rfl (l' := #[.val (.ref a), .val (.int (4 : Int32)), .val (.ref a), .val (.int (1 : Int32)), .val (.int (0 : Int32)), .unset]) rfl ?_
    show SS p e below T101 m 12 #[.val (.ref a), .val (.int (4 : Int32)), .val (.ref a), .val (.int (1 : Int32)), .val (.int (0 : Int32)), .unset] [] _
    refine XS.iconst X101.here hx rfl (hb hby d_prog_13_method_2_12) ?_
    refine XS.istore X101.here hx rfl (hb hby d_prog_13_method_2_13) rfl (l' := #[.val (.ref a), .val (.int (4 : Int32)), .val (.ref a), .val (.int (1 : Int32)), .val (.int (0 : Int32)), .val (.int (0 : Int32))]) rfl ?_
    refine XS.iload X101.here hx rfl (hb hby d_prog_13_method_2_15) rfl ?_
    refine XS.iloadN X101.here hx rfl (hb hby d_prog_13_method_2_17) rfl ?_
    refine XS.icmpNo X101.here hx rfl (hb hby d_prog_13_method_2_18) rfl (tlt (by decide)).2.1 ?_
    refine XS.aloadN X101.here hx rfl (hb hby d_prog_13_method_2_21) rfl rfl ?_
    show SS p e below T101 m 22 #[.val (.ref a), .val (.int (4 : Int32)), .val (.ref a), .val (.int (1 : Int32)), .val (.int (0 : Int32)), .val (.int (0 : Int32))] [(.ref a)] _
    refine XS.iload X101.here hx rfl (hb hby d_prog_13_method_2_22) rfl ?_
    show SS p e below T101 m 24 #[.val (.ref a), .val (.int (4 : Int32)), .val (.ref a), .val (.int (1 : Int32)), .val (.int (0 : Int32)), .val (.int (0 : Int32))] [(.int (0 : Int32)), (.ref a)] _
    refine st102 _ ?_
    show SS p e below T102 m 27 #[.val (.ref a), .val (.int (4 : Int32)), .val (.ref a), .val (.int (1 : Int32)), .val (.int (0 : Int32)), .val (.int (0 : Int32))] [(.int (el [x0, x1, x2, x3] 0))] _
    rw [show (el [x0, x1, x2, x3] 0) = (ek 4 0 x0 x1 x2 x3) from rfl]
    exact kt
  have W105 : ∀ zQ, SS p e below T102 m 39 #[.val (.ref a), .val (.int (4 : Int32)), .val (.ref a), .val (.int (if (ek 4 0 x0 x1 x2 x3) = (0 : Int32) then (1 : Int32) else (2 : Int32))), .val (.int (if (ek 4 0 x0 x1 x2 x3) = (0 : Int32) then (0 : Int32) else (1 : Int32))), .val (.int (0 : Int32))] [] zQ → Steps p.tables e below (s₁.setTop (entryFrame m #[(.ref a), (.int (4 : Int32))] 6)) zQ := by
    intro tt kt
    refine W103 tt ?_
    by_cases hj104 : (ek 4 0 x0 x1 x2 x3) = (0 : Int32)
    ·
      refine XS.ifYes X102.here hx rfl (pc0 := 27) (pc' := 39) rfl (hb hby d_prog_13_method_2_27) rfl ((if0 _ _).trans (teq hj104).1) (by decide) (by decide) ?_
      exact castTop (by first | rfl | (simp only [if_pos hj104]; first | done | rfl)) kt
    ·
      refine XS.ifNo X102.here hx rfl (hb hby d_prog_13_method_2_27) rfl ((if0 _ _).trans (feq hj104).1) ?_
      show SS p e below T102 m 30 #[.val (.ref a), .val (.int (4 : Int32)), .val (.ref a), .val (.int (1 : Int32)), .val (.int (0 : Int32)), .val (.int (0 : Int32))] [] _
      refine XS.iinc X102.here hx rfl (hb hby d_prog_13_method_2_30) rfl (l' := #[.val (.ref a), .val (.int (4 : Int32)), .val (.ref a), .val (.int (2 : Int32)), .val (.int (0 : Int32)), .val (.int (0 : Int32))]) rfl ?_
      refine XS.iload X102.here hx rfl (hb hby d_prog_13_method_2_33) rfl ?_
      refine XS.iconst X102.here hx rfl (hb hby d_prog_13_method_2_35) ?_
      refine XS.iadd X102.here hx rfl (hb hby d_prog_13_method_2_36) rfl ?_
      refine XS.istore X102.here hx rfl (hb hby d_prog_13_method_2_37) rfl (l' := #[.val (.ref a), .val (.int (4 : Int32)), .val (.ref a), .val (.int (2 : Int32)), .val (.int (1 : Int32)), .val (.int (0 : Int32))]) rfl ?_
      exact castTop (by first | rfl | (simp only [if_neg hj104]; first | done | rfl)) kt
  obtain ⟨_, _, ⟨T106, L106, k106, n106⟩, -, X106, ⟨Lc106, hQ106, l106, y106, z106⟩, st106⟩ := Jvm.LawKit.callS X102 hx (y := yn36) hown (mvT hZ (w125 hw)) (mvT hZ (w126 hw)) (mvT hZ (w127 hw)) (mvT hZ (w128 hw)) (by decide) (backOf (W := 0) (rm_endsLine l Z a0 hw [] a 1 t kb [x0, x1, x2, x3] cS fm h0 n0 Z0 O0 S_cs hcS S_fm hfm S_ad S_hi S_lo hS (Nat.le_of_ble_eq_true rfl)) hZ (w128 hw) (w127 hw) (by decide) (by decide)) (g := (mkF m 24 #[.val (.ref a), .val (.int (4 : Int32)), .val (.ref a), .val (.int (ln 4 x0 x1 x2 x3 1)), .val (.int (lo 4 x0 x1 x2 x3 1)), .val (.int (1 : Int32))] [(.int (1 : Int32)), (.ref a)])) rfl (by rw [hml]; rfl) (argsL := [(.ref a), (.int (1 : Int32))]) (rest := []) (lenOf pd__28_Ljava_2f_lang_2f_String_3b_I_29_Z rfl) rfl (by show 2 * 0 + _ ≤ _; exact Nat.le_of_eq rfl) (hb hby d_prog_13_method_2_24) (fun _ _ => ⟨rfl, eq102, (Nat.le_of_ble_eq_true rfl), (Nat.le_of_ble_eq_true rfl)⟩)
  dsimp only [Pt.U, Pt.locs, Pt.cells, Pt.slots] at X106 l106 y106 z106 st106 hQ106
  subst l106 y106 z106
  obtain ⟨rfl, Nq106, eq106⟩ := hQ106
  have N106 := Fr.app N102 Nq106
  have W107 : ∀ zQ, SS p e below T106 m 27 #[.val (.ref a), .val (.int (4 : Int32)), .val (.ref a), .val (.int (ln 4 x0 x1 x2 x3 1)), .val (.int (lo 4 x0 x1 x2 x3 1)), .val (.int (1 : Int32))] [(.int (ek 4 1 x0 x1 x2 x3))] zQ → Steps p.tables e below (s₁.setTop (entryFrame m #[(.ref a), (.int (4 : Int32))] 6)) zQ := by
    intro tt kt
    refine W105 tt ?_
    rw [show (if (ek 4 0 x0 x1 x2 x3) = (0 : Int32) then (1 : Int32) else (2 : Int32)) = (ln 4 x0 x1 x2 x3 1) from rfl]
    show SS p e below T102 m 39 #[.val (.ref a), .val (.int (4 : Int32)), .val (.ref a), .val (.int (ln 4 x0 x1 x2 x3 1)), .val (.int (if (ek 4 0 x0 x1 x2 x3) = (0 : Int32) then (0 : Int32) else (1 : Int32))), .val (.int (0 : Int32))] [] _
    rw [show (if (ek 4 0 x0 x1 x2 x3) = (0 : Int32) then (0 : Int32) else (1 : Int32)) = (lo 4 x0 x1 x2 x3 1) from rfl]
    show SS p e below T102 m 39 #[.val (.ref a), .val (.int (4 : Int32)), .val (.ref a), .val (.int (ln 4 x0 x1 x2 x3 1)), .val (.int (lo 4 x0 x1 x2 x3 1)), .val (.int (0 : Int32))] [] _
    refine XS.iinc X102.here hx rfl (hb hby d_prog_13_method_2_39) rfl (l' := #[.val (.ref a), .val (.int (4 : Int32)), .val (.ref a), .val (.int (ln 4 x0 x1 x2 x3 1)), .val (.int (lo 4 x0 x1 x2 x3 1)), .val (.int (1 : Int32))]) rfl ?_
    refine XS.goto X102.here hx rfl (pc0 := 42) (pc' := 15) rfl (hb hby d_prog_13_method_2_42) (by decide) (by decide) ?_
    refine XS.iload X102.here hx rfl (hb hby d_prog_13_method_2_15) rfl ?_
    refine XS.iloadN X102.here hx rfl (hb hby d_prog_13_method_2_17) rfl ?_
    refine XS.icmpNo X102.here hx rfl (hb hby d_prog_13_method_2_18) rfl (tlt (by decide)).2.1 ?_
    refine XS.aloadN X102.here hx rfl (hb hby d_prog_13_method_2_21) rfl rfl ?_
    show SS p e below T102 m 22 #[.val (.ref a), .val (.int (4 : Int32)), .val (.ref a), .val (.int (ln 4 x0 x1 x2 x3 1)), .val (.int (lo 4 x0 x1 x2 x3 1)), .val (.int (1 : Int32))] [(.ref a)] _
    refine XS.iload X102.here hx rfl (hb hby d_prog_13_method_2_22) rfl ?_
    show SS p e below T102 m 24 #[.val (.ref a), .val (.int (4 : Int32)), .val (.ref a), .val (.int (ln 4 x0 x1 x2 x3 1)), .val (.int (lo 4 x0 x1 x2 x3 1)), .val (.int (1 : Int32))] [(.int (1 : Int32)), (.ref a)] _
    refine st106 _ ?_
    show SS p e below T106 m 27 #[.val (.ref a), .val (.int (4 : Int32)), .val (.ref a), .val (.int (ln 4 x0 x1 x2 x3 1)), .val (.int (lo 4 x0 x1 x2 x3 1)), .val (.int (1 : Int32))] [(.int (el [x0, x1, x2, x3] 1))] _
    rw [show (el [x0, x1, x2, x3] 1) = (ek 4 1 x0 x1 x2 x3) from rfl]
    exact kt
  have W109 : ∀ zQ, SS p e below T106 m 39 #[.val (.ref a), .val (.int (4 : Int32)), .val (.ref a), .val (.int (if (ek 4 1 x0 x1 x2 x3) = (0 : Int32) then (ln 4 x0 x1 x2 x3 1) else ((ln 4 x0 x1 x2 x3 1) + (1 : Int32)))), .val (.int (if (ek 4 1 x0 x1 x2 x3) = (0 : Int32) then (lo 4 x0 x1 x2 x3 1) else (2 : Int32))), .val (.int (1 : Int32))] [] zQ → Steps p.tables e below (s₁.setTop (entryFrame m #[(.ref a), (.int (4 : Int32))] 6)) zQ := by
    intro tt kt
    refine W107 tt ?_
    by_cases hj108 : (ek 4 1 x0 x1 x2 x3) = (0 : Int32)
    ·
      refine XS.ifYes X106.here hx rfl (pc0 := 27) (pc' := 39) rfl (hb hby d_prog_13_method_2_27) rfl ((if0 _ _).trans (teq hj108).1) (by decide) (by decide) ?_
      exact castTop (by first | rfl | (simp only [if_pos hj108]; first | done | rfl)) kt
    ·
      refine XS.ifNo X106.here hx rfl (hb hby d_prog_13_method_2_27) rfl ((if0 _ _).trans (feq hj108).1) ?_
      show SS p e below T106 m 30 #[.val (.ref a), .val (.int (4 : Int32)), .val (.ref a), .val (.int (ln 4 x0 x1 x2 x3 1)), .val (.int (lo 4 x0 x1 x2 x3 1)), .val (.int (1 : Int32))] [] _
      refine XS.iinc X106.here hx rfl (hb hby d_prog_13_method_2_30) rfl (l' := #[.val (.ref a), .val (.int (4 : Int32)), .val (.ref a), .val (.int ((ln 4 x0 x1 x2 x3 1) + (1 : Int32))), .val (.int (lo 4 x0 x1 x2 x3 1)), .val (.int (1 : Int32))]) rfl ?_
      refine XS.iload X106.here hx rfl (hb hby d_prog_13_method_2_33) rfl ?_
      refine XS.iconst X106.here hx rfl (hb hby d_prog_13_method_2_35) ?_
      refine XS.iadd X106.here hx rfl (hb hby d_prog_13_method_2_36) rfl ?_
      refine XS.istore X106.here hx rfl (hb hby d_prog_13_method_2_37) rfl (l' := #[.val (.ref a), .val (.int (4 : Int32)), .val (.ref a), .val (.int ((ln 4 x0 x1 x2 x3 1) + (1 : Int32))), .val (.int (2 : Int32)), .val (.int (1 : Int32))]) rfl ?_
      exact castTop (by first | rfl | (simp only [if_neg hj108]; first | done | rfl)) kt
  obtain ⟨_, _, ⟨T110, L110, k110, n110⟩, -, X110, ⟨Lc110, hQ110, l110, y110, z110⟩, st110⟩ := Jvm.LawKit.callS X106 hx (y := yn36) hown (mvT hZ (w125 hw)) (mvT hZ (w126 hw)) (mvT hZ (w127 hw)) (mvT hZ (w128 hw)) (by decide) (backOf (W := 0) (rm_endsLine l Z a0 hw [] a 2 t kb [x0, x1, x2, x3] cS fm h0 n0 Z0 O0 S_cs hcS S_fm hfm S_ad S_hi S_lo hS (Nat.le_of_ble_eq_true rfl)) hZ (w128 hw) (w127 hw) (by decide) (by decide)) (g := (mkF m 24 #[.val (.ref a), .val (.int (4 : Int32)), .val (.ref a), .val (.int (ln 4 x0 x1 x2 x3 2)), .val (.int (lo 4 x0 x1 x2 x3 2)), .val (.int (2 : Int32))] [(.int (2 : Int32)), (.ref a)])) rfl (by rw [hml]; rfl) (argsL := [(.ref a), (.int (2 : Int32))]) (rest := []) (lenOf pd__28_Ljava_2f_lang_2f_String_3b_I_29_Z rfl) rfl (by show 2 * 0 + _ ≤ _; exact Nat.le_of_eq rfl) (hb hby d_prog_13_method_2_24) (fun _ _ => ⟨rfl, eq106, (Nat.le_of_ble_eq_true rfl), (Nat.le_of_ble_eq_true rfl)⟩)
  dsimp only [Pt.U, Pt.locs, Pt.cells, Pt.slots] at X110 l110 y110 z110 st110 hQ110
  subst l110 y110 z110
  obtain ⟨rfl, Nq110, eq110⟩ := hQ110
  have N110 := Fr.app N106 Nq110
  have W111 : ∀ zQ, SS p e below T110 m 27 #[.val (.ref a), .val (.int (4 : Int32)), .val (.ref a), .val (.int (ln 4 x0 x1 x2 x3 2)), .val (.int (lo 4 x0 x1 x2 x3 2)), .val (.int (2 : Int32))] [(.int (ek 4 2 x0 x1 x2 x3))] zQ → Steps p.tables e below (s₁.setTop (entryFrame m #[(.ref a), (.int (4 : Int32))] 6)) zQ := by
    intro tt kt
    refine W109 tt ?_
    rw [show (if (ek 4 1 x0 x1 x2 x3) = (0 : Int32) then (ln 4 x0 x1 x2 x3 1) else ((ln 4 x0 x1 x2 x3 1) + (1 : Int32))) = (ln 4 x0 x1 x2 x3 2) from rfl]
    show SS p e below T106 m 39 #[.val (.ref a), .val (.int (4 : Int32)), .val (.ref a), .val (.int (ln 4 x0 x1 x2 x3 2)), .val (.int (if (ek 4 1 x0 x1 x2 x3) = (0 : Int32) then (lo 4 x0 x1 x2 x3 1) else (2 : Int32))), .val (.int (1 : Int32))] [] _
    rw [show (if (ek 4 1 x0 x1 x2 x3) = (0 : Int32) then (lo 4 x0 x1 x2 x3 1) else (2 : Int32)) = (lo 4 x0 x1 x2 x3 2) from rfl]
    show SS p e below T106 m 39 #[.val (.ref a), .val (.int (4 : Int32)), .val (.ref a), .val (.int (ln 4 x0 x1 x2 x3 2)), .val (.int (lo 4 x0 x1 x2 x3 2)), .val (.int (1 : Int32))] [] _
    refine XS.iinc X106.here hx rfl (hb hby d_prog_13_method_2_39) rfl (l' := #[.val (.ref a), .val (.int (4 : Int32)), .val (.ref a), .val (.int (ln 4 x0 x1 x2 x3 2)), .val (.int (lo 4 x0 x1 x2 x3 2)), .val (.int (2 : Int32))]) rfl ?_
    refine XS.goto X106.here hx rfl (pc0 := 42) (pc' := 15) rfl (hb hby d_prog_13_method_2_42) (by decide) (by decide) ?_
    refine XS.iload X106.here hx rfl (hb hby d_prog_13_method_2_15) rfl ?_
    refine XS.iloadN X106.here hx rfl (hb hby d_prog_13_method_2_17) rfl ?_
    refine XS.icmpNo X106.here hx rfl (hb hby d_prog_13_method_2_18) rfl (tlt (by decide)).2.1 ?_
    refine XS.aloadN X106.here hx rfl (hb hby d_prog_13_method_2_21) rfl rfl ?_
    show SS p e below T106 m 22 #[.val (.ref a), .val (.int (4 : Int32)), .val (.ref a), .val (.int (ln 4 x0 x1 x2 x3 2)), .val (.int (lo 4 x0 x1 x2 x3 2)), .val (.int (2 : Int32))] [(.ref a)] _
    refine XS.iload X106.here hx rfl (hb hby d_prog_13_method_2_22) rfl ?_
    show SS p e below T106 m 24 #[.val (.ref a), .val (.int (4 : Int32)), .val (.ref a), .val (.int (ln 4 x0 x1 x2 x3 2)), .val (.int (lo 4 x0 x1 x2 x3 2)), .val (.int (2 : Int32))] [(.int (2 : Int32)), (.ref a)] _
    refine st110 _ ?_
    show SS p e below T110 m 27 #[.val (.ref a), .val (.int (4 : Int32)), .val (.ref a), .val (.int (ln 4 x0 x1 x2 x3 2)), .val (.int (lo 4 x0 x1 x2 x3 2)), .val (.int (2 : Int32))] [(.int (el [x0, x1, x2, x3] 2))] _
    rw [show (el [x0, x1, x2, x3] 2) = (ek 4 2 x0 x1 x2 x3) from rfl]
    exact kt
  have W113 : ∀ zQ, SS p e below T110 m 39 #[.val (.ref a), .val (.int (4 : Int32)), .val (.ref a), .val (.int (if (ek 4 2 x0 x1 x2 x3) = (0 : Int32) then (ln 4 x0 x1 x2 x3 2) else ((ln 4 x0 x1 x2 x3 2) + (1 : Int32)))), .val (.int (if (ek 4 2 x0 x1 x2 x3) = (0 : Int32) then (lo 4 x0 x1 x2 x3 2) else (3 : Int32))), .val (.int (2 : Int32))] [] zQ → Steps p.tables e below (s₁.setTop (entryFrame m #[(.ref a), (.int (4 : Int32))] 6)) zQ := by
    intro tt kt
    refine W111 tt ?_
    by_cases hj112 : (ek 4 2 x0 x1 x2 x3) = (0 : Int32)
    ·
      refine XS.ifYes X110.here hx rfl (pc0 := 27) (pc' := 39) rfl (hb hby d_prog_13_method_2_27) rfl ((if0 _ _).trans (teq hj112).1) (by decide) (by decide) ?_
      exact castTop (by first | rfl | (simp only [if_pos hj112]; first | done | rfl)) kt
    ·
      refine XS.ifNo X110.here hx rfl (hb hby d_prog_13_method_2_27) rfl ((if0 _ _).trans (feq hj112).1) ?_
      show SS p e below T110 m 30 #[.val (.ref a), .val (.int (4 : Int32)), .val (.ref a), .val (.int (ln 4 x0 x1 x2 x3 2)), .val (.int (lo 4 x0 x1 x2 x3 2)), .val (.int (2 : Int32))] [] _
      refine XS.iinc X110.here hx rfl (hb hby d_prog_13_method_2_30) rfl (l' := #[.val (.ref a), .val (.int (4 : Int32)), .val (.ref a), .val (.int ((ln 4 x0 x1 x2 x3 2) + (1 : Int32))), .val (.int (lo 4 x0 x1 x2 x3 2)), .val (.int (2 : Int32))]) rfl ?_
      refine XS.iload X110.here hx rfl (hb hby d_prog_13_method_2_33) rfl ?_
      refine XS.iconst X110.here hx rfl (hb hby d_prog_13_method_2_35) ?_
      refine XS.iadd X110.here hx rfl (hb hby d_prog_13_method_2_36) rfl ?_
      refine XS.istore X110.here hx rfl (hb hby d_prog_13_method_2_37) rfl (l' := #[.val (.ref a), .val (.int (4 : Int32)), .val (.ref a), .val (.int ((ln 4 x0 x1 x2 x3 2) + (1 : Int32))), .val (.int (3 : Int32)), .val (.int (2 : Int32))]) rfl ?_
      exact castTop (by first | rfl | (simp only [if_neg hj112]; first | done | rfl)) kt
  obtain ⟨_, _, ⟨T114, L114, k114, n114⟩, -, X114, ⟨Lc114, hQ114, l114, y114, z114⟩, st114⟩ := Jvm.LawKit.callS X110 hx (y := yn36) hown (mvT hZ (w125 hw)) (mvT hZ (w126 hw)) (mvT hZ (w127 hw)) (mvT hZ (w128 hw)) (by decide) (backOf (W := 0) (rm_endsLine l Z a0 hw [] a 3 t kb [x0, x1, x2, x3] cS fm h0 n0 Z0 O0 S_cs hcS S_fm hfm S_ad S_hi S_lo hS (Nat.le_of_ble_eq_true rfl)) hZ (w128 hw) (w127 hw) (by decide) (by decide)) (g := (mkF m 24 #[.val (.ref a), .val (.int (4 : Int32)), .val (.ref a), .val (.int (ln 4 x0 x1 x2 x3 3)), .val (.int (lo 4 x0 x1 x2 x3 3)), .val (.int (3 : Int32))] [(.int (3 : Int32)), (.ref a)])) rfl (by rw [hml]; rfl) (argsL := [(.ref a), (.int (3 : Int32))]) (rest := []) (lenOf pd__28_Ljava_2f_lang_2f_String_3b_I_29_Z rfl) rfl (by show 2 * 0 + _ ≤ _; exact Nat.le_of_eq rfl) (hb hby d_prog_13_method_2_24) (fun _ _ => ⟨rfl, eq110, (Nat.le_of_ble_eq_true rfl), (Nat.le_of_ble_eq_true rfl)⟩)
  dsimp only [Pt.U, Pt.locs, Pt.cells, Pt.slots] at X114 l114 y114 z114 st114 hQ114
  subst l114 y114 z114
  obtain ⟨rfl, Nq114, eq114⟩ := hQ114
  have N114 := Fr.app N110 Nq114
  have W115 : ∀ zQ, SS p e below T114 m 27 #[.val (.ref a), .val (.int (4 : Int32)), .val (.ref a), .val (.int (ln 4 x0 x1 x2 x3 3)), .val (.int (lo 4 x0 x1 x2 x3 3)), .val (.int (3 : Int32))] [(.int (ek 4 3 x0 x1 x2 x3))] zQ → Steps p.tables e below (s₁.setTop (entryFrame m #[(.ref a), (.int (4 : Int32))] 6)) zQ := by
    intro tt kt
    refine W113 tt ?_
    rw [show (if (ek 4 2 x0 x1 x2 x3) = (0 : Int32) then (ln 4 x0 x1 x2 x3 2) else ((ln 4 x0 x1 x2 x3 2) + (1 : Int32))) = (ln 4 x0 x1 x2 x3 3) from rfl]
    show SS p e below T110 m 39 #[.val (.ref a), .val (.int (4 : Int32)), .val (.ref a), .val (.int (ln 4 x0 x1 x2 x3 3)), .val (.int (if (ek 4 2 x0 x1 x2 x3) = (0 : Int32) then (lo 4 x0 x1 x2 x3 2) else (3 : Int32))), .val (.int (2 : Int32))] [] _
    rw [show (if (ek 4 2 x0 x1 x2 x3) = (0 : Int32) then (lo 4 x0 x1 x2 x3 2) else (3 : Int32)) = (lo 4 x0 x1 x2 x3 3) from rfl]
    show SS p e below T110 m 39 #[.val (.ref a), .val (.int (4 : Int32)), .val (.ref a), .val (.int (ln 4 x0 x1 x2 x3 3)), .val (.int (lo 4 x0 x1 x2 x3 3)), .val (.int (2 : Int32))] [] _
    refine XS.iinc X110.here hx rfl (hb hby d_prog_13_method_2_39) rfl (l' := #[.val (.ref a), .val (.int (4 : Int32)), .val (.ref a), .val (.int (ln 4 x0 x1 x2 x3 3)), .val (.int (lo 4 x0 x1 x2 x3 3)), .val (.int (3 : Int32))]) rfl ?_
    refine XS.goto X110.here hx rfl (pc0 := 42) (pc' := 15) rfl (hb hby d_prog_13_method_2_42) (by decide) (by decide) ?_
    refine XS.iload X110.here hx rfl (hb hby d_prog_13_method_2_15) rfl ?_
    refine XS.iloadN X110.here hx rfl (hb hby d_prog_13_method_2_17) rfl ?_
    refine XS.icmpNo X110.here hx rfl (hb hby d_prog_13_method_2_18) rfl (tlt (by decide)).2.1 ?_
    refine XS.aloadN X110.here hx rfl (hb hby d_prog_13_method_2_21) rfl rfl ?_
    show SS p e below T110 m 22 #[.val (.ref a), .val (.int (4 : Int32)), .val (.ref a), .val (.int (ln 4 x0 x1 x2 x3 3)), .val (.int (lo 4 x0 x1 x2 x3 3)), .val (.int (3 : Int32))] [(.ref a)] _
    refine XS.iload X110.here hx rfl (hb hby d_prog_13_method_2_22) rfl ?_
    show SS p e below T110 m 24 #[.val (.ref a), .val (.int (4 : Int32)), .val (.ref a), .val (.int (ln 4 x0 x1 x2 x3 3)), .val (.int (lo 4 x0 x1 x2 x3 3)), .val (.int (3 : Int32))] [(.int (3 : Int32)), (.ref a)] _
    refine st114 _ ?_
    show SS p e below T114 m 27 #[.val (.ref a), .val (.int (4 : Int32)), .val (.ref a), .val (.int (ln 4 x0 x1 x2 x3 3)), .val (.int (lo 4 x0 x1 x2 x3 3)), .val (.int (3 : Int32))] [(.int (el [x0, x1, x2, x3] 3))] _
    rw [show (el [x0, x1, x2, x3] 3) = (ek 4 3 x0 x1 x2 x3) from rfl]
    exact kt
  have W117 : ∀ zQ, SS p e below T114 m 39 #[.val (.ref a), .val (.int (4 : Int32)), .val (.ref a), .val (.int (if (ek 4 3 x0 x1 x2 x3) = (0 : Int32) then (ln 4 x0 x1 x2 x3 3) else ((ln 4 x0 x1 x2 x3 3) + (1 : Int32)))), .val (.int (if (ek 4 3 x0 x1 x2 x3) = (0 : Int32) then (lo 4 x0 x1 x2 x3 3) else (4 : Int32))), .val (.int (3 : Int32))] [] zQ → Steps p.tables e below (s₁.setTop (entryFrame m #[(.ref a), (.int (4 : Int32))] 6)) zQ := by
    intro tt kt
    refine W115 tt ?_
    by_cases hj116 : (ek 4 3 x0 x1 x2 x3) = (0 : Int32)
    ·
      refine XS.ifYes X114.here hx rfl (pc0 := 27) (pc' := 39) rfl (hb hby d_prog_13_method_2_27) rfl ((if0 _ _).trans (teq hj116).1) (by decide) (by decide) ?_
      exact castTop (by first | rfl | (simp only [if_pos hj116]; first | done | rfl)) kt
    ·
      refine XS.ifNo X114.here hx rfl (hb hby d_prog_13_method_2_27) rfl ((if0 _ _).trans (feq hj116).1) ?_
      show SS p e below T114 m 30 #[.val (.ref a), .val (.int (4 : Int32)), .val (.ref a), .val (.int (ln 4 x0 x1 x2 x3 3)), .val (.int (lo 4 x0 x1 x2 x3 3)), .val (.int (3 : Int32))] [] _
      refine XS.iinc X114.here hx rfl (hb hby d_prog_13_method_2_30) rfl (l' := #[.val (.ref a), .val (.int (4 : Int32)), .val (.ref a), .val (.int ((ln 4 x0 x1 x2 x3 3) + (1 : Int32))), .val (.int (lo 4 x0 x1 x2 x3 3)), .val (.int (3 : Int32))]) rfl ?_
      refine XS.iload X114.here hx rfl (hb hby d_prog_13_method_2_33) rfl ?_
      refine XS.iconst X114.here hx rfl (hb hby d_prog_13_method_2_35) ?_
      refine XS.iadd X114.here hx rfl (hb hby d_prog_13_method_2_36) rfl ?_
      refine XS.istore X114.here hx rfl (hb hby d_prog_13_method_2_37) rfl (l' := #[.val (.ref a), .val (.int (4 : Int32)), .val (.ref a), .val (.int ((ln 4 x0 x1 x2 x3 3) + (1 : Int32))), .val (.int (4 : Int32)), .val (.int (3 : Int32))]) rfl ?_
      exact castTop (by first | rfl | (simp only [if_neg hj116]; first | done | rfl)) kt
  obtain ⟨T118, h118, X118, e118, E118, A118, D118, U118, st118⟩ := newO X114 hx hZ hown (w78 hw) (w79 hw) (w41 hw) eq114 (g := (mkF m 45 #[.val (.ref a), .val (.int (4 : Int32)), .val (.ref a), .val (.int (ln 4 x0 x1 x2 x3 4)), .val (.int (lo 4 x0 x1 x2 x3 4)), .val (.int (4 : Int32))] [])) rfl (hb hby d_prog_13_method_2_45) (by decide) (by decide)
  obtain ⟨b118, g118⟩ : ∃ z, z = h0.size := ⟨_, rfl⟩
  rw [← g118] at A118 D118 U118 st118
  have K118 := (Keep.refl h0 []).ext E118
  have G118_line : Fld Z h118 b118 "com/example/vestline/vestline/input/TextPosition" "line" "I" (.int (0 : Int32)) := D118 (Or.inr (w90 hw)) (ty := .int) (by decide)
  have G118_character : Fld Z h118 b118 "com/example/vestline/vestline/input/TextPosition" "character" "I" (.int (0 : Int32)) := D118 (Or.inr (w92 hw)) (ty := .int) (by decide)
  obtain ⟨_, _, ⟨T119, L119, k119, n119⟩, -, X119, ⟨Lc119, hQ119, l119, y119, z119⟩, st119⟩ := X118.specialBack hx (y := yn38) rfl hown (mvT hZ (w80 hw)) (mvT hZ (w81 hw)) (mvT hZ (w82 hw)) (by decide) (backOf (W := 1) (rm_tpinit l Z a0 hw [] b118 (ln 4 x0 x1 x2 x3 4) ((4 : Int32) - (lo 4 x0 x1 x2 x3 4)) h118 n0 (Nat.le_trans Z0 K118.1) A118 G118_line G118_character (Nat.le_trans Z0 (Nat.le_of_eq g118.symm))) hZ (w82 hw) (w41 hw) (by decide) (by decide)) (g := (mkF m 54 #[.val (.ref a), .val (.int (4 : Int32)), .val (.ref a), .val (.int (ln 4 x0 x1 x2 x3 4)), .val (.int (lo 4 x0 x1 x2 x3 4)), .val (.int (4 : Int32))] [(.int ((4 : Int32) - (lo 4 x0 x1 x2 x3 4))), (.int (ln 4 x0 x1 x2 x3 4)), (.ref b118), (.ref b118)])) rfl (by rw [hml]; rfl) (Steps.refl _) (a := b118) (argsL := [(.int (ln 4 x0 x1 x2 x3 4)), (.int ((4 : Int32) - (lo 4 x0 x1 x2 x3 4)))]) (rest := [(.ref b118)]) (lenOf pd__28_II_29_V rfl) rfl (by show 2 * 0 + _ ≤ _; exact Nat.le_of_eq rfl) (hb hby d_prog_13_method_2_54) (fun _ _ => ⟨rfl, e118, (Nat.le_of_ble_eq_true rfl), (Nat.le_of_ble_eq_true rfl)⟩)
  dsimp only [Pt.U, Pt.locs, Pt.cells, Pt.slots] at X119 l119 y119 z119 st119 hQ119
  subst l119 y119 z119
  obtain ⟨rfl, Nq119, K119, P119_0, P119_1, P119_2⟩ := hQ119
  have N119 := Fr.app N114 Nq119
  have W120 : ∀ zQ, SS p e below T119 m 57 #[.val (.ref a), .val (.int (4 : Int32)), .val (.ref a), .val (.int (ln 4 x0 x1 x2 x3 4)), .val (.int (lo 4 x0 x1 x2 x3 4)), .val (.int (4 : Int32))] [(.ref b118)] zQ → Steps p.tables e below (s₁.setTop (entryFrame m #[(.ref a), (.int (4 : Int32))] 6)) zQ := by
    intro tt kt
    refine W117 tt ?_
    rw [show (if (ek 4 3 x0 x1 x2 x3) = (0 : Int32) then (ln 4 x0 x1 x2 x3 3) else ((ln 4 x0 x1 x2 x3 3) + (1 : Int32))) = (ln 4 x0 x1 x2 x3 4) from rfl]
    show SS p e below T114 m 39 #[.val (.ref a), .val (.int (4 : Int32)), .val (.ref a), .val (.int (ln 4 x0 x1 x2 x3 4)), .val (.int (if (ek 4 3 x0 x1 x2 x3) = (0 : Int32) then (lo 4 x0 x1 x2 x3 3) else (4 : Int32))), .val (.int (3 : Int32))] [] _
    rw [show (if (ek 4 3 x0 x1 x2 x3) = (0 : Int32) then (lo 4 x0 x1 x2 x3 3) else (4 : Int32)) = (lo 4 x0 x1 x2 x3 4) from rfl]
    show SS p e below T114 m 39 #[.val (.ref a), .val (.int (4 : Int32)), .val (.ref a), .val (.int (ln 4 x0 x1 x2 x3 4)), .val (.int (lo 4 x0 x1 x2 x3 4)), .val (.int (3 : Int32))] [] _
    refine XS.iinc X114.here hx rfl (hb hby d_prog_13_method_2_39) rfl (l' := #[.val (.ref a), .val (.int (4 : Int32)), .val (.ref a), .val (.int (ln 4 x0 x1 x2 x3 4)), .val (.int (lo 4 x0 x1 x2 x3 4)), .val (.int (4 : Int32))]) rfl ?_
    refine XS.goto X114.here hx rfl (pc0 := 42) (pc' := 15) rfl (hb hby d_prog_13_method_2_42) (by decide) (by decide) ?_
    refine XS.iload X114.here hx rfl (hb hby d_prog_13_method_2_15) rfl ?_
    refine XS.iloadN X114.here hx rfl (hb hby d_prog_13_method_2_17) rfl ?_
    refine XS.icmpYes X114.here hx rfl (pc0 := 18) (pc' := 45) rfl (hb hby d_prog_13_method_2_18) rfl (flt (by decide)).2.1 (by decide) (by decide) ?_
    show SS p e below T114 m 45 #[.val (.ref a), .val (.int (4 : Int32)), .val (.ref a), .val (.int (ln 4 x0 x1 x2 x3 4)), .val (.int (lo 4 x0 x1 x2 x3 4)), .val (.int (4 : Int32))] [] _
    refine st118 _ ?_
    refine XS.dup X118.here hx rfl (hb hby d_prog_13_method_2_48) rfl rfl ?_
    refine XS.iloadN X118.here hx rfl (hb hby d_prog_13_method_2_49) rfl ?_
    refine XS.iloadN X118.here hx rfl (hb hby d_prog_13_method_2_50) rfl ?_
    refine XS.iload X118.here hx rfl (hb hby d_prog_13_method_2_51) rfl ?_
    refine XS.isub X118.here hx rfl (hb hby d_prog_13_method_2_53) rfl ?_
    show SS p e below T118 m 54 #[.val (.ref a), .val (.int (4 : Int32)), .val (.ref a), .val (.int (ln 4 x0 x1 x2 x3 4)), .val (.int (lo 4 x0 x1 x2 x3 4)), .val (.int (4 : Int32))] [(.int ((4 : Int32) - (lo 4 x0 x1 x2 x3 4))), (.int (ln 4 x0 x1 x2 x3 4)), (.ref b118), (.ref b118)] _
    refine st119.trans ?_
    exact kt
  obtain ⟨fs, hr, hrun, hended, hW, hsame⟩ := X119.leave (v := some (.ref b118)) (fun h => by rw [Bd.returns] at h; cases h)
  refine ⟨_, _, W120 _ (own_retR X119 hx Bd.returns rfl rfl (hb hby d_prog_13_method_2_57) hr), hrun, hended, _, _, rfl, ?_, ⟨_, rfl⟩, hW, hsame.mono (by decide) (by decide)⟩
  show Q_after4 Z a t kb x0 x1 x2 x3 cS fm h0 n0 _ T119.heap _
  exact ⟨b118, rfl, N119, (Keep.trans (Keep.trans (Keep.refl h0 []) K118 all0) K119 (allS (Or.inr (Nat.le_of_eq g118.symm)) all0)), (Nat.le_of_eq g118.symm), P119_0, P119_1, P119_2⟩
def Q_endsNo (Z : State) (c : Addr) (j : Int32) (z : Int32) (h0 : Heap) (n0 : Nat) (vQ_ : Option Value) (hQ_ : Heap) (LQ_ : List Loc) : Prop := vQ_ = some (.int (0 : Int32)) ∧ Fr n0 LQ_ ∧ hQ_ = h0
set_option maxRecDepth 65536 in
set_option maxHeartbeats 40000000 in
theorem rm_endsNo (l : Launch) (Z : State) (a0 : Array Value) (hw : HW a0 Z) (ws : List Jvm.Cond) (c : Addr) (j : Int32) (z : Int32) (h0 : Heap) (n0 : Nat) (Z0 : n0 ≤ h0.size) (hjz : ¬ (j < z)) :
    MetFree l yn42 (head1 (Jvm.Cond.code yn42 method_3_code 3 (some .boolean) :: ws) ({ frames := 0, cells := 0, slots := 0, locals := 0 } : Room)) (fun aQ_ UQ => aQ_ = #[(.ref c), (.int j), (.int z)] ∧ Z.Warmed39 UQ.vm ∧ UQ.heap = h0) (fun _ _ _ _ _ => True) (fun _ UQ oQ UQ' => ∃ vQ_ LQ_, oQ = .returned vQ_ ∧ Q_endsNo Z c j z h0 n0 vQ_ UQ'.heap LQ_ ∧ FrameEnd UQ oQ UQ' LQ_ ({ frames := 0, cells := 0, slots := 0, locals := 0 } : Room).cells ({ frames := 0, cells := 0, slots := 0, locals := 0 } : Room).slots) := by
  refine MetFree.of_bodySF (plainFor_of_name pn_com_example_vestline_vestline_input_TextPositionAfterPinLaw) hisR ?_
  intro p e s m args below meth cO s₁ Bd hml0 hP hK
  obtain ⟨rfl, hZ, hh⟩ := hP
  have hx := Bd.exec
  have hby := Bd.bytes
  have hml : cO.maxLocals = 3 := hml0
  have hown : s.vm.findClass "com/example/vestline/vestline/input/TextPositionAfterPinLaw" = some m.cls := findClass_of_methodNamed Bd.named
  have hnm := (name_of_methodNamed Bd.named Bd.method).1
  have X0 : Stand p l e ({ frames := 0, cells := 0, slots := 0, locals := 0 } : Room) s m #[(.ref c), (.int j), (.int z)] below meth cO s₁ [] 0 0 := Stand.of_body Bd
  have e0 : s₁.heap = h0 := by rw [← hh, Bd.state]; rfl
  have N0 := Fr.nil n0
  have W0 : ∀ zQ, SS p e below s₁ m 0 #[.val (.ref c), .val (.int j), .val (.int z)] [] zQ → Steps p.tables e below (s₁.setTop (entryFrame m #[(.ref c), (.int j), (.int z)] 3)) zQ := fun tt kt => castTop (ef_endsNo m c j z) kt
  have W101 : ∀ zQ, SS p e below s₁ m 6 #[.val (.ref c), .val (.int j), .val (.int z)] [(.int (0 : Int32))] zQ → Steps p.tables e below (s₁.setTop (entryFrame m #[(.ref c), (.int j), (.int z)] 3)) zQ := by
    intro tt kt
    refine W0 tt ?_
    refine XS.iloadN X0.here hx rfl (hb hby d_method_3_0) rfl ?_
    refine XS.iloadN X0.here hx rfl (hb hby d_method_3_1) rfl ?_
    refine XS.icmpNo X0.here hx rfl (hb hby d_method_3_2) rfl (flt hjz).1 ?_
    refine XS.iconst X0.here hx rfl (hb hby d_method_3_5) ?_
    exact kt
  obtain ⟨fs, hr, hrun, hended, hW, hsame⟩ := X0.leave (v := some (.int (nar .boolean (0 : Int32)))) (fun h => by rw [Bd.returns] at h; cases h)
  refine ⟨_, _, W101 _ (retN X0 hx (t := .boolean) Bd.returns (by simp) (hb hby d_method_3_6) hr), hrun, hended, _, _, rfl, ?_, ⟨_, rfl⟩, hW, hsame.mono (by decide) (by decide)⟩
  show Q_endsNo Z c j z h0 n0 _ s₁.heap _
  rw [e0]
  exact ⟨rfl, N0, rfl⟩
theorem own_mapat (cs : List Int32) (i : Nat) (d : Value) (h : i < cs.length) : (cs.map fun q => Value.int q).getD i d = .int (cs.getD i 0) := by
  simp [List.getD_eq_getElem?_getD, h]
theorem own_tk {cs : List Int32} {n i : Nat} (h : n ≤ cs.length) (hi : i < n) : ((cs.drop 0).take n).getD i 0 = cs.getD i 0 := by
  simp [List.getD_eq_getElem?_getD, List.getElem?_take, hi]
theorem own_tl {cs : List Int32} {n : Nat} (h : n ≤ cs.length) : ((cs.drop 0).take n).length = n := by simp; omega
def Q_endsYes (Z : State) (c : Addr) (i : Nat) (n : Nat) (kc : ClassId) (cs : List Int32) (h0 : Heap) (n0 : Nat) (vQ_ : Option Value) (hQ_ : Heap) (LQ_ : List Loc) : Prop := vQ_ = some (.int (el ((cs.drop 0).take n) i)) ∧ Fr n0 LQ_ ∧ hQ_ = h0
set_option maxRecDepth 65536 in
set_option maxHeartbeats 40000000 in
theorem rm_endsYes (l : Launch) (Z : State) (a0 : Array Value) (hw : HW a0 Z) (ws : List Jvm.Cond) (c : Addr) (i : Nat) (n : Nat) (kc : ClassId) (cs : List Int32) (h0 : Heap) (n0 : Nat) (Z0 : n0 ≤ h0.size) (V1 : Arv Z h0 c kc .char (Int32.ofNat cs.length) (cs.map fun q => Value.int q) (.int (0 : Int32))) (hi : i < n) (hn : n ≤ cs.length) (hl : cs.length < 1048576) :
    MetFree l yn42 (head1 (Jvm.Cond.code yn42 method_3_code 3 (some .boolean) :: ws) ({ frames := 0, cells := 0, slots := 0, locals := 0 } : Room)) (fun aQ_ UQ => aQ_ = #[(.ref c), (.int (Int32.ofNat i)), (.int (Int32.ofNat n))] ∧ Z.Warmed39 UQ.vm ∧ UQ.heap = h0) (fun _ _ _ _ _ => True) (fun _ UQ oQ UQ' => ∃ vQ_ LQ_, oQ = .returned vQ_ ∧ Q_endsYes Z c i n kc cs h0 n0 vQ_ UQ'.heap LQ_ ∧ FrameEnd UQ oQ UQ' LQ_ ({ frames := 0, cells := 0, slots := 0, locals := 0 } : Room).cells ({ frames := 0, cells := 0, slots := 0, locals := 0 } : Room).slots) := by
  refine MetFree.of_bodySF (plainFor_of_name pn_com_example_vestline_vestline_input_TextPositionAfterPinLaw) hisR ?_
  intro p e s m args below meth cO s₁ Bd hml0 hP hK
  obtain ⟨rfl, hZ, hh⟩ := hP
  have hx := Bd.exec
  have hby := Bd.bytes
  have hml : cO.maxLocals = 3 := hml0
  have hown : s.vm.findClass "com/example/vestline/vestline/input/TextPositionAfterPinLaw" = some m.cls := findClass_of_methodNamed Bd.named
  have hnm := (name_of_methodNamed Bd.named Bd.method).1
  have X0 : Stand p l e ({ frames := 0, cells := 0, slots := 0, locals := 0 } : Room) s m #[(.ref c), (.int (Int32.ofNat i)), (.int (Int32.ofNat n))] below meth cO s₁ [] 0 0 := Stand.of_body Bd
  have e0 : s₁.heap = h0 := by rw [← hh, Bd.state]; rfl
  have N0 := Fr.nil n0
  have W0 : ∀ zQ, SS p e below s₁ m 0 #[.val (.ref c), .val (.int (Int32.ofNat i)), .val (.int (Int32.ofNat n))] [] zQ → Steps p.tables e below (s₁.setTop (entryFrame m #[(.ref c), (.int (Int32.ofNat i)), (.int (Int32.ofNat n))] 3)) zQ := fun tt kt => castTop (ef_endsYes m c (Int32.ofNat i) (Int32.ofNat n)) kt
  obtain ⟨cl101, Ar101, q101, S101, M101, H101, F101g⟩ := id V1
  have hin101 : ¬ ((Int32.ofNat i) < 0 ∨ cl101.slots.size ≤ ((Int32.ofNat i)).toNatClampNeg) := inb_of S101 ⟨own_nneg (by omega), own_lt (by omega) (by omega)⟩
  have hat101 : cl101.slots[((Int32.ofNat i)).toNatClampNeg]? = some (.int (cs.getD i 0)) := Has.at H101 hin101 (by rw [own_cl (by omega)]; exact own_mapat cs i _ (by omega))
  have W102 : ∀ zQ, SS p e below s₁ m 12 #[.val (.ref c), .val (.int (Int32.ofNat i)), .val (.int (Int32.ofNat n))] [(.int (10 : Int32)), (.int (cs.getD i 0))] zQ → Steps p.tables e below (s₁.setTop (entryFrame m #[(.ref c), (.int (Int32.ofNat i)), (.int (Int32.ofNat n))] 3)) zQ := by
    intro tt kt
    refine W0 tt ?_
    refine XS.iloadN X0.here hx rfl (hb hby d_method_3_0) rfl ?_
    refine XS.iloadN X0.here hx rfl (hb hby d_method_3_1) rfl ?_
    refine XS.icmpYes X0.here hx rfl (pc0 := 2) (pc' := 7) rfl (hb hby d_method_3_2) rfl (tlt (own_lt hi (by omega))).1 (by decide) (by decide) ?_
    refine XS.aloadN X0.here hx rfl (hb hby d_method_3_7) rfl rfl ?_
    refine XS.iloadN X0.here hx rfl (hb hby d_method_3_8) rfl ?_
    show SS p e below s₁ m 9 #[.val (.ref c), .val (.int (Int32.ofNat i)), .val (.int (Int32.ofNat n))] [(.int (Int32.ofNat i)), (.ref c)] _
    refine X0.caload hx (j := (Int32.ofNat i)) (v := (.int (cs.getD i 0))) (by first | exact Ar101.1 | (rw [e0]; exact Ar101.1)) (State.isArrayOf_alike hZ.alike Ar101.2.1) Ar101.2.2 hin101 hat101 (g := (mkF m 9 #[.val (.ref c), .val (.int (Int32.ofNat i)), .val (.int (Int32.ofNat n))] [(.int (Int32.ofNat i)), (.ref c)])) rfl rfl (hb hby d_method_3_9) _ ?_
    refine XS.bipush X0.here hx rfl (hb hby d_method_3_10) ?_
    exact kt
  by_cases hc103 : (cs.getD i 0) = (10 : Int32)
  ·
    have W104 : ∀ zQ, SS p e below s₁ m 16 #[.val (.ref c), .val (.int (Int32.ofNat i)), .val (.int (Int32.ofNat n))] [(.int (1 : Int32))] zQ → Steps p.tables e below (s₁.setTop (entryFrame m #[(.ref c), (.int (Int32.ofNat i)), (.int (Int32.ofNat n))] 3)) zQ := by
      intro tt kt
      refine W102 tt ?_
      refine XS.icmpNo X0.here hx rfl (hb hby d_method_3_12) rfl (teq hc103).2 ?_
      refine XS.iconst X0.here hx rfl (hb hby d_method_3_15) ?_
      exact kt
    obtain ⟨fs, hr, hrun, hended, hW, hsame⟩ := X0.leave (v := some (.int (nar .boolean (1 : Int32)))) (fun h => by rw [Bd.returns] at h; cases h)
    refine ⟨_, _, W104 _ (retN X0 hx (t := .boolean) Bd.returns (by simp) (hb hby d_method_3_16) hr), hrun, hended, _, _, rfl, ?_, ⟨_, rfl⟩, hW, hsame.mono (by decide) (by decide)⟩
    show Q_endsYes Z c i n kc cs h0 n0 _ s₁.heap _
    rw [e0]
    exact ⟨(congrArg (fun q => some (Value.int q)) (by simp only [el, own_tk hn hi, own_tl hn, if_pos hc103]; first | done | decide)), N0, rfl⟩
  ·
    obtain ⟨cl105, Ar105, q105, S105, M105, H105, F105g⟩ := id V1
    have hin105 : ¬ ((Int32.ofNat i) < 0 ∨ cl105.slots.size ≤ ((Int32.ofNat i)).toNatClampNeg) := inb_of S105 ⟨own_nneg (by omega), own_lt (by omega) (by omega)⟩
    have hat105 : cl105.slots[((Int32.ofNat i)).toNatClampNeg]? = some (.int (cs.getD i 0)) := Has.at H105 hin105 (by rw [own_cl (by omega)]; exact own_mapat cs i _ (by omega))
    have W106 : ∀ zQ, SS p e below s₁ m 22 #[.val (.ref c), .val (.int (Int32.ofNat i)), .val (.int (Int32.ofNat n))] [(.int (13 : Int32)), (.int (cs.getD i 0))] zQ → Steps p.tables e below (s₁.setTop (entryFrame m #[(.ref c), (.int (Int32.ofNat i)), (.int (Int32.ofNat n))] 3)) zQ := by
      intro tt kt
      refine W102 tt ?_
      refine XS.icmpYes X0.here hx rfl (pc0 := 12) (pc' := 17) rfl (hb hby d_method_3_12) rfl (feq hc103).2 (by decide) (by decide) ?_
      refine XS.aloadN X0.here hx rfl (hb hby d_method_3_17) rfl rfl ?_
      refine XS.iloadN X0.here hx rfl (hb hby d_method_3_18) rfl ?_
      show SS p e below s₁ m 19 #[.val (.ref c), .val (.int (Int32.ofNat i)), .val (.int (Int32.ofNat n))] [(.int (Int32.ofNat i)), (.ref c)] _
      refine X0.caload hx (j := (Int32.ofNat i)) (v := (.int (cs.getD i 0))) (by first | exact Ar105.1 | (rw [e0]; exact Ar105.1)) (State.isArrayOf_alike hZ.alike Ar105.2.1) Ar105.2.2 hin105 hat105 (g := (mkF m 19 #[.val (.ref c), .val (.int (Int32.ofNat i)), .val (.int (Int32.ofNat n))] [(.int (Int32.ofNat i)), (.ref c)])) rfl rfl (hb hby d_method_3_19) _ ?_
      refine XS.bipush X0.here hx rfl (hb hby d_method_3_20) ?_
      exact kt
    by_cases hc107 : (cs.getD i 0) = (13 : Int32)
    ·
      have W108 : ∀ zQ, SS p e below s₁ m 29 #[.val (.ref c), .val (.int (Int32.ofNat i)), .val (.int (Int32.ofNat n))] [(.int (Int32.ofNat n)), (.int (Int32.ofNat (i + 1)))] zQ → Steps p.tables e below (s₁.setTop (entryFrame m #[(.ref c), (.int (Int32.ofNat i)), (.int (Int32.ofNat n))] 3)) zQ := by
        intro tt kt
        refine W106 tt ?_
        refine XS.icmpNo X0.here hx rfl (hb hby d_method_3_22) rfl (teq hc107).2 ?_
        refine XS.iloadN X0.here hx rfl (hb hby d_method_3_25) rfl ?_
        refine XS.iconst X0.here hx rfl (hb hby d_method_3_26) ?_
        refine XS.iadd X0.here hx rfl (hb hby d_method_3_27) rfl ?_
        show SS p e below s₁ m 28 #[.val (.ref c), .val (.int (Int32.ofNat i)), .val (.int (Int32.ofNat n))] [(.int ((Int32.ofNat i) + (1 : Int32)))] _
        rw [show ((Int32.ofNat i) + (1 : Int32)) = (Int32.ofNat (i + 1)) from own_succ _]
        refine XS.iloadN X0.here hx rfl (hb hby d_method_3_28) rfl ?_
        exact kt
      by_cases hc109 : (Int32.ofNat (i + 1)) = (Int32.ofNat n)
      ·
        have hq : i + 1 = n := by have q := congrArg Int32.toInt hc109; rw [own_i (by omega), own_i (by omega)] at q; omega
        have W110 : ∀ zQ, SS p e below s₁ m 33 #[.val (.ref c), .val (.int (Int32.ofNat i)), .val (.int (Int32.ofNat n))] [(.int (1 : Int32))] zQ → Steps p.tables e below (s₁.setTop (entryFrame m #[(.ref c), (.int (Int32.ofNat i)), (.int (Int32.ofNat n))] 3)) zQ := by
          intro tt kt
          refine W108 tt ?_
          refine XS.icmpNo X0.here hx rfl (hb hby d_method_3_29) rfl (teq hc109).2 ?_
          refine XS.iconst X0.here hx rfl (hb hby d_method_3_32) ?_
          exact kt
        obtain ⟨fs, hr, hrun, hended, hW, hsame⟩ := X0.leave (v := some (.int (nar .boolean (1 : Int32)))) (fun h => by rw [Bd.returns] at h; cases h)
        refine ⟨_, _, W110 _ (retN X0 hx (t := .boolean) Bd.returns (by simp) (hb hby d_method_3_33) hr), hrun, hended, _, _, rfl, ?_, ⟨_, rfl⟩, hW, hsame.mono (by decide) (by decide)⟩
        show Q_endsYes Z c i n kc cs h0 n0 _ s₁.heap _
        rw [e0]
        exact ⟨(congrArg (fun q => some (Value.int q)) (by simp only [el, own_tk hn hi, own_tl hn, if_neg hc103, if_pos hc107, if_pos hq]; first | done | decide)), N0, rfl⟩
      ·
        have hq : ¬ i + 1 = n := fun q => hc109 (by rw [q])
        obtain ⟨cl111, Ar111, q111, S111, M111, H111, F111g⟩ := id V1
        have hin111 : ¬ ((Int32.ofNat (i + 1)) < 0 ∨ cl111.slots.size ≤ ((Int32.ofNat (i + 1))).toNatClampNeg) := inb_of S111 ⟨own_nneg (by omega), own_lt (by omega) (by omega)⟩
        have hat111 : cl111.slots[((Int32.ofNat (i + 1))).toNatClampNeg]? = some (.int (cs.getD (i + 1) 0)) := Has.at H111 hin111 (by rw [own_cl (by omega)]; exact own_mapat cs (i + 1) _ (by omega))
        have W112 : ∀ zQ, SS p e below s₁ m 41 #[.val (.ref c), .val (.int (Int32.ofNat i)), .val (.int (Int32.ofNat n))] [(.int (10 : Int32)), (.int (cs.getD (i + 1) 0))] zQ → Steps p.tables e below (s₁.setTop (entryFrame m #[(.ref c), (.int (Int32.ofNat i)), (.int (Int32.ofNat n))] 3)) zQ := by
          intro tt kt
          refine W108 tt ?_
          refine XS.icmpYes X0.here hx rfl (pc0 := 29) (pc' := 34) rfl (hb hby d_method_3_29) rfl (feq hc109).2 (by decide) (by decide) ?_
          refine XS.aloadN X0.here hx rfl (hb hby d_method_3_34) rfl rfl ?_
          refine XS.iloadN X0.here hx rfl (hb hby d_method_3_35) rfl ?_
          refine XS.iconst X0.here hx rfl (hb hby d_method_3_36) ?_
          refine XS.iadd X0.here hx rfl (hb hby d_method_3_37) rfl ?_
          show SS p e below s₁ m 38 #[.val (.ref c), .val (.int (Int32.ofNat i)), .val (.int (Int32.ofNat n))] [(.int ((Int32.ofNat i) + (1 : Int32))), (.ref c)] _
          rw [show ((Int32.ofNat i) + (1 : Int32)) = (Int32.ofNat (i + 1)) from own_succ _]
          show SS p e below s₁ m 38 #[.val (.ref c), .val (.int (Int32.ofNat i)), .val (.int (Int32.ofNat n))] [(.int (Int32.ofNat (i + 1))), (.ref c)] _
          refine X0.caload hx (j := (Int32.ofNat (i + 1))) (v := (.int (cs.getD (i + 1) 0))) (by first | exact Ar111.1 | (rw [e0]; exact Ar111.1)) (State.isArrayOf_alike hZ.alike Ar111.2.1) Ar111.2.2 hin111 hat111 (g := (mkF m 38 #[.val (.ref c), .val (.int (Int32.ofNat i)), .val (.int (Int32.ofNat n))] [(.int (Int32.ofNat (i + 1))), (.ref c)])) rfl rfl (hb hby d_method_3_38) _ ?_
          refine XS.bipush X0.here hx rfl (hb hby d_method_3_39) ?_
          exact kt
        by_cases hc113 : (cs.getD (i + 1) 0) = (10 : Int32)
        ·
          have W114 : ∀ zQ, SS p e below s₁ m 49 #[.val (.ref c), .val (.int (Int32.ofNat i)), .val (.int (Int32.ofNat n))] [(.int (0 : Int32))] zQ → Steps p.tables e below (s₁.setTop (entryFrame m #[(.ref c), (.int (Int32.ofNat i)), (.int (Int32.ofNat n))] 3)) zQ := by
            intro tt kt
            refine W112 tt ?_
            refine XS.icmpYes X0.here hx rfl (pc0 := 41) (pc' := 48) rfl (hb hby d_method_3_41) rfl (teq hc113).1 (by decide) (by decide) ?_
            refine XS.iconst X0.here hx rfl (hb hby d_method_3_48) ?_
            exact kt
          obtain ⟨fs, hr, hrun, hended, hW, hsame⟩ := X0.leave (v := some (.int (nar .boolean (0 : Int32)))) (fun h => by rw [Bd.returns] at h; cases h)
          refine ⟨_, _, W114 _ (retN X0 hx (t := .boolean) Bd.returns (by simp) (hb hby d_method_3_49) hr), hrun, hended, _, _, rfl, ?_, ⟨_, rfl⟩, hW, hsame.mono (by decide) (by decide)⟩
          show Q_endsYes Z c i n kc cs h0 n0 _ s₁.heap _
          rw [e0]
          exact ⟨(congrArg (fun q => some (Value.int q)) (by simp only [el, own_tk hn hi, own_tl hn, own_tk hn (show i + 1 < n by omega), if_neg hc103, if_pos hc107, if_neg hq, if_pos hc113]; first | done | decide)), N0, rfl⟩
        ·
          have W115 : ∀ zQ, SS p e below s₁ m 49 #[.val (.ref c), .val (.int (Int32.ofNat i)), .val (.int (Int32.ofNat n))] [(.int (1 : Int32))] zQ → Steps p.tables e below (s₁.setTop (entryFrame m #[(.ref c), (.int (Int32.ofNat i)), (.int (Int32.ofNat n))] 3)) zQ := by
            intro tt kt
            refine W112 tt ?_
            refine XS.icmpNo X0.here hx rfl (hb hby d_method_3_41) rfl (feq hc113).1 ?_
            refine XS.iconst X0.here hx rfl (hb hby d_method_3_44) ?_
            refine XS.goto X0.here hx rfl (pc0 := 45) (pc' := 49) rfl (hb hby d_method_3_45) (by decide) (by decide) ?_
            exact kt
          obtain ⟨fs, hr, hrun, hended, hW, hsame⟩ := X0.leave (v := some (.int (nar .boolean (1 : Int32)))) (fun h => by rw [Bd.returns] at h; cases h)
          refine ⟨_, _, W115 _ (retN X0 hx (t := .boolean) Bd.returns (by simp) (hb hby d_method_3_49) hr), hrun, hended, _, _, rfl, ?_, ⟨_, rfl⟩, hW, hsame.mono (by decide) (by decide)⟩
          show Q_endsYes Z c i n kc cs h0 n0 _ s₁.heap _
          rw [e0]
          exact ⟨(congrArg (fun q => some (Value.int q)) (by simp only [el, own_tk hn hi, own_tl hn, own_tk hn (show i + 1 < n by omega), if_neg hc103, if_pos hc107, if_neg hq, if_neg hc113]; first | done | decide)), N0, rfl⟩
    ·
      have W116 : ∀ zQ, SS p e below s₁ m 51 #[.val (.ref c), .val (.int (Int32.ofNat i)), .val (.int (Int32.ofNat n))] [(.int (0 : Int32))] zQ → Steps p.tables e below (s₁.setTop (entryFrame m #[(.ref c), (.int (Int32.ofNat i)), (.int (Int32.ofNat n))] 3)) zQ := by
        intro tt kt
        refine W106 tt ?_
        refine XS.icmpYes X0.here hx rfl (pc0 := 22) (pc' := 50) rfl (hb hby d_method_3_22) rfl (feq hc107).2 (by decide) (by decide) ?_
        refine XS.iconst X0.here hx rfl (hb hby d_method_3_50) ?_
        exact kt
      obtain ⟨fs, hr, hrun, hended, hW, hsame⟩ := X0.leave (v := some (.int (nar .boolean (0 : Int32)))) (fun h => by rw [Bd.returns] at h; cases h)
      refine ⟨_, _, W116 _ (retN X0 hx (t := .boolean) Bd.returns (by simp) (hb hby d_method_3_51) hr), hrun, hended, _, _, rfl, ?_, ⟨_, rfl⟩, hW, hsame.mono (by decide) (by decide)⟩
      show Q_endsYes Z c i n kc cs h0 n0 _ s₁.heap _
      rw [e0]
      exact ⟨(congrArg (fun q => some (Value.int q)) (by simp only [el, own_tk hn hi, own_tl hn, if_neg hc103, if_neg hc107]; first | done | decide)), N0, rfl⟩
def Q_law (Z : State) (a : Int32) (b : Int32) (d : Int32) (e0_ : Int32) (n : Int32) (cS : Int32) (fm : Value) (h0 : Heap) (n0 : Nat) (vQ_ : Option Value) (hQ_ : Heap) (LQ_ : List Loc) : Prop := vQ_ = some (.int (1 : Int32)) ∧ Fr n0 LQ_ ∧ Keep h0 hQ_ []
set_option maxRecDepth 65536 in
set_option maxHeartbeats 40000000 in
theorem rm_law (l : Launch) (Z : State) (a0 : Array Value) (hw : HW a0 Z) (ws : List Jvm.Cond) (a : Int32) (b : Int32) (d : Int32) (e0_ : Int32) (n : Int32) (cS : Int32) (fm : Value) (h0 : Heap) (n0 : Nat) (Z0 : n0 ≤ h0.size) (O0 : Old Z n0 h0) (S_cs : Sta Z Z.heap "java/lang/String" "COMPACT_STRINGS" "Z" (.int cS)) (hcS : ¬ (cS = (0 : Int32))) (S_fm : Sta Z Z.heap "jdk/internal/util/Preconditions" "SIOOBE_FORMATTER" "Ljava/util/function/BiFunction;" fm) (hfm : fm.isRef = true) (S_ad : Sta Z Z.heap "java/lang/StringUTF16" "$assertionsDisabled" "Z" (.int (1 : Int32))) (S_hi : Sta Z Z.heap "java/lang/StringUTF16" "HI_BYTE_SHIFT" "I" (.int (0 : Int32))) (S_lo : Sta Z Z.heap "java/lang/StringUTF16" "LO_BYTE_SHIFT" "I" (.int (8 : Int32))) :
    MetFree l x (head1 (Jvm.Cond.code x code maxLocals ret :: ws) room_1) (fun aQ_ UQ => aQ_ = #[(.int a), (.int b), (.int d), (.int e0_), (.int n)] ∧ Z.Warmed39 UQ.vm ∧ UQ.heap = h0) (fun _ _ _ _ _ => True) (fun _ UQ oQ UQ' => ∃ vQ_ LQ_, oQ = .returned vQ_ ∧ Q_law Z a b d e0_ n cS fm h0 n0 vQ_ UQ'.heap LQ_ ∧ ReturnedEndW UQ oQ UQ' LQ_ room_1.cells room_1.slots) := by
  refine MetFree.of_bodySF (plainFor_of_name pn_com_example_vestline_vestline_input_TextPositionAfterPinLaw) hisR ?_
  intro p e s m args below meth cO s₁ Bd hml0 hP hK
  obtain ⟨rfl, hZ, hh⟩ := hP
  have hx := Bd.exec
  have hby := Bd.bytes
  have hml : cO.maxLocals = 15 := hml0
  have hown : s.vm.findClass "com/example/vestline/vestline/input/TextPositionAfterPinLaw" = some m.cls := findClass_of_methodNamed Bd.named
  have hnm := (name_of_methodNamed Bd.named Bd.method).1
  have X0 : Stand p l e room_1 (s.setVm s.vm) m #[(.int a), (.int b), (.int d), (.int e0_), (.int n)] below meth cO s₁ [] 0 0 := Stand.of_body Bd
  have e0 : s₁.heap = h0 := by rw [← hh, Bd.state]; rfl
  have N0 := Fr.nil n0
  have hZ0 : Z.Warmed39 (s.setVm s.vm).vm := hZ
  have hown0 : (s.setVm s.vm).vm.findClass "com/example/vestline/vestline/input/TextPositionAfterPinLaw" = some m.cls := hown
  have hS0 : s.Since s.vm 0 := (State.WarmedH.refl s).since 0
  have hk0 : 0 ≤ h0.size := Nat.zero_le _
  have W0 : ∀ zQ, SS p e below s₁ m 0 #[.val (.int a), .val (.int b), .val (.int d), .val (.int e0_), .val (.int n), .unset, .unset, .unset, .unset, .unset, .unset, .unset, .unset, .unset, .unset] [] zQ → Steps p.tables e below (s₁.setTop (entryFrame m #[(.int a), (.int b), (.int d), (.int e0_), (.int n)] maxLocals)) zQ := fun tt kt => castTop (ef_law m a b d e0_ n) kt
  obtain ⟨T101, h101, k101, X101, e101, E101, A101, st101⟩ := newP X0 hx hZ0 (aty := .char) (w0 hw) e0 (g := (mkF m 1 #[.val (.int a), .val (.int b), .val (.int d), .val (.int e0_), .val (.int n), .unset, .unset, .unset, .unset, .unset, .unset, .unset, .unset, .unset, .unset] [(.int (4 : Int32))])) rfl (hb hby at_1) (n := (4 : Int32)) rfl (by decide) (cap := 4) (by decide) (by decide) (by decide) (by decide)
  obtain ⟨b101, g101⟩ : ∃ z, z = h0.size := ⟨_, rfl⟩
  rw [← g101] at A101 st101
  have K101 := (Keep.refl h0 []).ext E101
  have G101 : Arv Z h101 b101 k101 .char (4 : Int32) [(.int (0 : Int32)), (.int (0 : Int32)), (.int (0 : Int32)), (.int (0 : Int32))] (.int (0 : Int32)) := (Arv.new A101 (by decide)).pad (pad_rep [] (.int (0 : Int32)) 4)
  obtain ⟨_, _, ⟨T102, L102, k102, n102⟩, -, X102, ⟨Lc102, hQ102, l102, y102, z102⟩, st102⟩ := Jvm.LawKit.callS X101 hx (y := yn0) hown0 (mvT hZ0 (w1 hw)) (mvT hZ0 (w2 hw)) (mvT hZ0 (w3 hw)) (mvT hZ0 (w4 hw)) (by decide) (backOf (W := 2) (rm_pick l Z a0 hw [] a h101 n0 (Nat.le_trans Z0 K101.1) ) hZ0 (w4 hw) (w3 hw) (by decide) (by decide)) (g := (mkF m 9 #[.val (.int a), .val (.int b), .val (.int d), .val (.int e0_), .val (.int n), .val (.ref b101), .unset, .unset, .unset, .unset, .unset, .unset, .unset, .unset, .unset] [(.int a), (.int (0 : Int32)), (.ref b101)])) rfl (by rw [hml]; rfl) (argsL := [(.int a)]) (rest := [(.int (0 : Int32)), (.ref b101)]) (lenOf pd__28_I_29_C rfl) rfl (by show 2 * 0 + _ ≤ _; exact Nat.le_of_eq rfl) (hb hby at_9) (fun _ _ => ⟨rfl, e101, (Nat.le_of_ble_eq_true rfl), (Nat.le_of_ble_eq_true rfl)⟩)
  dsimp only [Pt.U, Pt.locs, Pt.cells, Pt.slots] at X102 l102 y102 z102 st102 hQ102
  subst l102 y102 z102
  obtain ⟨rfl, Nq102, eq102⟩ := hQ102
  have N102 := Fr.app N0 Nq102
  obtain ⟨q0, h_q0⟩ : ∃ z : Int32, z = (pk a) := ⟨_, rfl⟩
  obtain ⟨cl103, Ar103, q103, S103, M103, H103, F103g⟩ := id G101
  have hin103 : ¬ ((0 : Int32) < 0 ∨ cl103.slots.size ≤ ((0 : Int32)).toNatClampNeg) := inb_of S103 ⟨by decide, by decide⟩
  obtain ⟨T103, h103, X103, e103, Wr103, st103⟩ := stC X102 hx hZ0 eq102 Ar103 (j := (0 : Int32)) hin103 (g := (mkF m 12 #[.val (.int a), .val (.int b), .val (.int d), .val (.int e0_), .val (.int n), .val (.ref b101), .unset, .unset, .unset, .unset, .unset, .unset, .unset, .unset, .unset] [(.int q0), (.int (0 : Int32)), (.ref b101)])) rfl rfl (hb hby at_12)
  have G103 : Arv Z h103 b101 k101 .char (4 : Int32) [(.int (nar .char q0)), (.int (0 : Int32)), (.int (0 : Int32)), (.int (0 : Int32))] (.int (0 : Int32)) := Arv.set Ar103 q103 S103 M103 H103 F103g (fits_nar_char _) Wr103 0 rfl (Nat.le_of_ble_eq_true rfl)
  have K103 := Keep.of_wr Wr103
  have N103 := Fr.snoc X103 N102 (Nat.le_trans Z0 (Nat.le_of_eq g101.symm))
  have J103 : Arv Z h103 b101 k101 .char (4 : Int32) [(.int q0), (.int (0 : Int32)), (.int (0 : Int32)), (.int (0 : Int32))] (.int (0 : Int32)) := by rw [show nar .char q0 = q0 from by rw [h_q0]; exact own_narpk _] at G103; exact G103
  obtain ⟨_, _, ⟨T104, L104, k104, n104⟩, -, X104, ⟨Lc104, hQ104, l104, y104, z104⟩, st104⟩ := Jvm.LawKit.callS X103 hx (y := yn0) hown0 (mvT hZ0 (w1 hw)) (mvT hZ0 (w2 hw)) (mvT hZ0 (w3 hw)) (mvT hZ0 (w4 hw)) (by decide) (backOf (W := 2) (rm_pick l Z a0 hw [] b h103 n0 (Nat.le_trans Z0 (Nat.le_trans K101.1 K103.1)) ) hZ0 (w4 hw) (w3 hw) (by decide) (by decide)) (g := (mkF m 17 #[.val (.int a), .val (.int b), .val (.int d), .val (.int e0_), .val (.int n), .val (.ref b101), .unset, .unset, .unset, .unset, .unset, .unset, .unset, .unset, .unset] [(.int b), (.int (1 : Int32)), (.ref b101)])) rfl (by rw [hml]; rfl) (argsL := [(.int b)]) (rest := [(.int (1 : Int32)), (.ref b101)]) (lenOf pd__28_I_29_C rfl) rfl (by show 2 * 0 + _ ≤ _; exact Nat.le_of_eq rfl) (hb hby at_17) (fun _ _ => ⟨rfl, e103, (Nat.le_of_ble_eq_true rfl), (Nat.le_of_ble_eq_true rfl)⟩)
  dsimp only [Pt.U, Pt.locs, Pt.cells, Pt.slots] at X104 l104 y104 z104 st104 hQ104
  subst l104 y104 z104
  obtain ⟨rfl, Nq104, eq104⟩ := hQ104
  have N104 := Fr.app N103 Nq104
  obtain ⟨q1, h_q1⟩ : ∃ z : Int32, z = (pk b) := ⟨_, rfl⟩
  obtain ⟨cl105, Ar105, q105, S105, M105, H105, F105g⟩ := id J103
  have hin105 : ¬ ((1 : Int32) < 0 ∨ cl105.slots.size ≤ ((1 : Int32)).toNatClampNeg) := inb_of S105 ⟨by decide, by decide⟩
  obtain ⟨T105, h105, X105, e105, Wr105, st105⟩ := stC X104 hx hZ0 eq104 Ar105 (j := (1 : Int32)) hin105 (g := (mkF m 20 #[.val (.int a), .val (.int b), .val (.int d), .val (.int e0_), .val (.int n), .val (.ref b101), .unset, .unset, .unset, .unset, .unset, .unset, .unset, .unset, .unset] [(.int q1), (.int (1 : Int32)), (.ref b101)])) rfl rfl (hb hby at_20)
  have G105 : Arv Z h105 b101 k101 .char (4 : Int32) [(.int q0), (.int (nar .char q1)), (.int (0 : Int32)), (.int (0 : Int32))] (.int (0 : Int32)) := Arv.set Ar105 q105 S105 M105 H105 F105g (fits_nar_char _) Wr105 1 rfl (Nat.le_of_ble_eq_true rfl)
  have K105 := Keep.of_wr Wr105
  have N105 := Fr.snoc X105 N104 (Nat.le_trans Z0 (Nat.le_of_eq g101.symm))
  have J105 : Arv Z h105 b101 k101 .char (4 : Int32) [(.int q0), (.int q1), (.int (0 : Int32)), (.int (0 : Int32))] (.int (0 : Int32)) := by rw [show nar .char q1 = q1 from by rw [h_q1]; exact own_narpk _] at G105; exact G105
  obtain ⟨_, _, ⟨T106, L106, k106, n106⟩, -, X106, ⟨Lc106, hQ106, l106, y106, z106⟩, st106⟩ := Jvm.LawKit.callS X105 hx (y := yn0) hown0 (mvT hZ0 (w1 hw)) (mvT hZ0 (w2 hw)) (mvT hZ0 (w3 hw)) (mvT hZ0 (w4 hw)) (by decide) (backOf (W := 2) (rm_pick l Z a0 hw [] d h105 n0 (Nat.le_trans Z0 (Nat.le_trans (Nat.le_trans K101.1 K103.1) K105.1)) ) hZ0 (w4 hw) (w3 hw) (by decide) (by decide)) (g := (mkF m 25 #[.val (.int a), .val (.int b), .val (.int d), .val (.int e0_), .val (.int n), .val (.ref b101), .unset, .unset, .unset, .unset, .unset, .unset, .unset, .unset, .unset] [(.int d), (.int (2 : Int32)), (.ref b101)])) rfl (by rw [hml]; rfl) (argsL := [(.int d)]) (rest := [(.int (2 : Int32)), (.ref b101)]) (lenOf pd__28_I_29_C rfl) rfl (by show 2 * 0 + _ ≤ _; exact Nat.le_of_eq rfl) (hb hby at_25) (fun _ _ => ⟨rfl, e105, (Nat.le_of_ble_eq_true rfl), (Nat.le_of_ble_eq_true rfl)⟩)
  dsimp only [Pt.U, Pt.locs, Pt.cells, Pt.slots] at X106 l106 y106 z106 st106 hQ106
  subst l106 y106 z106
  obtain ⟨rfl, Nq106, eq106⟩ := hQ106
  have N106 := Fr.app N105 Nq106
  obtain ⟨q2, h_q2⟩ : ∃ z : Int32, z = (pk d) := ⟨_, rfl⟩
  obtain ⟨cl107, Ar107, q107, S107, M107, H107, F107g⟩ := id J105
  have hin107 : ¬ ((2 : Int32) < 0 ∨ cl107.slots.size ≤ ((2 : Int32)).toNatClampNeg) := inb_of S107 ⟨by decide, by decide⟩
  obtain ⟨T107, h107, X107, e107, Wr107, st107⟩ := stC X106 hx hZ0 eq106 Ar107 (j := (2 : Int32)) hin107 (g := (mkF m 28 #[.val (.int a), .val (.int b), .val (.int d), .val (.int e0_), .val (.int n), .val (.ref b101), .unset, .unset, .unset, .unset, .unset, .unset, .unset, .unset, .unset] [(.int q2), (.int (2 : Int32)), (.ref b101)])) rfl rfl (hb hby at_28)
  have G107 : Arv Z h107 b101 k101 .char (4 : Int32) [(.int q0), (.int q1), (.int (nar .char q2)), (.int (0 : Int32))] (.int (0 : Int32)) := Arv.set Ar107 q107 S107 M107 H107 F107g (fits_nar_char _) Wr107 2 rfl (Nat.le_of_ble_eq_true rfl)
  have K107 := Keep.of_wr Wr107
  have N107 := Fr.snoc X107 N106 (Nat.le_trans Z0 (Nat.le_of_eq g101.symm))
  have J107 : Arv Z h107 b101 k101 .char (4 : Int32) [(.int q0), (.int q1), (.int q2), (.int (0 : Int32))] (.int (0 : Int32)) := by rw [show nar .char q2 = q2 from by rw [h_q2]; exact own_narpk _] at G107; exact G107
  obtain ⟨_, _, ⟨T108, L108, k108, n108⟩, -, X108, ⟨Lc108, hQ108, l108, y108, z108⟩, st108⟩ := Jvm.LawKit.callS X107 hx (y := yn0) hown0 (mvT hZ0 (w1 hw)) (mvT hZ0 (w2 hw)) (mvT hZ0 (w3 hw)) (mvT hZ0 (w4 hw)) (by decide) (backOf (W := 2) (rm_pick l Z a0 hw [] e0_ h107 n0 (Nat.le_trans Z0 (Nat.le_trans (Nat.le_trans (Nat.le_trans K101.1 K103.1) K105.1) K107.1)) ) hZ0 (w4 hw) (w3 hw) (by decide) (by decide)) (g := (mkF m 33 #[.val (.int a), .val (.int b), .val (.int d), .val (.int e0_), .val (.int n), .val (.ref b101), .unset, .unset, .unset, .unset, .unset, .unset, .unset, .unset, .unset] [(.int e0_), (.int (3 : Int32)), (.ref b101)])) rfl (by rw [hml]; rfl) (argsL := [(.int e0_)]) (rest := [(.int (3 : Int32)), (.ref b101)]) (lenOf pd__28_I_29_C rfl) rfl (by show 2 * 0 + _ ≤ _; exact Nat.le_of_eq rfl) (hb hby at_33) (fun _ _ => ⟨rfl, e107, (Nat.le_of_ble_eq_true rfl), (Nat.le_of_ble_eq_true rfl)⟩)
  dsimp only [Pt.U, Pt.locs, Pt.cells, Pt.slots] at X108 l108 y108 z108 st108 hQ108
  subst l108 y108 z108
  obtain ⟨rfl, Nq108, eq108⟩ := hQ108
  have N108 := Fr.app N107 Nq108
  obtain ⟨q3, h_q3⟩ : ∃ z : Int32, z = (pk e0_) := ⟨_, rfl⟩
  obtain ⟨cl109, Ar109, q109, S109, M109, H109, F109g⟩ := id J107
  have hin109 : ¬ ((3 : Int32) < 0 ∨ cl109.slots.size ≤ ((3 : Int32)).toNatClampNeg) := inb_of S109 ⟨by decide, by decide⟩
  obtain ⟨T109, h109, X109, e109, Wr109, st109⟩ := stC X108 hx hZ0 eq108 Ar109 (j := (3 : Int32)) hin109 (g := (mkF m 36 #[.val (.int a), .val (.int b), .val (.int d), .val (.int e0_), .val (.int n), .val (.ref b101), .unset, .unset, .unset, .unset, .unset, .unset, .unset, .unset, .unset] [(.int q3), (.int (3 : Int32)), (.ref b101)])) rfl rfl (hb hby at_36)
  have G109 : Arv Z h109 b101 k101 .char (4 : Int32) [(.int q0), (.int q1), (.int q2), (.int (nar .char q3))] (.int (0 : Int32)) := Arv.set Ar109 q109 S109 M109 H109 F109g (fits_nar_char _) Wr109 3 rfl (Nat.le_of_ble_eq_true rfl)
  have K109 := Keep.of_wr Wr109
  have N109 := Fr.snoc X109 N108 (Nat.le_trans Z0 (Nat.le_of_eq g101.symm))
  have J109 : Arv Z h109 b101 k101 .char (4 : Int32) [(.int q0), (.int q1), (.int q2), (.int q3)] (.int (0 : Int32)) := by rw [show nar .char q3 = q3 from by rw [h_q3]; exact own_narpk _] at G109; exact G109
  obtain ⟨T110, h110, X110, e110, E110, A110, D110, U110, st110⟩ := newO X109 hx hZ0 hown0 (w6 hw) (w7 hw) (w8 hw) e109 (g := (mkF m 37 #[.val (.int a), .val (.int b), .val (.int d), .val (.int e0_), .val (.int n), .val (.ref b101), .unset, .unset, .unset, .unset, .unset, .unset, .unset, .unset, .unset] [])) rfl (hb hby at_37) (by decide) (by decide)
  obtain ⟨b110, g110⟩ : ∃ z, z = h109.size := ⟨_, rfl⟩
  rw [← g110] at A110 D110 U110 st110
  have K110 := (Keep.refl h109 []).ext E110
  have G110_coder : Fld Z h110 b110 "java/lang/String" "coder" "B" (.int (0 : Int32)) := D110 (Or.inr (w32 hw)) (ty := .byte) (by decide)
  have G110_value : Fld Z h110 b110 "java/lang/String" "value" "[B" .null := D110 (Or.inr (w34 hw)) (ty := (.array .byte)) (by decide)
  have F111 : Arv Z h110 b101 k101 .char (4 : Int32) [(.int q0), (.int q1), (.int q2), (.int q3)] (.int (0 : Int32)) := (J109.keep K110 nin0)
  have O112 : Old Z n0 h110 := ((((((O0.keep K101 all0).keep K103 (allS (Nat.le_trans Z0 (Nat.le_of_eq g101.symm)) all0)).keep K105 (allS (Nat.le_trans Z0 (Nat.le_of_eq g101.symm)) all0)).keep K107 (allS (Nat.le_trans Z0 (Nat.le_of_eq g101.symm)) all0)).keep K109 (allS (Nat.le_trans Z0 (Nat.le_of_eq g101.symm)) all0)).keep K110 all0)
  obtain ⟨_, _, ⟨T113, L113, k113, n113⟩, -, X113, ⟨Lc113, hQ113, l113, y113, z113⟩, st113⟩ := X110.specialBack hx (y := yn20) rfl hown0 (mvT hZ0 (w9 hw)) (mvT hZ0 (w10 hw)) (mvT hZ0 (w11 hw)) (by decide) (backOf (W := 1) (rm_sinit l Z a0 hw [] b110 b101 k101 [q0, q1, q2, q3] cS h110 n0 (Nat.le_trans Z0 (Nat.le_trans (Nat.le_trans (Nat.le_trans (Nat.le_trans (Nat.le_trans K101.1 K103.1) K105.1) K107.1) K109.1) K110.1)) O112 S_cs hcS S_ad S_hi S_lo A110 G110_value G110_coder (Nat.le_trans Z0 (Nat.le_trans (Nat.le_trans (Nat.le_trans (Nat.le_trans (Nat.le_trans K101.1 K103.1) K105.1) K107.1) K109.1) (Nat.le_of_eq g110.symm))) F111 (by rw [h_q0, h_q1, h_q2, h_q3]; exact ok_pk [a, b, d, e0_] (Nat.le_of_ble_eq_true rfl)) (Nat.le_of_ble_eq_true rfl) (Nat.le_of_ble_eq_true rfl) (Ne.symm (Nat.ne_of_lt (Nat.lt_of_lt_of_le (Nat.lt_of_lt_of_le G101.lt (Nat.le_trans (Nat.le_trans (Nat.le_trans K103.1 K105.1) K107.1) K109.1)) (Nat.le_of_eq g110.symm))))) hZ0 (w11 hw) (w8 hw) (by decide) (by decide)) (g := (mkF m 43 #[.val (.int a), .val (.int b), .val (.int d), .val (.int e0_), .val (.int n), .val (.ref b101), .unset, .unset, .unset, .unset, .unset, .unset, .unset, .unset, .unset] [(.ref b101), (.ref b110), (.ref b110)])) rfl (by rw [hml]; rfl) (Steps.refl _) (a := b110) (argsL := [(.ref b101)]) (rest := [(.ref b110)]) (lenOf pd__28__5b_C_29_V rfl) rfl (by show 2 * 0 + _ ≤ _; exact Nat.le_of_eq rfl) (hb hby at_43) (fun _ _ => ⟨rfl, e110, (Nat.le_of_ble_eq_true rfl), (Nat.le_of_ble_eq_true rfl)⟩)
  dsimp only [Pt.U, Pt.locs, Pt.cells, Pt.slots] at X113 l113 y113 z113 st113 hQ113
  subst l113 y113 z113
  obtain ⟨t_114, kb_115, rfl, Nq113, K113, P113_0, P113_1⟩ := hQ113
  have N113 := Fr.app N109 Nq113
  obtain ⟨rr, h_rr⟩ : ∃ z : Int32, z = ((n &&& (2147483647 : Int32)) % (5 : Int32)) := ⟨_, rfl⟩
  have W116 : ∀ zQ, SS p e below T113 m 55 #[.val (.int a), .val (.int b), .val (.int d), .val (.int e0_), .val (.int n), .val (.ref b101), .val (.ref b110), .unset, .unset, .unset, .unset, .unset, .unset, .unset, .unset] [(.int rr)] zQ → Steps p.tables e below (s₁.setTop (entryFrame m #[(.int a), (.int b), (.int d), (.int e0_), (.int n)] maxLocals)) zQ := by
    intro tt kt
    refine W0 tt ?_
    refine XS.iconst X0.here hx rfl (hb hby at_0) ?_
    show SS p e below s₁ m 1 #[.val (.int a), .val (.int b), .val (.int d), .val (.int e0_), .val (.int n), .unset, .unset, .unset, .unset, .unset, .unset, .unset, .unset, .unset, .unset] [(.int (4 : Int32))] _
    refine st101 _ ?_
    refine XS.astore X101.here hx rfl (hb hby at_3) rfl rfl (l' := #[.val (.int a), .val (.int b), .val (.int d), .val (.int e0_), .val (.int n), .val (.ref b101), .unset, .unset, .unset, .unset, .unset, .unset, .unset, .unset, .unset]) rfl ?_
    refine XS.aload X101.here hx rfl (hb hby at_5) rfl rfl ?_
    refine XS.iconst X101.here hx rfl (hb hby at_7) ?_
    refine XS.iloadN X101.here hx rfl (hb hby at_8) rfl ?_
    show SS p e below T101 m 9 #[.val (.int a), .val (.int b), .val (.int d), .val (.int e0_), .val (.int n), .val (.ref b101), .unset, .unset, .unset, .unset, .unset, .unset, .unset, .unset, .unset] [(.int a), (.int (0 : Int32)), (.ref b101)] _
    refine st102 _ ?_
    show SS p e below T102 m 12 #[.val (.int a), .val (.int b), .val (.int d), .val (.int e0_), .val (.int n), .val (.ref b101), .unset, .unset, .unset, .unset, .unset, .unset, .unset, .unset, .unset] [(.int (pk a)), (.int (0 : Int32)), (.ref b101)] _
    rw [← h_q0]
    show SS p e below T102 m 12 #[.val (.int a), .val (.int b), .val (.int d), .val (.int e0_), .val (.int n), .val (.ref b101), .unset, .unset, .unset, .unset, .unset, .unset, .unset, .unset, .unset] [(.int q0), (.int (0 : Int32)), (.ref b101)] _
    refine st103 _ ?_
    refine XS.aload X103.here hx rfl (hb hby at_13) rfl rfl ?_
    refine XS.iconst X103.here hx rfl (hb hby at_15) ?_
    refine XS.iloadN X103.here hx rfl (hb hby at_16) rfl ?_
    show SS p e below T103 m 17 #[.val (.int a), .val (.int b), .val (.int d), .val (.int e0_), .val (.int n), .val (.ref b101), .unset, .unset, .unset, .unset, .unset, .unset, .unset, .unset, .unset] [(.int b), (.int (1 : Int32)), (.ref b101)] _
    refine st104 _ ?_
    show SS p e below T104 m 20 #[.val (.int a), .val (.int b), .val (.int d), .val (.int e0_), .val (.int n), .val (.ref b101), .unset, .unset, .unset, .unset, .unset, .unset, .unset, .unset, .unset] [(.int (pk b)), (.int (1 : Int32)), (.ref b101)] _
    rw [← h_q1]
    show SS p e below T104 m 20 #[.val (.int a), .val (.int b), .val (.int d), .val (.int e0_), .val (.int n), .val (.ref b101), .unset, .unset, .unset, .unset, .unset, .unset, .unset, .unset, .unset] [(.int q1), (.int (1 : Int32)), (.ref b101)] _
    refine st105 _ ?_
    refine XS.aload X105.here hx rfl (hb hby at_21) rfl rfl ?_
    refine XS.iconst X105.here hx rfl (hb hby at_23) ?_
    refine XS.iloadN X105.here hx rfl (hb hby at_24) rfl ?_
    show SS p e below T105 m 25 #[.val (.int a), .val (.int b), .val (.int d), .val (.int e0_), .val (.int n), .val (.ref b101), .unset, .unset, .unset, .unset, .unset, .unset, .unset, .unset, .unset] [(.int d), (.int (2 : Int32)), (.ref b101)] _
    refine st106 _ ?_
    show SS p e below T106 m 28 #[.val (.int a), .val (.int b), .val (.int d), .val (.int e0_), .val (.int n), .val (.ref b101), .unset, .unset, .unset, .unset, .unset, .unset, .unset, .unset, .unset] [(.int (pk d)), (.int (2 : Int32)), (.ref b101)] _
    rw [← h_q2]
    show SS p e below T106 m 28 #[.val (.int a), .val (.int b), .val (.int d), .val (.int e0_), .val (.int n), .val (.ref b101), .unset, .unset, .unset, .unset, .unset, .unset, .unset, .unset, .unset] [(.int q2), (.int (2 : Int32)), (.ref b101)] _
    refine st107 _ ?_
    refine XS.aload X107.here hx rfl (hb hby at_29) rfl rfl ?_
    refine XS.iconst X107.here hx rfl (hb hby at_31) ?_
    refine XS.iloadN X107.here hx rfl (hb hby at_32) rfl ?_
    show SS p e below T107 m 33 #[.val (.int a), .val (.int b), .val (.int d), .val (.int e0_), .val (.int n), .val (.ref b101), .unset, .unset, .unset, .unset, .unset, .unset, .unset, .unset, .unset] [(.int e0_), (.int (3 : Int32)), (.ref b101)] _
    refine st108 _ ?_
    show SS p e below T108 m 36 #[.val (.int a), .val (.int b), .val (.int d), .val (.int e0_), .val (.int n), .val (.ref b101), .unset, .unset, .unset, .unset, .unset, .unset, .unset, .unset, .unset] [(.int (pk e0_)), (.int (3 : Int32)), (.ref b101)] _
    rw [← h_q3]
    show SS p e below T108 m 36 #[.val (.int a), .val (.int b), .val (.int d), .val (.int e0_), .val (.int n), .val (.ref b101), .unset, .unset, .unset, .unset, .unset, .unset, .unset, .unset, .unset] [(.int q3), (.int (3 : Int32)), (.ref b101)] _
    refine st109 _ ?_
    show SS p e below T109 m 37 #[.val (.int a), .val (.int b), .val (.int d), .val (.int e0_), .val (.int n), .val (.ref b101), .unset, .unset, .unset, .unset, .unset, .unset, .unset, .unset, .unset] [] _
    refine st110 _ ?_
    refine XS.dup X110.here hx rfl (hb hby at_40) rfl rfl ?_
    refine XS.aload X110.here hx rfl (hb hby at_41) rfl rfl ?_
    show SS p e below T110 m 43 #[.val (.int a), .val (.int b), .val (.int d), .val (.int e0_), .val (.int n), .val (.ref b101), .unset, .unset, .unset, .unset, .unset, .unset, .unset, .unset, .unset] [(.ref b101), (.ref b110), (.ref b110)] _
    refine st113.trans ?_
    refine XS.astore X113.here hx rfl (hb hby at_46) rfl rfl (l' := #[.val (.int a), .val (.int b), .val (.int d), .val (.int e0_), .val (.int n), .val (.ref b101), .val (.ref b110), .unset, .unset, .unset, .unset, .unset, .unset, .unset, .unset]) rfl ?_
    refine XS.iload X113.here hx rfl (hb hby at_48) rfl ?_
    show SS p e below T113 m 50 #[.val (.int a), .val (.int b), .val (.int d), .val (.int e0_), .val (.int n), .val (.ref b101), .val (.ref b110), .unset, .unset, .unset, .unset, .unset, .unset, .unset, .unset] [(.int n)] _
    refine X113.ldcInt hx hown0 (mvT hZ0 (w35 hw)) (g := (mkF m 50 #[.val (.int a), .val (.int b), .val (.int d), .val (.int e0_), .val (.int n), .val (.ref b101), .val (.ref b110), .unset, .unset, .unset, .unset, .unset, .unset, .unset, .unset] [(.int n)])) rfl (hb hby at_50) _ ?_
    refine XS.iand X113.here hx rfl (hb hby at_52) rfl ?_
    refine XS.iconst X113.here hx rfl (hb hby at_53) ?_
    show SS p e below T113 m 54 #[.val (.int a), .val (.int b), .val (.int d), .val (.int e0_), .val (.int n), .val (.ref b101), .val (.ref b110), .unset, .unset, .unset, .unset, .unset, .unset, .unset, .unset] [(.int (5 : Int32)), (.int (n &&& (2147483647 : Int32)))] _
    refine Jvm.RoadKit.iremM X113 hx rfl (hb hby at_54) rfl (by decide) ?_
    show SS p e below T113 m 55 #[.val (.int a), .val (.int b), .val (.int d), .val (.int e0_), .val (.int n), .val (.ref b101), .val (.ref b110), .unset, .unset, .unset, .unset, .unset, .unset, .unset, .unset] [(.int ((n &&& (2147483647 : Int32)) % (5 : Int32)))] _
    rw [← h_rr]
    exact kt
  rcases (h_rr ▸ own_r5 n : rr = 0 ∨ rr = 1 ∨ rr = 2 ∨ rr = 3 ∨ rr = 4) with rfl | rfl | rfl | rfl | rfl
  ·
    obtain ⟨_, _, ⟨T117, L117, k117, n117⟩, -, X117, ⟨Lc117, hQ117, l117, y117, z117⟩, st117⟩ := Jvm.LawKit.callS X113 hx (y := yn42) hown0 (mvT hZ0 (w36 hw)) (mvT hZ0 (w37 hw)) (mvT hZ0 (w3 hw)) (mvT hZ0 (w38 hw)) (by decide) (backOf (W := 0) (rm_endsNo l Z a0 hw [] b101 (0 : Int32) (0 : Int32) T113.heap n0 (Nat.le_trans Z0 (Nat.le_trans (Nat.le_trans (Nat.le_trans (Nat.le_trans (Nat.le_trans (Nat.le_trans K101.1 K103.1) K105.1) K107.1) K109.1) K110.1) K113.1)) (by decide : ¬ ((0 : Int32) < (0 : Int32)))) hZ0 (w38 hw) (w3 hw) (by decide) (by decide)) (g := (mkF m 62 #[.val (.int a), .val (.int b), .val (.int d), .val (.int e0_), .val (.int n), .val (.ref b101), .val (.ref b110), .val (.int (0 : Int32)), .unset, .unset, .unset, .unset, .unset, .unset, .unset] [(.int (0 : Int32)), (.int (0 : Int32)), (.ref b101)])) rfl (by rw [hml]; rfl) (argsL := [(.ref b101), (.int (0 : Int32)), (.int (0 : Int32))]) (rest := []) (lenOf pd__28__5b_CII_29_Z rfl) rfl (by show 2 * 0 + _ ≤ _; exact Nat.le_of_eq rfl) (hb hby at_62) (fun _ _ => ⟨rfl, rfl, (Nat.le_of_ble_eq_true rfl), (Nat.le_of_ble_eq_true rfl)⟩)
    dsimp only [Pt.U, Pt.locs, Pt.cells, Pt.slots] at X117 l117 y117 z117 st117 hQ117
    subst l117 y117 z117
    obtain ⟨rfl, Nq117, eq117⟩ := hQ117
    have N117 := Fr.app N113 Nq117
    obtain ⟨_, _, ⟨T118, L118, k118, n118⟩, -, X118, ⟨Lc118, hQ118, l118, y118, z118⟩, st118⟩ := Jvm.LawKit.callS X117 hx (y := yn42) hown0 (mvT hZ0 (w36 hw)) (mvT hZ0 (w37 hw)) (mvT hZ0 (w3 hw)) (mvT hZ0 (w38 hw)) (by decide) (backOf (W := 0) (rm_endsNo l Z a0 hw [] b101 (1 : Int32) (0 : Int32) T113.heap n0 (Nat.le_trans Z0 (Nat.le_trans (Nat.le_trans (Nat.le_trans (Nat.le_trans (Nat.le_trans (Nat.le_trans K101.1 K103.1) K105.1) K107.1) K109.1) K110.1) K113.1)) (by decide : ¬ ((1 : Int32) < (0 : Int32)))) hZ0 (w38 hw) (w3 hw) (by decide) (by decide)) (g := (mkF m 72 #[.val (.int a), .val (.int b), .val (.int d), .val (.int e0_), .val (.int n), .val (.ref b101), .val (.ref b110), .val (.int (0 : Int32)), .val (.int (0 : Int32)), .unset, .unset, .unset, .unset, .unset, .unset] [(.int (0 : Int32)), (.int (1 : Int32)), (.ref b101)])) rfl (by rw [hml]; rfl) (argsL := [(.ref b101), (.int (1 : Int32)), (.int (0 : Int32))]) (rest := []) (lenOf pd__28__5b_CII_29_Z rfl) rfl (by show 2 * 0 + _ ≤ _; exact Nat.le_of_eq rfl) (hb hby at_72) (fun _ _ => ⟨rfl, eq117, (Nat.le_of_ble_eq_true rfl), (Nat.le_of_ble_eq_true rfl)⟩)
    dsimp only [Pt.U, Pt.locs, Pt.cells, Pt.slots] at X118 l118 y118 z118 st118 hQ118
    subst l118 y118 z118
    obtain ⟨rfl, Nq118, eq118⟩ := hQ118
    have N118 := Fr.app N117 Nq118
    obtain ⟨_, _, ⟨T119, L119, k119, n119⟩, -, X119, ⟨Lc119, hQ119, l119, y119, z119⟩, st119⟩ := Jvm.LawKit.callS X118 hx (y := yn42) hown0 (mvT hZ0 (w36 hw)) (mvT hZ0 (w37 hw)) (mvT hZ0 (w3 hw)) (mvT hZ0 (w38 hw)) (by decide) (backOf (W := 0) (rm_endsNo l Z a0 hw [] b101 (2 : Int32) (0 : Int32) T113.heap n0 (Nat.le_trans Z0 (Nat.le_trans (Nat.le_trans (Nat.le_trans (Nat.le_trans (Nat.le_trans (Nat.le_trans K101.1 K103.1) K105.1) K107.1) K109.1) K110.1) K113.1)) (by decide : ¬ ((2 : Int32) < (0 : Int32)))) hZ0 (w38 hw) (w3 hw) (by decide) (by decide)) (g := (mkF m 82 #[.val (.int a), .val (.int b), .val (.int d), .val (.int e0_), .val (.int n), .val (.ref b101), .val (.ref b110), .val (.int (0 : Int32)), .val (.int (0 : Int32)), .val (.int (0 : Int32)), .unset, .unset, .unset, .unset, .unset] [(.int (0 : Int32)), (.int (2 : Int32)), (.ref b101)])) rfl (by rw [hml]; rfl) (argsL := [(.ref b101), (.int (2 : Int32)), (.int (0 : Int32))]) (rest := []) (lenOf pd__28__5b_CII_29_Z rfl) rfl (by show 2 * 0 + _ ≤ _; exact Nat.le_of_eq rfl) (hb hby at_82) (fun _ _ => ⟨rfl, eq118, (Nat.le_of_ble_eq_true rfl), (Nat.le_of_ble_eq_true rfl)⟩)
    dsimp only [Pt.U, Pt.locs, Pt.cells, Pt.slots] at X119 l119 y119 z119 st119 hQ119
    subst l119 y119 z119
    obtain ⟨rfl, Nq119, eq119⟩ := hQ119
    have N119 := Fr.app N118 Nq119
    obtain ⟨_, _, ⟨T120, L120, k120, n120⟩, -, X120, ⟨Lc120, hQ120, l120, y120, z120⟩, st120⟩ := Jvm.LawKit.callS X119 hx (y := yn42) hown0 (mvT hZ0 (w36 hw)) (mvT hZ0 (w37 hw)) (mvT hZ0 (w3 hw)) (mvT hZ0 (w38 hw)) (by decide) (backOf (W := 0) (rm_endsNo l Z a0 hw [] b101 (3 : Int32) (0 : Int32) T113.heap n0 (Nat.le_trans Z0 (Nat.le_trans (Nat.le_trans (Nat.le_trans (Nat.le_trans (Nat.le_trans (Nat.le_trans K101.1 K103.1) K105.1) K107.1) K109.1) K110.1) K113.1)) (by decide : ¬ ((3 : Int32) < (0 : Int32)))) hZ0 (w38 hw) (w3 hw) (by decide) (by decide)) (g := (mkF m 92 #[.val (.int a), .val (.int b), .val (.int d), .val (.int e0_), .val (.int n), .val (.ref b101), .val (.ref b110), .val (.int (0 : Int32)), .val (.int (0 : Int32)), .val (.int (0 : Int32)), .val (.int (0 : Int32)), .unset, .unset, .unset, .unset] [(.int (0 : Int32)), (.int (3 : Int32)), (.ref b101)])) rfl (by rw [hml]; rfl) (argsL := [(.ref b101), (.int (3 : Int32)), (.int (0 : Int32))]) (rest := []) (lenOf pd__28__5b_CII_29_Z rfl) rfl (by show 2 * 0 + _ ≤ _; exact Nat.le_of_eq rfl) (hb hby at_92) (fun _ _ => ⟨rfl, eq119, (Nat.le_of_ble_eq_true rfl), (Nat.le_of_ble_eq_true rfl)⟩)
    dsimp only [Pt.U, Pt.locs, Pt.cells, Pt.slots] at X120 l120 y120 z120 st120 hQ120
    subst l120 y120 z120
    obtain ⟨rfl, Nq120, eq120⟩ := hQ120
    have N120 := Fr.app N119 Nq120
    have W121 : ∀ zQ, SS p e below T120 m 105 #[.val (.int a), .val (.int b), .val (.int d), .val (.int e0_), .val (.int n), .val (.ref b101), .val (.ref b110), .val (.int (0 : Int32)), .val (.int (0 : Int32)), .val (.int (0 : Int32)), .val (.int (0 : Int32)), .val (.int (0 : Int32)), .val (.int (1 : Int32)), .val (.int (0 : Int32)), .unset] [(.int (0 : Int32))] zQ → Steps p.tables e below (s₁.setTop (entryFrame m #[(.int a), (.int b), (.int d), (.int e0_), (.int n)] maxLocals)) zQ := by
      intro tt kt
      refine W116 tt ?_
      refine XS.istore X113.here hx rfl (hb hby at_55) rfl (l' := #[.val (.int a), .val (.int b), .val (.int d), .val (.int e0_), .val (.int n), .val (.ref b101), .val (.ref b110), .val (.int (0 : Int32)), .unset, .unset, .unset, .unset, .unset, .unset, .unset]) rfl ?_
      refine XS.aload X113.here hx rfl (hb hby at_57) rfl rfl ?_
      refine XS.iconst X113.here hx rfl (hb hby at_59) ?_
      refine XS.iload X113.here hx rfl (hb hby at_60) rfl ?_
      show SS p e below T113 m 62 #[.val (.int a), .val (.int b), .val (.int d), .val (.int e0_), .val (.int n), .val (.ref b101), .val (.ref b110), .val (.int (0 : Int32)), .unset, .unset, .unset, .unset, .unset, .unset, .unset] [(.int (0 : Int32)), (.int (0 : Int32)), (.ref b101)] _
      refine st117 _ ?_
      refine XS.istore X117.here hx rfl (hb hby at_65) rfl (l' := #[.val (.int a), .val (.int b), .val (.int d), .val (.int e0_), .val (.int n), .val (.ref b101), .val (.ref b110), .val (.int (0 : Int32)), .val (.int (0 : Int32)), .unset, .unset, .unset, .unset, .unset, .unset]) rfl ?_
      refine XS.aload X117.here hx rfl (hb hby at_67) rfl rfl ?_
      refine XS.iconst X117.here hx rfl (hb hby at_69) ?_
      refine XS.iload X117.here hx rfl (hb hby at_70) rfl ?_
      show SS p e below T117 m 72 #[.val (.int a), .val (.int b), .val (.int d), .val (.int e0_), .val (.int n), .val (.ref b101), .val (.ref b110), .val (.int (0 : Int32)), .val (.int (0 : Int32)), .unset, .unset, .unset, .unset, .unset, .unset] [(.int (0 : Int32)), (.int (1 : Int32)), (.ref b101)] _
      refine st118 _ ?_
      refine XS.istore X118.here hx rfl (hb hby at_75) rfl (l' := #[.val (.int a), .val (.int b), .val (.int d), .val (.int e0_), .val (.int n), .val (.ref b101), .val (.ref b110), .val (.int (0 : Int32)), .val (.int (0 : Int32)), .val (.int (0 : Int32)), .unset, .unset, .unset, .unset, .unset]) rfl ?_
      refine XS.aload X118.here hx rfl (hb hby at_77) rfl rfl ?_
      refine XS.iconst X118.here hx rfl (hb hby at_79) ?_
      refine XS.iload X118.here hx rfl (hb hby at_80) rfl ?_
      show SS p e below T118 m 82 #[.val (.int a), .val (.int b), .val (.int d), .val (.int e0_), .val (.int n), .val (.ref b101), .val (.ref b110), .val (.int (0 : Int32)), .val (.int (0 : Int32)), .val (.int (0 : Int32)), .unset, .unset, .unset, .unset, .unset] [(.int (0 : Int32)), (.int (2 : Int32)), (.ref b101)] _
      refine st119 _ ?_
      refine XS.istore X119.here hx rfl (hb hby at_85) rfl (l' := #[.val (.int a), .val (.int b), .val (.int d), .val (.int e0_), .val (.int n), .val (.ref b101), .val (.ref b110), .val (.int (0 : Int32)), .val (.int (0 : Int32)), .val (.int (0 : Int32)), .val (.int (0 : Int32)), .unset, .unset, .unset, .unset]) rfl ?_
      refine XS.aload X119.here hx rfl (hb hby at_87) rfl rfl ?_
      refine XS.iconst X119.here hx rfl (hb hby at_89) ?_
      refine XS.iload X119.here hx rfl (hb hby at_90) rfl ?_
      show SS p e below T119 m 92 #[.val (.int a), .val (.int b), .val (.int d), .val (.int e0_), .val (.int n), .val (.ref b101), .val (.ref b110), .val (.int (0 : Int32)), .val (.int (0 : Int32)), .val (.int (0 : Int32)), .val (.int (0 : Int32)), .unset, .unset, .unset, .unset] [(.int (0 : Int32)), (.int (3 : Int32)), (.ref b101)] _
      refine st120 _ ?_
      refine XS.istore X120.here hx rfl (hb hby at_95) rfl (l' := #[.val (.int a), .val (.int b), .val (.int d), .val (.int e0_), .val (.int n), .val (.ref b101), .val (.ref b110), .val (.int (0 : Int32)), .val (.int (0 : Int32)), .val (.int (0 : Int32)), .val (.int (0 : Int32)), .val (.int (0 : Int32)), .unset, .unset, .unset]) rfl ?_
      refine XS.iconst X120.here hx rfl (hb hby at_97) ?_
      refine XS.istore X120.here hx rfl (hb hby at_98) rfl (l' := #[.val (.int a), .val (.int b), .val (.int d), .val (.int e0_), .val (.int n), .val (.ref b101), .val (.ref b110), .val (.int (0 : Int32)), .val (.int (0 : Int32)), .val (.int (0 : Int32)), .val (.int (0 : Int32)), .val (.int (0 : Int32)), .val (.int (1 : Int32)), .unset, .unset]) rfl ?_
      refine XS.iconst X120.here hx rfl (hb hby at_100) ?_
      refine XS.istore X120.here hx rfl (hb hby at_101) rfl (l' := #[.val (.int a), .val (.int b), .val (.int d), .val (.int e0_), .val (.int n), .val (.ref b101), .val (.ref b110), .val (.int (0 : Int32)), .val (.int (0 : Int32)), .val (.int (0 : Int32)), .val (.int (0 : Int32)), .val (.int (0 : Int32)), .val (.int (1 : Int32)), .val (.int (0 : Int32)), .unset]) rfl ?_
      show SS p e below T120 m 103 #[.val (.int a), .val (.int b), .val (.int d), .val (.int e0_), .val (.int n), .val (.ref b101), .val (.ref b110), .val (.int (0 : Int32)), .val (.int (0 : Int32)), .val (.int (0 : Int32)), .val (.int (0 : Int32)), .val (.int (0 : Int32)), .val (.int (1 : Int32)), .val (.int (0 : Int32)), .unset] [] _
      refine XS.iload X120.here hx rfl (hb hby at_103) rfl ?_
      exact kt
    have W122 : ∀ zQ, SS p e below T120 m 117 #[.val (.int a), .val (.int b), .val (.int d), .val (.int e0_), .val (.int n), .val (.ref b101), .val (.ref b110), .val (.int (0 : Int32)), .val (.int (0 : Int32)), .val (.int (0 : Int32)), .val (.int (0 : Int32)), .val (.int (0 : Int32)), .val (.int (1 : Int32)), .val (.int (0 : Int32)), .unset] [] zQ → Steps p.tables e below (s₁.setTop (entryFrame m #[(.int a), (.int b), (.int d), (.int e0_), (.int n)] maxLocals)) zQ := by
      intro tt kt
      refine W121 tt ?_
      refine XS.ifYes X120.here hx rfl (pc0 := 105) (pc' := 117) rfl (hb hby at_105) rfl ((if0 _ _).trans (teq (by decide)).1) (by decide) (by decide) ?_
      exact castTop (by first | rfl | (simp only []; first | done | rfl)) kt
    have W123 : ∀ zQ, SS p e below T120 m 119 #[.val (.int a), .val (.int b), .val (.int d), .val (.int e0_), .val (.int n), .val (.ref b101), .val (.ref b110), .val (.int (0 : Int32)), .val (.int (0 : Int32)), .val (.int (0 : Int32)), .val (.int (0 : Int32)), .val (.int (0 : Int32)), .val (.int (1 : Int32)), .val (.int (0 : Int32)), .unset] [(.int (0 : Int32))] zQ → Steps p.tables e below (s₁.setTop (entryFrame m #[(.int a), (.int b), (.int d), (.int e0_), (.int n)] maxLocals)) zQ := by
      intro tt kt
      refine W122 tt ?_
      refine XS.iload X120.here hx rfl (hb hby at_117) rfl ?_
      exact kt
    have W124 : ∀ zQ, SS p e below T120 m 131 #[.val (.int a), .val (.int b), .val (.int d), .val (.int e0_), .val (.int n), .val (.ref b101), .val (.ref b110), .val (.int (0 : Int32)), .val (.int (0 : Int32)), .val (.int (0 : Int32)), .val (.int (0 : Int32)), .val (.int (0 : Int32)), .val (.int (1 : Int32)), .val (.int (0 : Int32)), .unset] [] zQ → Steps p.tables e below (s₁.setTop (entryFrame m #[(.int a), (.int b), (.int d), (.int e0_), (.int n)] maxLocals)) zQ := by
      intro tt kt
      refine W123 tt ?_
      refine XS.ifYes X120.here hx rfl (pc0 := 119) (pc' := 131) rfl (hb hby at_119) rfl ((if0 _ _).trans (teq (by decide)).1) (by decide) (by decide) ?_
      exact castTop (by first | rfl | (simp only []; first | done | rfl)) kt
    have W125 : ∀ zQ, SS p e below T120 m 133 #[.val (.int a), .val (.int b), .val (.int d), .val (.int e0_), .val (.int n), .val (.ref b101), .val (.ref b110), .val (.int (0 : Int32)), .val (.int (0 : Int32)), .val (.int (0 : Int32)), .val (.int (0 : Int32)), .val (.int (0 : Int32)), .val (.int (1 : Int32)), .val (.int (0 : Int32)), .unset] [(.int (0 : Int32))] zQ → Steps p.tables e below (s₁.setTop (entryFrame m #[(.int a), (.int b), (.int d), (.int e0_), (.int n)] maxLocals)) zQ := by
      intro tt kt
      refine W124 tt ?_
      refine XS.iload X120.here hx rfl (hb hby at_131) rfl ?_
      exact kt
    have W126 : ∀ zQ, SS p e below T120 m 145 #[.val (.int a), .val (.int b), .val (.int d), .val (.int e0_), .val (.int n), .val (.ref b101), .val (.ref b110), .val (.int (0 : Int32)), .val (.int (0 : Int32)), .val (.int (0 : Int32)), .val (.int (0 : Int32)), .val (.int (0 : Int32)), .val (.int (1 : Int32)), .val (.int (0 : Int32)), .unset] [] zQ → Steps p.tables e below (s₁.setTop (entryFrame m #[(.int a), (.int b), (.int d), (.int e0_), (.int n)] maxLocals)) zQ := by
      intro tt kt
      refine W125 tt ?_
      refine XS.ifYes X120.here hx rfl (pc0 := 133) (pc' := 145) rfl (hb hby at_133) rfl ((if0 _ _).trans (teq (by decide)).1) (by decide) (by decide) ?_
      exact castTop (by first | rfl | (simp only []; first | done | rfl)) kt
    have W127 : ∀ zQ, SS p e below T120 m 147 #[.val (.int a), .val (.int b), .val (.int d), .val (.int e0_), .val (.int n), .val (.ref b101), .val (.ref b110), .val (.int (0 : Int32)), .val (.int (0 : Int32)), .val (.int (0 : Int32)), .val (.int (0 : Int32)), .val (.int (0 : Int32)), .val (.int (1 : Int32)), .val (.int (0 : Int32)), .unset] [(.int (0 : Int32))] zQ → Steps p.tables e below (s₁.setTop (entryFrame m #[(.int a), (.int b), (.int d), (.int e0_), (.int n)] maxLocals)) zQ := by
      intro tt kt
      refine W126 tt ?_
      refine XS.iload X120.here hx rfl (hb hby at_145) rfl ?_
      exact kt
    have W128 : ∀ zQ, SS p e below T120 m 159 #[.val (.int a), .val (.int b), .val (.int d), .val (.int e0_), .val (.int n), .val (.ref b101), .val (.ref b110), .val (.int (0 : Int32)), .val (.int (0 : Int32)), .val (.int (0 : Int32)), .val (.int (0 : Int32)), .val (.int (0 : Int32)), .val (.int (1 : Int32)), .val (.int (0 : Int32)), .unset] [] zQ → Steps p.tables e below (s₁.setTop (entryFrame m #[(.int a), (.int b), (.int d), (.int e0_), (.int n)] maxLocals)) zQ := by
      intro tt kt
      refine W127 tt ?_
      refine XS.ifYes X120.here hx rfl (pc0 := 147) (pc' := 159) rfl (hb hby at_147) rfl ((if0 _ _).trans (teq (by decide)).1) (by decide) (by decide) ?_
      exact castTop (by first | rfl | (simp only []; first | done | rfl)) kt
    have O129 : Old Z n0 T113.heap := (O112.keep K113 (allS (Nat.le_trans Z0 (Nat.le_trans (Nat.le_trans (Nat.le_trans (Nat.le_trans (Nat.le_trans K101.1 K103.1) K105.1) K107.1) K109.1) (Nat.le_of_eq g110.symm))) all0))
    obtain ⟨_, _, ⟨T130, L130, k130, n130⟩, -, X130', hS130', hgr130, ⟨Lc130, hQ130, l130, y130, z130⟩, st130⟩ := callSS X120 hx (y := yn41) hown0 (mvT hZ0 (w39 hw)) (mvT hZ0 (w40 hw)) (mvT hZ0 (w41 hw)) (mvT hZ0 (w42 hw)) (by decide) (backOfS (W := 0) (rm_after0 l Z a0 hw [] b110 t_114 kb_115 q0 q1 q2 q3 cS fm T113.heap n0 (Nat.le_trans Z0 (Nat.le_trans (Nat.le_trans (Nat.le_trans (Nat.le_trans (Nat.le_trans (Nat.le_trans K101.1 K103.1) K105.1) K107.1) K109.1) K110.1) K113.1)) O129 S_cs hcS S_fm hfm P113_1) hZ0 (w42 hw) (w41 hw) (by decide) (by decide)) (g := (mkF m 163 #[.val (.int a), .val (.int b), .val (.int d), .val (.int e0_), .val (.int n), .val (.ref b101), .val (.ref b110), .val (.int (0 : Int32)), .val (.int (0 : Int32)), .val (.int (0 : Int32)), .val (.int (0 : Int32)), .val (.int (0 : Int32)), .val (.int (1 : Int32)), .val (.int (0 : Int32)), .unset] [(.int (0 : Int32)), (.ref b110)])) rfl (by rw [hml]; rfl) (argsL := [(.ref b110), (.int (0 : Int32))]) (rest := []) (lenOf pd__28_Ljava_2f_lang_2f_String_3b_I_29_Lcom_2f_example_2f_vestline_2f_vestline_2f_input_2f_TextPosition_3b_ rfl) rfl (by show 2 * 0 + _ ≤ _; exact Nat.le_of_eq rfl) (hb hby at_163) (fun _ _ => ⟨rfl, eq120, (Nat.le_of_ble_eq_true rfl), (Nat.le_of_ble_eq_true rfl)⟩)
    dsimp only [Pt.U, Pt.locs, Pt.cells, Pt.slots] at X130' hS130' hgr130 l130 y130 z130 st130 hQ130
    subst l130 y130 z130
    obtain ⟨X130, hS130, hZ130, hown130⟩ := rebS hS0 (by rw [eq120]; exact (Nat.le_trans hk0 (Nat.le_trans (Nat.le_trans (Nat.le_trans (Nat.le_trans (Nat.le_trans (Nat.le_trans K101.1 K103.1) K105.1) K107.1) K109.1) K110.1) K113.1))) X130' hS130' hgr130 hZ0 hown0
    obtain ⟨r_131, rfl, Nq130, K130, P130_0, P130_1, P130_2, P130_3⟩ := hQ130
    have N130 := Fr.app N120 Nq130
    have hk130 : T130.heap.size ≤ T130.heap.size := Nat.le_refl _
    obtain ⟨cq132, kq132, q132a, q132b, q132c⟩ := isOf hZ130 rfl P130_1
    obtain ⟨_, _, ⟨T132, L132, k132, n132⟩, -, X132, ⟨Lc132, hQ132, l132, y132, z132⟩, st132⟩ := X130.virtualBack hx (y := yn39) (z := yn39) hown130 (mvT hZ130 (w93 hw)) (mvT hZ130 (w94 hw)) (notFace_of_selects (args := #[]) (mvT hZ130 (w96 hw))) (mvT hZ130 (w96 hw)) (mvT hZ130 (w95 hw)) (by decide) (backOf (W := 0) (rm_line l Z a0 hw [] r_131 (1 : Int32) T130.heap n0 (Nat.le_trans Z0 (Nat.le_trans (Nat.le_trans (Nat.le_trans (Nat.le_trans (Nat.le_trans (Nat.le_trans (Nat.le_trans K101.1 K103.1) K105.1) K107.1) K109.1) K110.1) K113.1) K130.1)) P130_2) hZ130 (w97 hw) (w41 hw) (by decide) (by decide)) q132a q132c (g := (mkF m 170 #[.val (.int a), .val (.int b), .val (.int d), .val (.int e0_), .val (.int n), .val (.ref b101), .val (.ref b110), .val (.int (0 : Int32)), .val (.int (0 : Int32)), .val (.int (0 : Int32)), .val (.int (0 : Int32)), .val (.int (0 : Int32)), .val (.int (1 : Int32)), .val (.int (0 : Int32)), .val (.ref r_131)] [(.ref r_131)])) rfl (by rw [hml]; rfl) (Steps.refl _) (argsL := []) (rest := []) (lenOf pd__28__29_I rfl) rfl (by show 2 * 0 + _ ≤ _; exact Nat.le_of_eq rfl) (hb hby at_170) (fun _ _ => ⟨rfl, rfl, (Nat.le_of_ble_eq_true rfl), (Nat.le_of_ble_eq_true rfl)⟩)
    dsimp only [Pt.U, Pt.locs, Pt.cells, Pt.slots] at X132 l132 y132 z132 st132 hQ132
    subst l132 y132 z132
    obtain ⟨rfl, Nq132, eq132⟩ := hQ132
    have N132 := Fr.app N130 Nq132
    obtain ⟨cq133, kq133, q133a, q133b, q133c⟩ := isOf hZ130 eq132 P130_1
    obtain ⟨_, _, ⟨T133, L133, k133, n133⟩, -, X133, ⟨Lc133, hQ133, l133, y133, z133⟩, st133⟩ := X132.virtualBack hx (y := yn40) (z := yn40) hown130 (mvT hZ130 (w98 hw)) (mvT hZ130 (w99 hw)) (notFace_of_selects (args := #[]) (mvT hZ130 (w101 hw))) (mvT hZ130 (w101 hw)) (mvT hZ130 (w100 hw)) (by decide) (backOf (W := 0) (rm_character l Z a0 hw [] r_131 (0 : Int32) T130.heap n0 (Nat.le_trans Z0 (Nat.le_trans (Nat.le_trans (Nat.le_trans (Nat.le_trans (Nat.le_trans (Nat.le_trans (Nat.le_trans K101.1 K103.1) K105.1) K107.1) K109.1) K110.1) K113.1) K130.1)) P130_3) hZ130 (w102 hw) (w41 hw) (by decide) (by decide)) q133a q133c (g := (mkF m 180 #[.val (.int a), .val (.int b), .val (.int d), .val (.int e0_), .val (.int n), .val (.ref b101), .val (.ref b110), .val (.int (0 : Int32)), .val (.int (0 : Int32)), .val (.int (0 : Int32)), .val (.int (0 : Int32)), .val (.int (0 : Int32)), .val (.int (1 : Int32)), .val (.int (0 : Int32)), .val (.ref r_131)] [(.ref r_131)])) rfl (by rw [hml]; rfl) (Steps.refl _) (argsL := []) (rest := []) (lenOf pd__28__29_I rfl) rfl (by show 2 * 0 + _ ≤ _; exact Nat.le_of_eq rfl) (hb hby at_180) (fun _ _ => ⟨rfl, eq132, (Nat.le_of_ble_eq_true rfl), (Nat.le_of_ble_eq_true rfl)⟩)
    dsimp only [Pt.U, Pt.locs, Pt.cells, Pt.slots] at X133 l133 y133 z133 st133 hQ133
    subst l133 y133 z133
    obtain ⟨rfl, Nq133, eq133⟩ := hQ133
    have N133 := Fr.app N132 Nq133
    have W134 : ∀ zQ, SS p e below T133 m 196 #[.val (.int a), .val (.int b), .val (.int d), .val (.int e0_), .val (.int n), .val (.ref b101), .val (.ref b110), .val (.int (0 : Int32)), .val (.int (0 : Int32)), .val (.int (0 : Int32)), .val (.int (0 : Int32)), .val (.int (0 : Int32)), .val (.int (1 : Int32)), .val (.int (0 : Int32)), .val (.ref r_131)] [(.int (1 : Int32))] zQ → Steps p.tables e below (s₁.setTop (entryFrame m #[(.int a), (.int b), (.int d), (.int e0_), (.int n)] maxLocals)) zQ := by
      intro tt kt
      refine W128 tt ?_
      refine XS.aload X120.here hx rfl (hb hby at_159) rfl rfl ?_
      refine XS.iload X120.here hx rfl (hb hby at_161) rfl ?_
      show SS p e below T120 m 163 #[.val (.int a), .val (.int b), .val (.int d), .val (.int e0_), .val (.int n), .val (.ref b101), .val (.ref b110), .val (.int (0 : Int32)), .val (.int (0 : Int32)), .val (.int (0 : Int32)), .val (.int (0 : Int32)), .val (.int (0 : Int32)), .val (.int (1 : Int32)), .val (.int (0 : Int32)), .unset] [(.int (0 : Int32)), (.ref b110)] _
      refine st130.trans ?_
      refine XS.astore X130.here hx rfl (hb hby at_166) rfl rfl (l' := #[.val (.int a), .val (.int b), .val (.int d), .val (.int e0_), .val (.int n), .val (.ref b101), .val (.ref b110), .val (.int (0 : Int32)), .val (.int (0 : Int32)), .val (.int (0 : Int32)), .val (.int (0 : Int32)), .val (.int (0 : Int32)), .val (.int (1 : Int32)), .val (.int (0 : Int32)), .val (.ref r_131)]) rfl ?_
      refine XS.aload X130.here hx rfl (hb hby at_168) rfl rfl ?_
      show SS p e below T130 m 170 #[.val (.int a), .val (.int b), .val (.int d), .val (.int e0_), .val (.int n), .val (.ref b101), .val (.ref b110), .val (.int (0 : Int32)), .val (.int (0 : Int32)), .val (.int (0 : Int32)), .val (.int (0 : Int32)), .val (.int (0 : Int32)), .val (.int (1 : Int32)), .val (.int (0 : Int32)), .val (.ref r_131)] [(.ref r_131)] _
      refine st132.trans ?_
      refine XS.iload X132.here hx rfl (hb hby at_173) rfl ?_
      refine XS.icmpNo X132.here hx rfl (hb hby at_175) rfl (teq (by decide)).2 ?_
      refine XS.aload X132.here hx rfl (hb hby at_178) rfl rfl ?_
      show SS p e below T132 m 180 #[.val (.int a), .val (.int b), .val (.int d), .val (.int e0_), .val (.int n), .val (.ref b101), .val (.ref b110), .val (.int (0 : Int32)), .val (.int (0 : Int32)), .val (.int (0 : Int32)), .val (.int (0 : Int32)), .val (.int (0 : Int32)), .val (.int (1 : Int32)), .val (.int (0 : Int32)), .val (.ref r_131)] [(.ref r_131)] _
      refine st133.trans ?_
      refine XS.iload X133.here hx rfl (hb hby at_183) rfl ?_
      refine XS.iload X133.here hx rfl (hb hby at_185) rfl ?_
      refine XS.isub X133.here hx rfl (hb hby at_187) rfl ?_
      refine XS.icmpNo X133.here hx rfl (hb hby at_188) rfl (teq (by decide)).2 ?_
      refine XS.iconst X133.here hx rfl (hb hby at_191) ?_
      show SS p e below T133 m 192 #[.val (.int a), .val (.int b), .val (.int d), .val (.int e0_), .val (.int n), .val (.ref b101), .val (.ref b110), .val (.int (0 : Int32)), .val (.int (0 : Int32)), .val (.int (0 : Int32)), .val (.int (0 : Int32)), .val (.int (0 : Int32)), .val (.int (1 : Int32)), .val (.int (0 : Int32)), .val (.ref r_131)] [(.int (1 : Int32))] _
      refine XS.goto X133.here hx rfl (pc0 := 192) (pc' := 196) rfl (hb hby at_192) (by decide) (by decide) ?_
      exact kt
    obtain ⟨fs, hr, hrun, hended, hRW⟩ := Jvm.Stand.leaveW X133 hS130 (by rw [eq133]; exact hk130) (v := some (.int (nar .boolean (1 : Int32)))) (fun h => by rw [Bd.returns] at h; cases h) (BodyLoose.notSynchronized Bd)
    refine ⟨_, _, W134 _ (retN X133 hx (t := .boolean) Bd.returns (by simp) (hb hby at_196) hr), hrun, hended, _, _, rfl, ?_, own_rw hRW (by decide) (by decide)⟩
    show Q_law Z a b d e0_ n cS fm h0 n0 _ T133.heap _
    rw [eq133]
    exact ⟨rfl, N133, (Keep.trans (Keep.trans (Keep.trans (Keep.trans (Keep.trans (Keep.trans (Keep.trans (Keep.trans (Keep.refl h0 []) K101 all0) K103 (allS (Or.inr (Nat.le_of_eq g101.symm)) all0)) K105 (allS (Or.inr (Nat.le_of_eq g101.symm)) all0)) K107 (allS (Or.inr (Nat.le_of_eq g101.symm)) all0)) K109 (allS (Or.inr (Nat.le_of_eq g101.symm)) all0)) K110 all0) K113 (allS (Or.inr (Nat.le_trans (Nat.le_trans (Nat.le_trans (Nat.le_trans (Nat.le_trans K101.1 K103.1) K105.1) K107.1) K109.1) (Nat.le_of_eq g110.symm))) all0)) K130 all0)⟩
  ·
    have F135 : Arv Z T113.heap b101 k101 .char (4 : Int32) [(.int q0), (.int q1), (.int q2), (.int q3)] (.int (0 : Int32)) := (F111.keep K113 (ninS (Nat.ne_of_lt (Nat.lt_of_lt_of_le (Nat.lt_of_lt_of_le G101.lt (Nat.le_trans (Nat.le_trans (Nat.le_trans K103.1 K105.1) K107.1) K109.1)) (Nat.le_of_eq g110.symm))) nin0))
    obtain ⟨_, _, ⟨T136, L136, k136, n136⟩, -, X136, ⟨Lc136, hQ136, l136, y136, z136⟩, st136⟩ := Jvm.LawKit.callS X113 hx (y := yn42) hown0 (mvT hZ0 (w36 hw)) (mvT hZ0 (w37 hw)) (mvT hZ0 (w3 hw)) (mvT hZ0 (w38 hw)) (by decide) (backOf (W := 0) (rm_endsYes l Z a0 hw [] b101 0 1 k101 [q0, q1, q2, q3] T113.heap n0 (Nat.le_trans Z0 (Nat.le_trans (Nat.le_trans (Nat.le_trans (Nat.le_trans (Nat.le_trans (Nat.le_trans K101.1 K103.1) K105.1) K107.1) K109.1) K110.1) K113.1)) F135 (Nat.le_of_ble_eq_true rfl) (Nat.le_of_ble_eq_true rfl) (Nat.le_of_ble_eq_true rfl)) hZ0 (w38 hw) (w3 hw) (by decide) (by decide)) (g := (mkF m 62 #[.val (.int a), .val (.int b), .val (.int d), .val (.int e0_), .val (.int n), .val (.ref b101), .val (.ref b110), .val (.int (1 : Int32)), .unset, .unset, .unset, .unset, .unset, .unset, .unset] [(.int (1 : Int32)), (.int (0 : Int32)), (.ref b101)])) rfl (by rw [hml]; rfl) (argsL := [(.ref b101), (.int (0 : Int32)), (.int (1 : Int32))]) (rest := []) (lenOf pd__28__5b_CII_29_Z rfl) rfl (by show 2 * 0 + _ ≤ _; exact Nat.le_of_eq rfl) (hb hby at_62) (fun _ _ => ⟨rfl, rfl, (Nat.le_of_ble_eq_true rfl), (Nat.le_of_ble_eq_true rfl)⟩)
    dsimp only [Pt.U, Pt.locs, Pt.cells, Pt.slots] at X136 l136 y136 z136 st136 hQ136
    subst l136 y136 z136
    obtain ⟨rfl, Nq136, eq136⟩ := hQ136
    have N136 := Fr.app N113 Nq136
    obtain ⟨_, _, ⟨T137, L137, k137, n137⟩, -, X137, ⟨Lc137, hQ137, l137, y137, z137⟩, st137⟩ := Jvm.LawKit.callS X136 hx (y := yn42) hown0 (mvT hZ0 (w36 hw)) (mvT hZ0 (w37 hw)) (mvT hZ0 (w3 hw)) (mvT hZ0 (w38 hw)) (by decide) (backOf (W := 0) (rm_endsNo l Z a0 hw [] b101 (1 : Int32) (1 : Int32) T113.heap n0 (Nat.le_trans Z0 (Nat.le_trans (Nat.le_trans (Nat.le_trans (Nat.le_trans (Nat.le_trans (Nat.le_trans K101.1 K103.1) K105.1) K107.1) K109.1) K110.1) K113.1)) (by decide : ¬ ((1 : Int32) < (1 : Int32)))) hZ0 (w38 hw) (w3 hw) (by decide) (by decide)) (g := (mkF m 72 #[.val (.int a), .val (.int b), .val (.int d), .val (.int e0_), .val (.int n), .val (.ref b101), .val (.ref b110), .val (.int (1 : Int32)), .val (.int (ek 1 0 q0 q1 q2 q3)), .unset, .unset, .unset, .unset, .unset, .unset] [(.int (1 : Int32)), (.int (1 : Int32)), (.ref b101)])) rfl (by rw [hml]; rfl) (argsL := [(.ref b101), (.int (1 : Int32)), (.int (1 : Int32))]) (rest := []) (lenOf pd__28__5b_CII_29_Z rfl) rfl (by show 2 * 0 + _ ≤ _; exact Nat.le_of_eq rfl) (hb hby at_72) (fun _ _ => ⟨rfl, eq136, (Nat.le_of_ble_eq_true rfl), (Nat.le_of_ble_eq_true rfl)⟩)
    dsimp only [Pt.U, Pt.locs, Pt.cells, Pt.slots] at X137 l137 y137 z137 st137 hQ137
    subst l137 y137 z137
    obtain ⟨rfl, Nq137, eq137⟩ := hQ137
    have N137 := Fr.app N136 Nq137
    obtain ⟨_, _, ⟨T138, L138, k138, n138⟩, -, X138, ⟨Lc138, hQ138, l138, y138, z138⟩, st138⟩ := Jvm.LawKit.callS X137 hx (y := yn42) hown0 (mvT hZ0 (w36 hw)) (mvT hZ0 (w37 hw)) (mvT hZ0 (w3 hw)) (mvT hZ0 (w38 hw)) (by decide) (backOf (W := 0) (rm_endsNo l Z a0 hw [] b101 (2 : Int32) (1 : Int32) T113.heap n0 (Nat.le_trans Z0 (Nat.le_trans (Nat.le_trans (Nat.le_trans (Nat.le_trans (Nat.le_trans (Nat.le_trans K101.1 K103.1) K105.1) K107.1) K109.1) K110.1) K113.1)) (by decide : ¬ ((2 : Int32) < (1 : Int32)))) hZ0 (w38 hw) (w3 hw) (by decide) (by decide)) (g := (mkF m 82 #[.val (.int a), .val (.int b), .val (.int d), .val (.int e0_), .val (.int n), .val (.ref b101), .val (.ref b110), .val (.int (1 : Int32)), .val (.int (ek 1 0 q0 q1 q2 q3)), .val (.int (0 : Int32)), .unset, .unset, .unset, .unset, .unset] [(.int (1 : Int32)), (.int (2 : Int32)), (.ref b101)])) rfl (by rw [hml]; rfl) (argsL := [(.ref b101), (.int (2 : Int32)), (.int (1 : Int32))]) (rest := []) (lenOf pd__28__5b_CII_29_Z rfl) rfl (by show 2 * 0 + _ ≤ _; exact Nat.le_of_eq rfl) (hb hby at_82) (fun _ _ => ⟨rfl, eq137, (Nat.le_of_ble_eq_true rfl), (Nat.le_of_ble_eq_true rfl)⟩)
    dsimp only [Pt.U, Pt.locs, Pt.cells, Pt.slots] at X138 l138 y138 z138 st138 hQ138
    subst l138 y138 z138
    obtain ⟨rfl, Nq138, eq138⟩ := hQ138
    have N138 := Fr.app N137 Nq138
    obtain ⟨_, _, ⟨T139, L139, k139, n139⟩, -, X139, ⟨Lc139, hQ139, l139, y139, z139⟩, st139⟩ := Jvm.LawKit.callS X138 hx (y := yn42) hown0 (mvT hZ0 (w36 hw)) (mvT hZ0 (w37 hw)) (mvT hZ0 (w3 hw)) (mvT hZ0 (w38 hw)) (by decide) (backOf (W := 0) (rm_endsNo l Z a0 hw [] b101 (3 : Int32) (1 : Int32) T113.heap n0 (Nat.le_trans Z0 (Nat.le_trans (Nat.le_trans (Nat.le_trans (Nat.le_trans (Nat.le_trans (Nat.le_trans K101.1 K103.1) K105.1) K107.1) K109.1) K110.1) K113.1)) (by decide : ¬ ((3 : Int32) < (1 : Int32)))) hZ0 (w38 hw) (w3 hw) (by decide) (by decide)) (g := (mkF m 92 #[.val (.int a), .val (.int b), .val (.int d), .val (.int e0_), .val (.int n), .val (.ref b101), .val (.ref b110), .val (.int (1 : Int32)), .val (.int (ek 1 0 q0 q1 q2 q3)), .val (.int (0 : Int32)), .val (.int (0 : Int32)), .unset, .unset, .unset, .unset] [(.int (1 : Int32)), (.int (3 : Int32)), (.ref b101)])) rfl (by rw [hml]; rfl) (argsL := [(.ref b101), (.int (3 : Int32)), (.int (1 : Int32))]) (rest := []) (lenOf pd__28__5b_CII_29_Z rfl) rfl (by show 2 * 0 + _ ≤ _; exact Nat.le_of_eq rfl) (hb hby at_92) (fun _ _ => ⟨rfl, eq138, (Nat.le_of_ble_eq_true rfl), (Nat.le_of_ble_eq_true rfl)⟩)
    dsimp only [Pt.U, Pt.locs, Pt.cells, Pt.slots] at X139 l139 y139 z139 st139 hQ139
    subst l139 y139 z139
    obtain ⟨rfl, Nq139, eq139⟩ := hQ139
    have N139 := Fr.app N138 Nq139
    have W140 : ∀ zQ, SS p e below T139 m 105 #[.val (.int a), .val (.int b), .val (.int d), .val (.int e0_), .val (.int n), .val (.ref b101), .val (.ref b110), .val (.int (1 : Int32)), .val (.int (ek 1 0 q0 q1 q2 q3)), .val (.int (0 : Int32)), .val (.int (0 : Int32)), .val (.int (0 : Int32)), .val (.int (1 : Int32)), .val (.int (0 : Int32)), .unset] [(.int (ek 1 0 q0 q1 q2 q3))] zQ → Steps p.tables e below (s₁.setTop (entryFrame m #[(.int a), (.int b), (.int d), (.int e0_), (.int n)] maxLocals)) zQ := by
      intro tt kt
      refine W116 tt ?_
      refine XS.istore X113.here hx rfl (hb hby at_55) rfl (l' := #[.val (.int a), .val (.int b), .val (.int d), .val (.int e0_), .val (.int n), .val (.ref b101), .val (.ref b110), .val (.int (1 : Int32)), .unset, .unset, .unset, .unset, .unset, .unset, .unset]) rfl ?_
      refine XS.aload X113.here hx rfl (hb hby at_57) rfl rfl ?_
      refine XS.iconst X113.here hx rfl (hb hby at_59) ?_
      refine XS.iload X113.here hx rfl (hb hby at_60) rfl ?_
      show SS p e below T113 m 62 #[.val (.int a), .val (.int b), .val (.int d), .val (.int e0_), .val (.int n), .val (.ref b101), .val (.ref b110), .val (.int (1 : Int32)), .unset, .unset, .unset, .unset, .unset, .unset, .unset] [(.int (1 : Int32)), (.int (0 : Int32)), (.ref b101)] _
      refine st136 _ ?_
      show SS p e below T136 m 65 #[.val (.int a), .val (.int b), .val (.int d), .val (.int e0_), .val (.int n), .val (.ref b101), .val (.ref b110), .val (.int (1 : Int32)), .unset, .unset, .unset, .unset, .unset, .unset, .unset] [(.int (el (([q0, q1, q2, q3].drop 0).take 1) 0))] _
      rw [show (el (([q0, q1, q2, q3].drop 0).take 1) 0) = (ek 1 0 q0 q1 q2 q3) from rfl]
      refine XS.istore X136.here hx rfl (hb hby at_65) rfl (l' := #[.val (.int a), .val (.int b), .val (.int d), .val (.int e0_), .val (.int n), .val (.ref b101), .val (.ref b110), .val (.int (1 : Int32)), .val (.int (ek 1 0 q0 q1 q2 q3)), .unset, .unset, .unset, .unset, .unset, .unset]) rfl ?_
      refine XS.aload X136.here hx rfl (hb hby at_67) rfl rfl ?_
      refine XS.iconst X136.here hx rfl (hb hby at_69) ?_
      refine XS.iload X136.here hx rfl (hb hby at_70) rfl ?_
      show SS p e below T136 m 72 #[.val (.int a), .val (.int b), .val (.int d), .val (.int e0_), .val (.int n), .val (.ref b101), .val (.ref b110), .val (.int (1 : Int32)), .val (.int (ek 1 0 q0 q1 q2 q3)), .unset, .unset, .unset, .unset, .unset, .unset] [(.int (1 : Int32)), (.int (1 : Int32)), (.ref b101)] _
      refine st137 _ ?_
      refine XS.istore X137.here hx rfl (hb hby at_75) rfl (l' := #[.val (.int a), .val (.int b), .val (.int d), .val (.int e0_), .val (.int n), .val (.ref b101), .val (.ref b110), .val (.int (1 : Int32)), .val (.int (ek 1 0 q0 q1 q2 q3)), .val (.int (0 : Int32)), .unset, .unset, .unset, .unset, .unset]) rfl ?_
      refine XS.aload X137.here hx rfl (hb hby at_77) rfl rfl ?_
      refine XS.iconst X137.here hx rfl (hb hby at_79) ?_
      refine XS.iload X137.here hx rfl (hb hby at_80) rfl ?_
      show SS p e below T137 m 82 #[.val (.int a), .val (.int b), .val (.int d), .val (.int e0_), .val (.int n), .val (.ref b101), .val (.ref b110), .val (.int (1 : Int32)), .val (.int (ek 1 0 q0 q1 q2 q3)), .val (.int (0 : Int32)), .unset, .unset, .unset, .unset, .unset] [(.int (1 : Int32)), (.int (2 : Int32)), (.ref b101)] _
      refine st138 _ ?_
      refine XS.istore X138.here hx rfl (hb hby at_85) rfl (l' := #[.val (.int a), .val (.int b), .val (.int d), .val (.int e0_), .val (.int n), .val (.ref b101), .val (.ref b110), .val (.int (1 : Int32)), .val (.int (ek 1 0 q0 q1 q2 q3)), .val (.int (0 : Int32)), .val (.int (0 : Int32)), .unset, .unset, .unset, .unset]) rfl ?_
      refine XS.aload X138.here hx rfl (hb hby at_87) rfl rfl ?_
      refine XS.iconst X138.here hx rfl (hb hby at_89) ?_
      refine XS.iload X138.here hx rfl (hb hby at_90) rfl ?_
      show SS p e below T138 m 92 #[.val (.int a), .val (.int b), .val (.int d), .val (.int e0_), .val (.int n), .val (.ref b101), .val (.ref b110), .val (.int (1 : Int32)), .val (.int (ek 1 0 q0 q1 q2 q3)), .val (.int (0 : Int32)), .val (.int (0 : Int32)), .unset, .unset, .unset, .unset] [(.int (1 : Int32)), (.int (3 : Int32)), (.ref b101)] _
      refine st139 _ ?_
      refine XS.istore X139.here hx rfl (hb hby at_95) rfl (l' := #[.val (.int a), .val (.int b), .val (.int d), .val (.int e0_), .val (.int n), .val (.ref b101), .val (.ref b110), .val (.int (1 : Int32)), .val (.int (ek 1 0 q0 q1 q2 q3)), .val (.int (0 : Int32)), .val (.int (0 : Int32)), .val (.int (0 : Int32)), .unset, .unset, .unset]) rfl ?_
      refine XS.iconst X139.here hx rfl (hb hby at_97) ?_
      refine XS.istore X139.here hx rfl (hb hby at_98) rfl (l' := #[.val (.int a), .val (.int b), .val (.int d), .val (.int e0_), .val (.int n), .val (.ref b101), .val (.ref b110), .val (.int (1 : Int32)), .val (.int (ek 1 0 q0 q1 q2 q3)), .val (.int (0 : Int32)), .val (.int (0 : Int32)), .val (.int (0 : Int32)), .val (.int (1 : Int32)), .unset, .unset]) rfl ?_
      refine XS.iconst X139.here hx rfl (hb hby at_100) ?_
      refine XS.istore X139.here hx rfl (hb hby at_101) rfl (l' := #[.val (.int a), .val (.int b), .val (.int d), .val (.int e0_), .val (.int n), .val (.ref b101), .val (.ref b110), .val (.int (1 : Int32)), .val (.int (ek 1 0 q0 q1 q2 q3)), .val (.int (0 : Int32)), .val (.int (0 : Int32)), .val (.int (0 : Int32)), .val (.int (1 : Int32)), .val (.int (0 : Int32)), .unset]) rfl ?_
      show SS p e below T139 m 103 #[.val (.int a), .val (.int b), .val (.int d), .val (.int e0_), .val (.int n), .val (.ref b101), .val (.ref b110), .val (.int (1 : Int32)), .val (.int (ek 1 0 q0 q1 q2 q3)), .val (.int (0 : Int32)), .val (.int (0 : Int32)), .val (.int (0 : Int32)), .val (.int (1 : Int32)), .val (.int (0 : Int32)), .unset] [] _
      refine XS.iload X139.here hx rfl (hb hby at_103) rfl ?_
      exact kt
    have W142 : ∀ zQ, SS p e below T139 m 117 #[.val (.int a), .val (.int b), .val (.int d), .val (.int e0_), .val (.int n), .val (.ref b101), .val (.ref b110), .val (.int (1 : Int32)), .val (.int (ek 1 0 q0 q1 q2 q3)), .val (.int (0 : Int32)), .val (.int (0 : Int32)), .val (.int (0 : Int32)), .val (.int (if (ek 1 0 q0 q1 q2 q3) = (0 : Int32) then (1 : Int32) else (2 : Int32))), .val (.int (if (ek 1 0 q0 q1 q2 q3) = (0 : Int32) then (0 : Int32) else (1 : Int32))), .unset] [] zQ → Steps p.tables e below (s₁.setTop (entryFrame m #[(.int a), (.int b), (.int d), (.int e0_), (.int n)] maxLocals)) zQ := by
      intro tt kt
      refine W140 tt ?_
      by_cases hj141 : (ek 1 0 q0 q1 q2 q3) = (0 : Int32)
      ·
        refine XS.ifYes X139.here hx rfl (pc0 := 105) (pc' := 117) rfl (hb hby at_105) rfl ((if0 _ _).trans (teq hj141).1) (by decide) (by decide) ?_
        exact castTop (by first | rfl | (simp only [if_pos hj141]; first | done | rfl)) kt
      ·
        refine XS.ifNo X139.here hx rfl (hb hby at_105) rfl ((if0 _ _).trans (feq hj141).1) ?_
        refine XS.iload X139.here hx rfl (hb hby at_108) rfl ?_
        refine XS.iconst X139.here hx rfl (hb hby at_110) ?_
        refine XS.iadd X139.here hx rfl (hb hby at_111) rfl ?_
        refine XS.istore X139.here hx rfl (hb hby at_112) rfl (l' := #[.val (.int a), .val (.int b), .val (.int d), .val (.int e0_), .val (.int n), .val (.ref b101), .val (.ref b110), .val (.int (1 : Int32)), .val (.int (ek 1 0 q0 q1 q2 q3)), .val (.int (0 : Int32)), .val (.int (0 : Int32)), .val (.int (0 : Int32)), .val (.int (2 : Int32)), .val (.int (0 : Int32)), .unset]) rfl ?_
        refine XS.iconst X139.here hx rfl (hb hby at_114) ?_
        show SS p e below T139 m 115 #[.val (.int a), .val (.int b), .val (.int d), .val (.int e0_), .val (.int n), .val (.ref b101), .val (.ref b110), .val (.int (1 : Int32)), .val (.int (ek 1 0 q0 q1 q2 q3)), .val (.int (0 : Int32)), .val (.int (0 : Int32)), .val (.int (0 : Int32)), .val (.int (2 : Int32)), .val (.int (0 : Int32)), .unset] [(.int (1 : Int32))] _
        refine XS.istore X139.here hx rfl (hb hby at_115) rfl (l' := #[.val (.int a), .val (.int b), .val (.int d), .val (.int e0_), .val (.int n), .val (.ref b101), .val (.ref b110), .val (.int (1 : Int32)), .val (.int (ek 1 0 q0 q1 q2 q3)), .val (.int (0 : Int32)), .val (.int (0 : Int32)), .val (.int (0 : Int32)), .val (.int (2 : Int32)), .val (.int (1 : Int32)), .unset]) rfl ?_
        exact castTop (by first | rfl | (simp only [if_neg hj141]; first | done | rfl)) kt
    have W143 : ∀ zQ, SS p e below T139 m 119 #[.val (.int a), .val (.int b), .val (.int d), .val (.int e0_), .val (.int n), .val (.ref b101), .val (.ref b110), .val (.int (1 : Int32)), .val (.int (ek 1 0 q0 q1 q2 q3)), .val (.int (0 : Int32)), .val (.int (0 : Int32)), .val (.int (0 : Int32)), .val (.int (ln 1 q0 q1 q2 q3 1)), .val (.int (lo 1 q0 q1 q2 q3 1)), .unset] [(.int (0 : Int32))] zQ → Steps p.tables e below (s₁.setTop (entryFrame m #[(.int a), (.int b), (.int d), (.int e0_), (.int n)] maxLocals)) zQ := by
      intro tt kt
      refine W142 tt ?_
      rw [show (if (ek 1 0 q0 q1 q2 q3) = (0 : Int32) then (1 : Int32) else (2 : Int32)) = (ln 1 q0 q1 q2 q3 1) from rfl]
      show SS p e below T139 m 117 #[.val (.int a), .val (.int b), .val (.int d), .val (.int e0_), .val (.int n), .val (.ref b101), .val (.ref b110), .val (.int (1 : Int32)), .val (.int (ek 1 0 q0 q1 q2 q3)), .val (.int (0 : Int32)), .val (.int (0 : Int32)), .val (.int (0 : Int32)), .val (.int (ln 1 q0 q1 q2 q3 1)), .val (.int (if (ek 1 0 q0 q1 q2 q3) = (0 : Int32) then (0 : Int32) else (1 : Int32))), .unset] [] _
      rw [show (if (ek 1 0 q0 q1 q2 q3) = (0 : Int32) then (0 : Int32) else (1 : Int32)) = (lo 1 q0 q1 q2 q3 1) from rfl]
      refine XS.iload X139.here hx rfl (hb hby at_117) rfl ?_
      exact kt
    have W144 : ∀ zQ, SS p e below T139 m 131 #[.val (.int a), .val (.int b), .val (.int d), .val (.int e0_), .val (.int n), .val (.ref b101), .val (.ref b110), .val (.int (1 : Int32)), .val (.int (ek 1 0 q0 q1 q2 q3)), .val (.int (0 : Int32)), .val (.int (0 : Int32)), .val (.int (0 : Int32)), .val (.int (ln 1 q0 q1 q2 q3 1)), .val (.int (lo 1 q0 q1 q2 q3 1)), .unset] [] zQ → Steps p.tables e below (s₁.setTop (entryFrame m #[(.int a), (.int b), (.int d), (.int e0_), (.int n)] maxLocals)) zQ := by
      intro tt kt
      refine W143 tt ?_
      refine XS.ifYes X139.here hx rfl (pc0 := 119) (pc' := 131) rfl (hb hby at_119) rfl ((if0 _ _).trans (teq (by decide)).1) (by decide) (by decide) ?_
      exact castTop (by first | rfl | (simp only []; first | done | rfl)) kt
    have W145 : ∀ zQ, SS p e below T139 m 133 #[.val (.int a), .val (.int b), .val (.int d), .val (.int e0_), .val (.int n), .val (.ref b101), .val (.ref b110), .val (.int (1 : Int32)), .val (.int (ek 1 0 q0 q1 q2 q3)), .val (.int (0 : Int32)), .val (.int (0 : Int32)), .val (.int (0 : Int32)), .val (.int (ln 1 q0 q1 q2 q3 1)), .val (.int (lo 1 q0 q1 q2 q3 1)), .unset] [(.int (0 : Int32))] zQ → Steps p.tables e below (s₁.setTop (entryFrame m #[(.int a), (.int b), (.int d), (.int e0_), (.int n)] maxLocals)) zQ := by
      intro tt kt
      refine W144 tt ?_
      refine XS.iload X139.here hx rfl (hb hby at_131) rfl ?_
      exact kt
    have W146 : ∀ zQ, SS p e below T139 m 145 #[.val (.int a), .val (.int b), .val (.int d), .val (.int e0_), .val (.int n), .val (.ref b101), .val (.ref b110), .val (.int (1 : Int32)), .val (.int (ek 1 0 q0 q1 q2 q3)), .val (.int (0 : Int32)), .val (.int (0 : Int32)), .val (.int (0 : Int32)), .val (.int (ln 1 q0 q1 q2 q3 1)), .val (.int (lo 1 q0 q1 q2 q3 1)), .unset] [] zQ → Steps p.tables e below (s₁.setTop (entryFrame m #[(.int a), (.int b), (.int d), (.int e0_), (.int n)] maxLocals)) zQ := by
      intro tt kt
      refine W145 tt ?_
      refine XS.ifYes X139.here hx rfl (pc0 := 133) (pc' := 145) rfl (hb hby at_133) rfl ((if0 _ _).trans (teq (by decide)).1) (by decide) (by decide) ?_
      exact castTop (by first | rfl | (simp only []; first | done | rfl)) kt
    have W147 : ∀ zQ, SS p e below T139 m 147 #[.val (.int a), .val (.int b), .val (.int d), .val (.int e0_), .val (.int n), .val (.ref b101), .val (.ref b110), .val (.int (1 : Int32)), .val (.int (ek 1 0 q0 q1 q2 q3)), .val (.int (0 : Int32)), .val (.int (0 : Int32)), .val (.int (0 : Int32)), .val (.int (ln 1 q0 q1 q2 q3 1)), .val (.int (lo 1 q0 q1 q2 q3 1)), .unset] [(.int (0 : Int32))] zQ → Steps p.tables e below (s₁.setTop (entryFrame m #[(.int a), (.int b), (.int d), (.int e0_), (.int n)] maxLocals)) zQ := by
      intro tt kt
      refine W146 tt ?_
      refine XS.iload X139.here hx rfl (hb hby at_145) rfl ?_
      exact kt
    have W148 : ∀ zQ, SS p e below T139 m 159 #[.val (.int a), .val (.int b), .val (.int d), .val (.int e0_), .val (.int n), .val (.ref b101), .val (.ref b110), .val (.int (1 : Int32)), .val (.int (ek 1 0 q0 q1 q2 q3)), .val (.int (0 : Int32)), .val (.int (0 : Int32)), .val (.int (0 : Int32)), .val (.int (ln 1 q0 q1 q2 q3 1)), .val (.int (lo 1 q0 q1 q2 q3 1)), .unset] [] zQ → Steps p.tables e below (s₁.setTop (entryFrame m #[(.int a), (.int b), (.int d), (.int e0_), (.int n)] maxLocals)) zQ := by
      intro tt kt
      refine W147 tt ?_
      refine XS.ifYes X139.here hx rfl (pc0 := 147) (pc' := 159) rfl (hb hby at_147) rfl ((if0 _ _).trans (teq (by decide)).1) (by decide) (by decide) ?_
      exact castTop (by first | rfl | (simp only []; first | done | rfl)) kt
    have O149 : Old Z n0 T113.heap := (O112.keep K113 (allS (Nat.le_trans Z0 (Nat.le_trans (Nat.le_trans (Nat.le_trans (Nat.le_trans (Nat.le_trans K101.1 K103.1) K105.1) K107.1) K109.1) (Nat.le_of_eq g110.symm))) all0))
    obtain ⟨_, _, ⟨T150, L150, k150, n150⟩, -, X150, ⟨Lc150, hQ150, l150, y150, z150⟩, st150⟩ := Jvm.LawKit.callS X139 hx (y := yn41) hown0 (mvT hZ0 (w39 hw)) (mvT hZ0 (w40 hw)) (mvT hZ0 (w41 hw)) (mvT hZ0 (w42 hw)) (by decide) (backOf (W := 0) (rm_after1 l Z a0 hw [] b110 t_114 kb_115 q0 q1 q2 q3 cS fm T113.heap n0 (Nat.le_trans Z0 (Nat.le_trans (Nat.le_trans (Nat.le_trans (Nat.le_trans (Nat.le_trans (Nat.le_trans K101.1 K103.1) K105.1) K107.1) K109.1) K110.1) K113.1)) O149 S_cs hcS S_fm hfm S_ad S_hi S_lo P113_1) hZ0 (w42 hw) (w41 hw) (by decide) (by decide)) (g := (mkF m 163 #[.val (.int a), .val (.int b), .val (.int d), .val (.int e0_), .val (.int n), .val (.ref b101), .val (.ref b110), .val (.int (1 : Int32)), .val (.int (ek 1 0 q0 q1 q2 q3)), .val (.int (0 : Int32)), .val (.int (0 : Int32)), .val (.int (0 : Int32)), .val (.int (ln 1 q0 q1 q2 q3 1)), .val (.int (lo 1 q0 q1 q2 q3 1)), .unset] [(.int (1 : Int32)), (.ref b110)])) rfl (by rw [hml]; rfl) (argsL := [(.ref b110), (.int (1 : Int32))]) (rest := []) (lenOf pd__28_Ljava_2f_lang_2f_String_3b_I_29_Lcom_2f_example_2f_vestline_2f_vestline_2f_input_2f_TextPosition_3b_ rfl) rfl (by show 2 * 0 + _ ≤ _; exact Nat.le_of_eq rfl) (hb hby at_163) (fun _ _ => ⟨rfl, eq139, (Nat.le_of_ble_eq_true rfl), (Nat.le_of_ble_eq_true rfl)⟩)
    dsimp only [Pt.U, Pt.locs, Pt.cells, Pt.slots] at X150 l150 y150 z150 st150 hQ150
    subst l150 y150 z150
    obtain ⟨r_151, rfl, Nq150, K150, P150_0, P150_1, P150_2, P150_3⟩ := hQ150
    have N150 := Fr.app N139 Nq150
    obtain ⟨cq152, kq152, q152a, q152b, q152c⟩ := isOf hZ0 rfl P150_1
    obtain ⟨_, _, ⟨T152, L152, k152, n152⟩, -, X152, ⟨Lc152, hQ152, l152, y152, z152⟩, st152⟩ := X150.virtualBack hx (y := yn39) (z := yn39) hown0 (mvT hZ0 (w93 hw)) (mvT hZ0 (w94 hw)) (notFace_of_selects (args := #[]) (mvT hZ0 (w96 hw))) (mvT hZ0 (w96 hw)) (mvT hZ0 (w95 hw)) (by decide) (backOf (W := 0) (rm_line l Z a0 hw [] r_151 (ln 1 q0 q1 q2 q3 1) T150.heap n0 (Nat.le_trans Z0 (Nat.le_trans (Nat.le_trans (Nat.le_trans (Nat.le_trans (Nat.le_trans (Nat.le_trans (Nat.le_trans K101.1 K103.1) K105.1) K107.1) K109.1) K110.1) K113.1) K150.1)) P150_2) hZ0 (w97 hw) (w41 hw) (by decide) (by decide)) q152a q152c (g := (mkF m 170 #[.val (.int a), .val (.int b), .val (.int d), .val (.int e0_), .val (.int n), .val (.ref b101), .val (.ref b110), .val (.int (1 : Int32)), .val (.int (ek 1 0 q0 q1 q2 q3)), .val (.int (0 : Int32)), .val (.int (0 : Int32)), .val (.int (0 : Int32)), .val (.int (ln 1 q0 q1 q2 q3 1)), .val (.int (lo 1 q0 q1 q2 q3 1)), .val (.ref r_151)] [(.ref r_151)])) rfl (by rw [hml]; rfl) (Steps.refl _) (argsL := []) (rest := []) (lenOf pd__28__29_I rfl) rfl (by show 2 * 0 + _ ≤ _; exact Nat.le_of_eq rfl) (hb hby at_170) (fun _ _ => ⟨rfl, rfl, (Nat.le_of_ble_eq_true rfl), (Nat.le_of_ble_eq_true rfl)⟩)
    dsimp only [Pt.U, Pt.locs, Pt.cells, Pt.slots] at X152 l152 y152 z152 st152 hQ152
    subst l152 y152 z152
    obtain ⟨rfl, Nq152, eq152⟩ := hQ152
    have N152 := Fr.app N150 Nq152
    obtain ⟨cq153, kq153, q153a, q153b, q153c⟩ := isOf hZ0 eq152 P150_1
    obtain ⟨_, _, ⟨T153, L153, k153, n153⟩, -, X153, ⟨Lc153, hQ153, l153, y153, z153⟩, st153⟩ := X152.virtualBack hx (y := yn40) (z := yn40) hown0 (mvT hZ0 (w98 hw)) (mvT hZ0 (w99 hw)) (notFace_of_selects (args := #[]) (mvT hZ0 (w101 hw))) (mvT hZ0 (w101 hw)) (mvT hZ0 (w100 hw)) (by decide) (backOf (W := 0) (rm_character l Z a0 hw [] r_151 ((1 : Int32) - (lo 1 q0 q1 q2 q3 1)) T150.heap n0 (Nat.le_trans Z0 (Nat.le_trans (Nat.le_trans (Nat.le_trans (Nat.le_trans (Nat.le_trans (Nat.le_trans (Nat.le_trans K101.1 K103.1) K105.1) K107.1) K109.1) K110.1) K113.1) K150.1)) P150_3) hZ0 (w102 hw) (w41 hw) (by decide) (by decide)) q153a q153c (g := (mkF m 180 #[.val (.int a), .val (.int b), .val (.int d), .val (.int e0_), .val (.int n), .val (.ref b101), .val (.ref b110), .val (.int (1 : Int32)), .val (.int (ek 1 0 q0 q1 q2 q3)), .val (.int (0 : Int32)), .val (.int (0 : Int32)), .val (.int (0 : Int32)), .val (.int (ln 1 q0 q1 q2 q3 1)), .val (.int (lo 1 q0 q1 q2 q3 1)), .val (.ref r_151)] [(.ref r_151)])) rfl (by rw [hml]; rfl) (Steps.refl _) (argsL := []) (rest := []) (lenOf pd__28__29_I rfl) rfl (by show 2 * 0 + _ ≤ _; exact Nat.le_of_eq rfl) (hb hby at_180) (fun _ _ => ⟨rfl, eq152, (Nat.le_of_ble_eq_true rfl), (Nat.le_of_ble_eq_true rfl)⟩)
    dsimp only [Pt.U, Pt.locs, Pt.cells, Pt.slots] at X153 l153 y153 z153 st153 hQ153
    subst l153 y153 z153
    obtain ⟨rfl, Nq153, eq153⟩ := hQ153
    have N153 := Fr.app N152 Nq153
    have W154 : ∀ zQ, SS p e below T153 m 196 #[.val (.int a), .val (.int b), .val (.int d), .val (.int e0_), .val (.int n), .val (.ref b101), .val (.ref b110), .val (.int (1 : Int32)), .val (.int (ek 1 0 q0 q1 q2 q3)), .val (.int (0 : Int32)), .val (.int (0 : Int32)), .val (.int (0 : Int32)), .val (.int (ln 1 q0 q1 q2 q3 1)), .val (.int (lo 1 q0 q1 q2 q3 1)), .val (.ref r_151)] [(.int (1 : Int32))] zQ → Steps p.tables e below (s₁.setTop (entryFrame m #[(.int a), (.int b), (.int d), (.int e0_), (.int n)] maxLocals)) zQ := by
      intro tt kt
      refine W148 tt ?_
      refine XS.aload X139.here hx rfl (hb hby at_159) rfl rfl ?_
      refine XS.iload X139.here hx rfl (hb hby at_161) rfl ?_
      show SS p e below T139 m 163 #[.val (.int a), .val (.int b), .val (.int d), .val (.int e0_), .val (.int n), .val (.ref b101), .val (.ref b110), .val (.int (1 : Int32)), .val (.int (ek 1 0 q0 q1 q2 q3)), .val (.int (0 : Int32)), .val (.int (0 : Int32)), .val (.int (0 : Int32)), .val (.int (ln 1 q0 q1 q2 q3 1)), .val (.int (lo 1 q0 q1 q2 q3 1)), .unset] [(.int (1 : Int32)), (.ref b110)] _
      refine st150 _ ?_
      refine XS.astore X150.here hx rfl (hb hby at_166) rfl rfl (l' := #[.val (.int a), .val (.int b), .val (.int d), .val (.int e0_), .val (.int n), .val (.ref b101), .val (.ref b110), .val (.int (1 : Int32)), .val (.int (ek 1 0 q0 q1 q2 q3)), .val (.int (0 : Int32)), .val (.int (0 : Int32)), .val (.int (0 : Int32)), .val (.int (ln 1 q0 q1 q2 q3 1)), .val (.int (lo 1 q0 q1 q2 q3 1)), .val (.ref r_151)]) rfl ?_
      refine XS.aload X150.here hx rfl (hb hby at_168) rfl rfl ?_
      show SS p e below T150 m 170 #[.val (.int a), .val (.int b), .val (.int d), .val (.int e0_), .val (.int n), .val (.ref b101), .val (.ref b110), .val (.int (1 : Int32)), .val (.int (ek 1 0 q0 q1 q2 q3)), .val (.int (0 : Int32)), .val (.int (0 : Int32)), .val (.int (0 : Int32)), .val (.int (ln 1 q0 q1 q2 q3 1)), .val (.int (lo 1 q0 q1 q2 q3 1)), .val (.ref r_151)] [(.ref r_151)] _
      refine st152.trans ?_
      refine XS.iload X152.here hx rfl (hb hby at_173) rfl ?_
      refine XS.icmpNo X152.here hx rfl (hb hby at_175) rfl (teq rfl).2 ?_
      refine XS.aload X152.here hx rfl (hb hby at_178) rfl rfl ?_
      show SS p e below T152 m 180 #[.val (.int a), .val (.int b), .val (.int d), .val (.int e0_), .val (.int n), .val (.ref b101), .val (.ref b110), .val (.int (1 : Int32)), .val (.int (ek 1 0 q0 q1 q2 q3)), .val (.int (0 : Int32)), .val (.int (0 : Int32)), .val (.int (0 : Int32)), .val (.int (ln 1 q0 q1 q2 q3 1)), .val (.int (lo 1 q0 q1 q2 q3 1)), .val (.ref r_151)] [(.ref r_151)] _
      refine st153.trans ?_
      refine XS.iload X153.here hx rfl (hb hby at_183) rfl ?_
      refine XS.iload X153.here hx rfl (hb hby at_185) rfl ?_
      refine XS.isub X153.here hx rfl (hb hby at_187) rfl ?_
      refine XS.icmpNo X153.here hx rfl (hb hby at_188) rfl (teq rfl).2 ?_
      refine XS.iconst X153.here hx rfl (hb hby at_191) ?_
      show SS p e below T153 m 192 #[.val (.int a), .val (.int b), .val (.int d), .val (.int e0_), .val (.int n), .val (.ref b101), .val (.ref b110), .val (.int (1 : Int32)), .val (.int (ek 1 0 q0 q1 q2 q3)), .val (.int (0 : Int32)), .val (.int (0 : Int32)), .val (.int (0 : Int32)), .val (.int (ln 1 q0 q1 q2 q3 1)), .val (.int (lo 1 q0 q1 q2 q3 1)), .val (.ref r_151)] [(.int (1 : Int32))] _
      refine XS.goto X153.here hx rfl (pc0 := 192) (pc' := 196) rfl (hb hby at_192) (by decide) (by decide) ?_
      exact kt
    obtain ⟨fs, hr, hrun, hended, hRW⟩ := Jvm.Stand.leaveW X153 hS0 (by rw [eq153]; exact (Nat.le_trans hk0 (Nat.le_trans (Nat.le_trans (Nat.le_trans (Nat.le_trans (Nat.le_trans (Nat.le_trans (Nat.le_trans K101.1 K103.1) K105.1) K107.1) K109.1) K110.1) K113.1) K150.1))) (v := some (.int (nar .boolean (1 : Int32)))) (fun h => by rw [Bd.returns] at h; cases h) (BodyLoose.notSynchronized Bd)
    refine ⟨_, _, W154 _ (retN X153 hx (t := .boolean) Bd.returns (by simp) (hb hby at_196) hr), hrun, hended, _, _, rfl, ?_, own_rw hRW (by decide) (by decide)⟩
    show Q_law Z a b d e0_ n cS fm h0 n0 _ T153.heap _
    rw [eq153]
    exact ⟨rfl, N153, (Keep.trans (Keep.trans (Keep.trans (Keep.trans (Keep.trans (Keep.trans (Keep.trans (Keep.trans (Keep.refl h0 []) K101 all0) K103 (allS (Or.inr (Nat.le_of_eq g101.symm)) all0)) K105 (allS (Or.inr (Nat.le_of_eq g101.symm)) all0)) K107 (allS (Or.inr (Nat.le_of_eq g101.symm)) all0)) K109 (allS (Or.inr (Nat.le_of_eq g101.symm)) all0)) K110 all0) K113 (allS (Or.inr (Nat.le_trans (Nat.le_trans (Nat.le_trans (Nat.le_trans (Nat.le_trans K101.1 K103.1) K105.1) K107.1) K109.1) (Nat.le_of_eq g110.symm))) all0)) K150 all0)⟩
  ·
    have F155 : Arv Z T113.heap b101 k101 .char (4 : Int32) [(.int q0), (.int q1), (.int q2), (.int q3)] (.int (0 : Int32)) := (F111.keep K113 (ninS (Nat.ne_of_lt (Nat.lt_of_lt_of_le (Nat.lt_of_lt_of_le G101.lt (Nat.le_trans (Nat.le_trans (Nat.le_trans K103.1 K105.1) K107.1) K109.1)) (Nat.le_of_eq g110.symm))) nin0))
    obtain ⟨_, _, ⟨T156, L156, k156, n156⟩, -, X156, ⟨Lc156, hQ156, l156, y156, z156⟩, st156⟩ := Jvm.LawKit.callS X113 hx (y := yn42) hown0 (mvT hZ0 (w36 hw)) (mvT hZ0 (w37 hw)) (mvT hZ0 (w3 hw)) (mvT hZ0 (w38 hw)) (by decide) (backOf (W := 0) (rm_endsYes l Z a0 hw [] b101 0 2 k101 [q0, q1, q2, q3] T113.heap n0 (Nat.le_trans Z0 (Nat.le_trans (Nat.le_trans (Nat.le_trans (Nat.le_trans (Nat.le_trans (Nat.le_trans K101.1 K103.1) K105.1) K107.1) K109.1) K110.1) K113.1)) F155 (Nat.le_of_ble_eq_true rfl) (Nat.le_of_ble_eq_true rfl) (Nat.le_of_ble_eq_true rfl)) hZ0 (w38 hw) (w3 hw) (by decide) (by decide)) (g := (mkF m 62 #[.val (.int a), .val (.int b), .val (.int d), .val (.int e0_), .val (.int n), .val (.ref b101), .val (.ref b110), .val (.int (2 : Int32)), .unset, .unset, .unset, .unset, .unset, .unset, .unset] [(.int (2 : Int32)), (.int (0 : Int32)), (.ref b101)])) rfl (by rw [hml]; rfl) (argsL := [(.ref b101), (.int (0 : Int32)), (.int (2 : Int32))]) (rest := []) (lenOf pd__28__5b_CII_29_Z rfl) rfl (by show 2 * 0 + _ ≤ _; exact Nat.le_of_eq rfl) (hb hby at_62) (fun _ _ => ⟨rfl, rfl, (Nat.le_of_ble_eq_true rfl), (Nat.le_of_ble_eq_true rfl)⟩)
    dsimp only [Pt.U, Pt.locs, Pt.cells, Pt.slots] at X156 l156 y156 z156 st156 hQ156
    subst l156 y156 z156
    obtain ⟨rfl, Nq156, eq156⟩ := hQ156
    have N156 := Fr.app N113 Nq156
    obtain ⟨_, _, ⟨T157, L157, k157, n157⟩, -, X157, ⟨Lc157, hQ157, l157, y157, z157⟩, st157⟩ := Jvm.LawKit.callS X156 hx (y := yn42) hown0 (mvT hZ0 (w36 hw)) (mvT hZ0 (w37 hw)) (mvT hZ0 (w3 hw)) (mvT hZ0 (w38 hw)) (by decide) (backOf (W := 0) (rm_endsYes l Z a0 hw [] b101 1 2 k101 [q0, q1, q2, q3] T113.heap n0 (Nat.le_trans Z0 (Nat.le_trans (Nat.le_trans (Nat.le_trans (Nat.le_trans (Nat.le_trans (Nat.le_trans K101.1 K103.1) K105.1) K107.1) K109.1) K110.1) K113.1)) F155 (Nat.le_of_ble_eq_true rfl) (Nat.le_of_ble_eq_true rfl) (Nat.le_of_ble_eq_true rfl)) hZ0 (w38 hw) (w3 hw) (by decide) (by decide)) (g := (mkF m 72 #[.val (.int a), .val (.int b), .val (.int d), .val (.int e0_), .val (.int n), .val (.ref b101), .val (.ref b110), .val (.int (2 : Int32)), .val (.int (ek 2 0 q0 q1 q2 q3)), .unset, .unset, .unset, .unset, .unset, .unset] [(.int (2 : Int32)), (.int (1 : Int32)), (.ref b101)])) rfl (by rw [hml]; rfl) (argsL := [(.ref b101), (.int (1 : Int32)), (.int (2 : Int32))]) (rest := []) (lenOf pd__28__5b_CII_29_Z rfl) rfl (by show 2 * 0 + _ ≤ _; exact Nat.le_of_eq rfl) (hb hby at_72) (fun _ _ => ⟨rfl, eq156, (Nat.le_of_ble_eq_true rfl), (Nat.le_of_ble_eq_true rfl)⟩)
    dsimp only [Pt.U, Pt.locs, Pt.cells, Pt.slots] at X157 l157 y157 z157 st157 hQ157
    subst l157 y157 z157
    obtain ⟨rfl, Nq157, eq157⟩ := hQ157
    have N157 := Fr.app N156 Nq157
    obtain ⟨_, _, ⟨T158, L158, k158, n158⟩, -, X158, ⟨Lc158, hQ158, l158, y158, z158⟩, st158⟩ := Jvm.LawKit.callS X157 hx (y := yn42) hown0 (mvT hZ0 (w36 hw)) (mvT hZ0 (w37 hw)) (mvT hZ0 (w3 hw)) (mvT hZ0 (w38 hw)) (by decide) (backOf (W := 0) (rm_endsNo l Z a0 hw [] b101 (2 : Int32) (2 : Int32) T113.heap n0 (Nat.le_trans Z0 (Nat.le_trans (Nat.le_trans (Nat.le_trans (Nat.le_trans (Nat.le_trans (Nat.le_trans K101.1 K103.1) K105.1) K107.1) K109.1) K110.1) K113.1)) (by decide : ¬ ((2 : Int32) < (2 : Int32)))) hZ0 (w38 hw) (w3 hw) (by decide) (by decide)) (g := (mkF m 82 #[.val (.int a), .val (.int b), .val (.int d), .val (.int e0_), .val (.int n), .val (.ref b101), .val (.ref b110), .val (.int (2 : Int32)), .val (.int (ek 2 0 q0 q1 q2 q3)), .val (.int (ek 2 1 q0 q1 q2 q3)), .unset, .unset, .unset, .unset, .unset] [(.int (2 : Int32)), (.int (2 : Int32)), (.ref b101)])) rfl (by rw [hml]; rfl) (argsL := [(.ref b101), (.int (2 : Int32)), (.int (2 : Int32))]) (rest := []) (lenOf pd__28__5b_CII_29_Z rfl) rfl (by show 2 * 0 + _ ≤ _; exact Nat.le_of_eq rfl) (hb hby at_82) (fun _ _ => ⟨rfl, eq157, (Nat.le_of_ble_eq_true rfl), (Nat.le_of_ble_eq_true rfl)⟩)
    dsimp only [Pt.U, Pt.locs, Pt.cells, Pt.slots] at X158 l158 y158 z158 st158 hQ158
    subst l158 y158 z158
    obtain ⟨rfl, Nq158, eq158⟩ := hQ158
    have N158 := Fr.app N157 Nq158
    obtain ⟨_, _, ⟨T159, L159, k159, n159⟩, -, X159, ⟨Lc159, hQ159, l159, y159, z159⟩, st159⟩ := Jvm.LawKit.callS X158 hx (y := yn42) hown0 (mvT hZ0 (w36 hw)) (mvT hZ0 (w37 hw)) (mvT hZ0 (w3 hw)) (mvT hZ0 (w38 hw)) (by decide) (backOf (W := 0) (rm_endsNo l Z a0 hw [] b101 (3 : Int32) (2 : Int32) T113.heap n0 (Nat.le_trans Z0 (Nat.le_trans (Nat.le_trans (Nat.le_trans (Nat.le_trans (Nat.le_trans (Nat.le_trans K101.1 K103.1) K105.1) K107.1) K109.1) K110.1) K113.1)) (by decide : ¬ ((3 : Int32) < (2 : Int32)))) hZ0 (w38 hw) (w3 hw) (by decide) (by decide)) (g := (mkF m 92 #[.val (.int a), .val (.int b), .val (.int d), .val (.int e0_), .val (.int n), .val (.ref b101), .val (.ref b110), .val (.int (2 : Int32)), .val (.int (ek 2 0 q0 q1 q2 q3)), .val (.int (ek 2 1 q0 q1 q2 q3)), .val (.int (0 : Int32)), .unset, .unset, .unset, .unset] [(.int (2 : Int32)), (.int (3 : Int32)), (.ref b101)])) rfl (by rw [hml]; rfl) (argsL := [(.ref b101), (.int (3 : Int32)), (.int (2 : Int32))]) (rest := []) (lenOf pd__28__5b_CII_29_Z rfl) rfl (by show 2 * 0 + _ ≤ _; exact Nat.le_of_eq rfl) (hb hby at_92) (fun _ _ => ⟨rfl, eq158, (Nat.le_of_ble_eq_true rfl), (Nat.le_of_ble_eq_true rfl)⟩)
    dsimp only [Pt.U, Pt.locs, Pt.cells, Pt.slots] at X159 l159 y159 z159 st159 hQ159
    subst l159 y159 z159
    obtain ⟨rfl, Nq159, eq159⟩ := hQ159
    have N159 := Fr.app N158 Nq159
    have W160 : ∀ zQ, SS p e below T159 m 105 #[.val (.int a), .val (.int b), .val (.int d), .val (.int e0_), .val (.int n), .val (.ref b101), .val (.ref b110), .val (.int (2 : Int32)), .val (.int (ek 2 0 q0 q1 q2 q3)), .val (.int (ek 2 1 q0 q1 q2 q3)), .val (.int (0 : Int32)), .val (.int (0 : Int32)), .val (.int (1 : Int32)), .val (.int (0 : Int32)), .unset] [(.int (ek 2 0 q0 q1 q2 q3))] zQ → Steps p.tables e below (s₁.setTop (entryFrame m #[(.int a), (.int b), (.int d), (.int e0_), (.int n)] maxLocals)) zQ := by
      intro tt kt
      refine W116 tt ?_
      refine XS.istore X113.here hx rfl (hb hby at_55) rfl (l' := #[.val (.int a), .val (.int b), .val (.int d), .val (.int e0_), .val (.int n), .val (.ref b101), .val (.ref b110), .val (.int (2 : Int32)), .unset, .unset, .unset, .unset, .unset, .unset, .unset]) rfl ?_
      refine XS.aload X113.here hx rfl (hb hby at_57) rfl rfl ?_
      refine XS.iconst X113.here hx rfl (hb hby at_59) ?_
      refine XS.iload X113.here hx rfl (hb hby at_60) rfl ?_
      show SS p e below T113 m 62 #[.val (.int a), .val (.int b), .val (.int d), .val (.int e0_), .val (.int n), .val (.ref b101), .val (.ref b110), .val (.int (2 : Int32)), .unset, .unset, .unset, .unset, .unset, .unset, .unset] [(.int (2 : Int32)), (.int (0 : Int32)), (.ref b101)] _
      refine st156 _ ?_
      show SS p e below T156 m 65 #[.val (.int a), .val (.int b), .val (.int d), .val (.int e0_), .val (.int n), .val (.ref b101), .val (.ref b110), .val (.int (2 : Int32)), .unset, .unset, .unset, .unset, .unset, .unset, .unset] [(.int (el (([q0, q1, q2, q3].drop 0).take 2) 0))] _
      rw [show (el (([q0, q1, q2, q3].drop 0).take 2) 0) = (ek 2 0 q0 q1 q2 q3) from rfl]
      refine XS.istore X156.here hx rfl (hb hby at_65) rfl (l' := #[.val (.int a), .val (.int b), .val (.int d), .val (.int e0_), .val (.int n), .val (.ref b101), .val (.ref b110), .val (.int (2 : Int32)), .val (.int (ek 2 0 q0 q1 q2 q3)), .unset, .unset, .unset, .unset, .unset, .unset]) rfl ?_
      refine XS.aload X156.here hx rfl (hb hby at_67) rfl rfl ?_
      refine XS.iconst X156.here hx rfl (hb hby at_69) ?_
      refine XS.iload X156.here hx rfl (hb hby at_70) rfl ?_
      show SS p e below T156 m 72 #[.val (.int a), .val (.int b), .val (.int d), .val (.int e0_), .val (.int n), .val (.ref b101), .val (.ref b110), .val (.int (2 : Int32)), .val (.int (ek 2 0 q0 q1 q2 q3)), .unset, .unset, .unset, .unset, .unset, .unset] [(.int (2 : Int32)), (.int (1 : Int32)), (.ref b101)] _
      refine st157 _ ?_
      show SS p e below T157 m 75 #[.val (.int a), .val (.int b), .val (.int d), .val (.int e0_), .val (.int n), .val (.ref b101), .val (.ref b110), .val (.int (2 : Int32)), .val (.int (ek 2 0 q0 q1 q2 q3)), .unset, .unset, .unset, .unset, .unset, .unset] [(.int (el (([q0, q1, q2, q3].drop 0).take 2) 1))] _
      rw [show (el (([q0, q1, q2, q3].drop 0).take 2) 1) = (ek 2 1 q0 q1 q2 q3) from rfl]
      refine XS.istore X157.here hx rfl (hb hby at_75) rfl (l' := #[.val (.int a), .val (.int b), .val (.int d), .val (.int e0_), .val (.int n), .val (.ref b101), .val (.ref b110), .val (.int (2 : Int32)), .val (.int (ek 2 0 q0 q1 q2 q3)), .val (.int (ek 2 1 q0 q1 q2 q3)), .unset, .unset, .unset, .unset, .unset]) rfl ?_
      refine XS.aload X157.here hx rfl (hb hby at_77) rfl rfl ?_
      refine XS.iconst X157.here hx rfl (hb hby at_79) ?_
      refine XS.iload X157.here hx rfl (hb hby at_80) rfl ?_
      show SS p e below T157 m 82 #[.val (.int a), .val (.int b), .val (.int d), .val (.int e0_), .val (.int n), .val (.ref b101), .val (.ref b110), .val (.int (2 : Int32)), .val (.int (ek 2 0 q0 q1 q2 q3)), .val (.int (ek 2 1 q0 q1 q2 q3)), .unset, .unset, .unset, .unset, .unset] [(.int (2 : Int32)), (.int (2 : Int32)), (.ref b101)] _
      refine st158 _ ?_
      refine XS.istore X158.here hx rfl (hb hby at_85) rfl (l' := #[.val (.int a), .val (.int b), .val (.int d), .val (.int e0_), .val (.int n), .val (.ref b101), .val (.ref b110), .val (.int (2 : Int32)), .val (.int (ek 2 0 q0 q1 q2 q3)), .val (.int (ek 2 1 q0 q1 q2 q3)), .val (.int (0 : Int32)), .unset, .unset, .unset, .unset]) rfl ?_
      refine XS.aload X158.here hx rfl (hb hby at_87) rfl rfl ?_
      refine XS.iconst X158.here hx rfl (hb hby at_89) ?_
      refine XS.iload X158.here hx rfl (hb hby at_90) rfl ?_
      show SS p e below T158 m 92 #[.val (.int a), .val (.int b), .val (.int d), .val (.int e0_), .val (.int n), .val (.ref b101), .val (.ref b110), .val (.int (2 : Int32)), .val (.int (ek 2 0 q0 q1 q2 q3)), .val (.int (ek 2 1 q0 q1 q2 q3)), .val (.int (0 : Int32)), .unset, .unset, .unset, .unset] [(.int (2 : Int32)), (.int (3 : Int32)), (.ref b101)] _
      refine st159 _ ?_
      refine XS.istore X159.here hx rfl (hb hby at_95) rfl (l' := #[.val (.int a), .val (.int b), .val (.int d), .val (.int e0_), .val (.int n), .val (.ref b101), .val (.ref b110), .val (.int (2 : Int32)), .val (.int (ek 2 0 q0 q1 q2 q3)), .val (.int (ek 2 1 q0 q1 q2 q3)), .val (.int (0 : Int32)), .val (.int (0 : Int32)), .unset, .unset, .unset]) rfl ?_
      refine XS.iconst X159.here hx rfl (hb hby at_97) ?_
      refine XS.istore X159.here hx rfl (hb hby at_98) rfl (l' := #[.val (.int a), .val (.int b), .val (.int d), .val (.int e0_), .val (.int n), .val (.ref b101), .val (.ref b110), .val (.int (2 : Int32)), .val (.int (ek 2 0 q0 q1 q2 q3)), .val (.int (ek 2 1 q0 q1 q2 q3)), .val (.int (0 : Int32)), .val (.int (0 : Int32)), .val (.int (1 : Int32)), .unset, .unset]) rfl ?_
      refine XS.iconst X159.here hx rfl (hb hby at_100) ?_
      refine XS.istore X159.here hx rfl (hb hby at_101) rfl (l' := #[.val (.int a), .val (.int b), .val (.int d), .val (.int e0_), .val (.int n), .val (.ref b101), .val (.ref b110), .val (.int (2 : Int32)), .val (.int (ek 2 0 q0 q1 q2 q3)), .val (.int (ek 2 1 q0 q1 q2 q3)), .val (.int (0 : Int32)), .val (.int (0 : Int32)), .val (.int (1 : Int32)), .val (.int (0 : Int32)), .unset]) rfl ?_
      show SS p e below T159 m 103 #[.val (.int a), .val (.int b), .val (.int d), .val (.int e0_), .val (.int n), .val (.ref b101), .val (.ref b110), .val (.int (2 : Int32)), .val (.int (ek 2 0 q0 q1 q2 q3)), .val (.int (ek 2 1 q0 q1 q2 q3)), .val (.int (0 : Int32)), .val (.int (0 : Int32)), .val (.int (1 : Int32)), .val (.int (0 : Int32)), .unset] [] _
      refine XS.iload X159.here hx rfl (hb hby at_103) rfl ?_
      exact kt
    have W162 : ∀ zQ, SS p e below T159 m 117 #[.val (.int a), .val (.int b), .val (.int d), .val (.int e0_), .val (.int n), .val (.ref b101), .val (.ref b110), .val (.int (2 : Int32)), .val (.int (ek 2 0 q0 q1 q2 q3)), .val (.int (ek 2 1 q0 q1 q2 q3)), .val (.int (0 : Int32)), .val (.int (0 : Int32)), .val (.int (if (ek 2 0 q0 q1 q2 q3) = (0 : Int32) then (1 : Int32) else (2 : Int32))), .val (.int (if (ek 2 0 q0 q1 q2 q3) = (0 : Int32) then (0 : Int32) else (1 : Int32))), .unset] [] zQ → Steps p.tables e below (s₁.setTop (entryFrame m #[(.int a), (.int b), (.int d), (.int e0_), (.int n)] maxLocals)) zQ := by
      intro tt kt
      refine W160 tt ?_
      by_cases hj161 : (ek 2 0 q0 q1 q2 q3) = (0 : Int32)
      ·
        refine XS.ifYes X159.here hx rfl (pc0 := 105) (pc' := 117) rfl (hb hby at_105) rfl ((if0 _ _).trans (teq hj161).1) (by decide) (by decide) ?_
        exact castTop (by first | rfl | (simp only [if_pos hj161]; first | done | rfl)) kt
      ·
        refine XS.ifNo X159.here hx rfl (hb hby at_105) rfl ((if0 _ _).trans (feq hj161).1) ?_
        refine XS.iload X159.here hx rfl (hb hby at_108) rfl ?_
        refine XS.iconst X159.here hx rfl (hb hby at_110) ?_
        refine XS.iadd X159.here hx rfl (hb hby at_111) rfl ?_
        refine XS.istore X159.here hx rfl (hb hby at_112) rfl (l' := #[.val (.int a), .val (.int b), .val (.int d), .val (.int e0_), .val (.int n), .val (.ref b101), .val (.ref b110), .val (.int (2 : Int32)), .val (.int (ek 2 0 q0 q1 q2 q3)), .val (.int (ek 2 1 q0 q1 q2 q3)), .val (.int (0 : Int32)), .val (.int (0 : Int32)), .val (.int (2 : Int32)), .val (.int (0 : Int32)), .unset]) rfl ?_
        refine XS.iconst X159.here hx rfl (hb hby at_114) ?_
        show SS p e below T159 m 115 #[.val (.int a), .val (.int b), .val (.int d), .val (.int e0_), .val (.int n), .val (.ref b101), .val (.ref b110), .val (.int (2 : Int32)), .val (.int (ek 2 0 q0 q1 q2 q3)), .val (.int (ek 2 1 q0 q1 q2 q3)), .val (.int (0 : Int32)), .val (.int (0 : Int32)), .val (.int (2 : Int32)), .val (.int (0 : Int32)), .unset] [(.int (1 : Int32))] _
        refine XS.istore X159.here hx rfl (hb hby at_115) rfl (l' := #[.val (.int a), .val (.int b), .val (.int d), .val (.int e0_), .val (.int n), .val (.ref b101), .val (.ref b110), .val (.int (2 : Int32)), .val (.int (ek 2 0 q0 q1 q2 q3)), .val (.int (ek 2 1 q0 q1 q2 q3)), .val (.int (0 : Int32)), .val (.int (0 : Int32)), .val (.int (2 : Int32)), .val (.int (1 : Int32)), .unset]) rfl ?_
        exact castTop (by first | rfl | (simp only [if_neg hj161]; first | done | rfl)) kt
    have W163 : ∀ zQ, SS p e below T159 m 119 #[.val (.int a), .val (.int b), .val (.int d), .val (.int e0_), .val (.int n), .val (.ref b101), .val (.ref b110), .val (.int (2 : Int32)), .val (.int (ek 2 0 q0 q1 q2 q3)), .val (.int (ek 2 1 q0 q1 q2 q3)), .val (.int (0 : Int32)), .val (.int (0 : Int32)), .val (.int (ln 2 q0 q1 q2 q3 1)), .val (.int (lo 2 q0 q1 q2 q3 1)), .unset] [(.int (ek 2 1 q0 q1 q2 q3))] zQ → Steps p.tables e below (s₁.setTop (entryFrame m #[(.int a), (.int b), (.int d), (.int e0_), (.int n)] maxLocals)) zQ := by
      intro tt kt
      refine W162 tt ?_
      rw [show (if (ek 2 0 q0 q1 q2 q3) = (0 : Int32) then (1 : Int32) else (2 : Int32)) = (ln 2 q0 q1 q2 q3 1) from rfl]
      show SS p e below T159 m 117 #[.val (.int a), .val (.int b), .val (.int d), .val (.int e0_), .val (.int n), .val (.ref b101), .val (.ref b110), .val (.int (2 : Int32)), .val (.int (ek 2 0 q0 q1 q2 q3)), .val (.int (ek 2 1 q0 q1 q2 q3)), .val (.int (0 : Int32)), .val (.int (0 : Int32)), .val (.int (ln 2 q0 q1 q2 q3 1)), .val (.int (if (ek 2 0 q0 q1 q2 q3) = (0 : Int32) then (0 : Int32) else (1 : Int32))), .unset] [] _
      rw [show (if (ek 2 0 q0 q1 q2 q3) = (0 : Int32) then (0 : Int32) else (1 : Int32)) = (lo 2 q0 q1 q2 q3 1) from rfl]
      refine XS.iload X159.here hx rfl (hb hby at_117) rfl ?_
      exact kt
    have W165 : ∀ zQ, SS p e below T159 m 131 #[.val (.int a), .val (.int b), .val (.int d), .val (.int e0_), .val (.int n), .val (.ref b101), .val (.ref b110), .val (.int (2 : Int32)), .val (.int (ek 2 0 q0 q1 q2 q3)), .val (.int (ek 2 1 q0 q1 q2 q3)), .val (.int (0 : Int32)), .val (.int (0 : Int32)), .val (.int (if (ek 2 1 q0 q1 q2 q3) = (0 : Int32) then (ln 2 q0 q1 q2 q3 1) else ((ln 2 q0 q1 q2 q3 1) + (1 : Int32)))), .val (.int (if (ek 2 1 q0 q1 q2 q3) = (0 : Int32) then (lo 2 q0 q1 q2 q3 1) else (2 : Int32))), .unset] [] zQ → Steps p.tables e below (s₁.setTop (entryFrame m #[(.int a), (.int b), (.int d), (.int e0_), (.int n)] maxLocals)) zQ := by
      intro tt kt
      refine W163 tt ?_
      by_cases hj164 : (ek 2 1 q0 q1 q2 q3) = (0 : Int32)
      ·
        refine XS.ifYes X159.here hx rfl (pc0 := 119) (pc' := 131) rfl (hb hby at_119) rfl ((if0 _ _).trans (teq hj164).1) (by decide) (by decide) ?_
        exact castTop (by first | rfl | (simp only [if_pos hj164]; first | done | rfl)) kt
      ·
        refine XS.ifNo X159.here hx rfl (hb hby at_119) rfl ((if0 _ _).trans (feq hj164).1) ?_
        refine XS.iload X159.here hx rfl (hb hby at_122) rfl ?_
        refine XS.iconst X159.here hx rfl (hb hby at_124) ?_
        refine XS.iadd X159.here hx rfl (hb hby at_125) rfl ?_
        refine XS.istore X159.here hx rfl (hb hby at_126) rfl (l' := #[.val (.int a), .val (.int b), .val (.int d), .val (.int e0_), .val (.int n), .val (.ref b101), .val (.ref b110), .val (.int (2 : Int32)), .val (.int (ek 2 0 q0 q1 q2 q3)), .val (.int (ek 2 1 q0 q1 q2 q3)), .val (.int (0 : Int32)), .val (.int (0 : Int32)), .val (.int ((ln 2 q0 q1 q2 q3 1) + (1 : Int32))), .val (.int (lo 2 q0 q1 q2 q3 1)), .unset]) rfl ?_
        refine XS.iconst X159.here hx rfl (hb hby at_128) ?_
        show SS p e below T159 m 129 #[.val (.int a), .val (.int b), .val (.int d), .val (.int e0_), .val (.int n), .val (.ref b101), .val (.ref b110), .val (.int (2 : Int32)), .val (.int (ek 2 0 q0 q1 q2 q3)), .val (.int (ek 2 1 q0 q1 q2 q3)), .val (.int (0 : Int32)), .val (.int (0 : Int32)), .val (.int ((ln 2 q0 q1 q2 q3 1) + (1 : Int32))), .val (.int (lo 2 q0 q1 q2 q3 1)), .unset] [(.int (2 : Int32))] _
        refine XS.istore X159.here hx rfl (hb hby at_129) rfl (l' := #[.val (.int a), .val (.int b), .val (.int d), .val (.int e0_), .val (.int n), .val (.ref b101), .val (.ref b110), .val (.int (2 : Int32)), .val (.int (ek 2 0 q0 q1 q2 q3)), .val (.int (ek 2 1 q0 q1 q2 q3)), .val (.int (0 : Int32)), .val (.int (0 : Int32)), .val (.int ((ln 2 q0 q1 q2 q3 1) + (1 : Int32))), .val (.int (2 : Int32)), .unset]) rfl ?_
        exact castTop (by first | rfl | (simp only [if_neg hj164]; first | done | rfl)) kt
    have W166 : ∀ zQ, SS p e below T159 m 133 #[.val (.int a), .val (.int b), .val (.int d), .val (.int e0_), .val (.int n), .val (.ref b101), .val (.ref b110), .val (.int (2 : Int32)), .val (.int (ek 2 0 q0 q1 q2 q3)), .val (.int (ek 2 1 q0 q1 q2 q3)), .val (.int (0 : Int32)), .val (.int (0 : Int32)), .val (.int (ln 2 q0 q1 q2 q3 2)), .val (.int (lo 2 q0 q1 q2 q3 2)), .unset] [(.int (0 : Int32))] zQ → Steps p.tables e below (s₁.setTop (entryFrame m #[(.int a), (.int b), (.int d), (.int e0_), (.int n)] maxLocals)) zQ := by
      intro tt kt
      refine W165 tt ?_
      rw [show (if (ek 2 1 q0 q1 q2 q3) = (0 : Int32) then (ln 2 q0 q1 q2 q3 1) else ((ln 2 q0 q1 q2 q3 1) + (1 : Int32))) = (ln 2 q0 q1 q2 q3 2) from rfl]
      show SS p e below T159 m 131 #[.val (.int a), .val (.int b), .val (.int d), .val (.int e0_), .val (.int n), .val (.ref b101), .val (.ref b110), .val (.int (2 : Int32)), .val (.int (ek 2 0 q0 q1 q2 q3)), .val (.int (ek 2 1 q0 q1 q2 q3)), .val (.int (0 : Int32)), .val (.int (0 : Int32)), .val (.int (ln 2 q0 q1 q2 q3 2)), .val (.int (if (ek 2 1 q0 q1 q2 q3) = (0 : Int32) then (lo 2 q0 q1 q2 q3 1) else (2 : Int32))), .unset] [] _
      rw [show (if (ek 2 1 q0 q1 q2 q3) = (0 : Int32) then (lo 2 q0 q1 q2 q3 1) else (2 : Int32)) = (lo 2 q0 q1 q2 q3 2) from rfl]
      refine XS.iload X159.here hx rfl (hb hby at_131) rfl ?_
      exact kt
    have W167 : ∀ zQ, SS p e below T159 m 145 #[.val (.int a), .val (.int b), .val (.int d), .val (.int e0_), .val (.int n), .val (.ref b101), .val (.ref b110), .val (.int (2 : Int32)), .val (.int (ek 2 0 q0 q1 q2 q3)), .val (.int (ek 2 1 q0 q1 q2 q3)), .val (.int (0 : Int32)), .val (.int (0 : Int32)), .val (.int (ln 2 q0 q1 q2 q3 2)), .val (.int (lo 2 q0 q1 q2 q3 2)), .unset] [] zQ → Steps p.tables e below (s₁.setTop (entryFrame m #[(.int a), (.int b), (.int d), (.int e0_), (.int n)] maxLocals)) zQ := by
      intro tt kt
      refine W166 tt ?_
      refine XS.ifYes X159.here hx rfl (pc0 := 133) (pc' := 145) rfl (hb hby at_133) rfl ((if0 _ _).trans (teq (by decide)).1) (by decide) (by decide) ?_
      exact castTop (by first | rfl | (simp only []; first | done | rfl)) kt
    have W168 : ∀ zQ, SS p e below T159 m 147 #[.val (.int a), .val (.int b), .val (.int d), .val (.int e0_), .val (.int n), .val (.ref b101), .val (.ref b110), .val (.int (2 : Int32)), .val (.int (ek 2 0 q0 q1 q2 q3)), .val (.int (ek 2 1 q0 q1 q2 q3)), .val (.int (0 : Int32)), .val (.int (0 : Int32)), .val (.int (ln 2 q0 q1 q2 q3 2)), .val (.int (lo 2 q0 q1 q2 q3 2)), .unset] [(.int (0 : Int32))] zQ → Steps p.tables e below (s₁.setTop (entryFrame m #[(.int a), (.int b), (.int d), (.int e0_), (.int n)] maxLocals)) zQ := by
      intro tt kt
      refine W167 tt ?_
      refine XS.iload X159.here hx rfl (hb hby at_145) rfl ?_
      exact kt
    have W169 : ∀ zQ, SS p e below T159 m 159 #[.val (.int a), .val (.int b), .val (.int d), .val (.int e0_), .val (.int n), .val (.ref b101), .val (.ref b110), .val (.int (2 : Int32)), .val (.int (ek 2 0 q0 q1 q2 q3)), .val (.int (ek 2 1 q0 q1 q2 q3)), .val (.int (0 : Int32)), .val (.int (0 : Int32)), .val (.int (ln 2 q0 q1 q2 q3 2)), .val (.int (lo 2 q0 q1 q2 q3 2)), .unset] [] zQ → Steps p.tables e below (s₁.setTop (entryFrame m #[(.int a), (.int b), (.int d), (.int e0_), (.int n)] maxLocals)) zQ := by
      intro tt kt
      refine W168 tt ?_
      refine XS.ifYes X159.here hx rfl (pc0 := 147) (pc' := 159) rfl (hb hby at_147) rfl ((if0 _ _).trans (teq (by decide)).1) (by decide) (by decide) ?_
      exact castTop (by first | rfl | (simp only []; first | done | rfl)) kt
    have O170 : Old Z n0 T113.heap := (O112.keep K113 (allS (Nat.le_trans Z0 (Nat.le_trans (Nat.le_trans (Nat.le_trans (Nat.le_trans (Nat.le_trans K101.1 K103.1) K105.1) K107.1) K109.1) (Nat.le_of_eq g110.symm))) all0))
    obtain ⟨_, _, ⟨T171, L171, k171, n171⟩, -, X171, ⟨Lc171, hQ171, l171, y171, z171⟩, st171⟩ := Jvm.LawKit.callS X159 hx (y := yn41) hown0 (mvT hZ0 (w39 hw)) (mvT hZ0 (w40 hw)) (mvT hZ0 (w41 hw)) (mvT hZ0 (w42 hw)) (by decide) (backOf (W := 0) (rm_after2 l Z a0 hw [] b110 t_114 kb_115 q0 q1 q2 q3 cS fm T113.heap n0 (Nat.le_trans Z0 (Nat.le_trans (Nat.le_trans (Nat.le_trans (Nat.le_trans (Nat.le_trans (Nat.le_trans K101.1 K103.1) K105.1) K107.1) K109.1) K110.1) K113.1)) O170 S_cs hcS S_fm hfm S_ad S_hi S_lo P113_1) hZ0 (w42 hw) (w41 hw) (by decide) (by decide)) (g := (mkF m 163 #[.val (.int a), .val (.int b), .val (.int d), .val (.int e0_), .val (.int n), .val (.ref b101), .val (.ref b110), .val (.int (2 : Int32)), .val (.int (ek 2 0 q0 q1 q2 q3)), .val (.int (ek 2 1 q0 q1 q2 q3)), .val (.int (0 : Int32)), .val (.int (0 : Int32)), .val (.int (ln 2 q0 q1 q2 q3 2)), .val (.int (lo 2 q0 q1 q2 q3 2)), .unset] [(.int (2 : Int32)), (.ref b110)])) rfl (by rw [hml]; rfl) (argsL := [(.ref b110), (.int (2 : Int32))]) (rest := []) (lenOf pd__28_Ljava_2f_lang_2f_String_3b_I_29_Lcom_2f_example_2f_vestline_2f_vestline_2f_input_2f_TextPosition_3b_ rfl) rfl (by show 2 * 0 + _ ≤ _; exact Nat.le_of_eq rfl) (hb hby at_163) (fun _ _ => ⟨rfl, eq159, (Nat.le_of_ble_eq_true rfl), (Nat.le_of_ble_eq_true rfl)⟩)
    dsimp only [Pt.U, Pt.locs, Pt.cells, Pt.slots] at X171 l171 y171 z171 st171 hQ171
    subst l171 y171 z171
    obtain ⟨r_172, rfl, Nq171, K171, P171_0, P171_1, P171_2, P171_3⟩ := hQ171
    have N171 := Fr.app N159 Nq171
    obtain ⟨cq173, kq173, q173a, q173b, q173c⟩ := isOf hZ0 rfl P171_1
    obtain ⟨_, _, ⟨T173, L173, k173, n173⟩, -, X173, ⟨Lc173, hQ173, l173, y173, z173⟩, st173⟩ := X171.virtualBack hx (y := yn39) (z := yn39) hown0 (mvT hZ0 (w93 hw)) (mvT hZ0 (w94 hw)) (notFace_of_selects (args := #[]) (mvT hZ0 (w96 hw))) (mvT hZ0 (w96 hw)) (mvT hZ0 (w95 hw)) (by decide) (backOf (W := 0) (rm_line l Z a0 hw [] r_172 (ln 2 q0 q1 q2 q3 2) T171.heap n0 (Nat.le_trans Z0 (Nat.le_trans (Nat.le_trans (Nat.le_trans (Nat.le_trans (Nat.le_trans (Nat.le_trans (Nat.le_trans K101.1 K103.1) K105.1) K107.1) K109.1) K110.1) K113.1) K171.1)) P171_2) hZ0 (w97 hw) (w41 hw) (by decide) (by decide)) q173a q173c (g := (mkF m 170 #[.val (.int a), .val (.int b), .val (.int d), .val (.int e0_), .val (.int n), .val (.ref b101), .val (.ref b110), .val (.int (2 : Int32)), .val (.int (ek 2 0 q0 q1 q2 q3)), .val (.int (ek 2 1 q0 q1 q2 q3)), .val (.int (0 : Int32)), .val (.int (0 : Int32)), .val (.int (ln 2 q0 q1 q2 q3 2)), .val (.int (lo 2 q0 q1 q2 q3 2)), .val (.ref r_172)] [(.ref r_172)])) rfl (by rw [hml]; rfl) (Steps.refl _) (argsL := []) (rest := []) (lenOf pd__28__29_I rfl) rfl (by show 2 * 0 + _ ≤ _; exact Nat.le_of_eq rfl) (hb hby at_170) (fun _ _ => ⟨rfl, rfl, (Nat.le_of_ble_eq_true rfl), (Nat.le_of_ble_eq_true rfl)⟩)
    dsimp only [Pt.U, Pt.locs, Pt.cells, Pt.slots] at X173 l173 y173 z173 st173 hQ173
    subst l173 y173 z173
    obtain ⟨rfl, Nq173, eq173⟩ := hQ173
    have N173 := Fr.app N171 Nq173
    obtain ⟨cq174, kq174, q174a, q174b, q174c⟩ := isOf hZ0 eq173 P171_1
    obtain ⟨_, _, ⟨T174, L174, k174, n174⟩, -, X174, ⟨Lc174, hQ174, l174, y174, z174⟩, st174⟩ := X173.virtualBack hx (y := yn40) (z := yn40) hown0 (mvT hZ0 (w98 hw)) (mvT hZ0 (w99 hw)) (notFace_of_selects (args := #[]) (mvT hZ0 (w101 hw))) (mvT hZ0 (w101 hw)) (mvT hZ0 (w100 hw)) (by decide) (backOf (W := 0) (rm_character l Z a0 hw [] r_172 ((2 : Int32) - (lo 2 q0 q1 q2 q3 2)) T171.heap n0 (Nat.le_trans Z0 (Nat.le_trans (Nat.le_trans (Nat.le_trans (Nat.le_trans (Nat.le_trans (Nat.le_trans (Nat.le_trans K101.1 K103.1) K105.1) K107.1) K109.1) K110.1) K113.1) K171.1)) P171_3) hZ0 (w102 hw) (w41 hw) (by decide) (by decide)) q174a q174c (g := (mkF m 180 #[.val (.int a), .val (.int b), .val (.int d), .val (.int e0_), .val (.int n), .val (.ref b101), .val (.ref b110), .val (.int (2 : Int32)), .val (.int (ek 2 0 q0 q1 q2 q3)), .val (.int (ek 2 1 q0 q1 q2 q3)), .val (.int (0 : Int32)), .val (.int (0 : Int32)), .val (.int (ln 2 q0 q1 q2 q3 2)), .val (.int (lo 2 q0 q1 q2 q3 2)), .val (.ref r_172)] [(.ref r_172)])) rfl (by rw [hml]; rfl) (Steps.refl _) (argsL := []) (rest := []) (lenOf pd__28__29_I rfl) rfl (by show 2 * 0 + _ ≤ _; exact Nat.le_of_eq rfl) (hb hby at_180) (fun _ _ => ⟨rfl, eq173, (Nat.le_of_ble_eq_true rfl), (Nat.le_of_ble_eq_true rfl)⟩)
    dsimp only [Pt.U, Pt.locs, Pt.cells, Pt.slots] at X174 l174 y174 z174 st174 hQ174
    subst l174 y174 z174
    obtain ⟨rfl, Nq174, eq174⟩ := hQ174
    have N174 := Fr.app N173 Nq174
    have W175 : ∀ zQ, SS p e below T174 m 196 #[.val (.int a), .val (.int b), .val (.int d), .val (.int e0_), .val (.int n), .val (.ref b101), .val (.ref b110), .val (.int (2 : Int32)), .val (.int (ek 2 0 q0 q1 q2 q3)), .val (.int (ek 2 1 q0 q1 q2 q3)), .val (.int (0 : Int32)), .val (.int (0 : Int32)), .val (.int (ln 2 q0 q1 q2 q3 2)), .val (.int (lo 2 q0 q1 q2 q3 2)), .val (.ref r_172)] [(.int (1 : Int32))] zQ → Steps p.tables e below (s₁.setTop (entryFrame m #[(.int a), (.int b), (.int d), (.int e0_), (.int n)] maxLocals)) zQ := by
      intro tt kt
      refine W169 tt ?_
      refine XS.aload X159.here hx rfl (hb hby at_159) rfl rfl ?_
      refine XS.iload X159.here hx rfl (hb hby at_161) rfl ?_
      show SS p e below T159 m 163 #[.val (.int a), .val (.int b), .val (.int d), .val (.int e0_), .val (.int n), .val (.ref b101), .val (.ref b110), .val (.int (2 : Int32)), .val (.int (ek 2 0 q0 q1 q2 q3)), .val (.int (ek 2 1 q0 q1 q2 q3)), .val (.int (0 : Int32)), .val (.int (0 : Int32)), .val (.int (ln 2 q0 q1 q2 q3 2)), .val (.int (lo 2 q0 q1 q2 q3 2)), .unset] [(.int (2 : Int32)), (.ref b110)] _
      refine st171 _ ?_
      refine XS.astore X171.here hx rfl (hb hby at_166) rfl rfl (l' := #[.val (.int a), .val (.int b), .val (.int d), .val (.int e0_), .val (.int n), .val (.ref b101), .val (.ref b110), .val (.int (2 : Int32)), .val (.int (ek 2 0 q0 q1 q2 q3)), .val (.int (ek 2 1 q0 q1 q2 q3)), .val (.int (0 : Int32)), .val (.int (0 : Int32)), .val (.int (ln 2 q0 q1 q2 q3 2)), .val (.int (lo 2 q0 q1 q2 q3 2)), .val (.ref r_172)]) rfl ?_
      refine XS.aload X171.here hx rfl (hb hby at_168) rfl rfl ?_
      show SS p e below T171 m 170 #[.val (.int a), .val (.int b), .val (.int d), .val (.int e0_), .val (.int n), .val (.ref b101), .val (.ref b110), .val (.int (2 : Int32)), .val (.int (ek 2 0 q0 q1 q2 q3)), .val (.int (ek 2 1 q0 q1 q2 q3)), .val (.int (0 : Int32)), .val (.int (0 : Int32)), .val (.int (ln 2 q0 q1 q2 q3 2)), .val (.int (lo 2 q0 q1 q2 q3 2)), .val (.ref r_172)] [(.ref r_172)] _
      refine st173.trans ?_
      refine XS.iload X173.here hx rfl (hb hby at_173) rfl ?_
      refine XS.icmpNo X173.here hx rfl (hb hby at_175) rfl (teq rfl).2 ?_
      refine XS.aload X173.here hx rfl (hb hby at_178) rfl rfl ?_
      show SS p e below T173 m 180 #[.val (.int a), .val (.int b), .val (.int d), .val (.int e0_), .val (.int n), .val (.ref b101), .val (.ref b110), .val (.int (2 : Int32)), .val (.int (ek 2 0 q0 q1 q2 q3)), .val (.int (ek 2 1 q0 q1 q2 q3)), .val (.int (0 : Int32)), .val (.int (0 : Int32)), .val (.int (ln 2 q0 q1 q2 q3 2)), .val (.int (lo 2 q0 q1 q2 q3 2)), .val (.ref r_172)] [(.ref r_172)] _
      refine st174.trans ?_
      refine XS.iload X174.here hx rfl (hb hby at_183) rfl ?_
      refine XS.iload X174.here hx rfl (hb hby at_185) rfl ?_
      refine XS.isub X174.here hx rfl (hb hby at_187) rfl ?_
      refine XS.icmpNo X174.here hx rfl (hb hby at_188) rfl (teq rfl).2 ?_
      refine XS.iconst X174.here hx rfl (hb hby at_191) ?_
      show SS p e below T174 m 192 #[.val (.int a), .val (.int b), .val (.int d), .val (.int e0_), .val (.int n), .val (.ref b101), .val (.ref b110), .val (.int (2 : Int32)), .val (.int (ek 2 0 q0 q1 q2 q3)), .val (.int (ek 2 1 q0 q1 q2 q3)), .val (.int (0 : Int32)), .val (.int (0 : Int32)), .val (.int (ln 2 q0 q1 q2 q3 2)), .val (.int (lo 2 q0 q1 q2 q3 2)), .val (.ref r_172)] [(.int (1 : Int32))] _
      refine XS.goto X174.here hx rfl (pc0 := 192) (pc' := 196) rfl (hb hby at_192) (by decide) (by decide) ?_
      exact kt
    obtain ⟨fs, hr, hrun, hended, hRW⟩ := Jvm.Stand.leaveW X174 hS0 (by rw [eq174]; exact (Nat.le_trans hk0 (Nat.le_trans (Nat.le_trans (Nat.le_trans (Nat.le_trans (Nat.le_trans (Nat.le_trans (Nat.le_trans K101.1 K103.1) K105.1) K107.1) K109.1) K110.1) K113.1) K171.1))) (v := some (.int (nar .boolean (1 : Int32)))) (fun h => by rw [Bd.returns] at h; cases h) (BodyLoose.notSynchronized Bd)
    refine ⟨_, _, W175 _ (retN X174 hx (t := .boolean) Bd.returns (by simp) (hb hby at_196) hr), hrun, hended, _, _, rfl, ?_, own_rw hRW (by decide) (by decide)⟩
    show Q_law Z a b d e0_ n cS fm h0 n0 _ T174.heap _
    rw [eq174]
    exact ⟨rfl, N174, (Keep.trans (Keep.trans (Keep.trans (Keep.trans (Keep.trans (Keep.trans (Keep.trans (Keep.trans (Keep.refl h0 []) K101 all0) K103 (allS (Or.inr (Nat.le_of_eq g101.symm)) all0)) K105 (allS (Or.inr (Nat.le_of_eq g101.symm)) all0)) K107 (allS (Or.inr (Nat.le_of_eq g101.symm)) all0)) K109 (allS (Or.inr (Nat.le_of_eq g101.symm)) all0)) K110 all0) K113 (allS (Or.inr (Nat.le_trans (Nat.le_trans (Nat.le_trans (Nat.le_trans (Nat.le_trans K101.1 K103.1) K105.1) K107.1) K109.1) (Nat.le_of_eq g110.symm))) all0)) K171 all0)⟩
  ·
    have F176 : Arv Z T113.heap b101 k101 .char (4 : Int32) [(.int q0), (.int q1), (.int q2), (.int q3)] (.int (0 : Int32)) := (F111.keep K113 (ninS (Nat.ne_of_lt (Nat.lt_of_lt_of_le (Nat.lt_of_lt_of_le G101.lt (Nat.le_trans (Nat.le_trans (Nat.le_trans K103.1 K105.1) K107.1) K109.1)) (Nat.le_of_eq g110.symm))) nin0))
    obtain ⟨_, _, ⟨T177, L177, k177, n177⟩, -, X177, ⟨Lc177, hQ177, l177, y177, z177⟩, st177⟩ := Jvm.LawKit.callS X113 hx (y := yn42) hown0 (mvT hZ0 (w36 hw)) (mvT hZ0 (w37 hw)) (mvT hZ0 (w3 hw)) (mvT hZ0 (w38 hw)) (by decide) (backOf (W := 0) (rm_endsYes l Z a0 hw [] b101 0 3 k101 [q0, q1, q2, q3] T113.heap n0 (Nat.le_trans Z0 (Nat.le_trans (Nat.le_trans (Nat.le_trans (Nat.le_trans (Nat.le_trans (Nat.le_trans K101.1 K103.1) K105.1) K107.1) K109.1) K110.1) K113.1)) F176 (Nat.le_of_ble_eq_true rfl) (Nat.le_of_ble_eq_true rfl) (Nat.le_of_ble_eq_true rfl)) hZ0 (w38 hw) (w3 hw) (by decide) (by decide)) (g := (mkF m 62 #[.val (.int a), .val (.int b), .val (.int d), .val (.int e0_), .val (.int n), .val (.ref b101), .val (.ref b110), .val (.int (3 : Int32)), .unset, .unset, .unset, .unset, .unset, .unset, .unset] [(.int (3 : Int32)), (.int (0 : Int32)), (.ref b101)])) rfl (by rw [hml]; rfl) (argsL := [(.ref b101), (.int (0 : Int32)), (.int (3 : Int32))]) (rest := []) (lenOf pd__28__5b_CII_29_Z rfl) rfl (by show 2 * 0 + _ ≤ _; exact Nat.le_of_eq rfl) (hb hby at_62) (fun _ _ => ⟨rfl, rfl, (Nat.le_of_ble_eq_true rfl), (Nat.le_of_ble_eq_true rfl)⟩)
    dsimp only [Pt.U, Pt.locs, Pt.cells, Pt.slots] at X177 l177 y177 z177 st177 hQ177
    subst l177 y177 z177
    obtain ⟨rfl, Nq177, eq177⟩ := hQ177
    have N177 := Fr.app N113 Nq177
    obtain ⟨_, _, ⟨T178, L178, k178, n178⟩, -, X178, ⟨Lc178, hQ178, l178, y178, z178⟩, st178⟩ := Jvm.LawKit.callS X177 hx (y := yn42) hown0 (mvT hZ0 (w36 hw)) (mvT hZ0 (w37 hw)) (mvT hZ0 (w3 hw)) (mvT hZ0 (w38 hw)) (by decide) (backOf (W := 0) (rm_endsYes l Z a0 hw [] b101 1 3 k101 [q0, q1, q2, q3] T113.heap n0 (Nat.le_trans Z0 (Nat.le_trans (Nat.le_trans (Nat.le_trans (Nat.le_trans (Nat.le_trans (Nat.le_trans K101.1 K103.1) K105.1) K107.1) K109.1) K110.1) K113.1)) F176 (Nat.le_of_ble_eq_true rfl) (Nat.le_of_ble_eq_true rfl) (Nat.le_of_ble_eq_true rfl)) hZ0 (w38 hw) (w3 hw) (by decide) (by decide)) (g := (mkF m 72 #[.val (.int a), .val (.int b), .val (.int d), .val (.int e0_), .val (.int n), .val (.ref b101), .val (.ref b110), .val (.int (3 : Int32)), .val (.int (ek 3 0 q0 q1 q2 q3)), .unset, .unset, .unset, .unset, .unset, .unset] [(.int (3 : Int32)), (.int (1 : Int32)), (.ref b101)])) rfl (by rw [hml]; rfl) (argsL := [(.ref b101), (.int (1 : Int32)), (.int (3 : Int32))]) (rest := []) (lenOf pd__28__5b_CII_29_Z rfl) rfl (by show 2 * 0 + _ ≤ _; exact Nat.le_of_eq rfl) (hb hby at_72) (fun _ _ => ⟨rfl, eq177, (Nat.le_of_ble_eq_true rfl), (Nat.le_of_ble_eq_true rfl)⟩)
    dsimp only [Pt.U, Pt.locs, Pt.cells, Pt.slots] at X178 l178 y178 z178 st178 hQ178
    subst l178 y178 z178
    obtain ⟨rfl, Nq178, eq178⟩ := hQ178
    have N178 := Fr.app N177 Nq178
    obtain ⟨_, _, ⟨T179, L179, k179, n179⟩, -, X179, ⟨Lc179, hQ179, l179, y179, z179⟩, st179⟩ := Jvm.LawKit.callS X178 hx (y := yn42) hown0 (mvT hZ0 (w36 hw)) (mvT hZ0 (w37 hw)) (mvT hZ0 (w3 hw)) (mvT hZ0 (w38 hw)) (by decide) (backOf (W := 0) (rm_endsYes l Z a0 hw [] b101 2 3 k101 [q0, q1, q2, q3] T113.heap n0 (Nat.le_trans Z0 (Nat.le_trans (Nat.le_trans (Nat.le_trans (Nat.le_trans (Nat.le_trans (Nat.le_trans K101.1 K103.1) K105.1) K107.1) K109.1) K110.1) K113.1)) F176 (Nat.le_of_ble_eq_true rfl) (Nat.le_of_ble_eq_true rfl) (Nat.le_of_ble_eq_true rfl)) hZ0 (w38 hw) (w3 hw) (by decide) (by decide)) (g := (mkF m 82 #[.val (.int a), .val (.int b), .val (.int d), .val (.int e0_), .val (.int n), .val (.ref b101), .val (.ref b110), .val (.int (3 : Int32)), .val (.int (ek 3 0 q0 q1 q2 q3)), .val (.int (ek 3 1 q0 q1 q2 q3)), .unset, .unset, .unset, .unset, .unset] [(.int (3 : Int32)), (.int (2 : Int32)), (.ref b101)])) rfl (by rw [hml]; rfl) (argsL := [(.ref b101), (.int (2 : Int32)), (.int (3 : Int32))]) (rest := []) (lenOf pd__28__5b_CII_29_Z rfl) rfl (by show 2 * 0 + _ ≤ _; exact Nat.le_of_eq rfl) (hb hby at_82) (fun _ _ => ⟨rfl, eq178, (Nat.le_of_ble_eq_true rfl), (Nat.le_of_ble_eq_true rfl)⟩)
    dsimp only [Pt.U, Pt.locs, Pt.cells, Pt.slots] at X179 l179 y179 z179 st179 hQ179
    subst l179 y179 z179
    obtain ⟨rfl, Nq179, eq179⟩ := hQ179
    have N179 := Fr.app N178 Nq179
    obtain ⟨_, _, ⟨T180, L180, k180, n180⟩, -, X180, ⟨Lc180, hQ180, l180, y180, z180⟩, st180⟩ := Jvm.LawKit.callS X179 hx (y := yn42) hown0 (mvT hZ0 (w36 hw)) (mvT hZ0 (w37 hw)) (mvT hZ0 (w3 hw)) (mvT hZ0 (w38 hw)) (by decide) (backOf (W := 0) (rm_endsNo l Z a0 hw [] b101 (3 : Int32) (3 : Int32) T113.heap n0 (Nat.le_trans Z0 (Nat.le_trans (Nat.le_trans (Nat.le_trans (Nat.le_trans (Nat.le_trans (Nat.le_trans K101.1 K103.1) K105.1) K107.1) K109.1) K110.1) K113.1)) (by decide : ¬ ((3 : Int32) < (3 : Int32)))) hZ0 (w38 hw) (w3 hw) (by decide) (by decide)) (g := (mkF m 92 #[.val (.int a), .val (.int b), .val (.int d), .val (.int e0_), .val (.int n), .val (.ref b101), .val (.ref b110), .val (.int (3 : Int32)), .val (.int (ek 3 0 q0 q1 q2 q3)), .val (.int (ek 3 1 q0 q1 q2 q3)), .val (.int (ek 3 2 q0 q1 q2 q3)), .unset, .unset, .unset, .unset] [(.int (3 : Int32)), (.int (3 : Int32)), (.ref b101)])) rfl (by rw [hml]; rfl) (argsL := [(.ref b101), (.int (3 : Int32)), (.int (3 : Int32))]) (rest := []) (lenOf pd__28__5b_CII_29_Z rfl) rfl (by show 2 * 0 + _ ≤ _; exact Nat.le_of_eq rfl) (hb hby at_92) (fun _ _ => ⟨rfl, eq179, (Nat.le_of_ble_eq_true rfl), (Nat.le_of_ble_eq_true rfl)⟩)
    dsimp only [Pt.U, Pt.locs, Pt.cells, Pt.slots] at X180 l180 y180 z180 st180 hQ180
    subst l180 y180 z180
    obtain ⟨rfl, Nq180, eq180⟩ := hQ180
    have N180 := Fr.app N179 Nq180
    have W181 : ∀ zQ, SS p e below T180 m 105 #[.val (.int a), .val (.int b), .val (.int d), .val (.int e0_), .val (.int n), .val (.ref b101), .val (.ref b110), .val (.int (3 : Int32)), .val (.int (ek 3 0 q0 q1 q2 q3)), .val (.int (ek 3 1 q0 q1 q2 q3)), .val (.int (ek 3 2 q0 q1 q2 q3)), .val (.int (0 : Int32)), .val (.int (1 : Int32)), .val (.int (0 : Int32)), .unset] [(.int (ek 3 0 q0 q1 q2 q3))] zQ → Steps p.tables e below (s₁.setTop (entryFrame m #[(.int a), (.int b), (.int d), (.int e0_), (.int n)] maxLocals)) zQ := by
      intro tt kt
      refine W116 tt ?_
      refine XS.istore X113.here hx rfl (hb hby at_55) rfl (l' := #[.val (.int a), .val (.int b), .val (.int d), .val (.int e0_), .val (.int n), .val (.ref b101), .val (.ref b110), .val (.int (3 : Int32)), .unset, .unset, .unset, .unset, .unset, .unset, .unset]) rfl ?_
      refine XS.aload X113.here hx rfl (hb hby at_57) rfl rfl ?_
      refine XS.iconst X113.here hx rfl (hb hby at_59) ?_
      refine XS.iload X113.here hx rfl (hb hby at_60) rfl ?_
      show SS p e below T113 m 62 #[.val (.int a), .val (.int b), .val (.int d), .val (.int e0_), .val (.int n), .val (.ref b101), .val (.ref b110), .val (.int (3 : Int32)), .unset, .unset, .unset, .unset, .unset, .unset, .unset] [(.int (3 : Int32)), (.int (0 : Int32)), (.ref b101)] _
      refine st177 _ ?_
      show SS p e below T177 m 65 #[.val (.int a), .val (.int b), .val (.int d), .val (.int e0_), .val (.int n), .val (.ref b101), .val (.ref b110), .val (.int (3 : Int32)), .unset, .unset, .unset, .unset, .unset, .unset, .unset] [(.int (el (([q0, q1, q2, q3].drop 0).take 3) 0))] _
      rw [show (el (([q0, q1, q2, q3].drop 0).take 3) 0) = (ek 3 0 q0 q1 q2 q3) from rfl]
      refine XS.istore X177.here hx rfl (hb hby at_65) rfl (l' := #[.val (.int a), .val (.int b), .val (.int d), .val (.int e0_), .val (.int n), .val (.ref b101), .val (.ref b110), .val (.int (3 : Int32)), .val (.int (ek 3 0 q0 q1 q2 q3)), .unset, .unset, .unset, .unset, .unset, .unset]) rfl ?_
      refine XS.aload X177.here hx rfl (hb hby at_67) rfl rfl ?_
      refine XS.iconst X177.here hx rfl (hb hby at_69) ?_
      refine XS.iload X177.here hx rfl (hb hby at_70) rfl ?_
      show SS p e below T177 m 72 #[.val (.int a), .val (.int b), .val (.int d), .val (.int e0_), .val (.int n), .val (.ref b101), .val (.ref b110), .val (.int (3 : Int32)), .val (.int (ek 3 0 q0 q1 q2 q3)), .unset, .unset, .unset, .unset, .unset, .unset] [(.int (3 : Int32)), (.int (1 : Int32)), (.ref b101)] _
      refine st178 _ ?_
      show SS p e below T178 m 75 #[.val (.int a), .val (.int b), .val (.int d), .val (.int e0_), .val (.int n), .val (.ref b101), .val (.ref b110), .val (.int (3 : Int32)), .val (.int (ek 3 0 q0 q1 q2 q3)), .unset, .unset, .unset, .unset, .unset, .unset] [(.int (el (([q0, q1, q2, q3].drop 0).take 3) 1))] _
      rw [show (el (([q0, q1, q2, q3].drop 0).take 3) 1) = (ek 3 1 q0 q1 q2 q3) from rfl]
      refine XS.istore X178.here hx rfl (hb hby at_75) rfl (l' := #[.val (.int a), .val (.int b), .val (.int d), .val (.int e0_), .val (.int n), .val (.ref b101), .val (.ref b110), .val (.int (3 : Int32)), .val (.int (ek 3 0 q0 q1 q2 q3)), .val (.int (ek 3 1 q0 q1 q2 q3)), .unset, .unset, .unset, .unset, .unset]) rfl ?_
      refine XS.aload X178.here hx rfl (hb hby at_77) rfl rfl ?_
      refine XS.iconst X178.here hx rfl (hb hby at_79) ?_
      refine XS.iload X178.here hx rfl (hb hby at_80) rfl ?_
      show SS p e below T178 m 82 #[.val (.int a), .val (.int b), .val (.int d), .val (.int e0_), .val (.int n), .val (.ref b101), .val (.ref b110), .val (.int (3 : Int32)), .val (.int (ek 3 0 q0 q1 q2 q3)), .val (.int (ek 3 1 q0 q1 q2 q3)), .unset, .unset, .unset, .unset, .unset] [(.int (3 : Int32)), (.int (2 : Int32)), (.ref b101)] _
      refine st179 _ ?_
      show SS p e below T179 m 85 #[.val (.int a), .val (.int b), .val (.int d), .val (.int e0_), .val (.int n), .val (.ref b101), .val (.ref b110), .val (.int (3 : Int32)), .val (.int (ek 3 0 q0 q1 q2 q3)), .val (.int (ek 3 1 q0 q1 q2 q3)), .unset, .unset, .unset, .unset, .unset] [(.int (el (([q0, q1, q2, q3].drop 0).take 3) 2))] _
      rw [show (el (([q0, q1, q2, q3].drop 0).take 3) 2) = (ek 3 2 q0 q1 q2 q3) from rfl]
      refine XS.istore X179.here hx rfl (hb hby at_85) rfl (l' := #[.val (.int a), .val (.int b), .val (.int d), .val (.int e0_), .val (.int n), .val (.ref b101), .val (.ref b110), .val (.int (3 : Int32)), .val (.int (ek 3 0 q0 q1 q2 q3)), .val (.int (ek 3 1 q0 q1 q2 q3)), .val (.int (ek 3 2 q0 q1 q2 q3)), .unset, .unset, .unset, .unset]) rfl ?_
      refine XS.aload X179.here hx rfl (hb hby at_87) rfl rfl ?_
      refine XS.iconst X179.here hx rfl (hb hby at_89) ?_
      refine XS.iload X179.here hx rfl (hb hby at_90) rfl ?_
      show SS p e below T179 m 92 #[.val (.int a), .val (.int b), .val (.int d), .val (.int e0_), .val (.int n), .val (.ref b101), .val (.ref b110), .val (.int (3 : Int32)), .val (.int (ek 3 0 q0 q1 q2 q3)), .val (.int (ek 3 1 q0 q1 q2 q3)), .val (.int (ek 3 2 q0 q1 q2 q3)), .unset, .unset, .unset, .unset] [(.int (3 : Int32)), (.int (3 : Int32)), (.ref b101)] _
      refine st180 _ ?_
      refine XS.istore X180.here hx rfl (hb hby at_95) rfl (l' := #[.val (.int a), .val (.int b), .val (.int d), .val (.int e0_), .val (.int n), .val (.ref b101), .val (.ref b110), .val (.int (3 : Int32)), .val (.int (ek 3 0 q0 q1 q2 q3)), .val (.int (ek 3 1 q0 q1 q2 q3)), .val (.int (ek 3 2 q0 q1 q2 q3)), .val (.int (0 : Int32)), .unset, .unset, .unset]) rfl ?_
      refine XS.iconst X180.here hx rfl (hb hby at_97) ?_
      refine XS.istore X180.here hx rfl (hb hby at_98) rfl (l' := #[.val (.int a), .val (.int b), .val (.int d), .val (.int e0_), .val (.int n), .val (.ref b101), .val (.ref b110), .val (.int (3 : Int32)), .val (.int (ek 3 0 q0 q1 q2 q3)), .val (.int (ek 3 1 q0 q1 q2 q3)), .val (.int (ek 3 2 q0 q1 q2 q3)), .val (.int (0 : Int32)), .val (.int (1 : Int32)), .unset, .unset]) rfl ?_
      refine XS.iconst X180.here hx rfl (hb hby at_100) ?_
      refine XS.istore X180.here hx rfl (hb hby at_101) rfl (l' := #[.val (.int a), .val (.int b), .val (.int d), .val (.int e0_), .val (.int n), .val (.ref b101), .val (.ref b110), .val (.int (3 : Int32)), .val (.int (ek 3 0 q0 q1 q2 q3)), .val (.int (ek 3 1 q0 q1 q2 q3)), .val (.int (ek 3 2 q0 q1 q2 q3)), .val (.int (0 : Int32)), .val (.int (1 : Int32)), .val (.int (0 : Int32)), .unset]) rfl ?_
      show SS p e below T180 m 103 #[.val (.int a), .val (.int b), .val (.int d), .val (.int e0_), .val (.int n), .val (.ref b101), .val (.ref b110), .val (.int (3 : Int32)), .val (.int (ek 3 0 q0 q1 q2 q3)), .val (.int (ek 3 1 q0 q1 q2 q3)), .val (.int (ek 3 2 q0 q1 q2 q3)), .val (.int (0 : Int32)), .val (.int (1 : Int32)), .val (.int (0 : Int32)), .unset] [] _
      refine XS.iload X180.here hx rfl (hb hby at_103) rfl ?_
      exact kt
    have W183 : ∀ zQ, SS p e below T180 m 117 #[.val (.int a), .val (.int b), .val (.int d), .val (.int e0_), .val (.int n), .val (.ref b101), .val (.ref b110), .val (.int (3 : Int32)), .val (.int (ek 3 0 q0 q1 q2 q3)), .val (.int (ek 3 1 q0 q1 q2 q3)), .val (.int (ek 3 2 q0 q1 q2 q3)), .val (.int (0 : Int32)), .val (.int (if (ek 3 0 q0 q1 q2 q3) = (0 : Int32) then (1 : Int32) else (2 : Int32))), .val (.int (if (ek 3 0 q0 q1 q2 q3) = (0 : Int32) then (0 : Int32) else (1 : Int32))), .unset] [] zQ → Steps p.tables e below (s₁.setTop (entryFrame m #[(.int a), (.int b), (.int d), (.int e0_), (.int n)] maxLocals)) zQ := by
      intro tt kt
      refine W181 tt ?_
      by_cases hj182 : (ek 3 0 q0 q1 q2 q3) = (0 : Int32)
      ·
        refine XS.ifYes X180.here hx rfl (pc0 := 105) (pc' := 117) rfl (hb hby at_105) rfl ((if0 _ _).trans (teq hj182).1) (by decide) (by decide) ?_
        exact castTop (by first | rfl | (simp only [if_pos hj182]; first | done | rfl)) kt
      ·
        refine XS.ifNo X180.here hx rfl (hb hby at_105) rfl ((if0 _ _).trans (feq hj182).1) ?_
        refine XS.iload X180.here hx rfl (hb hby at_108) rfl ?_
        refine XS.iconst X180.here hx rfl (hb hby at_110) ?_
        refine XS.iadd X180.here hx rfl (hb hby at_111) rfl ?_
        refine XS.istore X180.here hx rfl (hb hby at_112) rfl (l' := #[.val (.int a), .val (.int b), .val (.int d), .val (.int e0_), .val (.int n), .val (.ref b101), .val (.ref b110), .val (.int (3 : Int32)), .val (.int (ek 3 0 q0 q1 q2 q3)), .val (.int (ek 3 1 q0 q1 q2 q3)), .val (.int (ek 3 2 q0 q1 q2 q3)), .val (.int (0 : Int32)), .val (.int (2 : Int32)), .val (.int (0 : Int32)), .unset]) rfl ?_
        refine XS.iconst X180.here hx rfl (hb hby at_114) ?_
        show SS p e below T180 m 115 #[.val (.int a), .val (.int b), .val (.int d), .val (.int e0_), .val (.int n), .val (.ref b101), .val (.ref b110), .val (.int (3 : Int32)), .val (.int (ek 3 0 q0 q1 q2 q3)), .val (.int (ek 3 1 q0 q1 q2 q3)), .val (.int (ek 3 2 q0 q1 q2 q3)), .val (.int (0 : Int32)), .val (.int (2 : Int32)), .val (.int (0 : Int32)), .unset] [(.int (1 : Int32))] _
        refine XS.istore X180.here hx rfl (hb hby at_115) rfl (l' := #[.val (.int a), .val (.int b), .val (.int d), .val (.int e0_), .val (.int n), .val (.ref b101), .val (.ref b110), .val (.int (3 : Int32)), .val (.int (ek 3 0 q0 q1 q2 q3)), .val (.int (ek 3 1 q0 q1 q2 q3)), .val (.int (ek 3 2 q0 q1 q2 q3)), .val (.int (0 : Int32)), .val (.int (2 : Int32)), .val (.int (1 : Int32)), .unset]) rfl ?_
        exact castTop (by first | rfl | (simp only [if_neg hj182]; first | done | rfl)) kt
    have W184 : ∀ zQ, SS p e below T180 m 119 #[.val (.int a), .val (.int b), .val (.int d), .val (.int e0_), .val (.int n), .val (.ref b101), .val (.ref b110), .val (.int (3 : Int32)), .val (.int (ek 3 0 q0 q1 q2 q3)), .val (.int (ek 3 1 q0 q1 q2 q3)), .val (.int (ek 3 2 q0 q1 q2 q3)), .val (.int (0 : Int32)), .val (.int (ln 3 q0 q1 q2 q3 1)), .val (.int (lo 3 q0 q1 q2 q3 1)), .unset] [(.int (ek 3 1 q0 q1 q2 q3))] zQ → Steps p.tables e below (s₁.setTop (entryFrame m #[(.int a), (.int b), (.int d), (.int e0_), (.int n)] maxLocals)) zQ := by
      intro tt kt
      refine W183 tt ?_
      rw [show (if (ek 3 0 q0 q1 q2 q3) = (0 : Int32) then (1 : Int32) else (2 : Int32)) = (ln 3 q0 q1 q2 q3 1) from rfl]
      show SS p e below T180 m 117 #[.val (.int a), .val (.int b), .val (.int d), .val (.int e0_), .val (.int n), .val (.ref b101), .val (.ref b110), .val (.int (3 : Int32)), .val (.int (ek 3 0 q0 q1 q2 q3)), .val (.int (ek 3 1 q0 q1 q2 q3)), .val (.int (ek 3 2 q0 q1 q2 q3)), .val (.int (0 : Int32)), .val (.int (ln 3 q0 q1 q2 q3 1)), .val (.int (if (ek 3 0 q0 q1 q2 q3) = (0 : Int32) then (0 : Int32) else (1 : Int32))), .unset] [] _
      rw [show (if (ek 3 0 q0 q1 q2 q3) = (0 : Int32) then (0 : Int32) else (1 : Int32)) = (lo 3 q0 q1 q2 q3 1) from rfl]
      refine XS.iload X180.here hx rfl (hb hby at_117) rfl ?_
      exact kt
    have W186 : ∀ zQ, SS p e below T180 m 131 #[.val (.int a), .val (.int b), .val (.int d), .val (.int e0_), .val (.int n), .val (.ref b101), .val (.ref b110), .val (.int (3 : Int32)), .val (.int (ek 3 0 q0 q1 q2 q3)), .val (.int (ek 3 1 q0 q1 q2 q3)), .val (.int (ek 3 2 q0 q1 q2 q3)), .val (.int (0 : Int32)), .val (.int (if (ek 3 1 q0 q1 q2 q3) = (0 : Int32) then (ln 3 q0 q1 q2 q3 1) else ((ln 3 q0 q1 q2 q3 1) + (1 : Int32)))), .val (.int (if (ek 3 1 q0 q1 q2 q3) = (0 : Int32) then (lo 3 q0 q1 q2 q3 1) else (2 : Int32))), .unset] [] zQ → Steps p.tables e below (s₁.setTop (entryFrame m #[(.int a), (.int b), (.int d), (.int e0_), (.int n)] maxLocals)) zQ := by
      intro tt kt
      refine W184 tt ?_
      by_cases hj185 : (ek 3 1 q0 q1 q2 q3) = (0 : Int32)
      ·
        refine XS.ifYes X180.here hx rfl (pc0 := 119) (pc' := 131) rfl (hb hby at_119) rfl ((if0 _ _).trans (teq hj185).1) (by decide) (by decide) ?_
        exact castTop (by first | rfl | (simp only [if_pos hj185]; first | done | rfl)) kt
      ·
        refine XS.ifNo X180.here hx rfl (hb hby at_119) rfl ((if0 _ _).trans (feq hj185).1) ?_
        refine XS.iload X180.here hx rfl (hb hby at_122) rfl ?_
        refine XS.iconst X180.here hx rfl (hb hby at_124) ?_
        refine XS.iadd X180.here hx rfl (hb hby at_125) rfl ?_
        refine XS.istore X180.here hx rfl (hb hby at_126) rfl (l' := #[.val (.int a), .val (.int b), .val (.int d), .val (.int e0_), .val (.int n), .val (.ref b101), .val (.ref b110), .val (.int (3 : Int32)), .val (.int (ek 3 0 q0 q1 q2 q3)), .val (.int (ek 3 1 q0 q1 q2 q3)), .val (.int (ek 3 2 q0 q1 q2 q3)), .val (.int (0 : Int32)), .val (.int ((ln 3 q0 q1 q2 q3 1) + (1 : Int32))), .val (.int (lo 3 q0 q1 q2 q3 1)), .unset]) rfl ?_
        refine XS.iconst X180.here hx rfl (hb hby at_128) ?_
        show SS p e below T180 m 129 #[.val (.int a), .val (.int b), .val (.int d), .val (.int e0_), .val (.int n), .val (.ref b101), .val (.ref b110), .val (.int (3 : Int32)), .val (.int (ek 3 0 q0 q1 q2 q3)), .val (.int (ek 3 1 q0 q1 q2 q3)), .val (.int (ek 3 2 q0 q1 q2 q3)), .val (.int (0 : Int32)), .val (.int ((ln 3 q0 q1 q2 q3 1) + (1 : Int32))), .val (.int (lo 3 q0 q1 q2 q3 1)), .unset] [(.int (2 : Int32))] _
        refine XS.istore X180.here hx rfl (hb hby at_129) rfl (l' := #[.val (.int a), .val (.int b), .val (.int d), .val (.int e0_), .val (.int n), .val (.ref b101), .val (.ref b110), .val (.int (3 : Int32)), .val (.int (ek 3 0 q0 q1 q2 q3)), .val (.int (ek 3 1 q0 q1 q2 q3)), .val (.int (ek 3 2 q0 q1 q2 q3)), .val (.int (0 : Int32)), .val (.int ((ln 3 q0 q1 q2 q3 1) + (1 : Int32))), .val (.int (2 : Int32)), .unset]) rfl ?_
        exact castTop (by first | rfl | (simp only [if_neg hj185]; first | done | rfl)) kt
    have W187 : ∀ zQ, SS p e below T180 m 133 #[.val (.int a), .val (.int b), .val (.int d), .val (.int e0_), .val (.int n), .val (.ref b101), .val (.ref b110), .val (.int (3 : Int32)), .val (.int (ek 3 0 q0 q1 q2 q3)), .val (.int (ek 3 1 q0 q1 q2 q3)), .val (.int (ek 3 2 q0 q1 q2 q3)), .val (.int (0 : Int32)), .val (.int (ln 3 q0 q1 q2 q3 2)), .val (.int (lo 3 q0 q1 q2 q3 2)), .unset] [(.int (ek 3 2 q0 q1 q2 q3))] zQ → Steps p.tables e below (s₁.setTop (entryFrame m #[(.int a), (.int b), (.int d), (.int e0_), (.int n)] maxLocals)) zQ := by
      intro tt kt
      refine W186 tt ?_
      rw [show (if (ek 3 1 q0 q1 q2 q3) = (0 : Int32) then (ln 3 q0 q1 q2 q3 1) else ((ln 3 q0 q1 q2 q3 1) + (1 : Int32))) = (ln 3 q0 q1 q2 q3 2) from rfl]
      show SS p e below T180 m 131 #[.val (.int a), .val (.int b), .val (.int d), .val (.int e0_), .val (.int n), .val (.ref b101), .val (.ref b110), .val (.int (3 : Int32)), .val (.int (ek 3 0 q0 q1 q2 q3)), .val (.int (ek 3 1 q0 q1 q2 q3)), .val (.int (ek 3 2 q0 q1 q2 q3)), .val (.int (0 : Int32)), .val (.int (ln 3 q0 q1 q2 q3 2)), .val (.int (if (ek 3 1 q0 q1 q2 q3) = (0 : Int32) then (lo 3 q0 q1 q2 q3 1) else (2 : Int32))), .unset] [] _
      rw [show (if (ek 3 1 q0 q1 q2 q3) = (0 : Int32) then (lo 3 q0 q1 q2 q3 1) else (2 : Int32)) = (lo 3 q0 q1 q2 q3 2) from rfl]
      refine XS.iload X180.here hx rfl (hb hby at_131) rfl ?_
      exact kt
    have W189 : ∀ zQ, SS p e below T180 m 145 #[.val (.int a), .val (.int b), .val (.int d), .val (.int e0_), .val (.int n), .val (.ref b101), .val (.ref b110), .val (.int (3 : Int32)), .val (.int (ek 3 0 q0 q1 q2 q3)), .val (.int (ek 3 1 q0 q1 q2 q3)), .val (.int (ek 3 2 q0 q1 q2 q3)), .val (.int (0 : Int32)), .val (.int (if (ek 3 2 q0 q1 q2 q3) = (0 : Int32) then (ln 3 q0 q1 q2 q3 2) else ((ln 3 q0 q1 q2 q3 2) + (1 : Int32)))), .val (.int (if (ek 3 2 q0 q1 q2 q3) = (0 : Int32) then (lo 3 q0 q1 q2 q3 2) else (3 : Int32))), .unset] [] zQ → Steps p.tables e below (s₁.setTop (entryFrame m #[(.int a), (.int b), (.int d), (.int e0_), (.int n)] maxLocals)) zQ := by
      intro tt kt
      refine W187 tt ?_
      by_cases hj188 : (ek 3 2 q0 q1 q2 q3) = (0 : Int32)
      ·
        refine XS.ifYes X180.here hx rfl (pc0 := 133) (pc' := 145) rfl (hb hby at_133) rfl ((if0 _ _).trans (teq hj188).1) (by decide) (by decide) ?_
        exact castTop (by first | rfl | (simp only [if_pos hj188]; first | done | rfl)) kt
      ·
        refine XS.ifNo X180.here hx rfl (hb hby at_133) rfl ((if0 _ _).trans (feq hj188).1) ?_
        refine XS.iload X180.here hx rfl (hb hby at_136) rfl ?_
        refine XS.iconst X180.here hx rfl (hb hby at_138) ?_
        refine XS.iadd X180.here hx rfl (hb hby at_139) rfl ?_
        refine XS.istore X180.here hx rfl (hb hby at_140) rfl (l' := #[.val (.int a), .val (.int b), .val (.int d), .val (.int e0_), .val (.int n), .val (.ref b101), .val (.ref b110), .val (.int (3 : Int32)), .val (.int (ek 3 0 q0 q1 q2 q3)), .val (.int (ek 3 1 q0 q1 q2 q3)), .val (.int (ek 3 2 q0 q1 q2 q3)), .val (.int (0 : Int32)), .val (.int ((ln 3 q0 q1 q2 q3 2) + (1 : Int32))), .val (.int (lo 3 q0 q1 q2 q3 2)), .unset]) rfl ?_
        refine XS.iconst X180.here hx rfl (hb hby at_142) ?_
        show SS p e below T180 m 143 #[.val (.int a), .val (.int b), .val (.int d), .val (.int e0_), .val (.int n), .val (.ref b101), .val (.ref b110), .val (.int (3 : Int32)), .val (.int (ek 3 0 q0 q1 q2 q3)), .val (.int (ek 3 1 q0 q1 q2 q3)), .val (.int (ek 3 2 q0 q1 q2 q3)), .val (.int (0 : Int32)), .val (.int ((ln 3 q0 q1 q2 q3 2) + (1 : Int32))), .val (.int (lo 3 q0 q1 q2 q3 2)), .unset] [(.int (3 : Int32))] _
        refine XS.istore X180.here hx rfl (hb hby at_143) rfl (l' := #[.val (.int a), .val (.int b), .val (.int d), .val (.int e0_), .val (.int n), .val (.ref b101), .val (.ref b110), .val (.int (3 : Int32)), .val (.int (ek 3 0 q0 q1 q2 q3)), .val (.int (ek 3 1 q0 q1 q2 q3)), .val (.int (ek 3 2 q0 q1 q2 q3)), .val (.int (0 : Int32)), .val (.int ((ln 3 q0 q1 q2 q3 2) + (1 : Int32))), .val (.int (3 : Int32)), .unset]) rfl ?_
        exact castTop (by first | rfl | (simp only [if_neg hj188]; first | done | rfl)) kt
    have W190 : ∀ zQ, SS p e below T180 m 147 #[.val (.int a), .val (.int b), .val (.int d), .val (.int e0_), .val (.int n), .val (.ref b101), .val (.ref b110), .val (.int (3 : Int32)), .val (.int (ek 3 0 q0 q1 q2 q3)), .val (.int (ek 3 1 q0 q1 q2 q3)), .val (.int (ek 3 2 q0 q1 q2 q3)), .val (.int (0 : Int32)), .val (.int (ln 3 q0 q1 q2 q3 3)), .val (.int (lo 3 q0 q1 q2 q3 3)), .unset] [(.int (0 : Int32))] zQ → Steps p.tables e below (s₁.setTop (entryFrame m #[(.int a), (.int b), (.int d), (.int e0_), (.int n)] maxLocals)) zQ := by
      intro tt kt
      refine W189 tt ?_
      rw [show (if (ek 3 2 q0 q1 q2 q3) = (0 : Int32) then (ln 3 q0 q1 q2 q3 2) else ((ln 3 q0 q1 q2 q3 2) + (1 : Int32))) = (ln 3 q0 q1 q2 q3 3) from rfl]
      show SS p e below T180 m 145 #[.val (.int a), .val (.int b), .val (.int d), .val (.int e0_), .val (.int n), .val (.ref b101), .val (.ref b110), .val (.int (3 : Int32)), .val (.int (ek 3 0 q0 q1 q2 q3)), .val (.int (ek 3 1 q0 q1 q2 q3)), .val (.int (ek 3 2 q0 q1 q2 q3)), .val (.int (0 : Int32)), .val (.int (ln 3 q0 q1 q2 q3 3)), .val (.int (if (ek 3 2 q0 q1 q2 q3) = (0 : Int32) then (lo 3 q0 q1 q2 q3 2) else (3 : Int32))), .unset] [] _
      rw [show (if (ek 3 2 q0 q1 q2 q3) = (0 : Int32) then (lo 3 q0 q1 q2 q3 2) else (3 : Int32)) = (lo 3 q0 q1 q2 q3 3) from rfl]
      refine XS.iload X180.here hx rfl (hb hby at_145) rfl ?_
      exact kt
    have W191 : ∀ zQ, SS p e below T180 m 159 #[.val (.int a), .val (.int b), .val (.int d), .val (.int e0_), .val (.int n), .val (.ref b101), .val (.ref b110), .val (.int (3 : Int32)), .val (.int (ek 3 0 q0 q1 q2 q3)), .val (.int (ek 3 1 q0 q1 q2 q3)), .val (.int (ek 3 2 q0 q1 q2 q3)), .val (.int (0 : Int32)), .val (.int (ln 3 q0 q1 q2 q3 3)), .val (.int (lo 3 q0 q1 q2 q3 3)), .unset] [] zQ → Steps p.tables e below (s₁.setTop (entryFrame m #[(.int a), (.int b), (.int d), (.int e0_), (.int n)] maxLocals)) zQ := by
      intro tt kt
      refine W190 tt ?_
      refine XS.ifYes X180.here hx rfl (pc0 := 147) (pc' := 159) rfl (hb hby at_147) rfl ((if0 _ _).trans (teq (by decide)).1) (by decide) (by decide) ?_
      exact castTop (by first | rfl | (simp only []; first | done | rfl)) kt
    have O192 : Old Z n0 T113.heap := (O112.keep K113 (allS (Nat.le_trans Z0 (Nat.le_trans (Nat.le_trans (Nat.le_trans (Nat.le_trans (Nat.le_trans K101.1 K103.1) K105.1) K107.1) K109.1) (Nat.le_of_eq g110.symm))) all0))
    obtain ⟨_, _, ⟨T193, L193, k193, n193⟩, -, X193, ⟨Lc193, hQ193, l193, y193, z193⟩, st193⟩ := Jvm.LawKit.callS X180 hx (y := yn41) hown0 (mvT hZ0 (w39 hw)) (mvT hZ0 (w40 hw)) (mvT hZ0 (w41 hw)) (mvT hZ0 (w42 hw)) (by decide) (backOf (W := 0) (rm_after3 l Z a0 hw [] b110 t_114 kb_115 q0 q1 q2 q3 cS fm T113.heap n0 (Nat.le_trans Z0 (Nat.le_trans (Nat.le_trans (Nat.le_trans (Nat.le_trans (Nat.le_trans (Nat.le_trans K101.1 K103.1) K105.1) K107.1) K109.1) K110.1) K113.1)) O192 S_cs hcS S_fm hfm S_ad S_hi S_lo P113_1) hZ0 (w42 hw) (w41 hw) (by decide) (by decide)) (g := (mkF m 163 #[.val (.int a), .val (.int b), .val (.int d), .val (.int e0_), .val (.int n), .val (.ref b101), .val (.ref b110), .val (.int (3 : Int32)), .val (.int (ek 3 0 q0 q1 q2 q3)), .val (.int (ek 3 1 q0 q1 q2 q3)), .val (.int (ek 3 2 q0 q1 q2 q3)), .val (.int (0 : Int32)), .val (.int (ln 3 q0 q1 q2 q3 3)), .val (.int (lo 3 q0 q1 q2 q3 3)), .unset] [(.int (3 : Int32)), (.ref b110)])) rfl (by rw [hml]; rfl) (argsL := [(.ref b110), (.int (3 : Int32))]) (rest := []) (lenOf pd__28_Ljava_2f_lang_2f_String_3b_I_29_Lcom_2f_example_2f_vestline_2f_vestline_2f_input_2f_TextPosition_3b_ rfl) rfl (by show 2 * 0 + _ ≤ _; exact Nat.le_of_eq rfl) (hb hby at_163) (fun _ _ => ⟨rfl, eq180, (Nat.le_of_ble_eq_true rfl), (Nat.le_of_ble_eq_true rfl)⟩)
    dsimp only [Pt.U, Pt.locs, Pt.cells, Pt.slots] at X193 l193 y193 z193 st193 hQ193
    subst l193 y193 z193
    obtain ⟨r_194, rfl, Nq193, K193, P193_0, P193_1, P193_2, P193_3⟩ := hQ193
    have N193 := Fr.app N180 Nq193
    obtain ⟨cq195, kq195, q195a, q195b, q195c⟩ := isOf hZ0 rfl P193_1
    obtain ⟨_, _, ⟨T195, L195, k195, n195⟩, -, X195, ⟨Lc195, hQ195, l195, y195, z195⟩, st195⟩ := X193.virtualBack hx (y := yn39) (z := yn39) hown0 (mvT hZ0 (w93 hw)) (mvT hZ0 (w94 hw)) (notFace_of_selects (args := #[]) (mvT hZ0 (w96 hw))) (mvT hZ0 (w96 hw)) (mvT hZ0 (w95 hw)) (by decide) (backOf (W := 0) (rm_line l Z a0 hw [] r_194 (ln 3 q0 q1 q2 q3 3) T193.heap n0 (Nat.le_trans Z0 (Nat.le_trans (Nat.le_trans (Nat.le_trans (Nat.le_trans (Nat.le_trans (Nat.le_trans (Nat.le_trans K101.1 K103.1) K105.1) K107.1) K109.1) K110.1) K113.1) K193.1)) P193_2) hZ0 (w97 hw) (w41 hw) (by decide) (by decide)) q195a q195c (g := (mkF m 170 #[.val (.int a), .val (.int b), .val (.int d), .val (.int e0_), .val (.int n), .val (.ref b101), .val (.ref b110), .val (.int (3 : Int32)), .val (.int (ek 3 0 q0 q1 q2 q3)), .val (.int (ek 3 1 q0 q1 q2 q3)), .val (.int (ek 3 2 q0 q1 q2 q3)), .val (.int (0 : Int32)), .val (.int (ln 3 q0 q1 q2 q3 3)), .val (.int (lo 3 q0 q1 q2 q3 3)), .val (.ref r_194)] [(.ref r_194)])) rfl (by rw [hml]; rfl) (Steps.refl _) (argsL := []) (rest := []) (lenOf pd__28__29_I rfl) rfl (by show 2 * 0 + _ ≤ _; exact Nat.le_of_eq rfl) (hb hby at_170) (fun _ _ => ⟨rfl, rfl, (Nat.le_of_ble_eq_true rfl), (Nat.le_of_ble_eq_true rfl)⟩)
    dsimp only [Pt.U, Pt.locs, Pt.cells, Pt.slots] at X195 l195 y195 z195 st195 hQ195
    subst l195 y195 z195
    obtain ⟨rfl, Nq195, eq195⟩ := hQ195
    have N195 := Fr.app N193 Nq195
    obtain ⟨cq196, kq196, q196a, q196b, q196c⟩ := isOf hZ0 eq195 P193_1
    obtain ⟨_, _, ⟨T196, L196, k196, n196⟩, -, X196, ⟨Lc196, hQ196, l196, y196, z196⟩, st196⟩ := X195.virtualBack hx (y := yn40) (z := yn40) hown0 (mvT hZ0 (w98 hw)) (mvT hZ0 (w99 hw)) (notFace_of_selects (args := #[]) (mvT hZ0 (w101 hw))) (mvT hZ0 (w101 hw)) (mvT hZ0 (w100 hw)) (by decide) (backOf (W := 0) (rm_character l Z a0 hw [] r_194 ((3 : Int32) - (lo 3 q0 q1 q2 q3 3)) T193.heap n0 (Nat.le_trans Z0 (Nat.le_trans (Nat.le_trans (Nat.le_trans (Nat.le_trans (Nat.le_trans (Nat.le_trans (Nat.le_trans K101.1 K103.1) K105.1) K107.1) K109.1) K110.1) K113.1) K193.1)) P193_3) hZ0 (w102 hw) (w41 hw) (by decide) (by decide)) q196a q196c (g := (mkF m 180 #[.val (.int a), .val (.int b), .val (.int d), .val (.int e0_), .val (.int n), .val (.ref b101), .val (.ref b110), .val (.int (3 : Int32)), .val (.int (ek 3 0 q0 q1 q2 q3)), .val (.int (ek 3 1 q0 q1 q2 q3)), .val (.int (ek 3 2 q0 q1 q2 q3)), .val (.int (0 : Int32)), .val (.int (ln 3 q0 q1 q2 q3 3)), .val (.int (lo 3 q0 q1 q2 q3 3)), .val (.ref r_194)] [(.ref r_194)])) rfl (by rw [hml]; rfl) (Steps.refl _) (argsL := []) (rest := []) (lenOf pd__28__29_I rfl) rfl (by show 2 * 0 + _ ≤ _; exact Nat.le_of_eq rfl) (hb hby at_180) (fun _ _ => ⟨rfl, eq195, (Nat.le_of_ble_eq_true rfl), (Nat.le_of_ble_eq_true rfl)⟩)
    dsimp only [Pt.U, Pt.locs, Pt.cells, Pt.slots] at X196 l196 y196 z196 st196 hQ196
    subst l196 y196 z196
    obtain ⟨rfl, Nq196, eq196⟩ := hQ196
    have N196 := Fr.app N195 Nq196
    have W197 : ∀ zQ, SS p e below T196 m 196 #[.val (.int a), .val (.int b), .val (.int d), .val (.int e0_), .val (.int n), .val (.ref b101), .val (.ref b110), .val (.int (3 : Int32)), .val (.int (ek 3 0 q0 q1 q2 q3)), .val (.int (ek 3 1 q0 q1 q2 q3)), .val (.int (ek 3 2 q0 q1 q2 q3)), .val (.int (0 : Int32)), .val (.int (ln 3 q0 q1 q2 q3 3)), .val (.int (lo 3 q0 q1 q2 q3 3)), .val (.ref r_194)] [(.int (1 : Int32))] zQ → Steps p.tables e below (s₁.setTop (entryFrame m #[(.int a), (.int b), (.int d), (.int e0_), (.int n)] maxLocals)) zQ := by
      intro tt kt
      refine W191 tt ?_
      refine XS.aload X180.here hx rfl (hb hby at_159) rfl rfl ?_
      refine XS.iload X180.here hx rfl (hb hby at_161) rfl ?_
      show SS p e below T180 m 163 #[.val (.int a), .val (.int b), .val (.int d), .val (.int e0_), .val (.int n), .val (.ref b101), .val (.ref b110), .val (.int (3 : Int32)), .val (.int (ek 3 0 q0 q1 q2 q3)), .val (.int (ek 3 1 q0 q1 q2 q3)), .val (.int (ek 3 2 q0 q1 q2 q3)), .val (.int (0 : Int32)), .val (.int (ln 3 q0 q1 q2 q3 3)), .val (.int (lo 3 q0 q1 q2 q3 3)), .unset] [(.int (3 : Int32)), (.ref b110)] _
      refine st193 _ ?_
      refine XS.astore X193.here hx rfl (hb hby at_166) rfl rfl (l' := #[.val (.int a), .val (.int b), .val (.int d), .val (.int e0_), .val (.int n), .val (.ref b101), .val (.ref b110), .val (.int (3 : Int32)), .val (.int (ek 3 0 q0 q1 q2 q3)), .val (.int (ek 3 1 q0 q1 q2 q3)), .val (.int (ek 3 2 q0 q1 q2 q3)), .val (.int (0 : Int32)), .val (.int (ln 3 q0 q1 q2 q3 3)), .val (.int (lo 3 q0 q1 q2 q3 3)), .val (.ref r_194)]) rfl ?_
      refine XS.aload X193.here hx rfl (hb hby at_168) rfl rfl ?_
      show SS p e below T193 m 170 #[.val (.int a), .val (.int b), .val (.int d), .val (.int e0_), .val (.int n), .val (.ref b101), .val (.ref b110), .val (.int (3 : Int32)), .val (.int (ek 3 0 q0 q1 q2 q3)), .val (.int (ek 3 1 q0 q1 q2 q3)), .val (.int (ek 3 2 q0 q1 q2 q3)), .val (.int (0 : Int32)), .val (.int (ln 3 q0 q1 q2 q3 3)), .val (.int (lo 3 q0 q1 q2 q3 3)), .val (.ref r_194)] [(.ref r_194)] _
      refine st195.trans ?_
      refine XS.iload X195.here hx rfl (hb hby at_173) rfl ?_
      refine XS.icmpNo X195.here hx rfl (hb hby at_175) rfl (teq rfl).2 ?_
      refine XS.aload X195.here hx rfl (hb hby at_178) rfl rfl ?_
      show SS p e below T195 m 180 #[.val (.int a), .val (.int b), .val (.int d), .val (.int e0_), .val (.int n), .val (.ref b101), .val (.ref b110), .val (.int (3 : Int32)), .val (.int (ek 3 0 q0 q1 q2 q3)), .val (.int (ek 3 1 q0 q1 q2 q3)), .val (.int (ek 3 2 q0 q1 q2 q3)), .val (.int (0 : Int32)), .val (.int (ln 3 q0 q1 q2 q3 3)), .val (.int (lo 3 q0 q1 q2 q3 3)), .val (.ref r_194)] [(.ref r_194)] _
      refine st196.trans ?_
      refine XS.iload X196.here hx rfl (hb hby at_183) rfl ?_
      refine XS.iload X196.here hx rfl (hb hby at_185) rfl ?_
      refine XS.isub X196.here hx rfl (hb hby at_187) rfl ?_
      refine XS.icmpNo X196.here hx rfl (hb hby at_188) rfl (teq rfl).2 ?_
      refine XS.iconst X196.here hx rfl (hb hby at_191) ?_
      show SS p e below T196 m 192 #[.val (.int a), .val (.int b), .val (.int d), .val (.int e0_), .val (.int n), .val (.ref b101), .val (.ref b110), .val (.int (3 : Int32)), .val (.int (ek 3 0 q0 q1 q2 q3)), .val (.int (ek 3 1 q0 q1 q2 q3)), .val (.int (ek 3 2 q0 q1 q2 q3)), .val (.int (0 : Int32)), .val (.int (ln 3 q0 q1 q2 q3 3)), .val (.int (lo 3 q0 q1 q2 q3 3)), .val (.ref r_194)] [(.int (1 : Int32))] _
      refine XS.goto X196.here hx rfl (pc0 := 192) (pc' := 196) rfl (hb hby at_192) (by decide) (by decide) ?_
      exact kt
    obtain ⟨fs, hr, hrun, hended, hRW⟩ := Jvm.Stand.leaveW X196 hS0 (by rw [eq196]; exact (Nat.le_trans hk0 (Nat.le_trans (Nat.le_trans (Nat.le_trans (Nat.le_trans (Nat.le_trans (Nat.le_trans (Nat.le_trans K101.1 K103.1) K105.1) K107.1) K109.1) K110.1) K113.1) K193.1))) (v := some (.int (nar .boolean (1 : Int32)))) (fun h => by rw [Bd.returns] at h; cases h) (BodyLoose.notSynchronized Bd)
    refine ⟨_, _, W197 _ (retN X196 hx (t := .boolean) Bd.returns (by simp) (hb hby at_196) hr), hrun, hended, _, _, rfl, ?_, own_rw hRW (by decide) (by decide)⟩
    show Q_law Z a b d e0_ n cS fm h0 n0 _ T196.heap _
    rw [eq196]
    exact ⟨rfl, N196, (Keep.trans (Keep.trans (Keep.trans (Keep.trans (Keep.trans (Keep.trans (Keep.trans (Keep.trans (Keep.refl h0 []) K101 all0) K103 (allS (Or.inr (Nat.le_of_eq g101.symm)) all0)) K105 (allS (Or.inr (Nat.le_of_eq g101.symm)) all0)) K107 (allS (Or.inr (Nat.le_of_eq g101.symm)) all0)) K109 (allS (Or.inr (Nat.le_of_eq g101.symm)) all0)) K110 all0) K113 (allS (Or.inr (Nat.le_trans (Nat.le_trans (Nat.le_trans (Nat.le_trans (Nat.le_trans K101.1 K103.1) K105.1) K107.1) K109.1) (Nat.le_of_eq g110.symm))) all0)) K193 all0)⟩
  ·
    have F198 : Arv Z T113.heap b101 k101 .char (4 : Int32) [(.int q0), (.int q1), (.int q2), (.int q3)] (.int (0 : Int32)) := (F111.keep K113 (ninS (Nat.ne_of_lt (Nat.lt_of_lt_of_le (Nat.lt_of_lt_of_le G101.lt (Nat.le_trans (Nat.le_trans (Nat.le_trans K103.1 K105.1) K107.1) K109.1)) (Nat.le_of_eq g110.symm))) nin0))
    obtain ⟨_, _, ⟨T199, L199, k199, n199⟩, -, X199, ⟨Lc199, hQ199, l199, y199, z199⟩, st199⟩ := Jvm.LawKit.callS X113 hx (y := yn42) hown0 (mvT hZ0 (w36 hw)) (mvT hZ0 (w37 hw)) (mvT hZ0 (w3 hw)) (mvT hZ0 (w38 hw)) (by decide) (backOf (W := 0) (rm_endsYes l Z a0 hw [] b101 0 4 k101 [q0, q1, q2, q3] T113.heap n0 (Nat.le_trans Z0 (Nat.le_trans (Nat.le_trans (Nat.le_trans (Nat.le_trans (Nat.le_trans (Nat.le_trans K101.1 K103.1) K105.1) K107.1) K109.1) K110.1) K113.1)) F198 (Nat.le_of_ble_eq_true rfl) (Nat.le_of_ble_eq_true rfl) (Nat.le_of_ble_eq_true rfl)) hZ0 (w38 hw) (w3 hw) (by decide) (by decide)) (g := (mkF m 62 #[.val (.int a), .val (.int b), .val (.int d), .val (.int e0_), .val (.int n), .val (.ref b101), .val (.ref b110), .val (.int (4 : Int32)), .unset, .unset, .unset, .unset, .unset, .unset, .unset] [(.int (4 : Int32)), (.int (0 : Int32)), (.ref b101)])) rfl (by rw [hml]; rfl) (argsL := [(.ref b101), (.int (0 : Int32)), (.int (4 : Int32))]) (rest := []) (lenOf pd__28__5b_CII_29_Z rfl) rfl (by show 2 * 0 + _ ≤ _; exact Nat.le_of_eq rfl) (hb hby at_62) (fun _ _ => ⟨rfl, rfl, (Nat.le_of_ble_eq_true rfl), (Nat.le_of_ble_eq_true rfl)⟩)
    dsimp only [Pt.U, Pt.locs, Pt.cells, Pt.slots] at X199 l199 y199 z199 st199 hQ199
    subst l199 y199 z199
    obtain ⟨rfl, Nq199, eq199⟩ := hQ199
    have N199 := Fr.app N113 Nq199
    obtain ⟨_, _, ⟨T200, L200, k200, n200⟩, -, X200, ⟨Lc200, hQ200, l200, y200, z200⟩, st200⟩ := Jvm.LawKit.callS X199 hx (y := yn42) hown0 (mvT hZ0 (w36 hw)) (mvT hZ0 (w37 hw)) (mvT hZ0 (w3 hw)) (mvT hZ0 (w38 hw)) (by decide) (backOf (W := 0) (rm_endsYes l Z a0 hw [] b101 1 4 k101 [q0, q1, q2, q3] T113.heap n0 (Nat.le_trans Z0 (Nat.le_trans (Nat.le_trans (Nat.le_trans (Nat.le_trans (Nat.le_trans (Nat.le_trans K101.1 K103.1) K105.1) K107.1) K109.1) K110.1) K113.1)) F198 (Nat.le_of_ble_eq_true rfl) (Nat.le_of_ble_eq_true rfl) (Nat.le_of_ble_eq_true rfl)) hZ0 (w38 hw) (w3 hw) (by decide) (by decide)) (g := (mkF m 72 #[.val (.int a), .val (.int b), .val (.int d), .val (.int e0_), .val (.int n), .val (.ref b101), .val (.ref b110), .val (.int (4 : Int32)), .val (.int (ek 4 0 q0 q1 q2 q3)), .unset, .unset, .unset, .unset, .unset, .unset] [(.int (4 : Int32)), (.int (1 : Int32)), (.ref b101)])) rfl (by rw [hml]; rfl) (argsL := [(.ref b101), (.int (1 : Int32)), (.int (4 : Int32))]) (rest := []) (lenOf pd__28__5b_CII_29_Z rfl) rfl (by show 2 * 0 + _ ≤ _; exact Nat.le_of_eq rfl) (hb hby at_72) (fun _ _ => ⟨rfl, eq199, (Nat.le_of_ble_eq_true rfl), (Nat.le_of_ble_eq_true rfl)⟩)
    dsimp only [Pt.U, Pt.locs, Pt.cells, Pt.slots] at X200 l200 y200 z200 st200 hQ200
    subst l200 y200 z200
    obtain ⟨rfl, Nq200, eq200⟩ := hQ200
    have N200 := Fr.app N199 Nq200
    obtain ⟨_, _, ⟨T201, L201, k201, n201⟩, -, X201, ⟨Lc201, hQ201, l201, y201, z201⟩, st201⟩ := Jvm.LawKit.callS X200 hx (y := yn42) hown0 (mvT hZ0 (w36 hw)) (mvT hZ0 (w37 hw)) (mvT hZ0 (w3 hw)) (mvT hZ0 (w38 hw)) (by decide) (backOf (W := 0) (rm_endsYes l Z a0 hw [] b101 2 4 k101 [q0, q1, q2, q3] T113.heap n0 (Nat.le_trans Z0 (Nat.le_trans (Nat.le_trans (Nat.le_trans (Nat.le_trans (Nat.le_trans (Nat.le_trans K101.1 K103.1) K105.1) K107.1) K109.1) K110.1) K113.1)) F198 (Nat.le_of_ble_eq_true rfl) (Nat.le_of_ble_eq_true rfl) (Nat.le_of_ble_eq_true rfl)) hZ0 (w38 hw) (w3 hw) (by decide) (by decide)) (g := (mkF m 82 #[.val (.int a), .val (.int b), .val (.int d), .val (.int e0_), .val (.int n), .val (.ref b101), .val (.ref b110), .val (.int (4 : Int32)), .val (.int (ek 4 0 q0 q1 q2 q3)), .val (.int (ek 4 1 q0 q1 q2 q3)), .unset, .unset, .unset, .unset, .unset] [(.int (4 : Int32)), (.int (2 : Int32)), (.ref b101)])) rfl (by rw [hml]; rfl) (argsL := [(.ref b101), (.int (2 : Int32)), (.int (4 : Int32))]) (rest := []) (lenOf pd__28__5b_CII_29_Z rfl) rfl (by show 2 * 0 + _ ≤ _; exact Nat.le_of_eq rfl) (hb hby at_82) (fun _ _ => ⟨rfl, eq200, (Nat.le_of_ble_eq_true rfl), (Nat.le_of_ble_eq_true rfl)⟩)
    dsimp only [Pt.U, Pt.locs, Pt.cells, Pt.slots] at X201 l201 y201 z201 st201 hQ201
    subst l201 y201 z201
    obtain ⟨rfl, Nq201, eq201⟩ := hQ201
    have N201 := Fr.app N200 Nq201
    obtain ⟨_, _, ⟨T202, L202, k202, n202⟩, -, X202, ⟨Lc202, hQ202, l202, y202, z202⟩, st202⟩ := Jvm.LawKit.callS X201 hx (y := yn42) hown0 (mvT hZ0 (w36 hw)) (mvT hZ0 (w37 hw)) (mvT hZ0 (w3 hw)) (mvT hZ0 (w38 hw)) (by decide) (backOf (W := 0) (rm_endsYes l Z a0 hw [] b101 3 4 k101 [q0, q1, q2, q3] T113.heap n0 (Nat.le_trans Z0 (Nat.le_trans (Nat.le_trans (Nat.le_trans (Nat.le_trans (Nat.le_trans (Nat.le_trans K101.1 K103.1) K105.1) K107.1) K109.1) K110.1) K113.1)) F198 (Nat.le_of_ble_eq_true rfl) (Nat.le_of_ble_eq_true rfl) (Nat.le_of_ble_eq_true rfl)) hZ0 (w38 hw) (w3 hw) (by decide) (by decide)) (g := (mkF m 92 #[.val (.int a), .val (.int b), .val (.int d), .val (.int e0_), .val (.int n), .val (.ref b101), .val (.ref b110), .val (.int (4 : Int32)), .val (.int (ek 4 0 q0 q1 q2 q3)), .val (.int (ek 4 1 q0 q1 q2 q3)), .val (.int (ek 4 2 q0 q1 q2 q3)), .unset, .unset, .unset, .unset] [(.int (4 : Int32)), (.int (3 : Int32)), (.ref b101)])) rfl (by rw [hml]; rfl) (argsL := [(.ref b101), (.int (3 : Int32)), (.int (4 : Int32))]) (rest := []) (lenOf pd__28__5b_CII_29_Z rfl) rfl (by show 2 * 0 + _ ≤ _; exact Nat.le_of_eq rfl) (hb hby at_92) (fun _ _ => ⟨rfl, eq201, (Nat.le_of_ble_eq_true rfl), (Nat.le_of_ble_eq_true rfl)⟩)
    dsimp only [Pt.U, Pt.locs, Pt.cells, Pt.slots] at X202 l202 y202 z202 st202 hQ202
    subst l202 y202 z202
    obtain ⟨rfl, Nq202, eq202⟩ := hQ202
    have N202 := Fr.app N201 Nq202
    have W203 : ∀ zQ, SS p e below T202 m 105 #[.val (.int a), .val (.int b), .val (.int d), .val (.int e0_), .val (.int n), .val (.ref b101), .val (.ref b110), .val (.int (4 : Int32)), .val (.int (ek 4 0 q0 q1 q2 q3)), .val (.int (ek 4 1 q0 q1 q2 q3)), .val (.int (ek 4 2 q0 q1 q2 q3)), .val (.int (ek 4 3 q0 q1 q2 q3)), .val (.int (1 : Int32)), .val (.int (0 : Int32)), .unset] [(.int (ek 4 0 q0 q1 q2 q3))] zQ → Steps p.tables e below (s₁.setTop (entryFrame m #[(.int a), (.int b), (.int d), (.int e0_), (.int n)] maxLocals)) zQ := by
      intro tt kt
      refine W116 tt ?_
      refine XS.istore X113.here hx rfl (hb hby at_55) rfl (l' := #[.val (.int a), .val (.int b), .val (.int d), .val (.int e0_), .val (.int n), .val (.ref b101), .val (.ref b110), .val (.int (4 : Int32)), .unset, .unset, .unset, .unset, .unset, .unset, .unset]) rfl ?_
      refine XS.aload X113.here hx rfl (hb hby at_57) rfl rfl ?_
      refine XS.iconst X113.here hx rfl (hb hby at_59) ?_
      refine XS.iload X113.here hx rfl (hb hby at_60) rfl ?_
      show SS p e below T113 m 62 #[.val (.int a), .val (.int b), .val (.int d), .val (.int e0_), .val (.int n), .val (.ref b101), .val (.ref b110), .val (.int (4 : Int32)), .unset, .unset, .unset, .unset, .unset, .unset, .unset] [(.int (4 : Int32)), (.int (0 : Int32)), (.ref b101)] _
      refine st199 _ ?_
      show SS p e below T199 m 65 #[.val (.int a), .val (.int b), .val (.int d), .val (.int e0_), .val (.int n), .val (.ref b101), .val (.ref b110), .val (.int (4 : Int32)), .unset, .unset, .unset, .unset, .unset, .unset, .unset] [(.int (el (([q0, q1, q2, q3].drop 0).take 4) 0))] _
      rw [show (el (([q0, q1, q2, q3].drop 0).take 4) 0) = (ek 4 0 q0 q1 q2 q3) from rfl]
      refine XS.istore X199.here hx rfl (hb hby at_65) rfl (l' := #[.val (.int a), .val (.int b), .val (.int d), .val (.int e0_), .val (.int n), .val (.ref b101), .val (.ref b110), .val (.int (4 : Int32)), .val (.int (ek 4 0 q0 q1 q2 q3)), .unset, .unset, .unset, .unset, .unset, .unset]) rfl ?_
      refine XS.aload X199.here hx rfl (hb hby at_67) rfl rfl ?_
      refine XS.iconst X199.here hx rfl (hb hby at_69) ?_
      refine XS.iload X199.here hx rfl (hb hby at_70) rfl ?_
      show SS p e below T199 m 72 #[.val (.int a), .val (.int b), .val (.int d), .val (.int e0_), .val (.int n), .val (.ref b101), .val (.ref b110), .val (.int (4 : Int32)), .val (.int (ek 4 0 q0 q1 q2 q3)), .unset, .unset, .unset, .unset, .unset, .unset] [(.int (4 : Int32)), (.int (1 : Int32)), (.ref b101)] _
      refine st200 _ ?_
      show SS p e below T200 m 75 #[.val (.int a), .val (.int b), .val (.int d), .val (.int e0_), .val (.int n), .val (.ref b101), .val (.ref b110), .val (.int (4 : Int32)), .val (.int (ek 4 0 q0 q1 q2 q3)), .unset, .unset, .unset, .unset, .unset, .unset] [(.int (el (([q0, q1, q2, q3].drop 0).take 4) 1))] _
      rw [show (el (([q0, q1, q2, q3].drop 0).take 4) 1) = (ek 4 1 q0 q1 q2 q3) from rfl]
      refine XS.istore X200.here hx rfl (hb hby at_75) rfl (l' := #[.val (.int a), .val (.int b), .val (.int d), .val (.int e0_), .val (.int n), .val (.ref b101), .val (.ref b110), .val (.int (4 : Int32)), .val (.int (ek 4 0 q0 q1 q2 q3)), .val (.int (ek 4 1 q0 q1 q2 q3)), .unset, .unset, .unset, .unset, .unset]) rfl ?_
      refine XS.aload X200.here hx rfl (hb hby at_77) rfl rfl ?_
      refine XS.iconst X200.here hx rfl (hb hby at_79) ?_
      refine XS.iload X200.here hx rfl (hb hby at_80) rfl ?_
      show SS p e below T200 m 82 #[.val (.int a), .val (.int b), .val (.int d), .val (.int e0_), .val (.int n), .val (.ref b101), .val (.ref b110), .val (.int (4 : Int32)), .val (.int (ek 4 0 q0 q1 q2 q3)), .val (.int (ek 4 1 q0 q1 q2 q3)), .unset, .unset, .unset, .unset, .unset] [(.int (4 : Int32)), (.int (2 : Int32)), (.ref b101)] _
      refine st201 _ ?_
      show SS p e below T201 m 85 #[.val (.int a), .val (.int b), .val (.int d), .val (.int e0_), .val (.int n), .val (.ref b101), .val (.ref b110), .val (.int (4 : Int32)), .val (.int (ek 4 0 q0 q1 q2 q3)), .val (.int (ek 4 1 q0 q1 q2 q3)), .unset, .unset, .unset, .unset, .unset] [(.int (el (([q0, q1, q2, q3].drop 0).take 4) 2))] _
      rw [show (el (([q0, q1, q2, q3].drop 0).take 4) 2) = (ek 4 2 q0 q1 q2 q3) from rfl]
      refine XS.istore X201.here hx rfl (hb hby at_85) rfl (l' := #[.val (.int a), .val (.int b), .val (.int d), .val (.int e0_), .val (.int n), .val (.ref b101), .val (.ref b110), .val (.int (4 : Int32)), .val (.int (ek 4 0 q0 q1 q2 q3)), .val (.int (ek 4 1 q0 q1 q2 q3)), .val (.int (ek 4 2 q0 q1 q2 q3)), .unset, .unset, .unset, .unset]) rfl ?_
      refine XS.aload X201.here hx rfl (hb hby at_87) rfl rfl ?_
      refine XS.iconst X201.here hx rfl (hb hby at_89) ?_
      refine XS.iload X201.here hx rfl (hb hby at_90) rfl ?_
      show SS p e below T201 m 92 #[.val (.int a), .val (.int b), .val (.int d), .val (.int e0_), .val (.int n), .val (.ref b101), .val (.ref b110), .val (.int (4 : Int32)), .val (.int (ek 4 0 q0 q1 q2 q3)), .val (.int (ek 4 1 q0 q1 q2 q3)), .val (.int (ek 4 2 q0 q1 q2 q3)), .unset, .unset, .unset, .unset] [(.int (4 : Int32)), (.int (3 : Int32)), (.ref b101)] _
      refine st202 _ ?_
      show SS p e below T202 m 95 #[.val (.int a), .val (.int b), .val (.int d), .val (.int e0_), .val (.int n), .val (.ref b101), .val (.ref b110), .val (.int (4 : Int32)), .val (.int (ek 4 0 q0 q1 q2 q3)), .val (.int (ek 4 1 q0 q1 q2 q3)), .val (.int (ek 4 2 q0 q1 q2 q3)), .unset, .unset, .unset, .unset] [(.int (el (([q0, q1, q2, q3].drop 0).take 4) 3))] _
      rw [show (el (([q0, q1, q2, q3].drop 0).take 4) 3) = (ek 4 3 q0 q1 q2 q3) from rfl]
      refine XS.istore X202.here hx rfl (hb hby at_95) rfl (l' := #[.val (.int a), .val (.int b), .val (.int d), .val (.int e0_), .val (.int n), .val (.ref b101), .val (.ref b110), .val (.int (4 : Int32)), .val (.int (ek 4 0 q0 q1 q2 q3)), .val (.int (ek 4 1 q0 q1 q2 q3)), .val (.int (ek 4 2 q0 q1 q2 q3)), .val (.int (ek 4 3 q0 q1 q2 q3)), .unset, .unset, .unset]) rfl ?_
      refine XS.iconst X202.here hx rfl (hb hby at_97) ?_
      refine XS.istore X202.here hx rfl (hb hby at_98) rfl (l' := #[.val (.int a), .val (.int b), .val (.int d), .val (.int e0_), .val (.int n), .val (.ref b101), .val (.ref b110), .val (.int (4 : Int32)), .val (.int (ek 4 0 q0 q1 q2 q3)), .val (.int (ek 4 1 q0 q1 q2 q3)), .val (.int (ek 4 2 q0 q1 q2 q3)), .val (.int (ek 4 3 q0 q1 q2 q3)), .val (.int (1 : Int32)), .unset, .unset]) rfl ?_
      refine XS.iconst X202.here hx rfl (hb hby at_100) ?_
      refine XS.istore X202.here hx rfl (hb hby at_101) rfl (l' := #[.val (.int a), .val (.int b), .val (.int d), .val (.int e0_), .val (.int n), .val (.ref b101), .val (.ref b110), .val (.int (4 : Int32)), .val (.int (ek 4 0 q0 q1 q2 q3)), .val (.int (ek 4 1 q0 q1 q2 q3)), .val (.int (ek 4 2 q0 q1 q2 q3)), .val (.int (ek 4 3 q0 q1 q2 q3)), .val (.int (1 : Int32)), .val (.int (0 : Int32)), .unset]) rfl ?_
      show SS p e below T202 m 103 #[.val (.int a), .val (.int b), .val (.int d), .val (.int e0_), .val (.int n), .val (.ref b101), .val (.ref b110), .val (.int (4 : Int32)), .val (.int (ek 4 0 q0 q1 q2 q3)), .val (.int (ek 4 1 q0 q1 q2 q3)), .val (.int (ek 4 2 q0 q1 q2 q3)), .val (.int (ek 4 3 q0 q1 q2 q3)), .val (.int (1 : Int32)), .val (.int (0 : Int32)), .unset] [] _
      refine XS.iload X202.here hx rfl (hb hby at_103) rfl ?_
      exact kt
    have W205 : ∀ zQ, SS p e below T202 m 117 #[.val (.int a), .val (.int b), .val (.int d), .val (.int e0_), .val (.int n), .val (.ref b101), .val (.ref b110), .val (.int (4 : Int32)), .val (.int (ek 4 0 q0 q1 q2 q3)), .val (.int (ek 4 1 q0 q1 q2 q3)), .val (.int (ek 4 2 q0 q1 q2 q3)), .val (.int (ek 4 3 q0 q1 q2 q3)), .val (.int (if (ek 4 0 q0 q1 q2 q3) = (0 : Int32) then (1 : Int32) else (2 : Int32))), .val (.int (if (ek 4 0 q0 q1 q2 q3) = (0 : Int32) then (0 : Int32) else (1 : Int32))), .unset] [] zQ → Steps p.tables e below (s₁.setTop (entryFrame m #[(.int a), (.int b), (.int d), (.int e0_), (.int n)] maxLocals)) zQ := by
      intro tt kt
      refine W203 tt ?_
      by_cases hj204 : (ek 4 0 q0 q1 q2 q3) = (0 : Int32)
      ·
        refine XS.ifYes X202.here hx rfl (pc0 := 105) (pc' := 117) rfl (hb hby at_105) rfl ((if0 _ _).trans (teq hj204).1) (by decide) (by decide) ?_
        exact castTop (by first | rfl | (simp only [if_pos hj204]; first | done | rfl)) kt
      ·
        refine XS.ifNo X202.here hx rfl (hb hby at_105) rfl ((if0 _ _).trans (feq hj204).1) ?_
        refine XS.iload X202.here hx rfl (hb hby at_108) rfl ?_
        refine XS.iconst X202.here hx rfl (hb hby at_110) ?_
        refine XS.iadd X202.here hx rfl (hb hby at_111) rfl ?_
        refine XS.istore X202.here hx rfl (hb hby at_112) rfl (l' := #[.val (.int a), .val (.int b), .val (.int d), .val (.int e0_), .val (.int n), .val (.ref b101), .val (.ref b110), .val (.int (4 : Int32)), .val (.int (ek 4 0 q0 q1 q2 q3)), .val (.int (ek 4 1 q0 q1 q2 q3)), .val (.int (ek 4 2 q0 q1 q2 q3)), .val (.int (ek 4 3 q0 q1 q2 q3)), .val (.int (2 : Int32)), .val (.int (0 : Int32)), .unset]) rfl ?_
        refine XS.iconst X202.here hx rfl (hb hby at_114) ?_
        show SS p e below T202 m 115 #[.val (.int a), .val (.int b), .val (.int d), .val (.int e0_), .val (.int n), .val (.ref b101), .val (.ref b110), .val (.int (4 : Int32)), .val (.int (ek 4 0 q0 q1 q2 q3)), .val (.int (ek 4 1 q0 q1 q2 q3)), .val (.int (ek 4 2 q0 q1 q2 q3)), .val (.int (ek 4 3 q0 q1 q2 q3)), .val (.int (2 : Int32)), .val (.int (0 : Int32)), .unset] [(.int (1 : Int32))] _
        refine XS.istore X202.here hx rfl (hb hby at_115) rfl (l' := #[.val (.int a), .val (.int b), .val (.int d), .val (.int e0_), .val (.int n), .val (.ref b101), .val (.ref b110), .val (.int (4 : Int32)), .val (.int (ek 4 0 q0 q1 q2 q3)), .val (.int (ek 4 1 q0 q1 q2 q3)), .val (.int (ek 4 2 q0 q1 q2 q3)), .val (.int (ek 4 3 q0 q1 q2 q3)), .val (.int (2 : Int32)), .val (.int (1 : Int32)), .unset]) rfl ?_
        exact castTop (by first | rfl | (simp only [if_neg hj204]; first | done | rfl)) kt
    have W206 : ∀ zQ, SS p e below T202 m 119 #[.val (.int a), .val (.int b), .val (.int d), .val (.int e0_), .val (.int n), .val (.ref b101), .val (.ref b110), .val (.int (4 : Int32)), .val (.int (ek 4 0 q0 q1 q2 q3)), .val (.int (ek 4 1 q0 q1 q2 q3)), .val (.int (ek 4 2 q0 q1 q2 q3)), .val (.int (ek 4 3 q0 q1 q2 q3)), .val (.int (ln 4 q0 q1 q2 q3 1)), .val (.int (lo 4 q0 q1 q2 q3 1)), .unset] [(.int (ek 4 1 q0 q1 q2 q3))] zQ → Steps p.tables e below (s₁.setTop (entryFrame m #[(.int a), (.int b), (.int d), (.int e0_), (.int n)] maxLocals)) zQ := by
      intro tt kt
      refine W205 tt ?_
      rw [show (if (ek 4 0 q0 q1 q2 q3) = (0 : Int32) then (1 : Int32) else (2 : Int32)) = (ln 4 q0 q1 q2 q3 1) from rfl]
      show SS p e below T202 m 117 #[.val (.int a), .val (.int b), .val (.int d), .val (.int e0_), .val (.int n), .val (.ref b101), .val (.ref b110), .val (.int (4 : Int32)), .val (.int (ek 4 0 q0 q1 q2 q3)), .val (.int (ek 4 1 q0 q1 q2 q3)), .val (.int (ek 4 2 q0 q1 q2 q3)), .val (.int (ek 4 3 q0 q1 q2 q3)), .val (.int (ln 4 q0 q1 q2 q3 1)), .val (.int (if (ek 4 0 q0 q1 q2 q3) = (0 : Int32) then (0 : Int32) else (1 : Int32))), .unset] [] _
      rw [show (if (ek 4 0 q0 q1 q2 q3) = (0 : Int32) then (0 : Int32) else (1 : Int32)) = (lo 4 q0 q1 q2 q3 1) from rfl]
      refine XS.iload X202.here hx rfl (hb hby at_117) rfl ?_
      exact kt
    have W208 : ∀ zQ, SS p e below T202 m 131 #[.val (.int a), .val (.int b), .val (.int d), .val (.int e0_), .val (.int n), .val (.ref b101), .val (.ref b110), .val (.int (4 : Int32)), .val (.int (ek 4 0 q0 q1 q2 q3)), .val (.int (ek 4 1 q0 q1 q2 q3)), .val (.int (ek 4 2 q0 q1 q2 q3)), .val (.int (ek 4 3 q0 q1 q2 q3)), .val (.int (if (ek 4 1 q0 q1 q2 q3) = (0 : Int32) then (ln 4 q0 q1 q2 q3 1) else ((ln 4 q0 q1 q2 q3 1) + (1 : Int32)))), .val (.int (if (ek 4 1 q0 q1 q2 q3) = (0 : Int32) then (lo 4 q0 q1 q2 q3 1) else (2 : Int32))), .unset] [] zQ → Steps p.tables e below (s₁.setTop (entryFrame m #[(.int a), (.int b), (.int d), (.int e0_), (.int n)] maxLocals)) zQ := by
      intro tt kt
      refine W206 tt ?_
      by_cases hj207 : (ek 4 1 q0 q1 q2 q3) = (0 : Int32)
      ·
        refine XS.ifYes X202.here hx rfl (pc0 := 119) (pc' := 131) rfl (hb hby at_119) rfl ((if0 _ _).trans (teq hj207).1) (by decide) (by decide) ?_
        exact castTop (by first | rfl | (simp only [if_pos hj207]; first | done | rfl)) kt
      ·
        refine XS.ifNo X202.here hx rfl (hb hby at_119) rfl ((if0 _ _).trans (feq hj207).1) ?_
        refine XS.iload X202.here hx rfl (hb hby at_122) rfl ?_
        refine XS.iconst X202.here hx rfl (hb hby at_124) ?_
        refine XS.iadd X202.here hx rfl (hb hby at_125) rfl ?_
        refine XS.istore X202.here hx rfl (hb hby at_126) rfl (l' := #[.val (.int a), .val (.int b), .val (.int d), .val (.int e0_), .val (.int n), .val (.ref b101), .val (.ref b110), .val (.int (4 : Int32)), .val (.int (ek 4 0 q0 q1 q2 q3)), .val (.int (ek 4 1 q0 q1 q2 q3)), .val (.int (ek 4 2 q0 q1 q2 q3)), .val (.int (ek 4 3 q0 q1 q2 q3)), .val (.int ((ln 4 q0 q1 q2 q3 1) + (1 : Int32))), .val (.int (lo 4 q0 q1 q2 q3 1)), .unset]) rfl ?_
        refine XS.iconst X202.here hx rfl (hb hby at_128) ?_
        show SS p e below T202 m 129 #[.val (.int a), .val (.int b), .val (.int d), .val (.int e0_), .val (.int n), .val (.ref b101), .val (.ref b110), .val (.int (4 : Int32)), .val (.int (ek 4 0 q0 q1 q2 q3)), .val (.int (ek 4 1 q0 q1 q2 q3)), .val (.int (ek 4 2 q0 q1 q2 q3)), .val (.int (ek 4 3 q0 q1 q2 q3)), .val (.int ((ln 4 q0 q1 q2 q3 1) + (1 : Int32))), .val (.int (lo 4 q0 q1 q2 q3 1)), .unset] [(.int (2 : Int32))] _
        refine XS.istore X202.here hx rfl (hb hby at_129) rfl (l' := #[.val (.int a), .val (.int b), .val (.int d), .val (.int e0_), .val (.int n), .val (.ref b101), .val (.ref b110), .val (.int (4 : Int32)), .val (.int (ek 4 0 q0 q1 q2 q3)), .val (.int (ek 4 1 q0 q1 q2 q3)), .val (.int (ek 4 2 q0 q1 q2 q3)), .val (.int (ek 4 3 q0 q1 q2 q3)), .val (.int ((ln 4 q0 q1 q2 q3 1) + (1 : Int32))), .val (.int (2 : Int32)), .unset]) rfl ?_
        exact castTop (by first | rfl | (simp only [if_neg hj207]; first | done | rfl)) kt
    have W209 : ∀ zQ, SS p e below T202 m 133 #[.val (.int a), .val (.int b), .val (.int d), .val (.int e0_), .val (.int n), .val (.ref b101), .val (.ref b110), .val (.int (4 : Int32)), .val (.int (ek 4 0 q0 q1 q2 q3)), .val (.int (ek 4 1 q0 q1 q2 q3)), .val (.int (ek 4 2 q0 q1 q2 q3)), .val (.int (ek 4 3 q0 q1 q2 q3)), .val (.int (ln 4 q0 q1 q2 q3 2)), .val (.int (lo 4 q0 q1 q2 q3 2)), .unset] [(.int (ek 4 2 q0 q1 q2 q3))] zQ → Steps p.tables e below (s₁.setTop (entryFrame m #[(.int a), (.int b), (.int d), (.int e0_), (.int n)] maxLocals)) zQ := by
      intro tt kt
      refine W208 tt ?_
      rw [show (if (ek 4 1 q0 q1 q2 q3) = (0 : Int32) then (ln 4 q0 q1 q2 q3 1) else ((ln 4 q0 q1 q2 q3 1) + (1 : Int32))) = (ln 4 q0 q1 q2 q3 2) from rfl]
      show SS p e below T202 m 131 #[.val (.int a), .val (.int b), .val (.int d), .val (.int e0_), .val (.int n), .val (.ref b101), .val (.ref b110), .val (.int (4 : Int32)), .val (.int (ek 4 0 q0 q1 q2 q3)), .val (.int (ek 4 1 q0 q1 q2 q3)), .val (.int (ek 4 2 q0 q1 q2 q3)), .val (.int (ek 4 3 q0 q1 q2 q3)), .val (.int (ln 4 q0 q1 q2 q3 2)), .val (.int (if (ek 4 1 q0 q1 q2 q3) = (0 : Int32) then (lo 4 q0 q1 q2 q3 1) else (2 : Int32))), .unset] [] _
      rw [show (if (ek 4 1 q0 q1 q2 q3) = (0 : Int32) then (lo 4 q0 q1 q2 q3 1) else (2 : Int32)) = (lo 4 q0 q1 q2 q3 2) from rfl]
      refine XS.iload X202.here hx rfl (hb hby at_131) rfl ?_
      exact kt
    have W211 : ∀ zQ, SS p e below T202 m 145 #[.val (.int a), .val (.int b), .val (.int d), .val (.int e0_), .val (.int n), .val (.ref b101), .val (.ref b110), .val (.int (4 : Int32)), .val (.int (ek 4 0 q0 q1 q2 q3)), .val (.int (ek 4 1 q0 q1 q2 q3)), .val (.int (ek 4 2 q0 q1 q2 q3)), .val (.int (ek 4 3 q0 q1 q2 q3)), .val (.int (if (ek 4 2 q0 q1 q2 q3) = (0 : Int32) then (ln 4 q0 q1 q2 q3 2) else ((ln 4 q0 q1 q2 q3 2) + (1 : Int32)))), .val (.int (if (ek 4 2 q0 q1 q2 q3) = (0 : Int32) then (lo 4 q0 q1 q2 q3 2) else (3 : Int32))), .unset] [] zQ → Steps p.tables e below (s₁.setTop (entryFrame m #[(.int a), (.int b), (.int d), (.int e0_), (.int n)] maxLocals)) zQ := by
      intro tt kt
      refine W209 tt ?_
      by_cases hj210 : (ek 4 2 q0 q1 q2 q3) = (0 : Int32)
      ·
        refine XS.ifYes X202.here hx rfl (pc0 := 133) (pc' := 145) rfl (hb hby at_133) rfl ((if0 _ _).trans (teq hj210).1) (by decide) (by decide) ?_
        exact castTop (by first | rfl | (simp only [if_pos hj210]; first | done | rfl)) kt
      ·
        refine XS.ifNo X202.here hx rfl (hb hby at_133) rfl ((if0 _ _).trans (feq hj210).1) ?_
        refine XS.iload X202.here hx rfl (hb hby at_136) rfl ?_
        refine XS.iconst X202.here hx rfl (hb hby at_138) ?_
        refine XS.iadd X202.here hx rfl (hb hby at_139) rfl ?_
        refine XS.istore X202.here hx rfl (hb hby at_140) rfl (l' := #[.val (.int a), .val (.int b), .val (.int d), .val (.int e0_), .val (.int n), .val (.ref b101), .val (.ref b110), .val (.int (4 : Int32)), .val (.int (ek 4 0 q0 q1 q2 q3)), .val (.int (ek 4 1 q0 q1 q2 q3)), .val (.int (ek 4 2 q0 q1 q2 q3)), .val (.int (ek 4 3 q0 q1 q2 q3)), .val (.int ((ln 4 q0 q1 q2 q3 2) + (1 : Int32))), .val (.int (lo 4 q0 q1 q2 q3 2)), .unset]) rfl ?_
        refine XS.iconst X202.here hx rfl (hb hby at_142) ?_
        show SS p e below T202 m 143 #[.val (.int a), .val (.int b), .val (.int d), .val (.int e0_), .val (.int n), .val (.ref b101), .val (.ref b110), .val (.int (4 : Int32)), .val (.int (ek 4 0 q0 q1 q2 q3)), .val (.int (ek 4 1 q0 q1 q2 q3)), .val (.int (ek 4 2 q0 q1 q2 q3)), .val (.int (ek 4 3 q0 q1 q2 q3)), .val (.int ((ln 4 q0 q1 q2 q3 2) + (1 : Int32))), .val (.int (lo 4 q0 q1 q2 q3 2)), .unset] [(.int (3 : Int32))] _
        refine XS.istore X202.here hx rfl (hb hby at_143) rfl (l' := #[.val (.int a), .val (.int b), .val (.int d), .val (.int e0_), .val (.int n), .val (.ref b101), .val (.ref b110), .val (.int (4 : Int32)), .val (.int (ek 4 0 q0 q1 q2 q3)), .val (.int (ek 4 1 q0 q1 q2 q3)), .val (.int (ek 4 2 q0 q1 q2 q3)), .val (.int (ek 4 3 q0 q1 q2 q3)), .val (.int ((ln 4 q0 q1 q2 q3 2) + (1 : Int32))), .val (.int (3 : Int32)), .unset]) rfl ?_
        exact castTop (by first | rfl | (simp only [if_neg hj210]; first | done | rfl)) kt
    have W212 : ∀ zQ, SS p e below T202 m 147 #[.val (.int a), .val (.int b), .val (.int d), .val (.int e0_), .val (.int n), .val (.ref b101), .val (.ref b110), .val (.int (4 : Int32)), .val (.int (ek 4 0 q0 q1 q2 q3)), .val (.int (ek 4 1 q0 q1 q2 q3)), .val (.int (ek 4 2 q0 q1 q2 q3)), .val (.int (ek 4 3 q0 q1 q2 q3)), .val (.int (ln 4 q0 q1 q2 q3 3)), .val (.int (lo 4 q0 q1 q2 q3 3)), .unset] [(.int (ek 4 3 q0 q1 q2 q3))] zQ → Steps p.tables e below (s₁.setTop (entryFrame m #[(.int a), (.int b), (.int d), (.int e0_), (.int n)] maxLocals)) zQ := by
      intro tt kt
      refine W211 tt ?_
      rw [show (if (ek 4 2 q0 q1 q2 q3) = (0 : Int32) then (ln 4 q0 q1 q2 q3 2) else ((ln 4 q0 q1 q2 q3 2) + (1 : Int32))) = (ln 4 q0 q1 q2 q3 3) from rfl]
      show SS p e below T202 m 145 #[.val (.int a), .val (.int b), .val (.int d), .val (.int e0_), .val (.int n), .val (.ref b101), .val (.ref b110), .val (.int (4 : Int32)), .val (.int (ek 4 0 q0 q1 q2 q3)), .val (.int (ek 4 1 q0 q1 q2 q3)), .val (.int (ek 4 2 q0 q1 q2 q3)), .val (.int (ek 4 3 q0 q1 q2 q3)), .val (.int (ln 4 q0 q1 q2 q3 3)), .val (.int (if (ek 4 2 q0 q1 q2 q3) = (0 : Int32) then (lo 4 q0 q1 q2 q3 2) else (3 : Int32))), .unset] [] _
      rw [show (if (ek 4 2 q0 q1 q2 q3) = (0 : Int32) then (lo 4 q0 q1 q2 q3 2) else (3 : Int32)) = (lo 4 q0 q1 q2 q3 3) from rfl]
      refine XS.iload X202.here hx rfl (hb hby at_145) rfl ?_
      exact kt
    have W214 : ∀ zQ, SS p e below T202 m 159 #[.val (.int a), .val (.int b), .val (.int d), .val (.int e0_), .val (.int n), .val (.ref b101), .val (.ref b110), .val (.int (4 : Int32)), .val (.int (ek 4 0 q0 q1 q2 q3)), .val (.int (ek 4 1 q0 q1 q2 q3)), .val (.int (ek 4 2 q0 q1 q2 q3)), .val (.int (ek 4 3 q0 q1 q2 q3)), .val (.int (if (ek 4 3 q0 q1 q2 q3) = (0 : Int32) then (ln 4 q0 q1 q2 q3 3) else ((ln 4 q0 q1 q2 q3 3) + (1 : Int32)))), .val (.int (if (ek 4 3 q0 q1 q2 q3) = (0 : Int32) then (lo 4 q0 q1 q2 q3 3) else (4 : Int32))), .unset] [] zQ → Steps p.tables e below (s₁.setTop (entryFrame m #[(.int a), (.int b), (.int d), (.int e0_), (.int n)] maxLocals)) zQ := by
      intro tt kt
      refine W212 tt ?_
      by_cases hj213 : (ek 4 3 q0 q1 q2 q3) = (0 : Int32)
      ·
        refine XS.ifYes X202.here hx rfl (pc0 := 147) (pc' := 159) rfl (hb hby at_147) rfl ((if0 _ _).trans (teq hj213).1) (by decide) (by decide) ?_
        exact castTop (by first | rfl | (simp only [if_pos hj213]; first | done | rfl)) kt
      ·
        refine XS.ifNo X202.here hx rfl (hb hby at_147) rfl ((if0 _ _).trans (feq hj213).1) ?_
        refine XS.iload X202.here hx rfl (hb hby at_150) rfl ?_
        refine XS.iconst X202.here hx rfl (hb hby at_152) ?_
        refine XS.iadd X202.here hx rfl (hb hby at_153) rfl ?_
        refine XS.istore X202.here hx rfl (hb hby at_154) rfl (l' := #[.val (.int a), .val (.int b), .val (.int d), .val (.int e0_), .val (.int n), .val (.ref b101), .val (.ref b110), .val (.int (4 : Int32)), .val (.int (ek 4 0 q0 q1 q2 q3)), .val (.int (ek 4 1 q0 q1 q2 q3)), .val (.int (ek 4 2 q0 q1 q2 q3)), .val (.int (ek 4 3 q0 q1 q2 q3)), .val (.int ((ln 4 q0 q1 q2 q3 3) + (1 : Int32))), .val (.int (lo 4 q0 q1 q2 q3 3)), .unset]) rfl ?_
        refine XS.iconst X202.here hx rfl (hb hby at_156) ?_
        show SS p e below T202 m 157 #[.val (.int a), .val (.int b), .val (.int d), .val (.int e0_), .val (.int n), .val (.ref b101), .val (.ref b110), .val (.int (4 : Int32)), .val (.int (ek 4 0 q0 q1 q2 q3)), .val (.int (ek 4 1 q0 q1 q2 q3)), .val (.int (ek 4 2 q0 q1 q2 q3)), .val (.int (ek 4 3 q0 q1 q2 q3)), .val (.int ((ln 4 q0 q1 q2 q3 3) + (1 : Int32))), .val (.int (lo 4 q0 q1 q2 q3 3)), .unset] [(.int (4 : Int32))] _
        refine XS.istore X202.here hx rfl (hb hby at_157) rfl (l' := #[.val (.int a), .val (.int b), .val (.int d), .val (.int e0_), .val (.int n), .val (.ref b101), .val (.ref b110), .val (.int (4 : Int32)), .val (.int (ek 4 0 q0 q1 q2 q3)), .val (.int (ek 4 1 q0 q1 q2 q3)), .val (.int (ek 4 2 q0 q1 q2 q3)), .val (.int (ek 4 3 q0 q1 q2 q3)), .val (.int ((ln 4 q0 q1 q2 q3 3) + (1 : Int32))), .val (.int (4 : Int32)), .unset]) rfl ?_
        exact castTop (by first | rfl | (simp only [if_neg hj213]; first | done | rfl)) kt
    have O215 : Old Z n0 T113.heap := (O112.keep K113 (allS (Nat.le_trans Z0 (Nat.le_trans (Nat.le_trans (Nat.le_trans (Nat.le_trans (Nat.le_trans K101.1 K103.1) K105.1) K107.1) K109.1) (Nat.le_of_eq g110.symm))) all0))
    obtain ⟨_, _, ⟨T216, L216, k216, n216⟩, -, X216, ⟨Lc216, hQ216, l216, y216, z216⟩, st216⟩ := Jvm.LawKit.callS X202 hx (y := yn41) hown0 (mvT hZ0 (w39 hw)) (mvT hZ0 (w40 hw)) (mvT hZ0 (w41 hw)) (mvT hZ0 (w42 hw)) (by decide) (backOf (W := 0) (rm_after4 l Z a0 hw [] b110 t_114 kb_115 q0 q1 q2 q3 cS fm T113.heap n0 (Nat.le_trans Z0 (Nat.le_trans (Nat.le_trans (Nat.le_trans (Nat.le_trans (Nat.le_trans (Nat.le_trans K101.1 K103.1) K105.1) K107.1) K109.1) K110.1) K113.1)) O215 S_cs hcS S_fm hfm S_ad S_hi S_lo P113_1) hZ0 (w42 hw) (w41 hw) (by decide) (by decide)) (g := (mkF m 163 #[.val (.int a), .val (.int b), .val (.int d), .val (.int e0_), .val (.int n), .val (.ref b101), .val (.ref b110), .val (.int (4 : Int32)), .val (.int (ek 4 0 q0 q1 q2 q3)), .val (.int (ek 4 1 q0 q1 q2 q3)), .val (.int (ek 4 2 q0 q1 q2 q3)), .val (.int (ek 4 3 q0 q1 q2 q3)), .val (.int (ln 4 q0 q1 q2 q3 4)), .val (.int (lo 4 q0 q1 q2 q3 4)), .unset] [(.int (4 : Int32)), (.ref b110)])) rfl (by rw [hml]; rfl) (argsL := [(.ref b110), (.int (4 : Int32))]) (rest := []) (lenOf pd__28_Ljava_2f_lang_2f_String_3b_I_29_Lcom_2f_example_2f_vestline_2f_vestline_2f_input_2f_TextPosition_3b_ rfl) rfl (by show 2 * 0 + _ ≤ _; exact Nat.le_of_eq rfl) (hb hby at_163) (fun _ _ => ⟨rfl, eq202, (Nat.le_of_ble_eq_true rfl), (Nat.le_of_ble_eq_true rfl)⟩)
    dsimp only [Pt.U, Pt.locs, Pt.cells, Pt.slots] at X216 l216 y216 z216 st216 hQ216
    subst l216 y216 z216
    obtain ⟨r_217, rfl, Nq216, K216, P216_0, P216_1, P216_2, P216_3⟩ := hQ216
    have N216 := Fr.app N202 Nq216
    obtain ⟨cq218, kq218, q218a, q218b, q218c⟩ := isOf hZ0 rfl P216_1
    obtain ⟨_, _, ⟨T218, L218, k218, n218⟩, -, X218, ⟨Lc218, hQ218, l218, y218, z218⟩, st218⟩ := X216.virtualBack hx (y := yn39) (z := yn39) hown0 (mvT hZ0 (w93 hw)) (mvT hZ0 (w94 hw)) (notFace_of_selects (args := #[]) (mvT hZ0 (w96 hw))) (mvT hZ0 (w96 hw)) (mvT hZ0 (w95 hw)) (by decide) (backOf (W := 0) (rm_line l Z a0 hw [] r_217 (ln 4 q0 q1 q2 q3 4) T216.heap n0 (Nat.le_trans Z0 (Nat.le_trans (Nat.le_trans (Nat.le_trans (Nat.le_trans (Nat.le_trans (Nat.le_trans (Nat.le_trans K101.1 K103.1) K105.1) K107.1) K109.1) K110.1) K113.1) K216.1)) P216_2) hZ0 (w97 hw) (w41 hw) (by decide) (by decide)) q218a q218c (g := (mkF m 170 #[.val (.int a), .val (.int b), .val (.int d), .val (.int e0_), .val (.int n), .val (.ref b101), .val (.ref b110), .val (.int (4 : Int32)), .val (.int (ek 4 0 q0 q1 q2 q3)), .val (.int (ek 4 1 q0 q1 q2 q3)), .val (.int (ek 4 2 q0 q1 q2 q3)), .val (.int (ek 4 3 q0 q1 q2 q3)), .val (.int (ln 4 q0 q1 q2 q3 4)), .val (.int (lo 4 q0 q1 q2 q3 4)), .val (.ref r_217)] [(.ref r_217)])) rfl (by rw [hml]; rfl) (Steps.refl _) (argsL := []) (rest := []) (lenOf pd__28__29_I rfl) rfl (by show 2 * 0 + _ ≤ _; exact Nat.le_of_eq rfl) (hb hby at_170) (fun _ _ => ⟨rfl, rfl, (Nat.le_of_ble_eq_true rfl), (Nat.le_of_ble_eq_true rfl)⟩)
    dsimp only [Pt.U, Pt.locs, Pt.cells, Pt.slots] at X218 l218 y218 z218 st218 hQ218
    subst l218 y218 z218
    obtain ⟨rfl, Nq218, eq218⟩ := hQ218
    have N218 := Fr.app N216 Nq218
    obtain ⟨cq219, kq219, q219a, q219b, q219c⟩ := isOf hZ0 eq218 P216_1
    obtain ⟨_, _, ⟨T219, L219, k219, n219⟩, -, X219, ⟨Lc219, hQ219, l219, y219, z219⟩, st219⟩ := X218.virtualBack hx (y := yn40) (z := yn40) hown0 (mvT hZ0 (w98 hw)) (mvT hZ0 (w99 hw)) (notFace_of_selects (args := #[]) (mvT hZ0 (w101 hw))) (mvT hZ0 (w101 hw)) (mvT hZ0 (w100 hw)) (by decide) (backOf (W := 0) (rm_character l Z a0 hw [] r_217 ((4 : Int32) - (lo 4 q0 q1 q2 q3 4)) T216.heap n0 (Nat.le_trans Z0 (Nat.le_trans (Nat.le_trans (Nat.le_trans (Nat.le_trans (Nat.le_trans (Nat.le_trans (Nat.le_trans K101.1 K103.1) K105.1) K107.1) K109.1) K110.1) K113.1) K216.1)) P216_3) hZ0 (w102 hw) (w41 hw) (by decide) (by decide)) q219a q219c (g := (mkF m 180 #[.val (.int a), .val (.int b), .val (.int d), .val (.int e0_), .val (.int n), .val (.ref b101), .val (.ref b110), .val (.int (4 : Int32)), .val (.int (ek 4 0 q0 q1 q2 q3)), .val (.int (ek 4 1 q0 q1 q2 q3)), .val (.int (ek 4 2 q0 q1 q2 q3)), .val (.int (ek 4 3 q0 q1 q2 q3)), .val (.int (ln 4 q0 q1 q2 q3 4)), .val (.int (lo 4 q0 q1 q2 q3 4)), .val (.ref r_217)] [(.ref r_217)])) rfl (by rw [hml]; rfl) (Steps.refl _) (argsL := []) (rest := []) (lenOf pd__28__29_I rfl) rfl (by show 2 * 0 + _ ≤ _; exact Nat.le_of_eq rfl) (hb hby at_180) (fun _ _ => ⟨rfl, eq218, (Nat.le_of_ble_eq_true rfl), (Nat.le_of_ble_eq_true rfl)⟩)
    dsimp only [Pt.U, Pt.locs, Pt.cells, Pt.slots] at X219 l219 y219 z219 st219 hQ219
    subst l219 y219 z219
    obtain ⟨rfl, Nq219, eq219⟩ := hQ219
    have N219 := Fr.app N218 Nq219
    have W220 : ∀ zQ, SS p e below T219 m 196 #[.val (.int a), .val (.int b), .val (.int d), .val (.int e0_), .val (.int n), .val (.ref b101), .val (.ref b110), .val (.int (4 : Int32)), .val (.int (ek 4 0 q0 q1 q2 q3)), .val (.int (ek 4 1 q0 q1 q2 q3)), .val (.int (ek 4 2 q0 q1 q2 q3)), .val (.int (ek 4 3 q0 q1 q2 q3)), .val (.int (ln 4 q0 q1 q2 q3 4)), .val (.int (lo 4 q0 q1 q2 q3 4)), .val (.ref r_217)] [(.int (1 : Int32))] zQ → Steps p.tables e below (s₁.setTop (entryFrame m #[(.int a), (.int b), (.int d), (.int e0_), (.int n)] maxLocals)) zQ := by
      intro tt kt
      refine W214 tt ?_
      rw [show (if (ek 4 3 q0 q1 q2 q3) = (0 : Int32) then (ln 4 q0 q1 q2 q3 3) else ((ln 4 q0 q1 q2 q3 3) + (1 : Int32))) = (ln 4 q0 q1 q2 q3 4) from rfl]
      show SS p e below T202 m 159 #[.val (.int a), .val (.int b), .val (.int d), .val (.int e0_), .val (.int n), .val (.ref b101), .val (.ref b110), .val (.int (4 : Int32)), .val (.int (ek 4 0 q0 q1 q2 q3)), .val (.int (ek 4 1 q0 q1 q2 q3)), .val (.int (ek 4 2 q0 q1 q2 q3)), .val (.int (ek 4 3 q0 q1 q2 q3)), .val (.int (ln 4 q0 q1 q2 q3 4)), .val (.int (if (ek 4 3 q0 q1 q2 q3) = (0 : Int32) then (lo 4 q0 q1 q2 q3 3) else (4 : Int32))), .unset] [] _
      rw [show (if (ek 4 3 q0 q1 q2 q3) = (0 : Int32) then (lo 4 q0 q1 q2 q3 3) else (4 : Int32)) = (lo 4 q0 q1 q2 q3 4) from rfl]
      refine XS.aload X202.here hx rfl (hb hby at_159) rfl rfl ?_
      refine XS.iload X202.here hx rfl (hb hby at_161) rfl ?_
      show SS p e below T202 m 163 #[.val (.int a), .val (.int b), .val (.int d), .val (.int e0_), .val (.int n), .val (.ref b101), .val (.ref b110), .val (.int (4 : Int32)), .val (.int (ek 4 0 q0 q1 q2 q3)), .val (.int (ek 4 1 q0 q1 q2 q3)), .val (.int (ek 4 2 q0 q1 q2 q3)), .val (.int (ek 4 3 q0 q1 q2 q3)), .val (.int (ln 4 q0 q1 q2 q3 4)), .val (.int (lo 4 q0 q1 q2 q3 4)), .unset] [(.int (4 : Int32)), (.ref b110)] _
      refine st216 _ ?_
      refine XS.astore X216.here hx rfl (hb hby at_166) rfl rfl (l' := #[.val (.int a), .val (.int b), .val (.int d), .val (.int e0_), .val (.int n), .val (.ref b101), .val (.ref b110), .val (.int (4 : Int32)), .val (.int (ek 4 0 q0 q1 q2 q3)), .val (.int (ek 4 1 q0 q1 q2 q3)), .val (.int (ek 4 2 q0 q1 q2 q3)), .val (.int (ek 4 3 q0 q1 q2 q3)), .val (.int (ln 4 q0 q1 q2 q3 4)), .val (.int (lo 4 q0 q1 q2 q3 4)), .val (.ref r_217)]) rfl ?_
      refine XS.aload X216.here hx rfl (hb hby at_168) rfl rfl ?_
      show SS p e below T216 m 170 #[.val (.int a), .val (.int b), .val (.int d), .val (.int e0_), .val (.int n), .val (.ref b101), .val (.ref b110), .val (.int (4 : Int32)), .val (.int (ek 4 0 q0 q1 q2 q3)), .val (.int (ek 4 1 q0 q1 q2 q3)), .val (.int (ek 4 2 q0 q1 q2 q3)), .val (.int (ek 4 3 q0 q1 q2 q3)), .val (.int (ln 4 q0 q1 q2 q3 4)), .val (.int (lo 4 q0 q1 q2 q3 4)), .val (.ref r_217)] [(.ref r_217)] _
      refine st218.trans ?_
      refine XS.iload X218.here hx rfl (hb hby at_173) rfl ?_
      refine XS.icmpNo X218.here hx rfl (hb hby at_175) rfl (teq rfl).2 ?_
      refine XS.aload X218.here hx rfl (hb hby at_178) rfl rfl ?_
      show SS p e below T218 m 180 #[.val (.int a), .val (.int b), .val (.int d), .val (.int e0_), .val (.int n), .val (.ref b101), .val (.ref b110), .val (.int (4 : Int32)), .val (.int (ek 4 0 q0 q1 q2 q3)), .val (.int (ek 4 1 q0 q1 q2 q3)), .val (.int (ek 4 2 q0 q1 q2 q3)), .val (.int (ek 4 3 q0 q1 q2 q3)), .val (.int (ln 4 q0 q1 q2 q3 4)), .val (.int (lo 4 q0 q1 q2 q3 4)), .val (.ref r_217)] [(.ref r_217)] _
      refine st219.trans ?_
      refine XS.iload X219.here hx rfl (hb hby at_183) rfl ?_
      refine XS.iload X219.here hx rfl (hb hby at_185) rfl ?_
      refine XS.isub X219.here hx rfl (hb hby at_187) rfl ?_
      refine XS.icmpNo X219.here hx rfl (hb hby at_188) rfl (teq rfl).2 ?_
      refine XS.iconst X219.here hx rfl (hb hby at_191) ?_
      show SS p e below T219 m 192 #[.val (.int a), .val (.int b), .val (.int d), .val (.int e0_), .val (.int n), .val (.ref b101), .val (.ref b110), .val (.int (4 : Int32)), .val (.int (ek 4 0 q0 q1 q2 q3)), .val (.int (ek 4 1 q0 q1 q2 q3)), .val (.int (ek 4 2 q0 q1 q2 q3)), .val (.int (ek 4 3 q0 q1 q2 q3)), .val (.int (ln 4 q0 q1 q2 q3 4)), .val (.int (lo 4 q0 q1 q2 q3 4)), .val (.ref r_217)] [(.int (1 : Int32))] _
      refine XS.goto X219.here hx rfl (pc0 := 192) (pc' := 196) rfl (hb hby at_192) (by decide) (by decide) ?_
      exact kt
    obtain ⟨fs, hr, hrun, hended, hRW⟩ := Jvm.Stand.leaveW X219 hS0 (by rw [eq219]; exact (Nat.le_trans hk0 (Nat.le_trans (Nat.le_trans (Nat.le_trans (Nat.le_trans (Nat.le_trans (Nat.le_trans (Nat.le_trans K101.1 K103.1) K105.1) K107.1) K109.1) K110.1) K113.1) K216.1))) (v := some (.int (nar .boolean (1 : Int32)))) (fun h => by rw [Bd.returns] at h; cases h) (BodyLoose.notSynchronized Bd)
    refine ⟨_, _, W220 _ (retN X219 hx (t := .boolean) Bd.returns (by simp) (hb hby at_196) hr), hrun, hended, _, _, rfl, ?_, own_rw hRW (by decide) (by decide)⟩
    show Q_law Z a b d e0_ n cS fm h0 n0 _ T219.heap _
    rw [eq219]
    exact ⟨rfl, N219, (Keep.trans (Keep.trans (Keep.trans (Keep.trans (Keep.trans (Keep.trans (Keep.trans (Keep.trans (Keep.refl h0 []) K101 all0) K103 (allS (Or.inr (Nat.le_of_eq g101.symm)) all0)) K105 (allS (Or.inr (Nat.le_of_eq g101.symm)) all0)) K107 (allS (Or.inr (Nat.le_of_eq g101.symm)) all0)) K109 (allS (Or.inr (Nat.le_of_eq g101.symm)) all0)) K110 all0) K113 (allS (Or.inr (Nat.le_trans (Nat.le_trans (Nat.le_trans (Nat.le_trans (Nat.le_trans K101.1 K103.1) K105.1) K107.1) K109.1) (Nat.le_of_eq g110.symm))) all0)) K216 all0)⟩
theorem own_eqint {args : Array Value} {s : State} {t : Term} {n : Int32} (h : (Jvm.Cond.eq t (Jvm.Term.int n)).value args s none s [] = some true) : t.eval args s none [] s = some (.int n) := by
  simp only [Cond.value, Term.eval] at h
  cases ht : t.eval args s none [] s with
  | none => simp [ht] at h
  | some x => cases x <;> simp [ht] at h ⊢; exact h
theorem own_eqlong {args : Array Value} {s : State} {t : Term} {n : Int64} (h : (Jvm.Cond.eq t (Jvm.Term.long n)).value args s none s [] = some true) : t.eval args s none [] s = some (.long n) := by
  simp only [Cond.value, Term.eval] at h
  cases ht : t.eval args s none [] s with
  | none => simp [ht] at h
  | some x => cases x <;> simp [ht] at h ⊢; exact h
theorem own_neint {args : Array Value} {s : State} {t : Term} {n x : Int32} (h : (Jvm.Cond.not (Jvm.Cond.eq t (Jvm.Term.int n))).value args s none s [] = some true) (e : t.eval args s none [] s = some (.int x)) : ¬ (x = n) := by
  simpa [Cond.value, Term.eval, e] using h
theorem own_eqref {args : Array Value} {s : State} {t u : Term} {b : Addr} (h : (Jvm.Cond.eq t u).value args s none s [] = some true) (hu : u.eval args s none [] s = some (.ref b)) : t.eval args s none [] s = some (.ref b) := by
  simp only [Cond.value, hu] at h
  cases ht : t.eval args s none [] s with
  | none => simp [ht] at h
  | some x => cases x <;> simp [ht] at h ⊢; exact h
theorem own_arrlen {args : Array Value} {s : State} {t : Term} {a : Addr} {cl : Cell} {ty : FieldType} {z : Int32} (ev : t.eval args s none [] s = some (.ref a)) (A : Arr s s.heap a cl ty) (h : (Term.length t).eval args s none [] s = some (.int z)) : cl.slots.size < 2 ^ 31 ∧ cl.slots.size.toInt32 = z := by
  have e := Arr.fin (U := s) (Vm.Alike.refl _) A
  simp only [Term.eval, ev, Option.bind_eq_bind, Option.bind_some, e] at h
  by_cases q : cl.slots.size < 2 ^ 31
  · simp [q] at h; exact ⟨q, h⟩
  · simp [q] at h
set_option maxRecDepth 65536 in
set_option maxHeartbeats 40000000 in
theorem comes_1 {Post : Tables → Env → Array Value → State → Outcome → State → Prop} (hpost : ∀ tb e args s v u, (limb_1_1.after args s (.returned v) u = true ∧ limb_1_2.after args s (.returned v) u = true ∧ True) → ReturnedEndW s (.returned v) u (Jvm.fieldLocs frame_1_writes args s ++ Jvm.arrayLocs frame_1_arrays args s ++ Jvm.staticLocs frame_1_statics s) 32 2240 → Post tb e args s (.returned v) u) :
    ArmFor flags0 classFile x code maxLocals ret World_1 tables_1 room_1 Calls_1 rest_1 Pre_1 Post := by
  intro l hfl _ _ p e ha hc hk s m args below hf hA hF happ hP
  obtain ⟨hcalls, hrest, hpre⟩ := hP
  obtain ⟨-, -, -, hnamed, -, -, -, hat⟩ := (Spec.applies_iff hf).mp happ
  obtain ⟨hg, hn⟩ := and_e (Cond.before_iff.mp (show (Jvm.Cond.and given_1 narrow_1).before args s = true from hpre))
  obtain ⟨g1, g2⟩ := and_e hg
  obtain ⟨g3, g4⟩ := and_e g2
  obtain ⟨g5, g6⟩ := and_e g4
  obtain ⟨g7, g8⟩ := and_e g6
  obtain ⟨g9, g10⟩ := and_e g8
  obtain ⟨w0, w1, w2, w3, w4, rfl⟩ : ∃ w0 w1 w2 w3 w4 : Value, args = #[w0, w1, w2, w3, w4] := by
    have hs : args.size = 5 := by simpa [Cond.value, given_1] using g1
    obtain ⟨L⟩ := args
    match L, hs with
    | [w0, w1, w2, w3, w4], _ => exact ⟨w0, w1, w2, w3, w4, rfl⟩
  have hw := fun d (hd : d ∈ tables_1) => atoms_spec (ws := Jvm.Cond.code x code maxLocals ret :: tables_1) hat d (List.mem_cons_of_mem _ hd)
  have hfit : Fit s := fun {y c} hc i hi => by
    obtain ⟨ha, rfl⟩ := Array.getElem?_eq_some_iff.mp hc
    have q := List.all_eq_true.mp ((Array.all_eq_true_iff_forall_mem.mp hF) _ (Array.getElem_mem ha)) i (List.mem_range.mpr hi)
    simpa [Array.getElem?_eq_getElem hi] using q
  obtain ⟨hsets, hown0⟩ := atoms_of _ (rest_1_c_eq ▸ (show rest_1_c.before _ s = true from hrest))
  obtain ⟨i0, ei0⟩ := is_v g3
  obtain rfl : w0 = (.int i0) := Option.some.inj ei0
  obtain ⟨i1, ei1⟩ := is_v g5
  obtain rfl : w1 = (.int i1) := Option.some.inj ei1
  obtain ⟨i2, ei2⟩ := is_v g7
  obtain rfl : w2 = (.int i2) := Option.some.inj ei2
  obtain ⟨i3, ei3⟩ := is_v g9
  obtain rfl : w3 = (.int i3) := Option.some.inj ei3
  obtain ⟨i4, ei4⟩ := is_v g10
  obtain rfl : w4 = (.int i4) := Option.some.inj ei4
  obtain ⟨A_cS, e11⟩ := is_v (Cond.before_iff.mp (hsets _ (List.mem_of_getElem? (i := 1) rfl)))
  have B12 : Sta s s.heap "java/lang/String" "COMPACT_STRINGS" "Z" (.int A_cS) := Sta.start e11 (Or.inl (hsets _ (List.mem_of_getElem? (i := 0) rfl)))
  have B13 : ¬ (A_cS = (0 : Int32)) := own_neint (Cond.before_iff.mp (hsets _ (List.mem_of_getElem? (i := 2) rfl))) e11
  obtain ⟨A_fm, e14, e14'⟩ := isR_v (Cond.before_iff.mp (hsets _ (List.mem_of_getElem? (i := 8) rfl)))
  have B15 : Sta s s.heap "jdk/internal/util/Preconditions" "SIOOBE_FORMATTER" "Ljava/util/function/BiFunction;" A_fm := Sta.start e14 (Or.inl (hsets _ (List.mem_of_getElem? (i := 7) rfl)))
  have B16 : A_fm.isRef = true := e14'
  have e17 := own_eqint (Cond.before_iff.mp (hsets _ (List.mem_of_getElem? (i := 12) rfl)))
  have B18 : Sta s s.heap "java/lang/StringUTF16" "$assertionsDisabled" "Z" (.int (1 : Int32)) := Sta.start e17 (Or.inl (hsets _ (List.mem_of_getElem? (i := 11) rfl)))
  have e19 := own_eqint (Cond.before_iff.mp (hsets _ (List.mem_of_getElem? (i := 15) rfl)))
  have B20 : Sta s s.heap "java/lang/StringUTF16" "HI_BYTE_SHIFT" "I" (.int (0 : Int32)) := Sta.start e19 (Or.inl (hsets _ (List.mem_of_getElem? (i := 14) rfl)))
  have e21 := own_eqint (Cond.before_iff.mp (hsets _ (List.mem_of_getElem? (i := 18) rfl)))
  have B22 : Sta s s.heap "java/lang/StringUTF16" "LO_BYTE_SHIFT" "I" (.int (8 : Int32)) := Sta.start e21 (Or.inl (hsets _ (List.mem_of_getElem? (i := 17) rfl)))
  obtain ⟨n, o, h1, h2, h3, _, L, rfl, ⟨rfl, N, _⟩, hq⟩ := rm_law l s _ hw tables_1 i0 i1 i2 i3 i4 A_cS A_fm s.heap s.heap.size (Nat.le_refl _) (Old.start s) B12 B13 B15 B16 B18 B20 B22 p e ha hc hk s m _ below hf ((Spec.applies_iff_loose hf).mp happ).1 ⟨rfl, State.Warmed39.refl s, rfl⟩ trivial
  refine ⟨n, _, h1, h2, h3, hpost _ _ _ _ _ _ ⟨Cond.after_iff.mpr rfl, Cond.after_iff.mpr (eq_i res_at (Term.int_eval (1)) rfl), trivial⟩ ⟨hq.1, hq.2.1, hq.2.2.1, (hq.2.2.2.sift fun y hy => Or.inr (N y hy)).mono (by decide) (by decide)⟩⟩
theorem main_1_1 : Claimed_1_1 := comes_1 fun _ _ _ _ _ _ h hF => ⟨h.1, hF⟩
theorem main_1_2 : Claimed_1_2 := comes_1 fun _ _ _ _ _ _ h hF => ⟨h.2.1, hF⟩

end Jvm.Pilot.@@N@@
namespace Jvm.Pilot.@@N@@
open Jvm Jvm.ClassFile Sem Op Lib Jvm.Free Jvm.Stand Jvm.Pilot.@@N@@.Jvm.D
/-! MADE BY PROGRAM (witnessworld.py) out of the Statement's table words and the real class files: 25 classes; the members and pool entries that the words name. The judged class is class 1, her method 3. -/
namespace start1
open Jvm.ClassFile
def u (s : String) : CpInfo := .utf8 (stringToUtf16 s)
/-- a pool by its gaps: so many unusable entries, then the entry; so many at the end -/
def gap : Nat → List CpInfo → List CpInfo
  | 0, r => r
  | n + 1, r => .unusable :: gap n r
def poolList (es : List (Nat × CpInfo)) (last : Nat) : List CpInfo := es.foldr (fun e r => gap e.1 (e.2 :: r)) (gap last [])
def pool (es : List (Nat × CpInfo)) (last : Nat) : Array CpInfo := ⟨poolList es last⟩
def fileOf (pool : Array CpInfo) (this : Nat) (attrs : Array Attribute := #[]) (ms : Array MethodInfo := #[]) (fl : Nat := 33) (sup : Nat := 0) (ifs : Array Nat := #[]) (fds : Array FieldInfo := #[]) : ClassFile where
  minorVersion := 0
  majorVersion := 65
  constantPool := pool
  accessFlags := fl
  thisClass := this
  superClass := sup
  interfaces := ifs
  fields := fds
  methods := ms
  attributes := attrs
def plain (name : String) (sup : Option ClassId) : Class where
  name := name
  kind := .ordinary
  loader := none
  accessFlags := 33
  super := sup
  interfaces := #[]
  cf := none
  fields := #[]
  methods := #[]
  instanceTypes := #[]
  staticTypes := #[]
  resolved := #[]
  callSites := []
  init := .initialized
  statics := none
  mirror := none

def pool0 : Array CpInfo := pool [(5, u "<init>"), (0, u "()V"), (1, .class_ 10), (1, u "java/lang/Object")] 113

def k0c0 : Code := { maxStack := 0, maxLocals := 1, code := object_method_1_code, exceptionTable := #[], attributes := #[] }
def k0m0 : Method := { name := "<init>", desc := "()V", sig := { parameters := [], returnType := none }, accessFlags := 1, code := some k0c0 }
/-- java/lang/Object -/
def k0 : Class := { plain "java/lang/Object" none with
  accessFlags := 33
  interfaces := #[]
  cf := some (fileOf pool0 8 #[] #[{ accessFlags := 1, nameIndex := 5, descriptorIndex := 6, attributes := #[] }] 33 0 #[] #[])
  fields := #[]
  methods := #[k0m0]
  instanceTypes := #[]
  staticTypes := #[]
  resolved := Array.replicate 124 none
  statics := none }

def pool1 : Array CpInfo := pool [(2, .class_ 4), (1, u "java/lang/Object"), (0, u "<init>"), (0, u "()V"), (0, .integer 65535), (0, .methodref 9 10), (0, .class_ 11), (0, .nameAndType 12 13), (0, u "com/example/vestline/vestline/input/TextPositionAfterPinLaw"), (0, u "pick"), (0, u "(I)C"), (0, .class_ 15), (0, u "java/lang/String"), (0, .methodref 14 17), (0, .nameAndType 5 18), (0, u "([C)V"), (0, .integer 2147483647), (0, .methodref 9 21), (0, .nameAndType 22 23), (0, u "ends"), (0, u "([CII)Z"), (0, .methodref 25 26), (0, .class_ 27), (0, .nameAndType 28 29), (0, u "com/example/vestline/vestline/input/TextPosition"), (0, u "after"), (0, u "(Ljava/lang/String;I)Lcom/example/vestline/vestline/input/TextPosition;"), (0, .methodref 25 31), (0, .nameAndType 32 33), (0, u "line"), (0, u "()I"), (0, .methodref 25 35), (0, .nameAndType 36 33), (0, u "character"), (3, u "law"), (0, u "(IIIII)Z")] 4

def k1m0 : Method := { name := "<init>", desc := "()V", sig := { parameters := [], returnType := none }, accessFlags := 1, code := none }
def k1c1 : Code := { maxStack := 2, maxLocals := 2, code := method_2_code, exceptionTable := #[], attributes := #[] }
def k1m1 : Method := { name := "pick", desc := "(I)C", sig := { parameters := [.int], returnType := some .char }, accessFlags := 10, code := some k1c1 }
def k1c2 : Code := { maxStack := 3, maxLocals := 3, code := method_3_code, exceptionTable := #[], attributes := #[] }
def k1m2 : Method := { name := "ends", desc := "([CII)Z", sig := { parameters := [(.array .char), .int, .int], returnType := some .boolean }, accessFlags := 10, code := some k1c2 }
def k1c3 : Code := { maxStack := 3, maxLocals := 15, code := code, exceptionTable := #[], attributes := #[] }
def k1m3 : Method := { name := "law", desc := "(IIIII)Z", sig := { parameters := [.int, .int, .int, .int, .int], returnType := some .boolean }, accessFlags := 9, code := some k1c3 }
/-- com/example/vestline/vestline/input/TextPositionAfterPinLaw -/
def k1 : Class := { plain "com/example/vestline/vestline/input/TextPositionAfterPinLaw" (some 0) with
  accessFlags := 49
  interfaces := #[]
  cf := some (fileOf pool1 9 #[] #[{ accessFlags := 1, nameIndex := 5, descriptorIndex := 6, attributes := #[] }, { accessFlags := 10, nameIndex := 12, descriptorIndex := 13, attributes := #[] }, { accessFlags := 10, nameIndex := 22, descriptorIndex := 23, attributes := #[] }, { accessFlags := 9, nameIndex := 40, descriptorIndex := 41, attributes := #[] }] 49 2 #[] #[])
  fields := #[]
  methods := #[k1m0, k1m1, k1m2, k1m3]
  instanceTypes := #[]
  staticTypes := #[]
  resolved := Array.replicate 46 none
  statics := none }

def pool2 : Array CpInfo := pool [(1, .class_ 2), (0, u "java/io/Serializable"), (0, .class_ 4), (0, u "java/lang/Object")] 2

/-- java/io/Serializable -/
def k2 : Class := { plain "java/io/Serializable" (some 0) with
  accessFlags := 1537
  interfaces := #[]
  cf := some (fileOf pool2 1 #[] #[] 1537 3 #[] #[])
  fields := #[]
  methods := #[]
  instanceTypes := #[]
  staticTypes := #[]
  resolved := Array.replicate 7 none
  statics := none }

def pool3 : Array CpInfo := pool [(1, .class_ 2), (0, u "java/lang/Comparable"), (0, .class_ 4), (0, u "java/lang/Object")] 7

/-- java/lang/Comparable -/
def k3 : Class := { plain "java/lang/Comparable" (some 0) with
  accessFlags := 1537
  interfaces := #[]
  cf := some (fileOf pool3 1 #[] #[] 1537 3 #[] #[])
  fields := #[]
  methods := #[]
  instanceTypes := #[]
  staticTypes := #[]
  resolved := Array.replicate 12 none
  statics := none }

def pool4 : Array CpInfo := pool [(2, .class_ 4), (1, u "java/lang/CharSequence"), (42, .class_ 48), (0, u "java/lang/CharSequence$1CodePointIterator"), (10, .class_ 60), (0, u "java/lang/CharSequence$1CharIterator"), (5, .class_ 67), (0, u "java/lang/Object")] 63

/-- java/lang/CharSequence -/
def k4 : Class := { plain "java/lang/CharSequence" (some 0) with
  accessFlags := 1537
  interfaces := #[]
  cf := some (fileOf pool4 2 #[.nestMembers #[47, 59]] #[] 1537 66 #[] #[])
  fields := #[]
  methods := #[]
  instanceTypes := #[]
  staticTypes := #[]
  resolved := Array.replicate 131 none
  statics := none }

def pool5 : Array CpInfo := pool [(1, .class_ 2), (0, u "java/lang/constant/Constable"), (0, .class_ 4), (0, u "java/lang/Object")] 6

/-- java/lang/constant/Constable -/
def k5 : Class := { plain "java/lang/constant/Constable" (some 0) with
  accessFlags := 1537
  interfaces := #[]
  cf := some (fileOf pool5 1 #[] #[] 1537 3 #[] #[])
  fields := #[]
  methods := #[]
  instanceTypes := #[]
  staticTypes := #[]
  resolved := Array.replicate 11 none
  statics := none }

def pool6 : Array CpInfo := pool [(1, .class_ 2), (0, u "java/lang/constant/ConstantDesc"), (0, .class_ 4), (0, u "java/lang/Object")] 32

/-- java/lang/constant/ConstantDesc -/
def k6 : Class := { plain "java/lang/constant/ConstantDesc" (some 0) with
  accessFlags := 1537
  interfaces := #[]
  cf := some (fileOf pool6 1 #[] #[] 1537 3 #[] #[])
  fields := #[]
  methods := #[]
  instanceTypes := #[]
  staticTypes := #[]
  resolved := Array.replicate 37 none
  statics := none }

def pool7 : Array CpInfo := pool [(1, .methodref 2 3), (0, .class_ 4), (0, .nameAndType 5 6), (0, u "java/lang/Object"), (0, u "<init>"), (0, u "()V"), (2, .fieldref 10 11), (0, .class_ 12), (0, .nameAndType 13 14), (0, u "java/lang/String"), (0, u "value"), (0, u "[B"), (0, .fieldref 10 16), (0, .nameAndType 17 18), (0, u "coder"), (0, u "B"), (2, u "hash"), (0, u "I"), (2, u "hashIsZero"), (0, u "Z"), (0, .methodref 10 28), (0, .nameAndType 5 29), (0, u "([CIILjava/lang/Void;)V"), (6, u "checkBoundsOffCount"), (0, u "(III)I"), (0, .fieldref 10 39), (0, .nameAndType 40 26), (0, u "COMPACT_STRINGS"), (1, .class_ 44), (1, u "java/lang/StringUTF16"), (0, u "compress"), (1, .methodref 42 48), (0, .nameAndType 49 50), (0, u "coderFromArrayLen"), (0, u "([BI)B"), (56, .class_ 109), (1, u "java/lang/StringLatin1"), (32, u "()Z"), (34, .methodref 42 178), (0, .nameAndType 45 179), (0, u "([CII)[B"), (31, u "([BB)V"), (122, u "()I"), (0, .methodref 10 336), (0, .nameAndType 17 337), (0, u "()B"), (25, u "([BI)C"), (27, u "(II)V"), (35, u "(I)C"), (64, .methodref 10 493), (0, .nameAndType 494 142), (0, u "isLatin1"), (0, .methodref 107 496), (0, .nameAndType 497 363), (0, u "charAt"), (0, .methodref 42 496), (2, u "checkIndex"), (3, .methodref 10 506), (0, .nameAndType 507 334), (0, u "length"), (5, u "checkFromToIndex"), (7, .methodref 10 522), (0, .nameAndType 523 524), (0, u "checkBoundsBeginEnd"), (0, u "(III)V"), (50, .class_ 576), (0, u "java/lang/CharSequence"), (22, u "CASE_INSENSITIVE_ORDER"), (0, u "Ljava/util/Comparator;"), (82, u "substring"), (0, u "(II)Ljava/lang/String;"), (0, .methodref 107 686), (0, .nameAndType 687 688), (0, u "newString"), (0, u "([BII)Ljava/lang/String;"), (0, .methodref 42 686), (320, u "([C)V"), (42, .fieldref 1054 1055), (0, .class_ 1056), (0, .nameAndType 1057 1058), (0, u "jdk/internal/util/Preconditions"), (0, u "SIOOBE_FORMATTER"), (0, u "Ljava/util/function/BiFunction;"), (0, .methodref 1054 1060), (0, .nameAndType 501 1061), (0, u "(IILjava/util/function/BiFunction;)I"), (0, .methodref 1054 1063), (0, .nameAndType 513 1064), (0, u "(IIILjava/util/function/BiFunction;)I"), (0, .methodref 1054 1066), (0, .nameAndType 1067 1064), (0, u "checkFromIndexSize"), (33, u "serialPersistentFields"), (0, u "[Ljava/io/ObjectStreamField;"), (0, .class_ 1104), (0, u "java/lang/String$CaseInsensitiveComparator"), (1, .class_ 1107), (0, u "java/io/Serializable"), (0, .class_ 1109), (0, u "java/lang/Comparable"), (0, .class_ 1111), (0, u "java/lang/constant/Constable"), (0, .class_ 1113), (0, u "java/lang/constant/ConstantDesc"), (2, u "serialVersionUID"), (0, u "J"), (3, u "REPL"), (0, u "C"), (2, u "LATIN1"), (1, u "UTF16")] 323

def k7m0 : Method := { name := "<init>", desc := "()V", sig := { parameters := [], returnType := none }, accessFlags := 1, code := none }
def k7c1 : Code := { maxStack := 5, maxLocals := 2, code := jdk_42_method_3_code, exceptionTable := #[], attributes := #[] }
def k7m1 : Method := { name := "<init>", desc := "([C)V", sig := { parameters := [(.array .char)], returnType := none }, accessFlags := 1, code := some k7c1 }
def k7c2 : Code := { maxStack := 2, maxLocals := 1, code := jdk_42_method_54_code, exceptionTable := #[], attributes := #[] }
def k7m2 : Method := { name := "length", desc := "()I", sig := { parameters := [], returnType := some .int }, accessFlags := 1, code := some k7c2 }
def k7c3 : Code := { maxStack := 2, maxLocals := 2, code := jdk_42_method_56_code, exceptionTable := #[], attributes := #[] }
def k7m3 : Method := { name := "charAt", desc := "(I)C", sig := { parameters := [.int], returnType := some .char }, accessFlags := 1, code := some k7c3 }
def k7c4 : Code := { maxStack := 3, maxLocals := 5, code := jdk_42_method_92_code, exceptionTable := #[], attributes := #[] }
def k7m4 : Method := { name := "substring", desc := "(II)Ljava/lang/String;", sig := { parameters := [.int, .int], returnType := some (.object "java/lang/String") }, accessFlags := 1, code := some k7c4 }
def k7c5 : Code := { maxStack := 4, maxLocals := 6, code := jdk_42_method_149_code, exceptionTable := #[], attributes := #[] }
def k7m5 : Method := { name := "<init>", desc := "([CIILjava/lang/Void;)V", sig := { parameters := [(.array .char), .int, .int, (.object "java/lang/Void")], returnType := none }, accessFlags := 2, code := some k7c5 }
def k7c6 : Code := { maxStack := 2, maxLocals := 3, code := jdk_42_method_151_code, exceptionTable := #[], attributes := #[] }
def k7m6 : Method := { name := "<init>", desc := "([BB)V", sig := { parameters := [(.array .byte), .byte], returnType := none }, accessFlags := 0, code := some k7c6 }
def k7c7 : Code := { maxStack := 1, maxLocals := 1, code := jdk_42_method_152_code, exceptionTable := #[], attributes := #[] }
def k7m7 : Method := { name := "coder", desc := "()B", sig := { parameters := [], returnType := some .byte }, accessFlags := 0, code := some k7c7 }
def k7c8 : Code := { maxStack := 1, maxLocals := 1, code := jdk_42_method_154_code, exceptionTable := #[], attributes := #[] }
def k7m8 : Method := { name := "isLatin1", desc := "()Z", sig := { parameters := [], returnType := some .boolean }, accessFlags := 0, code := some k7c8 }
def k7c9 : Code := { maxStack := 3, maxLocals := 2, code := jdk_42_method_155_code, exceptionTable := #[], attributes := #[] }
def k7m9 : Method := { name := "checkIndex", desc := "(II)V", sig := { parameters := [.int, .int], returnType := none }, accessFlags := 8, code := some k7c9 }
def k7c10 : Code := { maxStack := 4, maxLocals := 3, code := jdk_42_method_157_code, exceptionTable := #[], attributes := #[] }
def k7m10 : Method := { name := "checkBoundsOffCount", desc := "(III)I", sig := { parameters := [.int, .int, .int], returnType := some .int }, accessFlags := 8, code := some k7c10 }
def k7c11 : Code := { maxStack := 4, maxLocals := 3, code := jdk_42_method_158_code, exceptionTable := #[], attributes := #[] }
def k7m11 : Method := { name := "checkBoundsBeginEnd", desc := "(III)V", sig := { parameters := [.int, .int, .int], returnType := none }, accessFlags := 8, code := some k7c11 }
/-- java/lang/String -/
def k7 : Class := { plain "java/lang/String" (some 0) with
  accessFlags := 49
  interfaces := #[2, 3, 4, 5, 6]
  cf := some (fileOf pool7 10 #[.nestMembers #[1103]] #[{ accessFlags := 1, nameIndex := 5, descriptorIndex := 6, attributes := #[] }, { accessFlags := 1, nameIndex := 5, descriptorIndex := 1010, attributes := #[] }, { accessFlags := 1, nameIndex := 507, descriptorIndex := 334, attributes := #[] }, { accessFlags := 1, nameIndex := 497, descriptorIndex := 427, attributes := #[] }, { accessFlags := 1, nameIndex := 683, descriptorIndex := 684, attributes := #[] }, { accessFlags := 2, nameIndex := 5, descriptorIndex := 29, attributes := #[] }, { accessFlags := 0, nameIndex := 5, descriptorIndex := 211, attributes := #[] }, { accessFlags := 0, nameIndex := 17, descriptorIndex := 337, attributes := #[] }, { accessFlags := 0, nameIndex := 494, descriptorIndex := 142, attributes := #[] }, { accessFlags := 8, nameIndex := 501, descriptorIndex := 391, attributes := #[] }, { accessFlags := 8, nameIndex := 36, descriptorIndex := 37, attributes := #[] }, { accessFlags := 8, nameIndex := 523, descriptorIndex := 524, attributes := #[] }] 49 2 #[1106, 1108, 575, 1110, 1112] #[{ accessFlags := 18, nameIndex := 13, descriptorIndex := 14, attributes := #[] }, { accessFlags := 18, nameIndex := 17, descriptorIndex := 18, attributes := #[] }, { accessFlags := 2, nameIndex := 21, descriptorIndex := 22, attributes := #[] }, { accessFlags := 2, nameIndex := 25, descriptorIndex := 26, attributes := #[] }, { accessFlags := 26, nameIndex := 1116, descriptorIndex := 1117, attributes := #[] }, { accessFlags := 24, nameIndex := 40, descriptorIndex := 26, attributes := #[] }, { accessFlags := 26, nameIndex := 1101, descriptorIndex := 1102, attributes := #[] }, { accessFlags := 26, nameIndex := 1121, descriptorIndex := 1122, attributes := #[] }, { accessFlags := 25, nameIndex := 599, descriptorIndex := 600, attributes := #[] }, { accessFlags := 24, nameIndex := 1125, descriptorIndex := 18, attributes := #[] }, { accessFlags := 24, nameIndex := 1127, descriptorIndex := 18, attributes := #[] }])
  fields := #[{ name := "value", type := (.array .byte), accessFlags := 18, slot := 0, constantValue := 0 }, { name := "coder", type := .byte, accessFlags := 18, slot := 1, constantValue := 0 }, { name := "hash", type := .int, accessFlags := 2, slot := 2, constantValue := 0 }, { name := "hashIsZero", type := .boolean, accessFlags := 2, slot := 3, constantValue := 0 }, { name := "serialVersionUID", type := .long, accessFlags := 26, slot := 0, constantValue := 0 }, { name := "COMPACT_STRINGS", type := .boolean, accessFlags := 24, slot := 1, constantValue := 0 }, { name := "serialPersistentFields", type := (.array (.object "java/io/ObjectStreamField")), accessFlags := 26, slot := 2, constantValue := 0 }, { name := "REPL", type := .char, accessFlags := 26, slot := 3, constantValue := 0 }, { name := "CASE_INSENSITIVE_ORDER", type := (.object "java/util/Comparator"), accessFlags := 25, slot := 4, constantValue := 0 }, { name := "LATIN1", type := .byte, accessFlags := 24, slot := 5, constantValue := 0 }, { name := "UTF16", type := .byte, accessFlags := 24, slot := 6, constantValue := 0 }]
  methods := #[k7m0, k7m1, k7m2, k7m3, k7m4, k7m5, k7m6, k7m7, k7m8, k7m9, k7m10, k7m11]
  instanceTypes := #[(.array .byte), .byte, .int, .boolean]
  staticTypes := #[.long, .boolean, (.array (.object "java/io/ObjectStreamField")), .char, (.object "java/util/Comparator"), .byte, .byte]
  resolved := Array.replicate 1451 none
  statics := some 0 }

def pool8 : Array CpInfo := pool [(3, .class_ 4), (0, u "java/lang/String"), (1, .class_ 8), (1, u "java/lang/Object"), (0, u "<init>"), (0, u "()V"), (0, .methodref 12 13), (0, .class_ 14), (0, .nameAndType 15 16), (0, u "java/lang/StringUTF16"), (0, u "newBytesLength"), (0, u "(I)I"), (3, .integer 1073741823), (23, .fieldref 12 45), (0, .nameAndType 46 47), (0, u "$assertionsDisabled"), (0, u "Z"), (0, .methodref 12 49), (0, .nameAndType 50 51), (0, u "length"), (0, u "([B)I"), (7, .fieldref 12 60), (0, .nameAndType 61 62), (0, u "HI_BYTE_SHIFT"), (0, u "I"), (0, .fieldref 12 64), (0, .nameAndType 65 62), (0, u "LO_BYTE_SHIFT"), (1, .methodref 12 68), (0, .nameAndType 69 70), (0, u "checkIndex"), (0, u "(I[B)V"), (0, .methodref 12 72), (0, .nameAndType 73 74), (0, u "getChar"), (0, u "([BI)C"), (24, u "(II[B)V"), (7, .methodref 12 108), (0, .nameAndType 109 110), (0, u "newBytesFor"), (0, u "(I)[B"), (0, .methodref 12 112), (0, .nameAndType 113 114), (0, u "putChar"), (0, u "([BII)V"), (0, .methodref 12 116), (0, .nameAndType 117 118), (0, u "compress"), (0, u "([CI[BII)I"), (0, .methodref 12 120), (0, .nameAndType 121 122), (0, u "toBytes"), (0, u "([CII)[B"), (0, .methodref 12 124), (0, .nameAndType 117 125), (0, u "([BI[BII)I"), (0, .methodref 127 128), (0, .class_ 129), (0, .nameAndType 130 131), (0, u "java/util/Arrays"), (0, u "copyOfRange"), (0, u "([BII)[B"), (41, .methodref 12 174), (0, .nameAndType 175 99), (0, u "checkBoundsOffCount"), (75, .fieldref 3 252), (0, .nameAndType 253 47), (0, u "COMPACT_STRINGS"), (3, .methodref 12 258), (0, .nameAndType 117 131), (0, .methodref 12 260), (0, .nameAndType 261 262), (0, u "coderFromArrayLen"), (0, u "([BI)B"), (0, .methodref 3 264), (0, .nameAndType 9 265), (0, u "([BB)V"), (15, u "(III)I"), (13, .string 296), (0, u ""), (30, u "newString"), (0, u "([BII)Ljava/lang/String;"), (40, .class_ 371), (1, u "java/lang/StringUTF16$LinesSpliterator"), (20, u "charAt"), (21, .methodref 3 415), (0, .nameAndType 69 416), (0, u "(II)V"), (2, .methodref 3 420), (0, .nameAndType 175 281), (9, u "MAX_LENGTH"), (196, .class_ 628), (0, u "java/lang/StringUTF16$CodePointsSpliterator"), (0, .class_ 630), (0, u "java/lang/StringUTF16$CharsSpliterator")] 4

def k8m0 : Method := { name := "<init>", desc := "()V", sig := { parameters := [], returnType := none }, accessFlags := 0, code := none }
def k8c1 : Code := { maxStack := 1, maxLocals := 1, code := jdk_52_method_2_code, exceptionTable := #[], attributes := #[] }
def k8m1 : Method := { name := "newBytesFor", desc := "(I)[B", sig := { parameters := [.int], returnType := some (.array .byte) }, accessFlags := 9, code := some k8c1 }
def k8c2 : Code := { maxStack := 4, maxLocals := 1, code := jdk_52_method_3_code, exceptionTable := #[], attributes := #[] }
def k8m2 : Method := { name := "newBytesLength", desc := "(I)I", sig := { parameters := [.int], returnType := some .int }, accessFlags := 9, code := some k8c2 }
def k8c3 : Code := { maxStack := 4, maxLocals := 3, code := jdk_52_method_4_code, exceptionTable := #[], attributes := #[] }
def k8m3 : Method := { name := "putChar", desc := "([BII)V", sig := { parameters := [(.array .byte), .int, .int], returnType := none }, accessFlags := 8, code := some k8c3 }
def k8c4 : Code := { maxStack := 3, maxLocals := 2, code := jdk_52_method_5_code, exceptionTable := #[], attributes := #[] }
def k8m4 : Method := { name := "getChar", desc := "([BI)C", sig := { parameters := [(.array .byte), .int], returnType := some .char }, accessFlags := 8, code := some k8c4 }
def k8c5 : Code := { maxStack := 2, maxLocals := 1, code := jdk_52_method_6_code, exceptionTable := #[], attributes := #[] }
def k8m5 : Method := { name := "length", desc := "([B)I", sig := { parameters := [(.array .byte)], returnType := some .int }, accessFlags := 9, code := some k8c5 }
def k8c6 : Code := { maxStack := 4, maxLocals := 5, code := jdk_52_method_14_code, exceptionTable := #[], attributes := #[] }
def k8m6 : Method := { name := "toBytes", desc := "([CII)[B", sig := { parameters := [(.array .char), .int, .int], returnType := some (.array .byte) }, accessFlags := 9, code := some k8c6 }
def k8c7 : Code := { maxStack := 2, maxLocals := 2, code := jdk_52_method_15_code, exceptionTable := #[], attributes := #[] }
def k8m7 : Method := { name := "coderFromArrayLen", desc := "([BI)B", sig := { parameters := [(.array .byte), .int], returnType := some .byte }, accessFlags := 8, code := some k8c7 }
def k8c8 : Code := { maxStack := 5, maxLocals := 6, code := jdk_52_method_16_code, exceptionTable := #[], attributes := #[] }
def k8m8 : Method := { name := "compress", desc := "([CII)[B", sig := { parameters := [(.array .char), .int, .int], returnType := some (.array .byte) }, accessFlags := 9, code := some k8c8 }
def k8c9 : Code := { maxStack := 5, maxLocals := 6, code := jdk_52_method_17_code, exceptionTable := #[], attributes := #[] }
def k8m9 : Method := { name := "compress", desc := "([BII)[B", sig := { parameters := [(.array .byte), .int, .int], returnType := some (.array .byte) }, accessFlags := 9, code := some k8c9 }
def k8c10 : Code := { maxStack := 3, maxLocals := 7, code := jdk_52_method_21_code, exceptionTable := #[], attributes := #[] }
def k8m10 : Method := { name := "compress", desc := "([CI[BII)I", sig := { parameters := [(.array .char), .int, (.array .byte), .int, .int], returnType := some .int }, accessFlags := 9, code := some k8c10 }
def k8c11 : Code := { maxStack := 3, maxLocals := 7, code := jdk_52_method_22_code, exceptionTable := #[], attributes := #[] }
def k8m11 : Method := { name := "compress", desc := "([BI[BII)I", sig := { parameters := [(.array .byte), .int, (.array .byte), .int, .int], returnType := some .int }, accessFlags := 9, code := some k8c11 }
def k8c12 : Code := { maxStack := 6, maxLocals := 5, code := jdk_52_method_69_code, exceptionTable := #[], attributes := #[] }
def k8m12 : Method := { name := "newString", desc := "([BII)Ljava/lang/String;", sig := { parameters := [(.array .byte), .int, .int], returnType := some (.object "java/lang/String") }, accessFlags := 9, code := some k8c12 }
def k8c13 : Code := { maxStack := 2, maxLocals := 2, code := jdk_52_method_83_code, exceptionTable := #[], attributes := #[] }
def k8m13 : Method := { name := "charAt", desc := "([BI)C", sig := { parameters := [(.array .byte), .int], returnType := some .char }, accessFlags := 9, code := some k8c13 }
def k8c14 : Code := { maxStack := 2, maxLocals := 2, code := jdk_52_method_91_code, exceptionTable := #[], attributes := #[] }
def k8m14 : Method := { name := "checkIndex", desc := "(I[B)V", sig := { parameters := [.int, (.array .byte)], returnType := none }, accessFlags := 9, code := some k8c14 }
def k8c15 : Code := { maxStack := 3, maxLocals := 3, code := jdk_52_method_94_code, exceptionTable := #[], attributes := #[] }
def k8m15 : Method := { name := "checkBoundsOffCount", desc := "(II[B)V", sig := { parameters := [.int, .int, (.array .byte)], returnType := none }, accessFlags := 9, code := some k8c15 }
/-- java/lang/StringUTF16 -/
def k8 : Class := { plain "java/lang/StringUTF16" (some 0) with
  accessFlags := 48
  interfaces := #[]
  cf := some (fileOf pool8 12 #[.nestMembers #[627, 629, 369]] #[{ accessFlags := 0, nameIndex := 9, descriptorIndex := 10, attributes := #[] }, { accessFlags := 9, nameIndex := 109, descriptorIndex := 110, attributes := #[] }, { accessFlags := 9, nameIndex := 15, descriptorIndex := 16, attributes := #[] }, { accessFlags := 8, nameIndex := 113, descriptorIndex := 114, attributes := #[] }, { accessFlags := 8, nameIndex := 73, descriptorIndex := 74, attributes := #[] }, { accessFlags := 9, nameIndex := 50, descriptorIndex := 51, attributes := #[] }, { accessFlags := 9, nameIndex := 121, descriptorIndex := 122, attributes := #[] }, { accessFlags := 8, nameIndex := 261, descriptorIndex := 262, attributes := #[] }, { accessFlags := 9, nameIndex := 117, descriptorIndex := 122, attributes := #[] }, { accessFlags := 9, nameIndex := 117, descriptorIndex := 131, attributes := #[] }, { accessFlags := 9, nameIndex := 117, descriptorIndex := 118, attributes := #[] }, { accessFlags := 9, nameIndex := 117, descriptorIndex := 125, attributes := #[] }, { accessFlags := 9, nameIndex := 327, descriptorIndex := 328, attributes := #[] }, { accessFlags := 9, nameIndex := 392, descriptorIndex := 74, attributes := #[] }, { accessFlags := 9, nameIndex := 69, descriptorIndex := 70, attributes := #[] }, { accessFlags := 9, nameIndex := 175, descriptorIndex := 99, attributes := #[] }] 48 6 #[] #[{ accessFlags := 26, nameIndex := 61, descriptorIndex := 62, attributes := #[] }, { accessFlags := 26, nameIndex := 65, descriptorIndex := 62, attributes := #[] }, { accessFlags := 24, nameIndex := 430, descriptorIndex := 62, attributes := #[] }, { accessFlags := 4120, nameIndex := 46, descriptorIndex := 47, attributes := #[] }])
  fields := #[{ name := "HI_BYTE_SHIFT", type := .int, accessFlags := 26, slot := 0, constantValue := 0 }, { name := "LO_BYTE_SHIFT", type := .int, accessFlags := 26, slot := 1, constantValue := 0 }, { name := "MAX_LENGTH", type := .int, accessFlags := 24, slot := 2, constantValue := 0 }, { name := "$assertionsDisabled", type := .boolean, accessFlags := 4120, slot := 3, constantValue := 0 }]
  methods := #[k8m0, k8m1, k8m2, k8m3, k8m4, k8m5, k8m6, k8m7, k8m8, k8m9, k8m10, k8m11, k8m12, k8m13, k8m14, k8m15]
  instanceTypes := #[]
  staticTypes := #[.int, .int, .int, .boolean]
  resolved := Array.replicate 635 none
  statics := some 1 }

def pool9 : Array CpInfo := pool [(1, .methodref 2 3), (0, .class_ 4), (0, .nameAndType 5 6), (0, u "java/lang/Object"), (0, u "<init>"), (0, u "()V"), (0, .class_ 8), (0, u "java/lang/Record")] 13

def k9c0 : Code := { maxStack := 1, maxLocals := 1, code := jdk_30_method_1_code, exceptionTable := #[], attributes := #[] }
def k9m0 : Method := { name := "<init>", desc := "()V", sig := { parameters := [], returnType := none }, accessFlags := 4, code := some k9c0 }
/-- java/lang/Record -/
def k9 : Class := { plain "java/lang/Record" (some 0) with
  accessFlags := 1057
  interfaces := #[]
  cf := some (fileOf pool9 7 #[] #[{ accessFlags := 4, nameIndex := 5, descriptorIndex := 6, attributes := #[] }] 1057 2 #[] #[])
  fields := #[]
  methods := #[k9m0]
  instanceTypes := #[]
  staticTypes := #[]
  resolved := Array.replicate 22 none
  statics := none }

def pool10 : Array CpInfo := pool [(1, .methodref 2 3), (0, .class_ 4), (0, .nameAndType 5 6), (0, u "java/lang/Record"), (0, u "<init>"), (0, u "()V"), (0, .fieldref 8 9), (0, .class_ 10), (0, .nameAndType 11 12), (0, u "com/example/vestline/vestline/input/TextPosition"), (0, u "line"), (0, u "I"), (0, .fieldref 8 14), (0, .nameAndType 15 12), (0, u "character"), (0, .methodref 17 18), (0, .class_ 19), (0, .nameAndType 20 21), (0, u "java/lang/String"), (0, u "substring"), (0, u "(II)Ljava/lang/String;"), (0, .methodref 23 24), (0, .class_ 25), (0, .nameAndType 26 27), (0, u "com/example/vestline/vestline/input/TextFiles"), (0, u "endsLine"), (0, u "(Ljava/lang/String;I)Z"), (0, .methodref 8 29), (0, .nameAndType 5 30), (0, u "(II)V"), (15, u "after"), (0, u "(Ljava/lang/String;I)Lcom/example/vestline/vestline/input/TextPosition;"), (2, u "()I")] 22

def k10c0 : Code := { maxStack := 2, maxLocals := 3, code := prog_13_method_1_code, exceptionTable := #[], attributes := #[] }
def k10m0 : Method := { name := "<init>", desc := "(II)V", sig := { parameters := [.int, .int], returnType := none }, accessFlags := 0, code := some k10c0 }
def k10c1 : Code := { maxStack := 5, maxLocals := 6, code := prog_13_method_2_code, exceptionTable := #[], attributes := #[] }
def k10m1 : Method := { name := "after", desc := "(Ljava/lang/String;I)Lcom/example/vestline/vestline/input/TextPosition;", sig := { parameters := [(.object "java/lang/String"), .int], returnType := some (.object "com/example/vestline/vestline/input/TextPosition") }, accessFlags := 8, code := some k10c1 }
def k10c2 : Code := { maxStack := 1, maxLocals := 1, code := prog_13_method_6_code, exceptionTable := #[], attributes := #[] }
def k10m2 : Method := { name := "line", desc := "()I", sig := { parameters := [], returnType := some .int }, accessFlags := 1, code := some k10c2 }
def k10c3 : Code := { maxStack := 1, maxLocals := 1, code := prog_13_method_7_code, exceptionTable := #[], attributes := #[] }
def k10m3 : Method := { name := "character", desc := "()I", sig := { parameters := [], returnType := some .int }, accessFlags := 1, code := some k10c3 }
/-- com/example/vestline/vestline/input/TextPosition -/
def k10 : Class := { plain "com/example/vestline/vestline/input/TextPosition" (some 9) with
  accessFlags := 48
  interfaces := #[]
  cf := some (fileOf pool10 8 #[] #[{ accessFlags := 0, nameIndex := 5, descriptorIndex := 30, attributes := #[] }, { accessFlags := 8, nameIndex := 46, descriptorIndex := 47, attributes := #[] }, { accessFlags := 1, nameIndex := 11, descriptorIndex := 50, attributes := #[] }, { accessFlags := 1, nameIndex := 15, descriptorIndex := 50, attributes := #[] }] 48 2 #[] #[{ accessFlags := 18, nameIndex := 11, descriptorIndex := 12, attributes := #[] }, { accessFlags := 18, nameIndex := 15, descriptorIndex := 12, attributes := #[] }])
  fields := #[{ name := "line", type := .int, accessFlags := 18, slot := 0, constantValue := 0 }, { name := "character", type := .int, accessFlags := 18, slot := 1, constantValue := 0 }]
  methods := #[k10m0, k10m1, k10m2, k10m3]
  instanceTypes := #[.int, .int]
  staticTypes := #[]
  resolved := Array.replicate 73 none
  statics := none }

def pool11 : Array CpInfo := pool [(2, .class_ 4), (1, u "java/lang/Object"), (0, u "<init>"), (0, u "()V"), (17, .class_ 26), (1, u "jdk/internal/util/Preconditions"), (6, u "checkIndex"), (13, u "checkFromToIndex"), (1, u "checkFromIndexSize"), (5, .class_ 56), (0, u "jdk/internal/util/Preconditions$4"), (57, .class_ 115), (0, u "jdk/internal/util/Preconditions$1"), (7, u "SIOOBE_FORMATTER"), (0, u "Ljava/util/function/BiFunction;"), (0, .class_ 126), (0, u "jdk/internal/util/Preconditions$2"), (3, u "AIOOBE_FORMATTER"), (0, .class_ 132), (0, u "jdk/internal/util/Preconditions$3"), (3, u "IOOBE_FORMATTER"), (41, u "(IILjava/util/function/BiFunction;)I"), (4, u "(IIILjava/util/function/BiFunction;)I")] 10

def k11m0 : Method := { name := "<init>", desc := "()V", sig := { parameters := [], returnType := none }, accessFlags := 1, code := none }
def k11c1 : Code := { maxStack := 3, maxLocals := 3, code := jdk_41_method_11_code, exceptionTable := #[], attributes := #[] }
def k11m1 : Method := { name := "checkIndex", desc := "(IILjava/util/function/BiFunction;)I", sig := { parameters := [.int, .int, (.object "java/util/function/BiFunction")], returnType := some .int }, accessFlags := 9, code := some k11c1 }
def k11c2 : Code := { maxStack := 4, maxLocals := 4, code := jdk_41_method_12_code, exceptionTable := #[], attributes := #[] }
def k11m2 : Method := { name := "checkFromToIndex", desc := "(IIILjava/util/function/BiFunction;)I", sig := { parameters := [.int, .int, .int, (.object "java/util/function/BiFunction")], returnType := some .int }, accessFlags := 9, code := some k11c2 }
def k11c3 : Code := { maxStack := 4, maxLocals := 4, code := jdk_41_method_13_code, exceptionTable := #[], attributes := #[] }
def k11m3 : Method := { name := "checkFromIndexSize", desc := "(IIILjava/util/function/BiFunction;)I", sig := { parameters := [.int, .int, .int, (.object "java/util/function/BiFunction")], returnType := some .int }, accessFlags := 9, code := some k11c3 }
/-- jdk/internal/util/Preconditions -/
def k11 : Class := { plain "jdk/internal/util/Preconditions" (some 0) with
  accessFlags := 33
  interfaces := #[]
  cf := some (fileOf pool11 24 #[.nestMembers #[55, 131, 125, 114]] #[{ accessFlags := 1, nameIndex := 5, descriptorIndex := 6, attributes := #[] }, { accessFlags := 9, nameIndex := 33, descriptorIndex := 178, attributes := #[] }, { accessFlags := 9, nameIndex := 47, descriptorIndex := 183, attributes := #[] }, { accessFlags := 9, nameIndex := 49, descriptorIndex := 183, attributes := #[] }] 33 2 #[] #[{ accessFlags := 25, nameIndex := 123, descriptorIndex := 124, attributes := #[] }, { accessFlags := 25, nameIndex := 130, descriptorIndex := 124, attributes := #[] }, { accessFlags := 25, nameIndex := 136, descriptorIndex := 124, attributes := #[] }])
  fields := #[{ name := "SIOOBE_FORMATTER", type := (.object "java/util/function/BiFunction"), accessFlags := 25, slot := 0, constantValue := 0 }, { name := "AIOOBE_FORMATTER", type := (.object "java/util/function/BiFunction"), accessFlags := 25, slot := 1, constantValue := 0 }, { name := "IOOBE_FORMATTER", type := (.object "java/util/function/BiFunction"), accessFlags := 25, slot := 2, constantValue := 0 }]
  methods := #[k11m0, k11m1, k11m2, k11m3]
  instanceTypes := #[]
  staticTypes := #[(.object "java/util/function/BiFunction"), (.object "java/util/function/BiFunction"), (.object "java/util/function/BiFunction")]
  resolved := Array.replicate 194 none
  statics := some 2 }

def pool12 : Array CpInfo := pool [(1, .class_ 2), (0, u "java/lang/String"), (1, .class_ 6), (1, u "java/lang/Object"), (0, u "<init>"), (0, u "()V"), (0, .methodref 1 10), (0, .nameAndType 11 12), (0, u "checkIndex"), (0, u "(II)V"), (1, .class_ 16), (1, u "java/lang/StringLatin1"), (36, u "([BI)C"), (58, .methodref 1 113), (0, .nameAndType 7 114), (0, u "([BB)V"), (6, u "$assertionsDisabled"), (0, u "Z"), (8, .class_ 133), (1, u "java/util/Arrays"), (17, .string 152), (0, u ""), (43, u "newString"), (0, u "([BII)Ljava/lang/String;"), (23, .class_ 223), (1, u "java/lang/StringLatin1$LinesSpliterator"), (8, .methodref 131 233), (0, .nameAndType 234 235), (0, u "copyOfRange"), (0, u "([BII)[B"), (16, u "charAt"), (137, .class_ 391), (0, u "java/lang/StringLatin1$CharsSpliterator")] 3

def k12m0 : Method := { name := "<init>", desc := "()V", sig := { parameters := [], returnType := none }, accessFlags := 0, code := none }
def k12c1 : Code := { maxStack := 2, maxLocals := 2, code := jdk_43_method_2_code, exceptionTable := #[], attributes := #[] }
def k12m1 : Method := { name := "charAt", desc := "([BI)C", sig := { parameters := [(.array .byte), .int], returnType := some .char }, accessFlags := 9, code := some k12c1 }
def k12c2 : Code := { maxStack := 6, maxLocals := 3, code := jdk_43_method_47_code, exceptionTable := #[], attributes := #[] }
def k12m2 : Method := { name := "newString", desc := "([BII)Ljava/lang/String;", sig := { parameters := [(.array .byte), .int, .int], returnType := some (.object "java/lang/String") }, accessFlags := 9, code := some k12c2 }
/-- java/lang/StringLatin1 -/
def k12 : Class := { plain "java/lang/StringLatin1" (some 0) with
  accessFlags := 48
  interfaces := #[]
  cf := some (fileOf pool12 14 #[.nestMembers #[390, 221]] #[{ accessFlags := 0, nameIndex := 7, descriptorIndex := 8, attributes := #[] }, { accessFlags := 9, nameIndex := 252, descriptorIndex := 53, attributes := #[] }, { accessFlags := 9, nameIndex := 196, descriptorIndex := 197, attributes := #[] }] 48 4 #[] #[{ accessFlags := 4120, nameIndex := 121, descriptorIndex := 122, attributes := #[] }])
  fields := #[{ name := "$assertionsDisabled", type := .boolean, accessFlags := 4120, slot := 0, constantValue := 0 }]
  methods := #[k12m0, k12m1, k12m2]
  instanceTypes := #[]
  staticTypes := #[.boolean]
  resolved := Array.replicate 395 none
  statics := none }

def pool13 : Array CpInfo := pool [(2, .class_ 4), (1, u "java/lang/Object"), (0, u "<init>"), (0, u "()V"), (7, .class_ 16), (1, u "java/util/Arrays"), (57, .class_ 76), (1, u "java/util/Arrays$NaturalOrder"), (36, .class_ 115), (1, u "java/util/Arrays$LegacyMergeSort"), (1, u "Z"), (21, u "copyOfRange"), (10, .methodref 151 152), (0, .class_ 153), (0, .nameAndType 154 155), (0, u "java/lang/System"), (0, u "arraycopy"), (0, u "(Ljava/lang/Object;ILjava/lang/Object;II)V"), (148, .methodref 305 306), (0, .class_ 307), (0, .nameAndType 308 309), (0, u "java/lang/Math"), (0, u "min"), (0, u "(II)I"), (29, .methodref 14 340), (0, .nameAndType 341 342), (0, u "copyOfRangeByte"), (0, u "([BII)[B"), (0, .methodref 14 344), (0, .nameAndType 345 346), (0, u "checkLength"), (0, u "(II)V"), (28, .class_ 376), (0, u "java/util/Arrays$ArrayList"), (68, u "$assertionsDisabled"), (269, u "MIN_ARRAY_SORT_GRAN"), (0, u "I"), (2, u "INSERTIONSORT_THRESHOLD"), (255, .class_ 976), (0, u "java/util/Arrays$ArrayItr")] 52

def k13m0 : Method := { name := "<init>", desc := "()V", sig := { parameters := [], returnType := none }, accessFlags := 2, code := none }
def k13c1 : Code := { maxStack := 4, maxLocals := 2, code := jdk_65_method_131_code, exceptionTable := #[], attributes := #[] }
def k13m1 : Method := { name := "checkLength", desc := "(II)V", sig := { parameters := [.int, .int], returnType := none }, accessFlags := 10, code := some k13c1 }
def k13c2 : Code := { maxStack := 3, maxLocals := 3, code := jdk_65_method_132_code, exceptionTable := #[], attributes := #[] }
def k13m2 : Method := { name := "copyOfRange", desc := "([BII)[B", sig := { parameters := [(.array .byte), .int, .int], returnType := some (.array .byte) }, accessFlags := 9, code := some k13c2 }
def k13c3 : Code := { maxStack := 6, maxLocals := 5, code := jdk_65_method_133_code, exceptionTable := #[], attributes := #[] }
def k13m3 : Method := { name := "copyOfRangeByte", desc := "([BII)[B", sig := { parameters := [(.array .byte), .int, .int], returnType := some (.array .byte) }, accessFlags := 10, code := some k13c3 }
/-- java/util/Arrays -/
def k13 : Class := { plain "java/util/Arrays" (some 0) with
  accessFlags := 49
  interfaces := #[]
  cf := some (fileOf pool13 14 #[.nestMembers #[975, 375, 113, 74]] #[{ accessFlags := 2, nameIndex := 5, descriptorIndex := 6, attributes := #[] }, { accessFlags := 10, nameIndex := 345, descriptorIndex := 346, attributes := #[] }, { accessFlags := 9, nameIndex := 139, descriptorIndex := 342, attributes := #[] }, { accessFlags := 10, nameIndex := 341, descriptorIndex := 342, attributes := #[] }] 49 2 #[] #[{ accessFlags := 26, nameIndex := 715, descriptorIndex := 716, attributes := #[] }, { accessFlags := 26, nameIndex := 719, descriptorIndex := 716, attributes := #[] }, { accessFlags := 4120, nameIndex := 445, descriptorIndex := 117, attributes := #[] }])
  fields := #[{ name := "MIN_ARRAY_SORT_GRAN", type := .int, accessFlags := 26, slot := 0, constantValue := 0 }, { name := "INSERTIONSORT_THRESHOLD", type := .int, accessFlags := 26, slot := 1, constantValue := 0 }, { name := "$assertionsDisabled", type := .boolean, accessFlags := 4120, slot := 2, constantValue := 0 }]
  methods := #[k13m0, k13m1, k13m2, k13m3]
  instanceTypes := #[]
  staticTypes := #[.int, .int, .boolean]
  resolved := Array.replicate 1029 none
  statics := none }

def pool14 : Array CpInfo := pool [(1, .class_ 2), (0, u "java/lang/Math"), (1, .class_ 6), (1, u "java/lang/Object"), (0, u "<init>"), (0, u "()V"), (89, .class_ 100), (1, u "java/lang/Math$RandomNumberGeneratorHolder"), (71, u "negativeZeroFloatBits"), (0, u "J"), (2, u "negativeZeroDoubleBits"), (24, u "min"), (43, u "$assertionsDisabled"), (0, u "Z"), (88, u "(II)I"), (2, u "twoToTheDoubleScaleDown"), (0, u "D"), (4, u "twoToTheDoubleScaleUp"), (9, u "E"), (3, u "PI"), (2, u "TAU"), (2, u "DEGREES_TO_RADIANS"), (0, u "RADIANS_TO_DEGREES")] 94

def k14m0 : Method := { name := "<init>", desc := "()V", sig := { parameters := [], returnType := none }, accessFlags := 2, code := none }
def k14c1 : Code := { maxStack := 2, maxLocals := 2, code := jdk_29_method_69_code, exceptionTable := #[], attributes := #[] }
def k14m1 : Method := { name := "min", desc := "(II)I", sig := { parameters := [.int, .int], returnType := some .int }, accessFlags := 9, code := some k14c1 }
/-- java/lang/Math -/
def k14 : Class := { plain "java/lang/Math" (some 0) with
  accessFlags := 49
  interfaces := #[]
  cf := some (fileOf pool14 1 #[.nestMembers #[98]] #[{ accessFlags := 2, nameIndex := 7, descriptorIndex := 8, attributes := #[] }, { accessFlags := 9, nameIndex := 201, descriptorIndex := 335, attributes := #[] }] 49 4 #[] #[{ accessFlags := 25, nameIndex := 354, descriptorIndex := 339, attributes := #[] }, { accessFlags := 25, nameIndex := 358, descriptorIndex := 339, attributes := #[] }, { accessFlags := 25, nameIndex := 361, descriptorIndex := 339, attributes := #[] }, { accessFlags := 26, nameIndex := 364, descriptorIndex := 339, attributes := #[] }, { accessFlags := 26, nameIndex := 365, descriptorIndex := 339, attributes := #[] }, { accessFlags := 26, nameIndex := 172, descriptorIndex := 173, attributes := #[] }, { accessFlags := 26, nameIndex := 176, descriptorIndex := 173, attributes := #[] }, { accessFlags := 8, nameIndex := 344, descriptorIndex := 339, attributes := #[] }, { accessFlags := 8, nameIndex := 338, descriptorIndex := 339, attributes := #[] }, { accessFlags := 4120, nameIndex := 245, descriptorIndex := 246, attributes := #[] }])
  fields := #[{ name := "E", type := .double, accessFlags := 25, slot := 0, constantValue := 0 }, { name := "PI", type := .double, accessFlags := 25, slot := 1, constantValue := 0 }, { name := "TAU", type := .double, accessFlags := 25, slot := 2, constantValue := 0 }, { name := "DEGREES_TO_RADIANS", type := .double, accessFlags := 26, slot := 3, constantValue := 0 }, { name := "RADIANS_TO_DEGREES", type := .double, accessFlags := 26, slot := 4, constantValue := 0 }, { name := "negativeZeroFloatBits", type := .long, accessFlags := 26, slot := 5, constantValue := 0 }, { name := "negativeZeroDoubleBits", type := .long, accessFlags := 26, slot := 6, constantValue := 0 }, { name := "twoToTheDoubleScaleUp", type := .double, accessFlags := 8, slot := 7, constantValue := 0 }, { name := "twoToTheDoubleScaleDown", type := .double, accessFlags := 8, slot := 8, constantValue := 0 }, { name := "$assertionsDisabled", type := .boolean, accessFlags := 4120, slot := 9, constantValue := 0 }]
  methods := #[k14m0, k14m1]
  instanceTypes := #[]
  staticTypes := #[.double, .double, .double, .double, .double, .long, .long, .double, .double, .boolean]
  resolved := Array.replicate 460 none
  statics := none }

def pool15 : Array CpInfo := pool [(2, .class_ 4), (1, u "java/lang/Object"), (0, u "<init>"), (0, u "()V"), (1, .class_ 10), (1, u "java/lang/System"), (0, u "allowSecurityManager"), (0, u "I"), (16, u "cons"), (0, u "Ljava/io/Console;"), (77, .class_ 110), (1, u "java/lang/System$CallersHolder"), (43, u "initialErrStream"), (0, u "Ljava/io/PrintStream;"), (19, u "security"), (0, u "Ljava/lang/SecurityManager;"), (31, .class_ 209), (0, u "java/lang/System$1"), (7, u "props"), (0, u "Ljava/util/Properties;"), (2, u "lineSeparator"), (0, u "Ljava/lang/String;"), (96, .class_ 321), (1, u "java/lang/System$LoggerFinder"), (5, .class_ 328), (0, u "java/lang/System$Logger"), (67, u "err"), (2, u "out"), (91, u "notSupportedJnuEncoding"), (15, u "in"), (17, u "initialIn"), (0, u "Ljava/io/InputStream;"), (35, u "bootLayer"), (0, u "Ljava/lang/ModuleLayer;"), (99, .class_ 664), (0, u "java/lang/System$2"), (9, u "NEVER"), (2, u "MAYBE"), (49, u "arraycopy"), (0, u "(Ljava/lang/Object;ILjava/lang/Object;II)V"), (72, .class_ 802), (0, u "java/lang/System$Logger$Level")] 31

def k15m0 : Method := { name := "<init>", desc := "()V", sig := { parameters := [], returnType := none }, accessFlags := 2, code := none }
def k15m1 : Method := { name := "arraycopy", desc := "(Ljava/lang/Object;ILjava/lang/Object;II)V", sig := { parameters := [(.object "java/lang/Object"), .int, (.object "java/lang/Object"), .int, .int], returnType := none }, accessFlags := 265, code := none }
/-- java/lang/System -/
def k15 : Class := { plain "java/lang/System" (some 0) with
  accessFlags := 49
  interfaces := #[]
  cf := some (fileOf pool15 8 #[.nestMembers #[319, 327, 801, 108, 663, 208]] #[{ accessFlags := 2, nameIndex := 5, descriptorIndex := 6, attributes := #[] }, { accessFlags := 265, nameIndex := 727, descriptorIndex := 728, attributes := #[] }] 49 2 #[] #[{ accessFlags := 25, nameIndex := 507, descriptorIndex := 526, attributes := #[] }, { accessFlags := 25, nameIndex := 399, descriptorIndex := 155, attributes := #[] }, { accessFlags := 25, nameIndex := 396, descriptorIndex := 155, attributes := #[] }, { accessFlags := 10, nameIndex := 525, descriptorIndex := 526, attributes := #[] }, { accessFlags := 26, nameIndex := 674, descriptorIndex := 12, attributes := #[] }, { accessFlags := 26, nameIndex := 677, descriptorIndex := 12, attributes := #[] }, { accessFlags := 10, nameIndex := 11, descriptorIndex := 12, attributes := #[] }, { accessFlags := 74, nameIndex := 175, descriptorIndex := 176, attributes := #[] }, { accessFlags := 10, nameIndex := 491, descriptorIndex := 222, attributes := #[] }, { accessFlags := 74, nameIndex := 29, descriptorIndex := 30, attributes := #[] }, { accessFlags := 74, nameIndex := 154, descriptorIndex := 155, attributes := #[] }, { accessFlags := 10, nameIndex := 217, descriptorIndex := 218, attributes := #[] }, { accessFlags := 10, nameIndex := 221, descriptorIndex := 222, attributes := #[] }, { accessFlags := 8, nameIndex := 562, descriptorIndex := 563, attributes := #[] }])
  fields := #[{ name := "in", type := (.object "java/io/InputStream"), accessFlags := 25, slot := 0, constantValue := 0 }, { name := "out", type := (.object "java/io/PrintStream"), accessFlags := 25, slot := 1, constantValue := 0 }, { name := "err", type := (.object "java/io/PrintStream"), accessFlags := 25, slot := 2, constantValue := 0 }, { name := "initialIn", type := (.object "java/io/InputStream"), accessFlags := 10, slot := 3, constantValue := 0 }, { name := "NEVER", type := .int, accessFlags := 26, slot := 4, constantValue := 0 }, { name := "MAYBE", type := .int, accessFlags := 26, slot := 5, constantValue := 0 }, { name := "allowSecurityManager", type := .int, accessFlags := 10, slot := 6, constantValue := 0 }, { name := "security", type := (.object "java/lang/SecurityManager"), accessFlags := 74, slot := 7, constantValue := 0 }, { name := "notSupportedJnuEncoding", type := (.object "java/lang/String"), accessFlags := 10, slot := 8, constantValue := 0 }, { name := "cons", type := (.object "java/io/Console"), accessFlags := 74, slot := 9, constantValue := 0 }, { name := "initialErrStream", type := (.object "java/io/PrintStream"), accessFlags := 74, slot := 10, constantValue := 0 }, { name := "props", type := (.object "java/util/Properties"), accessFlags := 10, slot := 11, constantValue := 0 }, { name := "lineSeparator", type := (.object "java/lang/String"), accessFlags := 10, slot := 12, constantValue := 0 }, { name := "bootLayer", type := (.object "java/lang/ModuleLayer"), accessFlags := 8, slot := 13, constantValue := 0 }]
  methods := #[k15m0, k15m1]
  instanceTypes := #[]
  staticTypes := #[(.object "java/io/InputStream"), (.object "java/io/PrintStream"), (.object "java/io/PrintStream"), (.object "java/io/InputStream"), .int, .int, .int, (.object "java/lang/SecurityManager"), (.object "java/lang/String"), (.object "java/io/Console"), (.object "java/io/PrintStream"), (.object "java/util/Properties"), (.object "java/lang/String"), (.object "java/lang/ModuleLayer")]
  resolved := Array.replicate 834 none
  statics := none }

def pool16 : Array CpInfo := pool [(2, .class_ 4), (1, u "java/lang/Object"), (0, u "<init>"), (0, u "()V"), (0, .class_ 8), (0, u "com/example/vestline/vestline/input/TextFiles"), (117, .methodref 127 128), (0, .class_ 129), (0, .nameAndType 130 131), (0, u "java/lang/String"), (0, u "charAt"), (0, u "(I)C"), (0, .methodref 127 133), (0, .nameAndType 134 135), (0, u "length"), (0, u "()I"), (0, u "MEBIBYTE"), (0, u "I"), (9, u "endsLine"), (0, u "(Ljava/lang/String;I)Z")] 19

def k16m0 : Method := { name := "<init>", desc := "()V", sig := { parameters := [], returnType := none }, accessFlags := 2, code := none }
def k16c1 : Code := { maxStack := 3, maxLocals := 3, code := prog_12_method_5_code, exceptionTable := #[], attributes := #[] }
def k16m1 : Method := { name := "endsLine", desc := "(Ljava/lang/String;I)Z", sig := { parameters := [(.object "java/lang/String"), .int], returnType := some .boolean }, accessFlags := 8, code := some k16c1 }
/-- com/example/vestline/vestline/input/TextFiles -/
def k16 : Class := { plain "com/example/vestline/vestline/input/TextFiles" (some 0) with
  accessFlags := 48
  interfaces := #[]
  cf := some (fileOf pool16 7 #[] #[{ accessFlags := 2, nameIndex := 5, descriptorIndex := 6, attributes := #[] }, { accessFlags := 8, nameIndex := 147, descriptorIndex := 148, attributes := #[] }] 48 2 #[] #[{ accessFlags := 26, nameIndex := 136, descriptorIndex := 137, attributes := #[] }])
  fields := #[{ name := "MEBIBYTE", type := .int, accessFlags := 26, slot := 0, constantValue := 0 }]
  methods := #[k16m0, k16m1]
  instanceTypes := #[]
  staticTypes := #[.int]
  resolved := Array.replicate 168 none
  statics := none }

def pool17 : Array CpInfo := pool [(9, u "<init>"), (6, .class_ 18), (1, u "java/lang/Object"), (0, u "()V"), (1, .class_ 23), (1, u "jdk/internal/util/ArraysSupport"), (0, u "LOG2_ARRAY_LONG_INDEX_SCALE"), (0, u "I"), (2, u "U"), (0, u "Ljdk/internal/misc/Unsafe;"), (8, u "BIG_ENDIAN"), (0, u "Z"), (8, u "LOG2_BYTE_BIT_SIZE"), (4, u "LOG2_ARRAY_INT_INDEX_SCALE"), (54, u "JLA"), (0, u "Ljdk/internal/access/JavaLangAccess;"), (11, u "LOG2_ARRAY_BOOLEAN_INDEX_SCALE"), (9, u "LOG2_ARRAY_BYTE_INDEX_SCALE"), (5, u "LOG2_ARRAY_CHAR_INDEX_SCALE"), (5, u "LOG2_ARRAY_SHORT_INDEX_SCALE"), (18, u "LOG2_ARRAY_FLOAT_INDEX_SCALE"), (24, u "LOG2_ARRAY_DOUBLE_INDEX_SCALE"), (89, u "T_BOOLEAN"), (2, u "T_CHAR"), (1, u "T_FLOAT"), (1, u "T_DOUBLE"), (1, u "T_BYTE"), (1, u "T_SHORT"), (1, u "T_INT"), (1, u "T_LONG"), (1, u "SOFT_MAX_ARRAY_LENGTH")] 83

def k17m0 : Method := { name := "<init>", desc := "()V", sig := { parameters := [], returnType := none }, accessFlags := 2, code := none }
/-- jdk/internal/util/ArraysSupport -/
def k17 : Class := { plain "jdk/internal/util/ArraysSupport" (some 0) with
  accessFlags := 33
  interfaces := #[]
  cf := some (fileOf pool17 21 #[] #[{ accessFlags := 2, nameIndex := 9, descriptorIndex := 19, attributes := #[] }] 33 16 #[] #[{ accessFlags := 24, nameIndex := 28, descriptorIndex := 29, attributes := #[] }, { accessFlags := 26, nameIndex := 38, descriptorIndex := 39, attributes := #[] }, { accessFlags := 25, nameIndex := 121, descriptorIndex := 25, attributes := #[] }, { accessFlags := 25, nameIndex := 131, descriptorIndex := 25, attributes := #[] }, { accessFlags := 25, nameIndex := 137, descriptorIndex := 25, attributes := #[] }, { accessFlags := 25, nameIndex := 143, descriptorIndex := 25, attributes := #[] }, { accessFlags := 25, nameIndex := 53, descriptorIndex := 25, attributes := #[] }, { accessFlags := 25, nameIndex := 24, descriptorIndex := 25, attributes := #[] }, { accessFlags := 25, nameIndex := 162, descriptorIndex := 25, attributes := #[] }, { accessFlags := 25, nameIndex := 187, descriptorIndex := 25, attributes := #[] }, { accessFlags := 26, nameIndex := 48, descriptorIndex := 25, attributes := #[] }, { accessFlags := 25, nameIndex := 277, descriptorIndex := 25, attributes := #[] }, { accessFlags := 25, nameIndex := 280, descriptorIndex := 25, attributes := #[] }, { accessFlags := 25, nameIndex := 282, descriptorIndex := 25, attributes := #[] }, { accessFlags := 25, nameIndex := 284, descriptorIndex := 25, attributes := #[] }, { accessFlags := 25, nameIndex := 286, descriptorIndex := 25, attributes := #[] }, { accessFlags := 25, nameIndex := 288, descriptorIndex := 25, attributes := #[] }, { accessFlags := 25, nameIndex := 290, descriptorIndex := 25, attributes := #[] }, { accessFlags := 25, nameIndex := 292, descriptorIndex := 25, attributes := #[] }, { accessFlags := 26, nameIndex := 108, descriptorIndex := 109, attributes := #[] }, { accessFlags := 25, nameIndex := 294, descriptorIndex := 25, attributes := #[] }])
  fields := #[{ name := "U", type := (.object "jdk/internal/misc/Unsafe"), accessFlags := 24, slot := 0, constantValue := 0 }, { name := "BIG_ENDIAN", type := .boolean, accessFlags := 26, slot := 1, constantValue := 0 }, { name := "LOG2_ARRAY_BOOLEAN_INDEX_SCALE", type := .int, accessFlags := 25, slot := 2, constantValue := 0 }, { name := "LOG2_ARRAY_BYTE_INDEX_SCALE", type := .int, accessFlags := 25, slot := 3, constantValue := 0 }, { name := "LOG2_ARRAY_CHAR_INDEX_SCALE", type := .int, accessFlags := 25, slot := 4, constantValue := 0 }, { name := "LOG2_ARRAY_SHORT_INDEX_SCALE", type := .int, accessFlags := 25, slot := 5, constantValue := 0 }, { name := "LOG2_ARRAY_INT_INDEX_SCALE", type := .int, accessFlags := 25, slot := 6, constantValue := 0 }, { name := "LOG2_ARRAY_LONG_INDEX_SCALE", type := .int, accessFlags := 25, slot := 7, constantValue := 0 }, { name := "LOG2_ARRAY_FLOAT_INDEX_SCALE", type := .int, accessFlags := 25, slot := 8, constantValue := 0 }, { name := "LOG2_ARRAY_DOUBLE_INDEX_SCALE", type := .int, accessFlags := 25, slot := 9, constantValue := 0 }, { name := "LOG2_BYTE_BIT_SIZE", type := .int, accessFlags := 26, slot := 10, constantValue := 0 }, { name := "T_BOOLEAN", type := .int, accessFlags := 25, slot := 11, constantValue := 0 }, { name := "T_CHAR", type := .int, accessFlags := 25, slot := 12, constantValue := 0 }, { name := "T_FLOAT", type := .int, accessFlags := 25, slot := 13, constantValue := 0 }, { name := "T_DOUBLE", type := .int, accessFlags := 25, slot := 14, constantValue := 0 }, { name := "T_BYTE", type := .int, accessFlags := 25, slot := 15, constantValue := 0 }, { name := "T_SHORT", type := .int, accessFlags := 25, slot := 16, constantValue := 0 }, { name := "T_INT", type := .int, accessFlags := 25, slot := 17, constantValue := 0 }, { name := "T_LONG", type := .int, accessFlags := 25, slot := 18, constantValue := 0 }, { name := "JLA", type := (.object "jdk/internal/access/JavaLangAccess"), accessFlags := 26, slot := 19, constantValue := 0 }, { name := "SOFT_MAX_ARRAY_LENGTH", type := .int, accessFlags := 25, slot := 20, constantValue := 0 }]
  methods := #[k17m0]
  instanceTypes := #[]
  staticTypes := #[(.object "jdk/internal/misc/Unsafe"), .boolean, .int, .int, .int, .int, .int, .int, .int, .int, .int, .int, .int, .int, .int, .int, .int, .int, .int, (.object "jdk/internal/access/JavaLangAccess"), .int]
  resolved := Array.replicate 378 none
  statics := none }

def pool18 : Array CpInfo := pool [(1, u "java/lang/Cloneable"), (0, .class_ 1), (0, u "java/lang/Object"), (0, .class_ 3)] 3

/-- java/lang/Cloneable -/
def k18 : Class := { plain "java/lang/Cloneable" (some 0) with
  accessFlags := 1537
  interfaces := #[]
  cf := some (fileOf pool18 2 #[] #[] 1537 4 #[] #[])
  fields := #[]
  methods := #[]
  instanceTypes := #[]
  staticTypes := #[]
  resolved := Array.replicate 8 none
  statics := none }

/-- the primitive byte -/
def k19 : Class := { plain "byte" none with kind := .primitive 'B', accessFlags := 0x411 }
/-- [B -/
def k20 : Class := { plain "[B" (some 0) with kind := .array 19 .byte, interfaces := #[18, 2], accessFlags := 1041 }

/-- the primitive char -/
def k21 : Class := { plain "char" none with kind := .primitive 'C', accessFlags := 0x411 }
/-- [C -/
def k22 : Class := { plain "[C" (some 0) with kind := .array 21 .char, interfaces := #[18, 2], accessFlags := 1041 }

/-- the primitive int -/
def k23 : Class := { plain "int" none with kind := .primitive 'I', accessFlags := 0x411 }
/-- [I -/
def k24 : Class := { plain "[I" (some 0) with kind := .array 23 .int, interfaces := #[18, 2], accessFlags := 1041 }

def heap : Heap := #[{ cls := 7, slots := #[.long 0, .int 1, .null, .int 0, .null, .int 0, .int 0], vm := .statics 7 },
  { cls := 8, slots := #[.int 0, .int 8, .int 0, .int 1], vm := .statics 8 },
  { cls := 11, slots := #[.null, .null, .null], vm := .statics 11 }]
def classes : Array Class := #[k0, k1, k2, k3, k4, k5, k6, k7, k8, k9, k10, k11, k12, k13, k14, k15, k16, k17, k18, k19, k20, k21, k22, k23, k24]
def interned : List (Array UInt16 × Addr) := []
def slotsUsed : Nat := 14
def theMethod : MethodId := ⟨1, 3⟩
def args0 : Array Value := #[.int 5, .int 5, .int 5, .int 5, .int 5]
def aboutOver (below : List Frame) : State where
  vm := { classes := classes, interned := interned.toArray }
  heap := heap
  slotsUsed := slotsUsed
  threads := #[{ frames := .invoking theMethod args0 :: below }]
def below0 : List Frame := [.native { method := ⟨0, 0⟩, args := #[] }]
def about1 : State := aboutOver below0
def p0 : Program := .bare "" "" ""
def e0 : Env := launch0.env 0 0 0
theorem w_frames : about1.frames = Frame.invoking theMethod args0 :: below0 := rfl
set_option maxRecDepth 65536 in
theorem w_args : argsFit about1.vm theMethod args0 = true := by decide +kernel
set_option maxRecDepth 65536 in
theorem w_heap : heapFits about1 = true := by decide +kernel
set_option maxRecDepth 65536 in
theorem w_runnable : about1.curStatus? = some .runnable := by decide +kernel
set_option maxRecDepth 65536 in
theorem w_alone : about1.alone = true := by decide +kernel
set_option maxRecDepth 65536 in
theorem w_named : about1.methodNamed? x = some theMethod := by decide +kernel
set_option maxRecDepth 65536 in
theorem w_hears : about1.hears theMethod below0 = true := by decide +kernel
set_option maxRecDepth 65536 in
theorem w_ripe : about1.ripe theMethod args0 below0 = true := by decide +kernel
theorem w_running : about1.status = .running := rfl
set_option maxRecDepth 65536 in
theorem w_room : about1.hasRoom e0.platform room_1 = true :=
  launch0.hasRoom_least _ room_1 (by decide +kernel) (by decide +kernel) (by decide +kernel) (by decide +kernel) (by decide +kernel) (by decide +kernel)
theorem allAtoms_all (ts : List Jvm.Cond) (a : Array Jvm.Value) (st : Jvm.State) : (allAtoms ts).before a st = ts.all (fun c => c.before a st) := by
  induction ts with
  | nil => rfl
  | cons c t ih =>
    show (Jvm.Cond.and c (allAtoms t)).before a st = _
    rw [Jvm.Cond.before_and, ih, List.all_cons]
def words1 : List Jvm.Cond := Jvm.Cond.code x code maxLocals ret :: tables_1
/-- a 'code' word, met by the world's own term for the bytes: nothing is compared byte by byte -/
theorem code_word {y : MethodName} {bytes : ByteArray} {mx : Nat} {rt : Option FieldType} {a : Array Value} {s : State} {m : MethodId} {meth : Method} {c : Code} (h1 : s.methodNamed? y = some m) (h2 : s.vm.method? m = some meth) (h3 : meth.code = some c) (h4 : c.code = bytes)
    (h5 : (c.maxLocals == mx && c.exceptionTable.isEmpty && decide (c.maxStack ≤ mostOperands) && decide (meth.sig.returnType = rt) && !meth.locks && decide (parseMethodDescriptor y.desc = some meth.sig)) = true) : (Jvm.Cond.code y bytes mx rt).before a s = true := by
  simp only [Bool.and_eq_true, beq_iff_eq, Bool.not_eq_true', decide_eq_true_eq] at h5
  obtain ⟨⟨⟨⟨⟨g1, g2⟩, g3⟩, g4⟩, g5⟩, g6⟩ := h5
  simp [Cond.before, Cond.holds, Cond.value, h1, h2, h3, h4, g1, g2, g3, g4, g5, g6]
def isCode : Jvm.Cond → Bool
  | .code _ _ _ _ => true
  | _ => false
theorem all_split {L : List Jvm.Cond} {P : Jvm.Cond → Bool} (h1 : L.all (fun c => isCode c || P c) = true) (h2 : ∀ c ∈ L.filter isCode, P c = true) : L.all P = true := by
  refine List.all_eq_true.mpr fun c hc => ?_
  have h := List.all_eq_true.mp h1 c hc
  rcases Bool.eq_false_or_eq_true (isCode c) with hi | hi
  · exact h2 c (List.mem_filter.mpr ⟨hc, hi⟩)
  · simpa [hi] using h
set_option maxRecDepth 65536 in
theorem w_c0 : (Jvm.Cond.code x code maxLocals ret).before args0 about1 = true := code_word (m := ⟨1, 3⟩) (meth := k1m3) (c := k1c3) (by decide +kernel) rfl rfl rfl (by decide +kernel)
set_option maxRecDepth 65536 in
theorem w_c1 : (Jvm.Cond.code ({ cls := "com/example/vestline/vestline/input/TextPositionAfterPinLaw", name := "pick", desc := "(I)C" } : Jvm.MethodName) method_2_code (2 : Nat) (Option.some Jvm.ClassFile.FieldType.char)).before args0 about1 = true := code_word (m := ⟨1, 1⟩) (meth := k1m1) (c := k1c1) (by decide +kernel) rfl rfl rfl (by decide +kernel)
set_option maxRecDepth 65536 in
theorem w_c2 : (Jvm.Cond.code ({ cls := "java/lang/String", name := "<init>", desc := "([C)V" } : Jvm.MethodName) jdk_42_method_3_code (2 : Nat) (Option.none : Option Jvm.ClassFile.FieldType)).before args0 about1 = true := code_word (m := ⟨7, 1⟩) (meth := k7m1) (c := k7c1) (by decide +kernel) rfl rfl rfl (by decide +kernel)
set_option maxRecDepth 65536 in
theorem w_c3 : (Jvm.Cond.code ({ cls := "java/lang/String", name := "<init>", desc := "([CIILjava/lang/Void;)V" } : Jvm.MethodName) jdk_42_method_149_code (6 : Nat) (Option.none : Option Jvm.ClassFile.FieldType)).before args0 about1 = true := code_word (m := ⟨7, 5⟩) (meth := k7m5) (c := k7c5) (by decide +kernel) rfl rfl rfl (by decide +kernel)
set_option maxRecDepth 65536 in
theorem w_c4 : (Jvm.Cond.code ({ cls := "java/lang/Object", name := "<init>", desc := "()V" } : Jvm.MethodName) object_method_1_code (1 : Nat) (Option.none : Option Jvm.ClassFile.FieldType)).before args0 about1 = true := code_word (m := ⟨0, 0⟩) (meth := k0m0) (c := k0c0) (by decide +kernel) rfl rfl rfl (by decide +kernel)
set_option maxRecDepth 65536 in
theorem w_c5 : (Jvm.Cond.code ({ cls := "java/lang/StringUTF16", name := "compress", desc := "([CII)[B" } : Jvm.MethodName) jdk_52_method_16_code (6 : Nat) (Option.some (Jvm.ClassFile.FieldType.array Jvm.ClassFile.FieldType.byte))).before args0 about1 = true := code_word (m := ⟨8, 8⟩) (meth := k8m8) (c := k8c8) (by decide +kernel) rfl rfl rfl (by decide +kernel)
set_option maxRecDepth 65536 in
theorem w_c6 : (Jvm.Cond.code ({ cls := "java/lang/StringUTF16", name := "compress", desc := "([CI[BII)I" } : Jvm.MethodName) jdk_52_method_21_code (7 : Nat) (Option.some Jvm.ClassFile.FieldType.int)).before args0 about1 = true := code_word (m := ⟨8, 10⟩) (meth := k8m10) (c := k8c10) (by decide +kernel) rfl rfl rfl (by decide +kernel)
set_option maxRecDepth 65536 in
theorem w_c7 : (Jvm.Cond.code ({ cls := "java/lang/StringUTF16", name := "coderFromArrayLen", desc := "([BI)B" } : Jvm.MethodName) jdk_52_method_15_code (2 : Nat) (Option.some Jvm.ClassFile.FieldType.byte)).before args0 about1 = true := code_word (m := ⟨8, 7⟩) (meth := k8m7) (c := k8c7) (by decide +kernel) rfl rfl rfl (by decide +kernel)
set_option maxRecDepth 65536 in
theorem w_c8 : (Jvm.Cond.code ({ cls := "com/example/vestline/vestline/input/TextPositionAfterPinLaw", name := "ends", desc := "([CII)Z" } : Jvm.MethodName) method_3_code (3 : Nat) (Option.some Jvm.ClassFile.FieldType.boolean)).before args0 about1 = true := code_word (m := ⟨1, 2⟩) (meth := k1m2) (c := k1c2) (by decide +kernel) rfl rfl rfl (by decide +kernel)
set_option maxRecDepth 65536 in
theorem w_c9 : (Jvm.Cond.code ({ cls := "com/example/vestline/vestline/input/TextPosition", name := "after", desc := "(Ljava/lang/String;I)Lcom/example/vestline/vestline/input/TextPosition;" } : Jvm.MethodName) prog_13_method_2_code (6 : Nat) (Option.some (Jvm.ClassFile.FieldType.object "com/example/vestline/vestline/input/TextPosition"))).before args0 about1 = true := code_word (m := ⟨10, 1⟩) (meth := k10m1) (c := k10c1) (by decide +kernel) rfl rfl rfl (by decide +kernel)
set_option maxRecDepth 65536 in
theorem w_c10 : (Jvm.Cond.code ({ cls := "java/lang/String", name := "substring", desc := "(II)Ljava/lang/String;" } : Jvm.MethodName) jdk_42_method_92_code (5 : Nat) (Option.some (Jvm.ClassFile.FieldType.object "java/lang/String"))).before args0 about1 = true := code_word (m := ⟨7, 4⟩) (meth := k7m4) (c := k7c4) (by decide +kernel) rfl rfl rfl (by decide +kernel)
set_option maxRecDepth 65536 in
theorem w_c11 : (Jvm.Cond.code ({ cls := "java/lang/String", name := "length", desc := "()I" } : Jvm.MethodName) jdk_42_method_54_code (1 : Nat) (Option.some Jvm.ClassFile.FieldType.int)).before args0 about1 = true := code_word (m := ⟨7, 2⟩) (meth := k7m2) (c := k7c2) (by decide +kernel) rfl rfl rfl (by decide +kernel)
set_option maxRecDepth 65536 in
theorem w_c12 : (Jvm.Cond.code ({ cls := "java/lang/String", name := "coder", desc := "()B" } : Jvm.MethodName) jdk_42_method_152_code (1 : Nat) (Option.some Jvm.ClassFile.FieldType.byte)).before args0 about1 = true := code_word (m := ⟨7, 7⟩) (meth := k7m7) (c := k7c7) (by decide +kernel) rfl rfl rfl (by decide +kernel)
set_option maxRecDepth 65536 in
theorem w_c13 : (Jvm.Cond.code ({ cls := "java/lang/String", name := "checkBoundsBeginEnd", desc := "(III)V" } : Jvm.MethodName) jdk_42_method_158_code (3 : Nat) (Option.none : Option Jvm.ClassFile.FieldType)).before args0 about1 = true := code_word (m := ⟨7, 11⟩) (meth := k7m11) (c := k7c11) (by decide +kernel) rfl rfl rfl (by decide +kernel)
set_option maxRecDepth 65536 in
theorem w_c14 : (Jvm.Cond.code ({ cls := "jdk/internal/util/Preconditions", name := "checkFromToIndex", desc := "(IIILjava/util/function/BiFunction;)I" } : Jvm.MethodName) jdk_41_method_12_code (4 : Nat) (Option.some Jvm.ClassFile.FieldType.int)).before args0 about1 = true := code_word (m := ⟨11, 2⟩) (meth := k11m2) (c := k11c2) (by decide +kernel) rfl rfl rfl (by decide +kernel)
set_option maxRecDepth 65536 in
theorem w_c15 : (Jvm.Cond.code ({ cls := "java/lang/String", name := "isLatin1", desc := "()Z" } : Jvm.MethodName) jdk_42_method_154_code (1 : Nat) (Option.some Jvm.ClassFile.FieldType.boolean)).before args0 about1 = true := code_word (m := ⟨7, 8⟩) (meth := k7m8) (c := k7c8) (by decide +kernel) rfl rfl rfl (by decide +kernel)
set_option maxRecDepth 65536 in
theorem w_c16 : (Jvm.Cond.code ({ cls := "java/lang/StringLatin1", name := "newString", desc := "([BII)Ljava/lang/String;" } : Jvm.MethodName) jdk_43_method_47_code (3 : Nat) (Option.some (Jvm.ClassFile.FieldType.object "java/lang/String"))).before args0 about1 = true := code_word (m := ⟨12, 2⟩) (meth := k12m2) (c := k12c2) (by decide +kernel) rfl rfl rfl (by decide +kernel)
set_option maxRecDepth 65536 in
theorem w_c17 : (Jvm.Cond.code ({ cls := "com/example/vestline/vestline/input/TextPosition", name := "<init>", desc := "(II)V" } : Jvm.MethodName) prog_13_method_1_code (3 : Nat) (Option.none : Option Jvm.ClassFile.FieldType)).before args0 about1 = true := code_word (m := ⟨10, 0⟩) (meth := k10m0) (c := k10c0) (by decide +kernel) rfl rfl rfl (by decide +kernel)
set_option maxRecDepth 65536 in
theorem w_c18 : (Jvm.Cond.code ({ cls := "java/lang/Record", name := "<init>", desc := "()V" } : Jvm.MethodName) jdk_30_method_1_code (1 : Nat) (Option.none : Option Jvm.ClassFile.FieldType)).before args0 about1 = true := code_word (m := ⟨9, 0⟩) (meth := k9m0) (c := k9c0) (by decide +kernel) rfl rfl rfl (by decide +kernel)
set_option maxRecDepth 65536 in
theorem w_c19 : (Jvm.Cond.code ({ cls := "com/example/vestline/vestline/input/TextPosition", name := "line", desc := "()I" } : Jvm.MethodName) prog_13_method_6_code (1 : Nat) (Option.some Jvm.ClassFile.FieldType.int)).before args0 about1 = true := code_word (m := ⟨10, 2⟩) (meth := k10m2) (c := k10c2) (by decide +kernel) rfl rfl rfl (by decide +kernel)
set_option maxRecDepth 65536 in
theorem w_c20 : (Jvm.Cond.code ({ cls := "com/example/vestline/vestline/input/TextPosition", name := "character", desc := "()I" } : Jvm.MethodName) prog_13_method_7_code (1 : Nat) (Option.some Jvm.ClassFile.FieldType.int)).before args0 about1 = true := code_word (m := ⟨10, 3⟩) (meth := k10m3) (c := k10c3) (by decide +kernel) rfl rfl rfl (by decide +kernel)
set_option maxRecDepth 65536 in
theorem w_c21 : (Jvm.Cond.code ({ cls := "java/util/Arrays", name := "copyOfRange", desc := "([BII)[B" } : Jvm.MethodName) jdk_65_method_132_code (3 : Nat) (Option.some (Jvm.ClassFile.FieldType.array Jvm.ClassFile.FieldType.byte))).before args0 about1 = true := code_word (m := ⟨13, 2⟩) (meth := k13m2) (c := k13c2) (by decide +kernel) rfl rfl rfl (by decide +kernel)
set_option maxRecDepth 65536 in
theorem w_c22 : (Jvm.Cond.code ({ cls := "java/util/Arrays", name := "copyOfRangeByte", desc := "([BII)[B" } : Jvm.MethodName) jdk_65_method_133_code (5 : Nat) (Option.some (Jvm.ClassFile.FieldType.array Jvm.ClassFile.FieldType.byte))).before args0 about1 = true := code_word (m := ⟨13, 3⟩) (meth := k13m3) (c := k13c3) (by decide +kernel) rfl rfl rfl (by decide +kernel)
set_option maxRecDepth 65536 in
theorem w_c23 : (Jvm.Cond.code ({ cls := "java/util/Arrays", name := "checkLength", desc := "(II)V" } : Jvm.MethodName) jdk_65_method_131_code (2 : Nat) (Option.none : Option Jvm.ClassFile.FieldType)).before args0 about1 = true := code_word (m := ⟨13, 1⟩) (meth := k13m1) (c := k13c1) (by decide +kernel) rfl rfl rfl (by decide +kernel)
set_option maxRecDepth 65536 in
theorem w_c24 : (Jvm.Cond.code ({ cls := "java/lang/Math", name := "min", desc := "(II)I" } : Jvm.MethodName) jdk_29_method_69_code (2 : Nat) (Option.some Jvm.ClassFile.FieldType.int)).before args0 about1 = true := code_word (m := ⟨14, 1⟩) (meth := k14m1) (c := k14c1) (by decide +kernel) rfl rfl rfl (by decide +kernel)
set_option maxRecDepth 65536 in
theorem w_c25 : (Jvm.Cond.code ({ cls := "java/lang/String", name := "<init>", desc := "([BB)V" } : Jvm.MethodName) jdk_42_method_151_code (3 : Nat) (Option.none : Option Jvm.ClassFile.FieldType)).before args0 about1 = true := code_word (m := ⟨7, 6⟩) (meth := k7m6) (c := k7c6) (by decide +kernel) rfl rfl rfl (by decide +kernel)
set_option maxRecDepth 65536 in
theorem w_c26 : (Jvm.Cond.code ({ cls := "com/example/vestline/vestline/input/TextFiles", name := "endsLine", desc := "(Ljava/lang/String;I)Z" } : Jvm.MethodName) prog_12_method_5_code (3 : Nat) (Option.some Jvm.ClassFile.FieldType.boolean)).before args0 about1 = true := code_word (m := ⟨16, 1⟩) (meth := k16m1) (c := k16c1) (by decide +kernel) rfl rfl rfl (by decide +kernel)
set_option maxRecDepth 65536 in
theorem w_c27 : (Jvm.Cond.code ({ cls := "java/lang/String", name := "charAt", desc := "(I)C" } : Jvm.MethodName) jdk_42_method_56_code (2 : Nat) (Option.some Jvm.ClassFile.FieldType.char)).before args0 about1 = true := code_word (m := ⟨7, 3⟩) (meth := k7m3) (c := k7c3) (by decide +kernel) rfl rfl rfl (by decide +kernel)
set_option maxRecDepth 65536 in
theorem w_c28 : (Jvm.Cond.code ({ cls := "java/lang/StringLatin1", name := "charAt", desc := "([BI)C" } : Jvm.MethodName) jdk_43_method_2_code (2 : Nat) (Option.some Jvm.ClassFile.FieldType.char)).before args0 about1 = true := code_word (m := ⟨12, 1⟩) (meth := k12m1) (c := k12c1) (by decide +kernel) rfl rfl rfl (by decide +kernel)
set_option maxRecDepth 65536 in
theorem w_c29 : (Jvm.Cond.code ({ cls := "java/lang/String", name := "checkIndex", desc := "(II)V" } : Jvm.MethodName) jdk_42_method_155_code (2 : Nat) (Option.none : Option Jvm.ClassFile.FieldType)).before args0 about1 = true := code_word (m := ⟨7, 9⟩) (meth := k7m9) (c := k7c9) (by decide +kernel) rfl rfl rfl (by decide +kernel)
set_option maxRecDepth 65536 in
theorem w_c30 : (Jvm.Cond.code ({ cls := "jdk/internal/util/Preconditions", name := "checkIndex", desc := "(IILjava/util/function/BiFunction;)I" } : Jvm.MethodName) jdk_41_method_11_code (3 : Nat) (Option.some Jvm.ClassFile.FieldType.int)).before args0 about1 = true := code_word (m := ⟨11, 1⟩) (meth := k11m1) (c := k11c1) (by decide +kernel) rfl rfl rfl (by decide +kernel)
set_option maxRecDepth 65536 in
theorem w_c31 : (Jvm.Cond.code ({ cls := "java/lang/StringUTF16", name := "toBytes", desc := "([CII)[B" } : Jvm.MethodName) jdk_52_method_14_code (5 : Nat) (Option.some (Jvm.ClassFile.FieldType.array Jvm.ClassFile.FieldType.byte))).before args0 about1 = true := code_word (m := ⟨8, 6⟩) (meth := k8m6) (c := k8c6) (by decide +kernel) rfl rfl rfl (by decide +kernel)
set_option maxRecDepth 65536 in
theorem w_c32 : (Jvm.Cond.code ({ cls := "java/lang/StringUTF16", name := "newBytesFor", desc := "(I)[B" } : Jvm.MethodName) jdk_52_method_2_code (1 : Nat) (Option.some (Jvm.ClassFile.FieldType.array Jvm.ClassFile.FieldType.byte))).before args0 about1 = true := code_word (m := ⟨8, 1⟩) (meth := k8m1) (c := k8c1) (by decide +kernel) rfl rfl rfl (by decide +kernel)
set_option maxRecDepth 65536 in
theorem w_c33 : (Jvm.Cond.code ({ cls := "java/lang/StringUTF16", name := "newBytesLength", desc := "(I)I" } : Jvm.MethodName) jdk_52_method_3_code (1 : Nat) (Option.some Jvm.ClassFile.FieldType.int)).before args0 about1 = true := code_word (m := ⟨8, 2⟩) (meth := k8m2) (c := k8c2) (by decide +kernel) rfl rfl rfl (by decide +kernel)
set_option maxRecDepth 65536 in
theorem w_c34 : (Jvm.Cond.code ({ cls := "java/lang/StringUTF16", name := "putChar", desc := "([BII)V" } : Jvm.MethodName) jdk_52_method_4_code (3 : Nat) (Option.none : Option Jvm.ClassFile.FieldType)).before args0 about1 = true := code_word (m := ⟨8, 3⟩) (meth := k8m3) (c := k8c3) (by decide +kernel) rfl rfl rfl (by decide +kernel)
set_option maxRecDepth 65536 in
theorem w_c35 : (Jvm.Cond.code ({ cls := "java/lang/StringUTF16", name := "getChar", desc := "([BI)C" } : Jvm.MethodName) jdk_52_method_5_code (2 : Nat) (Option.some Jvm.ClassFile.FieldType.char)).before args0 about1 = true := code_word (m := ⟨8, 4⟩) (meth := k8m4) (c := k8c4) (by decide +kernel) rfl rfl rfl (by decide +kernel)
set_option maxRecDepth 65536 in
theorem w_c36 : (Jvm.Cond.code ({ cls := "java/lang/StringUTF16", name := "charAt", desc := "([BI)C" } : Jvm.MethodName) jdk_52_method_83_code (2 : Nat) (Option.some Jvm.ClassFile.FieldType.char)).before args0 about1 = true := code_word (m := ⟨8, 13⟩) (meth := k8m13) (c := k8c13) (by decide +kernel) rfl rfl rfl (by decide +kernel)
set_option maxRecDepth 65536 in
theorem w_c37 : (Jvm.Cond.code ({ cls := "java/lang/StringUTF16", name := "checkIndex", desc := "(I[B)V" } : Jvm.MethodName) jdk_52_method_91_code (2 : Nat) (Option.none : Option Jvm.ClassFile.FieldType)).before args0 about1 = true := code_word (m := ⟨8, 14⟩) (meth := k8m14) (c := k8c14) (by decide +kernel) rfl rfl rfl (by decide +kernel)
set_option maxRecDepth 65536 in
theorem w_c38 : (Jvm.Cond.code ({ cls := "java/lang/StringUTF16", name := "length", desc := "([B)I" } : Jvm.MethodName) jdk_52_method_6_code (1 : Nat) (Option.some Jvm.ClassFile.FieldType.int)).before args0 about1 = true := code_word (m := ⟨8, 5⟩) (meth := k8m5) (c := k8c5) (by decide +kernel) rfl rfl rfl (by decide +kernel)
set_option maxRecDepth 65536 in
theorem w_c39 : (Jvm.Cond.code ({ cls := "java/lang/StringUTF16", name := "newString", desc := "([BII)Ljava/lang/String;" } : Jvm.MethodName) jdk_52_method_69_code (5 : Nat) (Option.some (Jvm.ClassFile.FieldType.object "java/lang/String"))).before args0 about1 = true := code_word (m := ⟨8, 12⟩) (meth := k8m12) (c := k8c12) (by decide +kernel) rfl rfl rfl (by decide +kernel)
set_option maxRecDepth 65536 in
theorem w_c40 : (Jvm.Cond.code ({ cls := "java/lang/StringUTF16", name := "compress", desc := "([BII)[B" } : Jvm.MethodName) jdk_52_method_17_code (6 : Nat) (Option.some (Jvm.ClassFile.FieldType.array Jvm.ClassFile.FieldType.byte))).before args0 about1 = true := code_word (m := ⟨8, 9⟩) (meth := k8m9) (c := k8c9) (by decide +kernel) rfl rfl rfl (by decide +kernel)
set_option maxRecDepth 65536 in
theorem w_c41 : (Jvm.Cond.code ({ cls := "java/lang/StringUTF16", name := "compress", desc := "([BI[BII)I" } : Jvm.MethodName) jdk_52_method_22_code (7 : Nat) (Option.some Jvm.ClassFile.FieldType.int)).before args0 about1 = true := code_word (m := ⟨8, 11⟩) (meth := k8m11) (c := k8c11) (by decide +kernel) rfl rfl rfl (by decide +kernel)
set_option maxRecDepth 65536 in
theorem w_c42 : (Jvm.Cond.code ({ cls := "java/lang/StringUTF16", name := "checkBoundsOffCount", desc := "(II[B)V" } : Jvm.MethodName) jdk_52_method_94_code (3 : Nat) (Option.none : Option Jvm.ClassFile.FieldType)).before args0 about1 = true := code_word (m := ⟨8, 15⟩) (meth := k8m15) (c := k8c15) (by decide +kernel) rfl rfl rfl (by decide +kernel)
set_option maxRecDepth 65536 in
theorem w_c43 : (Jvm.Cond.code ({ cls := "java/lang/String", name := "checkBoundsOffCount", desc := "(III)I" } : Jvm.MethodName) jdk_42_method_157_code (3 : Nat) (Option.some Jvm.ClassFile.FieldType.int)).before args0 about1 = true := code_word (m := ⟨7, 10⟩) (meth := k7m10) (c := k7c10) (by decide +kernel) rfl rfl rfl (by decide +kernel)
set_option maxRecDepth 65536 in
theorem w_c44 : (Jvm.Cond.code ({ cls := "jdk/internal/util/Preconditions", name := "checkFromIndexSize", desc := "(IIILjava/util/function/BiFunction;)I" } : Jvm.MethodName) jdk_41_method_13_code (4 : Nat) (Option.some Jvm.ClassFile.FieldType.int)).before args0 about1 = true := code_word (m := ⟨11, 3⟩) (meth := k11m3) (c := k11c3) (by decide +kernel) rfl rfl rfl (by decide +kernel)
def codes1 : List Jvm.Cond := [Jvm.Cond.code x code maxLocals ret, Jvm.Cond.code ({ cls := "com/example/vestline/vestline/input/TextPositionAfterPinLaw", name := "pick", desc := "(I)C" } : Jvm.MethodName) method_2_code (2 : Nat) (Option.some Jvm.ClassFile.FieldType.char), Jvm.Cond.code ({ cls := "java/lang/String", name := "<init>", desc := "([C)V" } : Jvm.MethodName) jdk_42_method_3_code (2 : Nat) (Option.none : Option Jvm.ClassFile.FieldType), Jvm.Cond.code ({ cls := "java/lang/String", name := "<init>", desc := "([CIILjava/lang/Void;)V" } : Jvm.MethodName) jdk_42_method_149_code (6 : Nat) (Option.none : Option Jvm.ClassFile.FieldType), Jvm.Cond.code ({ cls := "java/lang/Object", name := "<init>", desc := "()V" } : Jvm.MethodName) object_method_1_code (1 : Nat) (Option.none : Option Jvm.ClassFile.FieldType), Jvm.Cond.code ({ cls := "java/lang/StringUTF16", name := "compress", desc := "([CII)[B" } : Jvm.MethodName) jdk_52_method_16_code (6 : Nat) (Option.some (Jvm.ClassFile.FieldType.array Jvm.ClassFile.FieldType.byte)), Jvm.Cond.code ({ cls := "java/lang/StringUTF16", name := "compress", desc := "([CI[BII)I" } : Jvm.MethodName) jdk_52_method_21_code (7 : Nat) (Option.some Jvm.ClassFile.FieldType.int), Jvm.Cond.code ({ cls := "java/lang/StringUTF16", name := "coderFromArrayLen", desc := "([BI)B" } : Jvm.MethodName) jdk_52_method_15_code (2 : Nat) (Option.some Jvm.ClassFile.FieldType.byte), Jvm.Cond.code ({ cls := "com/example/vestline/vestline/input/TextPositionAfterPinLaw", name := "ends", desc := "([CII)Z" } : Jvm.MethodName) method_3_code (3 : Nat) (Option.some Jvm.ClassFile.FieldType.boolean), Jvm.Cond.code ({ cls := "com/example/vestline/vestline/input/TextPosition", name := "after", desc := "(Ljava/lang/String;I)Lcom/example/vestline/vestline/input/TextPosition;" } : Jvm.MethodName) prog_13_method_2_code (6 : Nat) (Option.some (Jvm.ClassFile.FieldType.object "com/example/vestline/vestline/input/TextPosition")), Jvm.Cond.code ({ cls := "java/lang/String", name := "substring", desc := "(II)Ljava/lang/String;" } : Jvm.MethodName) jdk_42_method_92_code (5 : Nat) (Option.some (Jvm.ClassFile.FieldType.object "java/lang/String")), Jvm.Cond.code ({ cls := "java/lang/String", name := "length", desc := "()I" } : Jvm.MethodName) jdk_42_method_54_code (1 : Nat) (Option.some Jvm.ClassFile.FieldType.int), Jvm.Cond.code ({ cls := "java/lang/String", name := "coder", desc := "()B" } : Jvm.MethodName) jdk_42_method_152_code (1 : Nat) (Option.some Jvm.ClassFile.FieldType.byte), Jvm.Cond.code ({ cls := "java/lang/String", name := "checkBoundsBeginEnd", desc := "(III)V" } : Jvm.MethodName) jdk_42_method_158_code (3 : Nat) (Option.none : Option Jvm.ClassFile.FieldType), Jvm.Cond.code ({ cls := "jdk/internal/util/Preconditions", name := "checkFromToIndex", desc := "(IIILjava/util/function/BiFunction;)I" } : Jvm.MethodName) jdk_41_method_12_code (4 : Nat) (Option.some Jvm.ClassFile.FieldType.int), Jvm.Cond.code ({ cls := "java/lang/String", name := "isLatin1", desc := "()Z" } : Jvm.MethodName) jdk_42_method_154_code (1 : Nat) (Option.some Jvm.ClassFile.FieldType.boolean), Jvm.Cond.code ({ cls := "java/lang/StringLatin1", name := "newString", desc := "([BII)Ljava/lang/String;" } : Jvm.MethodName) jdk_43_method_47_code (3 : Nat) (Option.some (Jvm.ClassFile.FieldType.object "java/lang/String")), Jvm.Cond.code ({ cls := "com/example/vestline/vestline/input/TextPosition", name := "<init>", desc := "(II)V" } : Jvm.MethodName) prog_13_method_1_code (3 : Nat) (Option.none : Option Jvm.ClassFile.FieldType), Jvm.Cond.code ({ cls := "java/lang/Record", name := "<init>", desc := "()V" } : Jvm.MethodName) jdk_30_method_1_code (1 : Nat) (Option.none : Option Jvm.ClassFile.FieldType), Jvm.Cond.code ({ cls := "com/example/vestline/vestline/input/TextPosition", name := "line", desc := "()I" } : Jvm.MethodName) prog_13_method_6_code (1 : Nat) (Option.some Jvm.ClassFile.FieldType.int), Jvm.Cond.code ({ cls := "com/example/vestline/vestline/input/TextPosition", name := "character", desc := "()I" } : Jvm.MethodName) prog_13_method_7_code (1 : Nat) (Option.some Jvm.ClassFile.FieldType.int), Jvm.Cond.code ({ cls := "java/util/Arrays", name := "copyOfRange", desc := "([BII)[B" } : Jvm.MethodName) jdk_65_method_132_code (3 : Nat) (Option.some (Jvm.ClassFile.FieldType.array Jvm.ClassFile.FieldType.byte)), Jvm.Cond.code ({ cls := "java/util/Arrays", name := "copyOfRangeByte", desc := "([BII)[B" } : Jvm.MethodName) jdk_65_method_133_code (5 : Nat) (Option.some (Jvm.ClassFile.FieldType.array Jvm.ClassFile.FieldType.byte)), Jvm.Cond.code ({ cls := "java/util/Arrays", name := "checkLength", desc := "(II)V" } : Jvm.MethodName) jdk_65_method_131_code (2 : Nat) (Option.none : Option Jvm.ClassFile.FieldType), Jvm.Cond.code ({ cls := "java/lang/Math", name := "min", desc := "(II)I" } : Jvm.MethodName) jdk_29_method_69_code (2 : Nat) (Option.some Jvm.ClassFile.FieldType.int), Jvm.Cond.code ({ cls := "java/lang/String", name := "<init>", desc := "([BB)V" } : Jvm.MethodName) jdk_42_method_151_code (3 : Nat) (Option.none : Option Jvm.ClassFile.FieldType), Jvm.Cond.code ({ cls := "com/example/vestline/vestline/input/TextFiles", name := "endsLine", desc := "(Ljava/lang/String;I)Z" } : Jvm.MethodName) prog_12_method_5_code (3 : Nat) (Option.some Jvm.ClassFile.FieldType.boolean), Jvm.Cond.code ({ cls := "java/lang/String", name := "charAt", desc := "(I)C" } : Jvm.MethodName) jdk_42_method_56_code (2 : Nat) (Option.some Jvm.ClassFile.FieldType.char), Jvm.Cond.code ({ cls := "java/lang/StringLatin1", name := "charAt", desc := "([BI)C" } : Jvm.MethodName) jdk_43_method_2_code (2 : Nat) (Option.some Jvm.ClassFile.FieldType.char), Jvm.Cond.code ({ cls := "java/lang/String", name := "checkIndex", desc := "(II)V" } : Jvm.MethodName) jdk_42_method_155_code (2 : Nat) (Option.none : Option Jvm.ClassFile.FieldType), Jvm.Cond.code ({ cls := "jdk/internal/util/Preconditions", name := "checkIndex", desc := "(IILjava/util/function/BiFunction;)I" } : Jvm.MethodName) jdk_41_method_11_code (3 : Nat) (Option.some Jvm.ClassFile.FieldType.int), Jvm.Cond.code ({ cls := "java/lang/StringUTF16", name := "toBytes", desc := "([CII)[B" } : Jvm.MethodName) jdk_52_method_14_code (5 : Nat) (Option.some (Jvm.ClassFile.FieldType.array Jvm.ClassFile.FieldType.byte)), Jvm.Cond.code ({ cls := "java/lang/StringUTF16", name := "newBytesFor", desc := "(I)[B" } : Jvm.MethodName) jdk_52_method_2_code (1 : Nat) (Option.some (Jvm.ClassFile.FieldType.array Jvm.ClassFile.FieldType.byte)), Jvm.Cond.code ({ cls := "java/lang/StringUTF16", name := "newBytesLength", desc := "(I)I" } : Jvm.MethodName) jdk_52_method_3_code (1 : Nat) (Option.some Jvm.ClassFile.FieldType.int), Jvm.Cond.code ({ cls := "java/lang/StringUTF16", name := "putChar", desc := "([BII)V" } : Jvm.MethodName) jdk_52_method_4_code (3 : Nat) (Option.none : Option Jvm.ClassFile.FieldType), Jvm.Cond.code ({ cls := "java/lang/StringUTF16", name := "getChar", desc := "([BI)C" } : Jvm.MethodName) jdk_52_method_5_code (2 : Nat) (Option.some Jvm.ClassFile.FieldType.char), Jvm.Cond.code ({ cls := "java/lang/StringUTF16", name := "charAt", desc := "([BI)C" } : Jvm.MethodName) jdk_52_method_83_code (2 : Nat) (Option.some Jvm.ClassFile.FieldType.char), Jvm.Cond.code ({ cls := "java/lang/StringUTF16", name := "checkIndex", desc := "(I[B)V" } : Jvm.MethodName) jdk_52_method_91_code (2 : Nat) (Option.none : Option Jvm.ClassFile.FieldType), Jvm.Cond.code ({ cls := "java/lang/StringUTF16", name := "length", desc := "([B)I" } : Jvm.MethodName) jdk_52_method_6_code (1 : Nat) (Option.some Jvm.ClassFile.FieldType.int), Jvm.Cond.code ({ cls := "java/lang/StringUTF16", name := "newString", desc := "([BII)Ljava/lang/String;" } : Jvm.MethodName) jdk_52_method_69_code (5 : Nat) (Option.some (Jvm.ClassFile.FieldType.object "java/lang/String")), Jvm.Cond.code ({ cls := "java/lang/StringUTF16", name := "compress", desc := "([BII)[B" } : Jvm.MethodName) jdk_52_method_17_code (6 : Nat) (Option.some (Jvm.ClassFile.FieldType.array Jvm.ClassFile.FieldType.byte)), Jvm.Cond.code ({ cls := "java/lang/StringUTF16", name := "compress", desc := "([BI[BII)I" } : Jvm.MethodName) jdk_52_method_22_code (7 : Nat) (Option.some Jvm.ClassFile.FieldType.int), Jvm.Cond.code ({ cls := "java/lang/StringUTF16", name := "checkBoundsOffCount", desc := "(II[B)V" } : Jvm.MethodName) jdk_52_method_94_code (3 : Nat) (Option.none : Option Jvm.ClassFile.FieldType), Jvm.Cond.code ({ cls := "java/lang/String", name := "checkBoundsOffCount", desc := "(III)I" } : Jvm.MethodName) jdk_42_method_157_code (3 : Nat) (Option.some Jvm.ClassFile.FieldType.int), Jvm.Cond.code ({ cls := "jdk/internal/util/Preconditions", name := "checkFromIndexSize", desc := "(IIILjava/util/function/BiFunction;)I" } : Jvm.MethodName) jdk_41_method_13_code (4 : Nat) (Option.some Jvm.ClassFile.FieldType.int)]
set_option maxRecDepth 65536 in
theorem codes_eq : words1.filter isCode = codes1 := rfl
theorem w_codes : ∀ c ∈ words1.filter isCode, c.before args0 about1 = true := by
  rw [codes_eq]
  intro c hc
  simp only [codes1, List.mem_cons, List.not_mem_nil, or_false] at hc
  rcases hc with rfl | rfl | rfl | rfl | rfl | rfl | rfl | rfl | rfl | rfl | rfl | rfl | rfl | rfl | rfl | rfl | rfl | rfl | rfl | rfl | rfl | rfl | rfl | rfl | rfl | rfl | rfl | rfl | rfl | rfl | rfl | rfl | rfl | rfl | rfl | rfl | rfl | rfl | rfl | rfl | rfl | rfl | rfl | rfl | rfl
  · exact w_c0
  · exact w_c1
  · exact w_c2
  · exact w_c3
  · exact w_c4
  · exact w_c5
  · exact w_c6
  · exact w_c7
  · exact w_c8
  · exact w_c9
  · exact w_c10
  · exact w_c11
  · exact w_c12
  · exact w_c13
  · exact w_c14
  · exact w_c15
  · exact w_c16
  · exact w_c17
  · exact w_c18
  · exact w_c19
  · exact w_c20
  · exact w_c21
  · exact w_c22
  · exact w_c23
  · exact w_c24
  · exact w_c25
  · exact w_c26
  · exact w_c27
  · exact w_c28
  · exact w_c29
  · exact w_c30
  · exact w_c31
  · exact w_c32
  · exact w_c33
  · exact w_c34
  · exact w_c35
  · exact w_c36
  · exact w_c37
  · exact w_c38
  · exact w_c39
  · exact w_c40
  · exact w_c41
  · exact w_c42
  · exact w_c43
  · exact w_c44
set_option maxRecDepth 65536 in
theorem w_t1 : (words1.take 24).all (fun c => isCode c || c.before args0 about1) = true := by decide +kernel
set_option maxRecDepth 65536 in
theorem w_t2 : ((words1.drop 24).take 24).all (fun c => isCode c || c.before args0 about1) = true := by decide +kernel
set_option maxRecDepth 65536 in
theorem w_t3 : (((words1.drop 24).drop 24).take 24).all (fun c => isCode c || c.before args0 about1) = true := by decide +kernel
set_option maxRecDepth 65536 in
theorem w_t4 : ((((words1.drop 24).drop 24).drop 24).take 24).all (fun c => isCode c || c.before args0 about1) = true := by decide +kernel
set_option maxRecDepth 65536 in
theorem w_t5 : (((((words1.drop 24).drop 24).drop 24).drop 24).take 24).all (fun c => isCode c || c.before args0 about1) = true := by decide +kernel
set_option maxRecDepth 65536 in
theorem w_t6 : ((((((words1.drop 24).drop 24).drop 24).drop 24).drop 24).take 24).all (fun c => isCode c || c.before args0 about1) = true := by decide +kernel
set_option maxRecDepth 65536 in
theorem w_t7 : (((((((words1.drop 24).drop 24).drop 24).drop 24).drop 24).drop 24).take 24).all (fun c => isCode c || c.before args0 about1) = true := by decide +kernel
set_option maxRecDepth 65536 in
theorem w_t8 : ((((((((words1.drop 24).drop 24).drop 24).drop 24).drop 24).drop 24).drop 24).take 24).all (fun c => isCode c || c.before args0 about1) = true := by decide +kernel
set_option maxRecDepth 65536 in
theorem w_t9 : ((((((((words1.drop 24).drop 24).drop 24).drop 24).drop 24).drop 24).drop 24).drop 24).all (fun c => isCode c || c.before args0 about1) = true := by decide +kernel
theorem w_tables : (allAtoms (Jvm.Cond.code x code maxLocals ret :: tables_1)).before args0 about1 = true := by
  rw [allAtoms_all]
  show words1.all (fun c => c.before args0 about1) = true
  refine all_split ?_ w_codes
  rw [← List.take_append_drop 24 words1, List.all_append, w_t1, ← List.take_append_drop 24 (words1.drop 24), List.all_append, w_t2, ← List.take_append_drop 24 ((words1.drop 24).drop 24), List.all_append, w_t3, ← List.take_append_drop 24 (((words1.drop 24).drop 24).drop 24), List.all_append, w_t4, ← List.take_append_drop 24 ((((words1.drop 24).drop 24).drop 24).drop 24), List.all_append, w_t5, ← List.take_append_drop 24 (((((words1.drop 24).drop 24).drop 24).drop 24).drop 24), List.all_append, w_t6, ← List.take_append_drop 24 ((((((words1.drop 24).drop 24).drop 24).drop 24).drop 24).drop 24), List.all_append, w_t7, ← List.take_append_drop 24 (((((((words1.drop 24).drop 24).drop 24).drop 24).drop 24).drop 24).drop 24), List.all_append, w_t8, w_t9]
  rfl
set_option maxRecDepth 65536 in
theorem w_rest : rest_1_c.before args0 about1 = true := by decide +kernel
set_option maxRecDepth 65536 in
theorem w_case : (Jvm.Cond.and given_1 narrow_1).before args0 about1 = true := by decide +kernel
theorem w_applies : (headSpec (Jvm.Cond.code x code maxLocals ret :: tables_1) room_1).applies x e0.platform about1 = true :=
  (Spec.applies_iff w_frames).mpr ⟨w_running, w_runnable, w_alone, w_named, w_hears, w_ripe, w_room, w_tables⟩
theorem atStart : AtStart classFile x code maxLocals ret World_1 tables_1 room_1 Calls_1 rest_1 Pre_1 launch0 p0 e0 about1 theMethod args0 below0 :=
  ⟨lists_1, trivial, launch0.admits_env _ _ _, launch0.least_env, fairChoices_fair.cas, fairChoices_fair.clock, w_frames, w_args, w_heap, w_applies, trivial, w_rest, w_case⟩
end start1
theorem witness_1 : WitnessClaimed_1 := ⟨start1.p0, start1.e0, start1.about1, start1.theMethod, start1.args0, start1.below0, start1.atStart⟩
end Jvm.Pilot.@@N@@
