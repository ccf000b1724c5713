import JvmDerived
import JvmDerived.Pilot.@@N@@Statement
import JvmDerived.Pilot.@@N@@Code
set_option linter.unusedVariables false
set_option linter.unusedSimpArgs false
namespace Jvm.RoadKit
open Sem ClassFile Op Lib Jvm.Stand Jvm.Free Jvm.LawKit
section New
variable {p : Program} {l : Launch} {e : Env} {R : Room} {s : State} {m : MethodId} {args : Array Value} {below : List Frame} {meth : Method} {c : Code} {T : State} {locs : List Loc} {cells slots : Nat}
theorem retI (X : Stand p l e R s m args below meth c T locs cells slots) (hx : p.tables.exec = Jvm.exec) {pc : Nat} {Ls : Array Slot} {z : Int32} {rest : List Value} (hret : meth.sig.returnType = some .int) (hd : decode c.code pc = .ok (.ireturn, 1)) {fs : List Frame}
    (hl : ∀ (f : JFrame) (acts : List Action), f.method = m → f.locked = none → f.entered = [] → (doReturn e (T.setTop f) acts (some (.int z))).1 = T.setFrames fs) : Steps p.tables e below (T.setTop (mkF m pc Ls (.int z :: rest))) (T.setFrames fs) := by
  have hm' : T.vm.method? m = some meth := X.method'
  have hn : narrow .int (.int z) = .int z := rfl
  show Steps p.tables e below (T.setTop { method := m, pc := pc, locals := Ls, stack := _ :: rest, locked := none }) _
  jvm_step X.here [X.here.top, hx, hd, hm', hret, hn]
  first | (intro acts; rw [hl _ acts rfl rfl rfl]) | rw [hl _ _ rfl rfl rfl]
  exact Steps.refl _
theorem own_retJ (X : Stand p l e R s m args below meth c T locs cells slots) (hx : p.tables.exec = Jvm.exec) {pc : Nat} {Ls : Array Slot} {z : Int64} {rest : List Value} (hret : meth.sig.returnType = some .long) (hd : decode c.code pc = .ok (.lreturn, 1)) {fs : List Frame}
    (hl : ∀ (f : JFrame) (acts : List Action), f.method = m → f.locked = none → f.entered = [] → (doReturn e (T.setTop f) acts (some (.long z))).1 = T.setFrames fs) : Steps p.tables e below (T.setTop (mkF m pc Ls (.long z :: rest))) (T.setFrames fs) := by
  have hm' : T.vm.method? m = some meth := X.method'
  have hn : narrow .long (.long z) = .long z := rfl
  show Steps p.tables e below (T.setTop { method := m, pc := pc, locals := Ls, stack := _ :: rest, locked := none }) _
  jvm_step X.here [X.here.top, hx, hd, hm', hret, hn]
  first | (intro acts; rw [hl _ acts rfl rfl rfl]) | rw [hl _ _ rfl rfl rfl]
  exact Steps.refl _
theorem own_retR (X : Stand p l e R s m args below meth c T locs cells slots) (hx : p.tables.exec = Jvm.exec) {pc : Nat} {Ls : Array Slot} {w : Value} {t : FieldType} {rest : List Value} (hret : meth.sig.returnType = some t) (ht : t.isReference = true) (hw : w.isRef = true) (hd : decode c.code pc = .ok (.areturn, 1)) {fs : List Frame}
    (hl : ∀ (f : JFrame) (acts : List Action), f.method = m → f.locked = none → f.entered = [] → (doReturn e (T.setTop f) acts (some w)).1 = T.setFrames fs) : Steps p.tables e below (T.setTop (mkF m pc Ls (w :: rest))) (T.setFrames fs) := by
  have hm' : T.vm.method? m = some meth := X.method'
  rcases ref_cases hw with rfl | ⟨a, rfl⟩
  all_goals
    show Steps p.tables e below (T.setTop { method := m, pc := pc, locals := Ls, stack := _ :: rest, locked := none }) _
    jvm_step X.here [X.here.top, hx, hd, hm', hret, ht, Value.isRef]
    first | (intro acts; rw [hl _ acts rfl rfl rfl]) | rw [hl _ _ rfl rfl rfl]
    exact Steps.refl _
end New
end Jvm.RoadKit
namespace Jvm.Pilot.@@N@@
open Jvm Jvm.ClassFile Sem Op Lib Jvm.Free Jvm.Stand Jvm.LawKit Jvm.RoadKit Bundle Jvm.Pilot.@@N@@.Jvm.D
set_option maxRecDepth 65536
set_option maxHeartbeats 40000000
theorem wq {a b : Nat} (h : a = b) : 2 * 0 + a ≤ b := by omega
abbrev SS (p : Program) (e : Env) (below : List Frame) (T : State) (m : MethodId) (pc : Nat) (ls : Array Slot) (st : List Value) (t : State) : Prop := Steps p.tables e below (T.setTop (mkF m pc ls st)) t
theorem own_bool {P : Prop} [Decidable P] : nar .boolean (if P then (1 : Int32) else (0 : Int32)) = if P then (1 : Int32) else (0 : Int32) := by split <;> decide
abbrev HW (a0 : Array Value) (Z : State) : Prop := ∀ d ∈ tables_1, d.before a0 Z = true
section
variable {a0 : Array Value} {Z : State}
theorem mw (hw : HW a0 Z) {d : Jvm.Cond} (i : Nat) (h : tables_1[i]? = some d) : d.before a0 Z = true := hw d (List.mem_of_getElem? h)
theorem w0 (hw : HW a0 Z) : (Jvm.Cond.arrayClass Jvm.ClassFile.FieldType.long).before a0 Z = true := mw hw 0 rfl
theorem w1 (hw : HW a0 Z) : (Jvm.Cond.classLink "com/example/vestline/vestline/finalaveragepay/BestPeriodsTotalPinLaw" (7 : Nat) "java/util/ArrayList").before a0 Z = true := mw hw 1 rfl
theorem w2 (hw : HW a0 Z) : (Jvm.Cond.instantiable "java/util/ArrayList" (3 : Nat)).before a0 Z = true := mw hw 2 rfl
theorem w3 (hw : HW a0 Z) : (Jvm.Cond.initialized "java/util/ArrayList").before a0 Z = true := mw hw 3 rfl
theorem w4 (hw : HW a0 Z) : (Jvm.Cond.methodLink "com/example/vestline/vestline/finalaveragepay/BestPeriodsTotalPinLaw" (9 : Nat) ({ cls := "java/util/ArrayList", name := "<init>", desc := "()V" } : Jvm.MethodName)).before a0 Z = true := mw hw 4 rfl
theorem w5 (hw : HW a0 Z) : (Jvm.Cond.instanceMethod ({ cls := "java/util/ArrayList", name := "<init>", desc := "()V" } : Jvm.MethodName)).before a0 Z = true := mw hw 5 rfl
theorem w6 (hw : HW a0 Z) : (Jvm.Cond.code ({ cls := "java/util/ArrayList", name := "<init>", desc := "()V" } : Jvm.MethodName) jdk_38_method_2_code (1 : Nat) (Option.none : Option Jvm.ClassFile.FieldType)).before a0 Z = true := mw hw 6 rfl
theorem w7 (hw : HW a0 Z) : (Jvm.Cond.methodLink "java/util/ArrayList" (1 : Nat) ({ cls := "java/util/AbstractList", name := "<init>", desc := "()V" } : Jvm.MethodName)).before a0 Z = true := mw hw 7 rfl
theorem w8 (hw : HW a0 Z) : (Jvm.Cond.instanceMethod ({ cls := "java/util/AbstractList", name := "<init>", desc := "()V" } : Jvm.MethodName)).before a0 Z = true := mw hw 8 rfl
theorem w11 (hw : HW a0 Z) : (Jvm.Cond.initialized "java/util/AbstractList").before a0 Z = true := mw hw 11 rfl
theorem w12 (hw : HW a0 Z) : (Jvm.Cond.code ({ cls := "java/util/AbstractList", name := "<init>", desc := "()V" } : Jvm.MethodName) jdk_39_method_1_code (1 : Nat) (Option.none : Option Jvm.ClassFile.FieldType)).before a0 Z = true := mw hw 12 rfl
theorem w13 (hw : HW a0 Z) : (Jvm.Cond.methodLink "java/util/AbstractList" (1 : Nat) ({ cls := "java/util/AbstractCollection", name := "<init>", desc := "()V" } : Jvm.MethodName)).before a0 Z = true := mw hw 13 rfl
theorem w14 (hw : HW a0 Z) : (Jvm.Cond.instanceMethod ({ cls := "java/util/AbstractCollection", name := "<init>", desc := "()V" } : Jvm.MethodName)).before a0 Z = true := mw hw 14 rfl
theorem w17 (hw : HW a0 Z) : (Jvm.Cond.initialized "java/util/AbstractCollection").before a0 Z = true := mw hw 17 rfl
theorem w18 (hw : HW a0 Z) : (Jvm.Cond.code ({ cls := "java/util/AbstractCollection", name := "<init>", desc := "()V" } : Jvm.MethodName) jdk_22_method_1_code (1 : Nat) (Option.none : Option Jvm.ClassFile.FieldType)).before a0 Z = true := mw hw 18 rfl
theorem w19 (hw : HW a0 Z) : (Jvm.Cond.methodLink "java/util/AbstractCollection" (1 : Nat) ({ cls := "java/lang/Object", name := "<init>", desc := "()V" } : Jvm.MethodName)).before a0 Z = true := mw hw 19 rfl
theorem w20 (hw : HW a0 Z) : (Jvm.Cond.instanceMethod ({ cls := "java/lang/Object", name := "<init>", desc := "()V" } : Jvm.MethodName)).before a0 Z = true := mw hw 20 rfl
theorem w21 (hw : HW a0 Z) : (Jvm.Cond.code ({ cls := "java/lang/Object", name := "<init>", desc := "()V" } : Jvm.MethodName) object_method_1_code (1 : Nat) (Option.none : Option Jvm.ClassFile.FieldType)).before a0 Z = true := mw hw 21 rfl
theorem w22 (hw : HW a0 Z) : (Jvm.Cond.fieldLink "java/util/AbstractList" (7 : Nat) "java/util/AbstractList" "modCount" "I").before a0 Z = true := mw hw 22 rfl
theorem w23 (hw : HW a0 Z) : (Jvm.Cond.lays "java/util/ArrayList" "java/util/AbstractList" "modCount" "I").before a0 Z = true := mw hw 23 rfl
theorem w24 (hw : HW a0 Z) : (Jvm.Cond.fieldLink "java/util/ArrayList" (39 : Nat) "java/util/ArrayList" "DEFAULTCAPACITY_EMPTY_ELEMENTDATA" "[Ljava/lang/Object;").before a0 Z = true := mw hw 24 rfl
theorem w25 (hw : HW a0 Z) : (Jvm.Cond.fieldLink "java/util/ArrayList" (9 : Nat) "java/util/ArrayList" "elementData" "[Ljava/lang/Object;").before a0 Z = true := mw hw 25 rfl
theorem w26 (hw : HW a0 Z) : (Jvm.Cond.lays "java/util/ArrayList" "java/util/ArrayList" "elementData" "[Ljava/lang/Object;").before a0 Z = true := mw hw 26 rfl
theorem w27 (hw : HW a0 Z) : (Jvm.Cond.methodLink "com/example/vestline/vestline/finalaveragepay/BestPeriodsTotalPinLaw" (20 : Nat) ({ cls := "com/example/vestline/vestline/finalaveragepay/BestPeriods", name := "total", desc := "(Ljava/util/List;II)Ljava/math/BigDecimal;" } : Jvm.MethodName)).before a0 Z = true := mw hw 27 rfl
theorem w28 (hw : HW a0 Z) : (Jvm.Cond.static ({ cls := "com/example/vestline/vestline/finalaveragepay/BestPeriods", name := "total", desc := "(Ljava/util/List;II)Ljava/math/BigDecimal;" } : Jvm.MethodName)).before a0 Z = true := mw hw 28 rfl
theorem w29 (hw : HW a0 Z) : (Jvm.Cond.initialized "com/example/vestline/vestline/finalaveragepay/BestPeriods").before a0 Z = true := mw hw 29 rfl
theorem w30 (hw : HW a0 Z) : (Jvm.Cond.code ({ cls := "com/example/vestline/vestline/finalaveragepay/BestPeriods", name := "total", desc := "(Ljava/util/List;II)Ljava/math/BigDecimal;" } : Jvm.MethodName) prog_2_method_2_code (10 : Nat) (Option.some (Jvm.ClassFile.FieldType.object "java/math/BigDecimal"))).before a0 Z = true := mw hw 30 rfl
theorem w31 (hw : HW a0 Z) : (Jvm.Cond.methodLink "com/example/vestline/vestline/finalaveragepay/BestPeriods" (7 : Nat) ({ cls := "java/util/List", name := "size", desc := "()I" } : Jvm.MethodName)).before a0 Z = true := mw hw 31 rfl
theorem w32 (hw : HW a0 Z) : (Jvm.Cond.declares ({ cls := "java/util/List", name := "size", desc := "()I" } : Jvm.MethodName)).before a0 Z = true := mw hw 32 rfl
theorem w33 (hw : HW a0 Z) : (Jvm.Cond.interfaceMethod "java/util/List" "java/util/List" "size" "()I").before a0 Z = true := mw hw 33 rfl
theorem w34 (hw : HW a0 Z) : (Jvm.Cond.selects "java/util/ArrayList" ({ cls := "java/util/List", name := "size", desc := "()I" } : Jvm.MethodName) ({ cls := "java/util/ArrayList", name := "size", desc := "()I" } : Jvm.MethodName)).before a0 Z = true := mw hw 34 rfl
theorem w35 (hw : HW a0 Z) : (Jvm.Cond.instanceMethod ({ cls := "java/util/ArrayList", name := "size", desc := "()I" } : Jvm.MethodName)).before a0 Z = true := mw hw 35 rfl
theorem w36 (hw : HW a0 Z) : (Jvm.Cond.publicMethod ({ cls := "java/util/ArrayList", name := "size", desc := "()I" } : Jvm.MethodName)).before a0 Z = true := mw hw 36 rfl
theorem w37 (hw : HW a0 Z) : (Jvm.Cond.unhidden "java/util/ArrayList" "size" "()I").before a0 Z = true := mw hw 37 rfl
theorem w38 (hw : HW a0 Z) : (Jvm.Cond.castable "java/util/ArrayList" "java/util/List").before a0 Z = true := mw hw 38 rfl
theorem w39 (hw : HW a0 Z) : (Jvm.Cond.code ({ cls := "java/util/ArrayList", name := "size", desc := "()I" } : Jvm.MethodName) jdk_38_method_8_code (1 : Nat) (Option.some Jvm.ClassFile.FieldType.int)).before a0 Z = true := mw hw 39 rfl
theorem w40 (hw : HW a0 Z) : (Jvm.Cond.fieldLink "java/util/ArrayList" (48 : Nat) "java/util/ArrayList" "size" "I").before a0 Z = true := mw hw 40 rfl
theorem w41 (hw : HW a0 Z) : (Jvm.Cond.lays "java/util/ArrayList" "java/util/ArrayList" "size" "I").before a0 Z = true := mw hw 41 rfl
theorem w42 (hw : HW a0 Z) : (Jvm.Cond.classLink "com/example/vestline/vestline/finalaveragepay/BestPeriods" (13 : Nat) "java/math/BigDecimal").before a0 Z = true := mw hw 42 rfl
theorem w43 (hw : HW a0 Z) : (Jvm.Cond.arrayOver (Jvm.ClassFile.FieldType.object "java/math/BigDecimal")).before a0 Z = true := mw hw 43 rfl
theorem w44 (hw : HW a0 Z) : (Jvm.Cond.fieldLink "com/example/vestline/vestline/finalaveragepay/BestPeriods" (15 : Nat) "java/math/BigDecimal" "ZERO" "Ljava/math/BigDecimal;").before a0 Z = true := mw hw 44 rfl
theorem w45 (hw : HW a0 Z) : (Jvm.Cond.initialized "java/math/BigDecimal").before a0 Z = true := mw hw 45 rfl
theorem w47 (hw : HW a0 Z) : (Jvm.Cond.methodLink "com/example/vestline/vestline/finalaveragepay/BestPeriods" (27 : Nat) ({ cls := "java/util/Arrays", name := "fill", desc := "([Ljava/lang/Object;Ljava/lang/Object;)V" } : Jvm.MethodName)).before a0 Z = true := mw hw 47 rfl
theorem w48 (hw : HW a0 Z) : (Jvm.Cond.static ({ cls := "java/util/Arrays", name := "fill", desc := "([Ljava/lang/Object;Ljava/lang/Object;)V" } : Jvm.MethodName)).before a0 Z = true := mw hw 48 rfl
theorem w49 (hw : HW a0 Z) : (Jvm.Cond.initialized "java/util/Arrays").before a0 Z = true := mw hw 49 rfl
theorem w50 (hw : HW a0 Z) : (Jvm.Cond.code ({ cls := "java/util/Arrays", name := "fill", desc := "([Ljava/lang/Object;Ljava/lang/Object;)V" } : Jvm.MethodName) jdk_65_method_117_code (4 : Nat) (Option.none : Option Jvm.ClassFile.FieldType)).before a0 Z = true := mw hw 50 rfl
theorem w51 (hw : HW a0 Z) : (Jvm.Cond.methodLink "com/example/vestline/vestline/finalaveragepay/BestPeriodsTotalPinLaw" (26 : Nat) ({ cls := "com/example/vestline/vestline/finalaveragepay/BestPeriodsTotalPinLaw", name := "reference", desc := "([JIII)J" } : Jvm.MethodName)).before a0 Z = true := mw hw 51 rfl
theorem w52 (hw : HW a0 Z) : (Jvm.Cond.static ({ cls := "com/example/vestline/vestline/finalaveragepay/BestPeriodsTotalPinLaw", name := "reference", desc := "([JIII)J" } : Jvm.MethodName)).before a0 Z = true := mw hw 52 rfl
theorem w53 (hw : HW a0 Z) : (Jvm.Cond.initialized "com/example/vestline/vestline/finalaveragepay/BestPeriodsTotalPinLaw").before a0 Z = true := mw hw 53 rfl
theorem w54 (hw : HW a0 Z) : (Jvm.Cond.code ({ cls := "com/example/vestline/vestline/finalaveragepay/BestPeriodsTotalPinLaw", name := "reference", desc := "([JIII)J" } : Jvm.MethodName) method_6_code (6 : Nat) (Option.some Jvm.ClassFile.FieldType.long)).before a0 Z = true := mw hw 54 rfl
theorem w55 (hw : HW a0 Z) : (Jvm.Cond.methodLink "com/example/vestline/vestline/finalaveragepay/BestPeriodsTotalPinLaw" (10 : Nat) ({ cls := "java/math/BigDecimal", name := "valueOf", desc := "(J)Ljava/math/BigDecimal;" } : Jvm.MethodName)).before a0 Z = true := mw hw 55 rfl
theorem w56 (hw : HW a0 Z) : (Jvm.Cond.static ({ cls := "java/math/BigDecimal", name := "valueOf", desc := "(J)Ljava/math/BigDecimal;" } : Jvm.MethodName)).before a0 Z = true := mw hw 56 rfl
theorem w57 (hw : HW a0 Z) : (Jvm.Cond.code ({ cls := "java/math/BigDecimal", name := "valueOf", desc := "(J)Ljava/math/BigDecimal;" } : Jvm.MethodName) jdk_17_method_21_code (2 : Nat) (Option.some (Jvm.ClassFile.FieldType.object "java/math/BigDecimal"))).before a0 Z = true := mw hw 57 rfl
theorem w58 (hw : HW a0 Z) : (Jvm.Cond.fieldLink "java/math/BigDecimal" (246 : Nat) "java/math/BigDecimal" "ZERO_THROUGH_TEN" "[Ljava/math/BigDecimal;").before a0 Z = true := mw hw 58 rfl
theorem w59 (hw : HW a0 Z) : (Jvm.Cond.methodLink "com/example/vestline/vestline/finalaveragepay/BestPeriodsTotalPinLaw" (32 : Nat) ({ cls := "java/math/BigDecimal", name := "compareTo", desc := "(Ljava/math/BigDecimal;)I" } : Jvm.MethodName)).before a0 Z = true := mw hw 59 rfl
theorem w60 (hw : HW a0 Z) : (Jvm.Cond.declares ({ cls := "java/math/BigDecimal", name := "compareTo", desc := "(Ljava/math/BigDecimal;)I" } : Jvm.MethodName)).before a0 Z = true := mw hw 60 rfl
theorem w61 (hw : HW a0 Z) : (Jvm.Cond.instanceMethod ({ cls := "java/math/BigDecimal", name := "compareTo", desc := "(Ljava/math/BigDecimal;)I" } : Jvm.MethodName)).before a0 Z = true := mw hw 61 rfl
theorem w62 (hw : HW a0 Z) : (Jvm.Cond.selects "java/math/BigDecimal" ({ cls := "java/math/BigDecimal", name := "compareTo", desc := "(Ljava/math/BigDecimal;)I" } : Jvm.MethodName) ({ cls := "java/math/BigDecimal", name := "compareTo", desc := "(Ljava/math/BigDecimal;)I" } : Jvm.MethodName)).before a0 Z = true := mw hw 62 rfl
theorem w63 (hw : HW a0 Z) : (Jvm.Cond.code ({ cls := "java/math/BigDecimal", name := "compareTo", desc := "(Ljava/math/BigDecimal;)I" } : Jvm.MethodName) jdk_17_method_70_code (6 : Nat) (Option.some Jvm.ClassFile.FieldType.int)).before a0 Z = true := mw hw 63 rfl
theorem w64 (hw : HW a0 Z) : (Jvm.Cond.fieldLink "java/math/BigDecimal" (17 : Nat) "java/math/BigDecimal" "scale" "I").before a0 Z = true := mw hw 64 rfl
theorem w65 (hw : HW a0 Z) : (Jvm.Cond.laysFinal "java/math/BigDecimal" "java/math/BigDecimal" "scale" "I").before a0 Z = true := mw hw 65 rfl
theorem w66 (hw : HW a0 Z) : (Jvm.Cond.fieldLink "java/math/BigDecimal" (24 : Nat) "java/math/BigDecimal" "intCompact" "J").before a0 Z = true := mw hw 66 rfl
theorem w67 (hw : HW a0 Z) : (Jvm.Cond.laysFinal "java/math/BigDecimal" "java/math/BigDecimal" "intCompact" "J").before a0 Z = true := mw hw 67 rfl
theorem w68 (hw : HW a0 Z) : (Jvm.Cond.constantLong "java/math/BigDecimal" (125 : Nat) (-9223372036854775808 : Int64)).before a0 Z = true := mw hw 68 rfl
theorem w69 (hw : HW a0 Z) : (Jvm.Cond.methodLink "com/example/vestline/vestline/finalaveragepay/BestPeriodsTotalPinLaw" (16 : Nat) ({ cls := "java/util/ArrayList", name := "add", desc := "(Ljava/lang/Object;)Z" } : Jvm.MethodName)).before a0 Z = true := mw hw 69 rfl
theorem w70 (hw : HW a0 Z) : (Jvm.Cond.declares ({ cls := "java/util/ArrayList", name := "add", desc := "(Ljava/lang/Object;)Z" } : Jvm.MethodName)).before a0 Z = true := mw hw 70 rfl
theorem w71 (hw : HW a0 Z) : (Jvm.Cond.instanceMethod ({ cls := "java/util/ArrayList", name := "add", desc := "(Ljava/lang/Object;)Z" } : Jvm.MethodName)).before a0 Z = true := mw hw 71 rfl
theorem w72 (hw : HW a0 Z) : (Jvm.Cond.selects "java/util/ArrayList" ({ cls := "java/util/ArrayList", name := "add", desc := "(Ljava/lang/Object;)Z" } : Jvm.MethodName) ({ cls := "java/util/ArrayList", name := "add", desc := "(Ljava/lang/Object;)Z" } : Jvm.MethodName)).before a0 Z = true := mw hw 72 rfl
theorem w73 (hw : HW a0 Z) : (Jvm.Cond.code ({ cls := "java/util/ArrayList", name := "add", desc := "(Ljava/lang/Object;)Z" } : Jvm.MethodName) jdk_38_method_25_code (2 : Nat) (Option.some Jvm.ClassFile.FieldType.boolean)).before a0 Z = true := mw hw 73 rfl
theorem w74 (hw : HW a0 Z) : (Jvm.Cond.fieldLink "java/util/ArrayList" (63 : Nat) "java/util/ArrayList" "modCount" "I").before a0 Z = true := mw hw 74 rfl
theorem w75 (hw : HW a0 Z) : (Jvm.Cond.sameField "java/util/ArrayList" "java/util/AbstractList" "modCount" "I").before a0 Z = true := mw hw 75 rfl
theorem w76 (hw : HW a0 Z) : (Jvm.Cond.methodLink "java/util/ArrayList" (131 : Nat) ({ cls := "java/util/ArrayList", name := "add", desc := "(Ljava/lang/Object;[Ljava/lang/Object;I)V" } : Jvm.MethodName)).before a0 Z = true := mw hw 76 rfl
theorem w77 (hw : HW a0 Z) : (Jvm.Cond.instanceMethod ({ cls := "java/util/ArrayList", name := "add", desc := "(Ljava/lang/Object;[Ljava/lang/Object;I)V" } : Jvm.MethodName)).before a0 Z = true := mw hw 77 rfl
theorem w78 (hw : HW a0 Z) : (Jvm.Cond.privateMethod ({ cls := "java/util/ArrayList", name := "add", desc := "(Ljava/lang/Object;[Ljava/lang/Object;I)V" } : Jvm.MethodName)).before a0 Z = true := mw hw 78 rfl
theorem w79 (hw : HW a0 Z) : (Jvm.Cond.selects "java/util/ArrayList" ({ cls := "java/util/ArrayList", name := "add", desc := "(Ljava/lang/Object;[Ljava/lang/Object;I)V" } : Jvm.MethodName) ({ cls := "java/util/ArrayList", name := "add", desc := "(Ljava/lang/Object;[Ljava/lang/Object;I)V" } : Jvm.MethodName)).before a0 Z = true := mw hw 79 rfl
theorem w80 (hw : HW a0 Z) : (Jvm.Cond.code ({ cls := "java/util/ArrayList", name := "add", desc := "(Ljava/lang/Object;[Ljava/lang/Object;I)V" } : Jvm.MethodName) jdk_38_method_24_code (4 : Nat) (Option.none : Option Jvm.ClassFile.FieldType)).before a0 Z = true := mw hw 80 rfl
theorem w81 (hw : HW a0 Z) : (Jvm.Cond.methodLink "java/util/ArrayList" (129 : Nat) ({ cls := "java/util/ArrayList", name := "grow", desc := "()[Ljava/lang/Object;" } : Jvm.MethodName)).before a0 Z = true := mw hw 81 rfl
theorem w82 (hw : HW a0 Z) : (Jvm.Cond.instanceMethod ({ cls := "java/util/ArrayList", name := "grow", desc := "()[Ljava/lang/Object;" } : Jvm.MethodName)).before a0 Z = true := mw hw 82 rfl
theorem w83 (hw : HW a0 Z) : (Jvm.Cond.privateMethod ({ cls := "java/util/ArrayList", name := "grow", desc := "()[Ljava/lang/Object;" } : Jvm.MethodName)).before a0 Z = true := mw hw 83 rfl
theorem w84 (hw : HW a0 Z) : (Jvm.Cond.selects "java/util/ArrayList" ({ cls := "java/util/ArrayList", name := "grow", desc := "()[Ljava/lang/Object;" } : Jvm.MethodName) ({ cls := "java/util/ArrayList", name := "grow", desc := "()[Ljava/lang/Object;" } : Jvm.MethodName)).before a0 Z = true := mw hw 84 rfl
theorem w85 (hw : HW a0 Z) : (Jvm.Cond.code ({ cls := "java/util/ArrayList", name := "grow", desc := "()[Ljava/lang/Object;" } : Jvm.MethodName) jdk_38_method_7_code (1 : Nat) (Option.some (Jvm.ClassFile.FieldType.array (Jvm.ClassFile.FieldType.object "java/lang/Object")))).before a0 Z = true := mw hw 85 rfl
theorem w86 (hw : HW a0 Z) : (Jvm.Cond.methodLink "java/util/ArrayList" (69 : Nat) ({ cls := "java/util/ArrayList", name := "grow", desc := "(I)[Ljava/lang/Object;" } : Jvm.MethodName)).before a0 Z = true := mw hw 86 rfl
theorem w87 (hw : HW a0 Z) : (Jvm.Cond.instanceMethod ({ cls := "java/util/ArrayList", name := "grow", desc := "(I)[Ljava/lang/Object;" } : Jvm.MethodName)).before a0 Z = true := mw hw 87 rfl
theorem w88 (hw : HW a0 Z) : (Jvm.Cond.privateMethod ({ cls := "java/util/ArrayList", name := "grow", desc := "(I)[Ljava/lang/Object;" } : Jvm.MethodName)).before a0 Z = true := mw hw 88 rfl
theorem w89 (hw : HW a0 Z) : (Jvm.Cond.selects "java/util/ArrayList" ({ cls := "java/util/ArrayList", name := "grow", desc := "(I)[Ljava/lang/Object;" } : Jvm.MethodName) ({ cls := "java/util/ArrayList", name := "grow", desc := "(I)[Ljava/lang/Object;" } : Jvm.MethodName)).before a0 Z = true := mw hw 89 rfl
theorem w90 (hw : HW a0 Z) : (Jvm.Cond.code ({ cls := "java/util/ArrayList", name := "grow", desc := "(I)[Ljava/lang/Object;" } : Jvm.MethodName) jdk_38_method_6_code (4 : Nat) (Option.some (Jvm.ClassFile.FieldType.array (Jvm.ClassFile.FieldType.object "java/lang/Object")))).before a0 Z = true := mw hw 90 rfl
theorem w91 (hw : HW a0 Z) : (Jvm.Cond.methodLink "java/util/ArrayList" (79 : Nat) ({ cls := "java/lang/Math", name := "max", desc := "(II)I" } : Jvm.MethodName)).before a0 Z = true := mw hw 91 rfl
theorem w92 (hw : HW a0 Z) : (Jvm.Cond.static ({ cls := "java/lang/Math", name := "max", desc := "(II)I" } : Jvm.MethodName)).before a0 Z = true := mw hw 92 rfl
theorem w93 (hw : HW a0 Z) : (Jvm.Cond.initialized "java/lang/Math").before a0 Z = true := mw hw 93 rfl
theorem w94 (hw : HW a0 Z) : (Jvm.Cond.code ({ cls := "java/lang/Math", name := "max", desc := "(II)I" } : Jvm.MethodName) jdk_29_method_65_code (2 : Nat) (Option.some Jvm.ClassFile.FieldType.int)).before a0 Z = true := mw hw 94 rfl
theorem w95 (hw : HW a0 Z) : (Jvm.Cond.classLink "java/util/ArrayList" (7 : Nat) "java/lang/Object").before a0 Z = true := mw hw 95 rfl
theorem w96 (hw : HW a0 Z) : (Jvm.Cond.arrayOver (Jvm.ClassFile.FieldType.object "java/lang/Object")).before a0 Z = true := mw hw 96 rfl
theorem w97 (hw : HW a0 Z) : (Jvm.Cond.castable "java/math/BigDecimal" "java/lang/Object").before a0 Z = true := mw hw 97 rfl
theorem w98 (hw : HW a0 Z) : (Jvm.Cond.methodLink "com/example/vestline/vestline/finalaveragepay/BestPeriods" (19 : Nat) ({ cls := "java/util/List", name := "get", desc := "(I)Ljava/lang/Object;" } : Jvm.MethodName)).before a0 Z = true := mw hw 98 rfl
theorem w99 (hw : HW a0 Z) : (Jvm.Cond.declares ({ cls := "java/util/List", name := "get", desc := "(I)Ljava/lang/Object;" } : Jvm.MethodName)).before a0 Z = true := mw hw 99 rfl
theorem w100 (hw : HW a0 Z) : (Jvm.Cond.interfaceMethod "java/util/List" "java/util/List" "get" "(I)Ljava/lang/Object;").before a0 Z = true := mw hw 100 rfl
theorem w101 (hw : HW a0 Z) : (Jvm.Cond.selects "java/util/ArrayList" ({ cls := "java/util/List", name := "get", desc := "(I)Ljava/lang/Object;" } : Jvm.MethodName) ({ cls := "java/util/ArrayList", name := "get", desc := "(I)Ljava/lang/Object;" } : Jvm.MethodName)).before a0 Z = true := mw hw 101 rfl
theorem w102 (hw : HW a0 Z) : (Jvm.Cond.instanceMethod ({ cls := "java/util/ArrayList", name := "get", desc := "(I)Ljava/lang/Object;" } : Jvm.MethodName)).before a0 Z = true := mw hw 102 rfl
theorem w103 (hw : HW a0 Z) : (Jvm.Cond.publicMethod ({ cls := "java/util/ArrayList", name := "get", desc := "(I)Ljava/lang/Object;" } : Jvm.MethodName)).before a0 Z = true := mw hw 103 rfl
theorem w104 (hw : HW a0 Z) : (Jvm.Cond.unhidden "java/util/ArrayList" "get" "(I)Ljava/lang/Object;").before a0 Z = true := mw hw 104 rfl
theorem w105 (hw : HW a0 Z) : (Jvm.Cond.code ({ cls := "java/util/ArrayList", name := "get", desc := "(I)Ljava/lang/Object;" } : Jvm.MethodName) jdk_38_method_20_code (2 : Nat) (Option.some (Jvm.ClassFile.FieldType.object "java/lang/Object"))).before a0 Z = true := mw hw 105 rfl
theorem w106 (hw : HW a0 Z) : (Jvm.Cond.methodLink "java/util/ArrayList" (118 : Nat) ({ cls := "java/util/Objects", name := "checkIndex", desc := "(II)I" } : Jvm.MethodName)).before a0 Z = true := mw hw 106 rfl
theorem w107 (hw : HW a0 Z) : (Jvm.Cond.static ({ cls := "java/util/Objects", name := "checkIndex", desc := "(II)I" } : Jvm.MethodName)).before a0 Z = true := mw hw 107 rfl
theorem w108 (hw : HW a0 Z) : (Jvm.Cond.initialized "java/util/Objects").before a0 Z = true := mw hw 108 rfl
theorem w109 (hw : HW a0 Z) : (Jvm.Cond.code ({ cls := "java/util/Objects", name := "checkIndex", desc := "(II)I" } : Jvm.MethodName) jdk_31_method_17_code (2 : Nat) (Option.some Jvm.ClassFile.FieldType.int)).before a0 Z = true := mw hw 109 rfl
theorem w110 (hw : HW a0 Z) : (Jvm.Cond.methodLink "java/util/Objects" (105 : Nat) ({ cls := "jdk/internal/util/Preconditions", name := "checkIndex", desc := "(IILjava/util/function/BiFunction;)I" } : Jvm.MethodName)).before a0 Z = true := mw hw 110 rfl
theorem w111 (hw : HW a0 Z) : (Jvm.Cond.static ({ cls := "jdk/internal/util/Preconditions", name := "checkIndex", desc := "(IILjava/util/function/BiFunction;)I" } : Jvm.MethodName)).before a0 Z = true := mw hw 111 rfl
theorem w112 (hw : HW a0 Z) : (Jvm.Cond.initialized "jdk/internal/util/Preconditions").before a0 Z = true := mw hw 112 rfl
theorem w113 (hw : HW a0 Z) : (Jvm.Cond.code ({ cls := "jdk/internal/util/Preconditions", name := "checkIndex", desc := "(IILjava/util/function/BiFunction;)I" } : Jvm.MethodName) jdk_41_method_11_code (3 : Nat) (Option.some Jvm.ClassFile.FieldType.int)).before a0 Z = true := mw hw 113 rfl
theorem w114 (hw : HW a0 Z) : (Jvm.Cond.methodLink "java/util/ArrayList" (123 : Nat) ({ cls := "java/util/ArrayList", name := "elementData", desc := "(I)Ljava/lang/Object;" } : Jvm.MethodName)).before a0 Z = true := mw hw 114 rfl
theorem w115 (hw : HW a0 Z) : (Jvm.Cond.declares ({ cls := "java/util/ArrayList", name := "elementData", desc := "(I)Ljava/lang/Object;" } : Jvm.MethodName)).before a0 Z = true := mw hw 115 rfl
theorem w116 (hw : HW a0 Z) : (Jvm.Cond.instanceMethod ({ cls := "java/util/ArrayList", name := "elementData", desc := "(I)Ljava/lang/Object;" } : Jvm.MethodName)).before a0 Z = true := mw hw 116 rfl
theorem w117 (hw : HW a0 Z) : (Jvm.Cond.selects "java/util/ArrayList" ({ cls := "java/util/ArrayList", name := "elementData", desc := "(I)Ljava/lang/Object;" } : Jvm.MethodName) ({ cls := "java/util/ArrayList", name := "elementData", desc := "(I)Ljava/lang/Object;" } : Jvm.MethodName)).before a0 Z = true := mw hw 117 rfl
theorem w118 (hw : HW a0 Z) : (Jvm.Cond.code ({ cls := "java/util/ArrayList", name := "elementData", desc := "(I)Ljava/lang/Object;" } : Jvm.MethodName) jdk_38_method_18_code (2 : Nat) (Option.some (Jvm.ClassFile.FieldType.object "java/lang/Object"))).before a0 Z = true := mw hw 118 rfl
theorem w119 (hw : HW a0 Z) : (Jvm.Cond.methodLink "com/example/vestline/vestline/finalaveragepay/BestPeriods" (23 : Nat) ({ cls := "java/math/BigDecimal", name := "add", desc := "(Ljava/math/BigDecimal;)Ljava/math/BigDecimal;" } : Jvm.MethodName)).before a0 Z = true := mw hw 119 rfl
theorem w120 (hw : HW a0 Z) : (Jvm.Cond.declares ({ cls := "java/math/BigDecimal", name := "add", desc := "(Ljava/math/BigDecimal;)Ljava/math/BigDecimal;" } : Jvm.MethodName)).before a0 Z = true := mw hw 120 rfl
theorem w121 (hw : HW a0 Z) : (Jvm.Cond.instanceMethod ({ cls := "java/math/BigDecimal", name := "add", desc := "(Ljava/math/BigDecimal;)Ljava/math/BigDecimal;" } : Jvm.MethodName)).before a0 Z = true := mw hw 121 rfl
theorem w122 (hw : HW a0 Z) : (Jvm.Cond.selects "java/math/BigDecimal" ({ cls := "java/math/BigDecimal", name := "add", desc := "(Ljava/math/BigDecimal;)Ljava/math/BigDecimal;" } : Jvm.MethodName) ({ cls := "java/math/BigDecimal", name := "add", desc := "(Ljava/math/BigDecimal;)Ljava/math/BigDecimal;" } : Jvm.MethodName)).before a0 Z = true := mw hw 122 rfl
theorem w123 (hw : HW a0 Z) : (Jvm.Cond.code ({ cls := "java/math/BigDecimal", name := "add", desc := "(Ljava/math/BigDecimal;)Ljava/math/BigDecimal;" } : Jvm.MethodName) jdk_17_method_26_code (2 : Nat) (Option.some (Jvm.ClassFile.FieldType.object "java/math/BigDecimal"))).before a0 Z = true := mw hw 123 rfl
theorem w124 (hw : HW a0 Z) : (Jvm.Cond.methodLink "java/math/BigDecimal" (257 : Nat) ({ cls := "java/math/BigDecimal", name := "add", desc := "(JIJI)Ljava/math/BigDecimal;" } : Jvm.MethodName)).before a0 Z = true := mw hw 124 rfl
theorem w125 (hw : HW a0 Z) : (Jvm.Cond.static ({ cls := "java/math/BigDecimal", name := "add", desc := "(JIJI)Ljava/math/BigDecimal;" } : Jvm.MethodName)).before a0 Z = true := mw hw 125 rfl
theorem w126 (hw : HW a0 Z) : (Jvm.Cond.code ({ cls := "java/math/BigDecimal", name := "add", desc := "(JIJI)Ljava/math/BigDecimal;" } : Jvm.MethodName) jdk_17_method_134_code (12 : Nat) (Option.some (Jvm.ClassFile.FieldType.object "java/math/BigDecimal"))).before a0 Z = true := mw hw 126 rfl
theorem w127 (hw : HW a0 Z) : (Jvm.Cond.methodLink "java/math/BigDecimal" (1000 : Nat) ({ cls := "java/math/BigDecimal", name := "add", desc := "(JJI)Ljava/math/BigDecimal;" } : Jvm.MethodName)).before a0 Z = true := mw hw 127 rfl
theorem w128 (hw : HW a0 Z) : (Jvm.Cond.static ({ cls := "java/math/BigDecimal", name := "add", desc := "(JJI)Ljava/math/BigDecimal;" } : Jvm.MethodName)).before a0 Z = true := mw hw 128 rfl
theorem w129 (hw : HW a0 Z) : (Jvm.Cond.code ({ cls := "java/math/BigDecimal", name := "add", desc := "(JJI)Ljava/math/BigDecimal;" } : Jvm.MethodName) jdk_17_method_133_code (7 : Nat) (Option.some (Jvm.ClassFile.FieldType.object "java/math/BigDecimal"))).before a0 Z = true := mw hw 129 rfl
theorem w130 (hw : HW a0 Z) : (Jvm.Cond.methodLink "java/math/BigDecimal" (996 : Nat) ({ cls := "java/math/BigDecimal", name := "add", desc := "(JJ)J" } : Jvm.MethodName)).before a0 Z = true := mw hw 130 rfl
theorem w131 (hw : HW a0 Z) : (Jvm.Cond.static ({ cls := "java/math/BigDecimal", name := "add", desc := "(JJ)J" } : Jvm.MethodName)).before a0 Z = true := mw hw 131 rfl
theorem w132 (hw : HW a0 Z) : (Jvm.Cond.code ({ cls := "java/math/BigDecimal", name := "add", desc := "(JJ)J" } : Jvm.MethodName) jdk_17_method_132_code (6 : Nat) (Option.some Jvm.ClassFile.FieldType.long)).before a0 Z = true := mw hw 132 rfl
theorem w133 (hw : HW a0 Z) : (Jvm.Cond.methodLink "java/math/BigDecimal" (328 : Nat) ({ cls := "java/math/BigDecimal", name := "valueOf", desc := "(JI)Ljava/math/BigDecimal;" } : Jvm.MethodName)).before a0 Z = true := mw hw 133 rfl
theorem w134 (hw : HW a0 Z) : (Jvm.Cond.static ({ cls := "java/math/BigDecimal", name := "valueOf", desc := "(JI)Ljava/math/BigDecimal;" } : Jvm.MethodName)).before a0 Z = true := mw hw 134 rfl
theorem w135 (hw : HW a0 Z) : (Jvm.Cond.code ({ cls := "java/math/BigDecimal", name := "valueOf", desc := "(JI)Ljava/math/BigDecimal;" } : Jvm.MethodName) jdk_17_method_20_code (3 : Nat) (Option.some (Jvm.ClassFile.FieldType.object "java/math/BigDecimal"))).before a0 Z = true := mw hw 135 rfl
theorem w136 (hw : HW a0 Z) : (Jvm.Cond.methodLink "java/math/BigDecimal" (236 : Nat) ({ cls := "java/math/BigDecimal", name := "valueOf", desc := "(J)Ljava/math/BigDecimal;" } : Jvm.MethodName)).before a0 Z = true := mw hw 136 rfl
theorem w137 (hw : HW a0 Z) : (Jvm.Cond.classLink "java/math/BigDecimal" (3 : Nat) "java/math/BigDecimal").before a0 Z = true := mw hw 137 rfl
theorem w138 (hw : HW a0 Z) : (Jvm.Cond.instantiable "java/math/BigDecimal" (5 : Nat)).before a0 Z = true := mw hw 138 rfl
theorem w139 (hw : HW a0 Z) : (Jvm.Cond.methodLink "java/math/BigDecimal" (243 : Nat) ({ cls := "java/math/BigDecimal", name := "<init>", desc := "(Ljava/math/BigInteger;JII)V" } : Jvm.MethodName)).before a0 Z = true := mw hw 139 rfl
theorem w140 (hw : HW a0 Z) : (Jvm.Cond.instanceMethod ({ cls := "java/math/BigDecimal", name := "<init>", desc := "(Ljava/math/BigInteger;JII)V" } : Jvm.MethodName)).before a0 Z = true := mw hw 140 rfl
theorem w141 (hw : HW a0 Z) : (Jvm.Cond.code ({ cls := "java/math/BigDecimal", name := "<init>", desc := "(Ljava/math/BigInteger;JII)V" } : Jvm.MethodName) jdk_17_method_1_code (6 : Nat) (Option.none : Option Jvm.ClassFile.FieldType)).before a0 Z = true := mw hw 141 rfl
theorem w142 (hw : HW a0 Z) : (Jvm.Cond.methodLink "java/math/BigDecimal" (11 : Nat) ({ cls := "java/lang/Number", name := "<init>", desc := "()V" } : Jvm.MethodName)).before a0 Z = true := mw hw 142 rfl
theorem w143 (hw : HW a0 Z) : (Jvm.Cond.instanceMethod ({ cls := "java/lang/Number", name := "<init>", desc := "()V" } : Jvm.MethodName)).before a0 Z = true := mw hw 143 rfl
theorem w146 (hw : HW a0 Z) : (Jvm.Cond.initialized "java/lang/Number").before a0 Z = true := mw hw 146 rfl
theorem w147 (hw : HW a0 Z) : (Jvm.Cond.code ({ cls := "java/lang/Number", name := "<init>", desc := "()V" } : Jvm.MethodName) jdk_18_method_1_code (1 : Nat) (Option.none : Option Jvm.ClassFile.FieldType)).before a0 Z = true := mw hw 147 rfl
theorem w148 (hw : HW a0 Z) : (Jvm.Cond.methodLink "java/lang/Number" (1 : Nat) ({ cls := "java/lang/Object", name := "<init>", desc := "()V" } : Jvm.MethodName)).before a0 Z = true := mw hw 148 rfl
theorem w149 (hw : HW a0 Z) : (Jvm.Cond.fieldLink "java/math/BigDecimal" (21 : Nat) "java/math/BigDecimal" "precision" "I").before a0 Z = true := mw hw 149 rfl
theorem w150 (hw : HW a0 Z) : (Jvm.Cond.lays "java/math/BigDecimal" "java/math/BigDecimal" "precision" "I").before a0 Z = true := mw hw 150 rfl
theorem w151 (hw : HW a0 Z) : (Jvm.Cond.fieldLink "java/math/BigDecimal" (28 : Nat) "java/math/BigDecimal" "intVal" "Ljava/math/BigInteger;").before a0 Z = true := mw hw 151 rfl
theorem w152 (hw : HW a0 Z) : (Jvm.Cond.laysFinal "java/math/BigDecimal" "java/math/BigDecimal" "intVal" "Ljava/math/BigInteger;").before a0 Z = true := mw hw 152 rfl
theorem w153 (hw : HW a0 Z) : (Jvm.Cond.methodLink "com/example/vestline/vestline/finalaveragepay/BestPeriods" (33 : Nat) ({ cls := "java/math/BigDecimal", name := "subtract", desc := "(Ljava/math/BigDecimal;)Ljava/math/BigDecimal;" } : Jvm.MethodName)).before a0 Z = true := mw hw 153 rfl
theorem w154 (hw : HW a0 Z) : (Jvm.Cond.declares ({ cls := "java/math/BigDecimal", name := "subtract", desc := "(Ljava/math/BigDecimal;)Ljava/math/BigDecimal;" } : Jvm.MethodName)).before a0 Z = true := mw hw 154 rfl
theorem w155 (hw : HW a0 Z) : (Jvm.Cond.instanceMethod ({ cls := "java/math/BigDecimal", name := "subtract", desc := "(Ljava/math/BigDecimal;)Ljava/math/BigDecimal;" } : Jvm.MethodName)).before a0 Z = true := mw hw 155 rfl
theorem w156 (hw : HW a0 Z) : (Jvm.Cond.selects "java/math/BigDecimal" ({ cls := "java/math/BigDecimal", name := "subtract", desc := "(Ljava/math/BigDecimal;)Ljava/math/BigDecimal;" } : Jvm.MethodName) ({ cls := "java/math/BigDecimal", name := "subtract", desc := "(Ljava/math/BigDecimal;)Ljava/math/BigDecimal;" } : Jvm.MethodName)).before a0 Z = true := mw hw 156 rfl
theorem w157 (hw : HW a0 Z) : (Jvm.Cond.code ({ cls := "java/math/BigDecimal", name := "subtract", desc := "(Ljava/math/BigDecimal;)Ljava/math/BigDecimal;" } : Jvm.MethodName) jdk_17_method_29_code (2 : Nat) (Option.some (Jvm.ClassFile.FieldType.object "java/math/BigDecimal"))).before a0 Z = true := mw hw 157 rfl
theorem w158 (hw : HW a0 Z) : (Jvm.Cond.methodLink "com/example/vestline/vestline/finalaveragepay/BestPeriods" (36 : Nat) ({ cls := "java/math/BigDecimal", name := "max", desc := "(Ljava/math/BigDecimal;)Ljava/math/BigDecimal;" } : Jvm.MethodName)).before a0 Z = true := mw hw 158 rfl
theorem w159 (hw : HW a0 Z) : (Jvm.Cond.declares ({ cls := "java/math/BigDecimal", name := "max", desc := "(Ljava/math/BigDecimal;)Ljava/math/BigDecimal;" } : Jvm.MethodName)).before a0 Z = true := mw hw 159 rfl
theorem w160 (hw : HW a0 Z) : (Jvm.Cond.instanceMethod ({ cls := "java/math/BigDecimal", name := "max", desc := "(Ljava/math/BigDecimal;)Ljava/math/BigDecimal;" } : Jvm.MethodName)).before a0 Z = true := mw hw 160 rfl
theorem w161 (hw : HW a0 Z) : (Jvm.Cond.selects "java/math/BigDecimal" ({ cls := "java/math/BigDecimal", name := "max", desc := "(Ljava/math/BigDecimal;)Ljava/math/BigDecimal;" } : Jvm.MethodName) ({ cls := "java/math/BigDecimal", name := "max", desc := "(Ljava/math/BigDecimal;)Ljava/math/BigDecimal;" } : Jvm.MethodName)).before a0 Z = true := mw hw 161 rfl
theorem w162 (hw : HW a0 Z) : (Jvm.Cond.code ({ cls := "java/math/BigDecimal", name := "max", desc := "(Ljava/math/BigDecimal;)Ljava/math/BigDecimal;" } : Jvm.MethodName) jdk_17_method_74_code (2 : Nat) (Option.some (Jvm.ClassFile.FieldType.object "java/math/BigDecimal"))).before a0 Z = true := mw hw 162 rfl
theorem w163 (hw : HW a0 Z) : (Jvm.Cond.methodLink "java/math/BigDecimal" (480 : Nat) ({ cls := "java/math/BigDecimal", name := "compareTo", desc := "(Ljava/math/BigDecimal;)I" } : Jvm.MethodName)).before a0 Z = true := mw hw 163 rfl
theorem w164 (hw : HW a0 Z) : (Jvm.Cond.methodLink "com/example/vestline/vestline/finalaveragepay/BestPeriodsTotalPinLaw" (36 : Nat) ({ cls := "com/example/vestline/vestline/finalaveragepay/BestPeriodsTotalPinLaw", name := "w", desc := "([JII)J" } : Jvm.MethodName)).before a0 Z = true := mw hw 164 rfl
theorem w165 (hw : HW a0 Z) : (Jvm.Cond.static ({ cls := "com/example/vestline/vestline/finalaveragepay/BestPeriodsTotalPinLaw", name := "w", desc := "([JII)J" } : Jvm.MethodName)).before a0 Z = true := mw hw 165 rfl
theorem w166 (hw : HW a0 Z) : (Jvm.Cond.code ({ cls := "com/example/vestline/vestline/finalaveragepay/BestPeriodsTotalPinLaw", name := "w", desc := "([JII)J" } : Jvm.MethodName) method_3_code (5 : Nat) (Option.some Jvm.ClassFile.FieldType.long)).before a0 Z = true := mw hw 166 rfl
theorem w167 (hw : HW a0 Z) : (Jvm.Cond.methodLink "com/example/vestline/vestline/finalaveragepay/BestPeriodsTotalPinLaw" (46 : Nat) ({ cls := "com/example/vestline/vestline/finalaveragepay/BestPeriodsTotalPinLaw", name := "one", desc := "([JIIIJ)J" } : Jvm.MethodName)).before a0 Z = true := mw hw 167 rfl
theorem w168 (hw : HW a0 Z) : (Jvm.Cond.static ({ cls := "com/example/vestline/vestline/finalaveragepay/BestPeriodsTotalPinLaw", name := "one", desc := "([JIIIJ)J" } : Jvm.MethodName)).before a0 Z = true := mw hw 168 rfl
theorem w169 (hw : HW a0 Z) : (Jvm.Cond.code ({ cls := "com/example/vestline/vestline/finalaveragepay/BestPeriodsTotalPinLaw", name := "one", desc := "([JIIIJ)J" } : Jvm.MethodName) method_4_code (6 : Nat) (Option.some Jvm.ClassFile.FieldType.long)).before a0 Z = true := mw hw 169 rfl
theorem w170 (hw : HW a0 Z) : (Jvm.Cond.methodLink "com/example/vestline/vestline/finalaveragepay/BestPeriodsTotalPinLaw" (40 : Nat) ({ cls := "java/lang/Math", name := "max", desc := "(JJ)J" } : Jvm.MethodName)).before a0 Z = true := mw hw 170 rfl
theorem w171 (hw : HW a0 Z) : (Jvm.Cond.static ({ cls := "java/lang/Math", name := "max", desc := "(JJ)J" } : Jvm.MethodName)).before a0 Z = true := mw hw 171 rfl
theorem w172 (hw : HW a0 Z) : (Jvm.Cond.code ({ cls := "java/lang/Math", name := "max", desc := "(JJ)J" } : Jvm.MethodName) jdk_29_method_66_code (4 : Nat) (Option.some Jvm.ClassFile.FieldType.long)).before a0 Z = true := mw hw 172 rfl
theorem w173 (hw : HW a0 Z) : (Jvm.Cond.methodLink "com/example/vestline/vestline/finalaveragepay/BestPeriodsTotalPinLaw" (50 : Nat) ({ cls := "com/example/vestline/vestline/finalaveragepay/BestPeriodsTotalPinLaw", name := "two", desc := "([JIIIIJ)J" } : Jvm.MethodName)).before a0 Z = true := mw hw 173 rfl
theorem w174 (hw : HW a0 Z) : (Jvm.Cond.static ({ cls := "com/example/vestline/vestline/finalaveragepay/BestPeriodsTotalPinLaw", name := "two", desc := "([JIIIIJ)J" } : Jvm.MethodName)).before a0 Z = true := mw hw 174 rfl
theorem w175 (hw : HW a0 Z) : (Jvm.Cond.code ({ cls := "com/example/vestline/vestline/finalaveragepay/BestPeriodsTotalPinLaw", name := "two", desc := "([JIIIIJ)J" } : Jvm.MethodName) method_5_code (7 : Nat) (Option.some Jvm.ClassFile.FieldType.long)).before a0 Z = true := mw hw 175 rfl
theorem w176 (hw : HW a0 Z) : (Jvm.Cond.methodLink "com/example/vestline/vestline/finalaveragepay/BestPeriodsTotalPinLaw" (54 : Nat) ({ cls := "java/lang/Math", name := "min", desc := "(JJ)J" } : Jvm.MethodName)).before a0 Z = true := mw hw 176 rfl
theorem w177 (hw : HW a0 Z) : (Jvm.Cond.static ({ cls := "java/lang/Math", name := "min", desc := "(JJ)J" } : Jvm.MethodName)).before a0 Z = true := mw hw 177 rfl
theorem w178 (hw : HW a0 Z) : (Jvm.Cond.code ({ cls := "java/lang/Math", name := "min", desc := "(JJ)J" } : Jvm.MethodName) jdk_29_method_70_code (4 : Nat) (Option.some Jvm.ClassFile.FieldType.long)).before a0 Z = true := mw hw 178 rfl
end
theorem ef_numinit (m : MethodId) (x0 : Addr) : entryFrame m #[(.ref x0)] 1 = mkF m 0 #[.val (.ref x0)] [] := rfl
theorem pn_java_lang_Number : plainName "java/lang/Number" = true := by first | (simp [plainName, overriddenIn]; done) | decide +kernel
abbrev c_0 := jdk_18_method_1_code
theorem d0_0 : decode c_0 0 = .ok (.aload_n 0, 1) := by decide +kernel
theorem d0_1 : decode c_0 1 = .ok (.invokespecial 1, 3) := by decide +kernel
theorem d0_4 : decode c_0 4 = .ok (.return_, 1) := by decide +kernel
abbrev yn0 : MethodName := ⟨"java/lang/Number", "<init>", "()V"⟩
abbrev CT (l : Launch) (y : MethodName) (cs : List Jvm.Cond) (R : Room) (A : Array Value) (Z : State) (h0 : Heap) (Q : Option Value → Heap → List Loc → Prop) : Prop := MetFree l y (head1 cs R) (fun aQ_ UQ => aQ_ = A ∧ Z.Warmed39 UQ.vm ∧ UQ.heap = h0) (fun _ _ _ _ _ => True) (fun _ UQ oQ UQ' => ∃ vQ_ LQ_, oQ = .returned vQ_ ∧ Q vQ_ UQ'.heap LQ_ ∧ FrameEnd UQ oQ UQ' LQ_ R.cells R.slots)
theorem ef_bdinit (m : MethodId) (x0 : Addr) (x2 : Int64) (x3 : Int32) (x4 : Int32) : entryFrame m #[(.ref x0), .null, (.long x2), (.int x4), (.int x4)] 6 = mkF m 0 #[.val (.ref x0), .val .null, .val (.long x2), .second, .val (.int x4), .val (.int x4)] [] := rfl
theorem pn_java_math_BigDecimal : plainName "java/math/BigDecimal" = true := by first | (simp [plainName, overriddenIn]; done) | decide +kernel
abbrev c_1 := jdk_17_method_1_code
theorem d1_0 : decode c_1 0 = .ok (.aload_n 0, 1) := by decide +kernel
theorem d1_1 : decode c_1 1 = .ok (.invokespecial 11, 3) := by decide +kernel
theorem pd0 : parseMethodDescriptor "()V" = some ⟨[], none⟩ := by decide +kernel
theorem d1_4 : decode c_1 4 = .ok (.aload_n 0, 1) := by decide +kernel
theorem d1_5 : decode c_1 5 = .ok (.iload 4, 2) := by decide +kernel
theorem d1_7 : decode c_1 7 = .ok (.putfield 17, 3) := by decide +kernel
theorem d1_10 : decode c_1 10 = .ok (.aload_n 0, 1) := by decide +kernel
theorem d1_11 : decode c_1 11 = .ok (.iload 5, 2) := by decide +kernel
theorem d1_13 : decode c_1 13 = .ok (.putfield 21, 3) := by decide +kernel
theorem d1_16 : decode c_1 16 = .ok (.aload_n 0, 1) := by decide +kernel
theorem d1_17 : decode c_1 17 = .ok (.lload_n 2, 1) := by decide +kernel
theorem d1_18 : decode c_1 18 = .ok (.putfield 24, 3) := by decide +kernel
theorem d1_21 : decode c_1 21 = .ok (.aload_n 0, 1) := by decide +kernel
theorem d1_22 : decode c_1 22 = .ok (.aload_n 1, 1) := by decide +kernel
theorem d1_23 : decode c_1 23 = .ok (.putfield 28, 3) := by decide +kernel
theorem d1_26 : decode c_1 26 = .ok (.return_, 1) := by decide +kernel
abbrev yn1 : MethodName := ⟨"java/math/BigDecimal", "<init>", "(Ljava/math/BigInteger;JII)V"⟩
theorem ef_valJ (m : MethodId) (x0 : Int64) : entryFrame m #[(.long x0)] 2 = mkF m 0 #[.val (.long x0), .second] [] := rfl
abbrev c_2 := jdk_17_method_21_code
theorem d2_0 : decode c_2 0 = .ok (.lload_n 0, 1) := by decide +kernel
theorem d2_1 : decode c_2 1 = .ok (.lconst 0, 1) := by decide +kernel
theorem d2_2 : decode c_2 2 = .ok (.lcmp, 1) := by decide +kernel
theorem d2_3 : decode c_2 3 = .ok (.ifCond .lt 20, 3) := by decide +kernel
theorem d2_23 : decode c_2 23 = .ok (.lload_n 0, 1) := by decide +kernel
theorem d2_24 : decode c_2 24 = .ok (.ldc2_w 125, 3) := by decide +kernel
theorem d2_27 : decode c_2 27 = .ok (.lcmp, 1) := by decide +kernel
theorem d2_28 : decode c_2 28 = .ok (.ifCond .eq 15, 3) := by decide +kernel
theorem d2_31 : decode c_2 31 = .ok (.new 3, 3) := by decide +kernel
theorem d2_34 : decode c_2 34 = .ok (.dup, 1) := by decide +kernel
theorem d2_35 : decode c_2 35 = .ok (.aconst_null, 1) := by decide +kernel
theorem d2_36 : decode c_2 36 = .ok (.lload_n 0, 1) := by decide +kernel
theorem d2_37 : decode c_2 37 = .ok (.iconst 0, 1) := by decide +kernel
theorem d2_38 : decode c_2 38 = .ok (.iconst 0, 1) := by decide +kernel
theorem d2_39 : decode c_2 39 = .ok (.invokespecial 243, 3) := by decide +kernel
theorem pd1 : parseMethodDescriptor "(Ljava/math/BigInteger;JII)V" = some ⟨[(.object "java/math/BigInteger"), .long, .int, .int], none⟩ := by decide +kernel
theorem d2_42 : decode c_2 42 = .ok (.areturn, 1) := by decide +kernel
theorem d2_6 : decode c_2 6 = .ok (.lload_n 0, 1) := by decide +kernel
theorem d2_7 : decode c_2 7 = .ok (.getstatic 246, 3) := by decide +kernel
theorem d2_10 : decode c_2 10 = .ok (.arraylength, 1) := by decide +kernel
theorem d2_11 : decode c_2 11 = .ok (.i2l, 1) := by decide +kernel
theorem d2_12 : decode c_2 12 = .ok (.lcmp, 1) := by decide +kernel
theorem d2_13 : decode c_2 13 = .ok (.ifCond .ge 10, 3) := by decide +kernel
theorem d2_16 : decode c_2 16 = .ok (.getstatic 246, 3) := by decide +kernel
theorem d2_19 : decode c_2 19 = .ok (.lload_n 0, 1) := by decide +kernel
theorem d2_20 : decode c_2 20 = .ok (.l2i, 1) := by decide +kernel
theorem d2_21 : decode c_2 21 = .ok (.aaload, 1) := by decide +kernel
theorem d2_22 : decode c_2 22 = .ok (.areturn, 1) := by decide +kernel
abbrev yn2 : MethodName := ⟨"java/math/BigDecimal", "valueOf", "(J)Ljava/math/BigDecimal;"⟩
theorem ef_valJI (m : MethodId) (x0 : Int64) (x1 : Int32) : entryFrame m #[(.long x0), (.int x1)] 3 = mkF m 0 #[.val (.long x0), .second, .val (.int x1)] [] := rfl
abbrev c_3 := jdk_17_method_20_code
theorem d3_0 : decode c_3 0 = .ok (.iload_n 2, 1) := by decide +kernel
theorem d3_1 : decode c_3 1 = .ok (.ifCond .ne 8, 3) := by decide +kernel
theorem d3_4 : decode c_3 4 = .ok (.lload_n 0, 1) := by decide +kernel
theorem d3_5 : decode c_3 5 = .ok (.invokestatic 236, 3) := by decide +kernel
theorem pd2 : parseMethodDescriptor "(J)Ljava/math/BigDecimal;" = some ⟨[.long], some (.object "java/math/BigDecimal")⟩ := by decide +kernel
theorem d3_8 : decode c_3 8 = .ok (.areturn, 1) := by decide +kernel
abbrev yn3 : MethodName := ⟨"java/math/BigDecimal", "valueOf", "(JI)Ljava/math/BigDecimal;"⟩
theorem ef_addJJ (m : MethodId) (x0 : Int64) (x1 : Int64) : entryFrame m #[(.long x0), (.long x1)] 6 = mkF m 0 #[.val (.long x0), .second, .val (.long x1), .second, .unset, .unset] [] := rfl
abbrev c_4 := jdk_17_method_132_code
theorem d4_0 : decode c_4 0 = .ok (.lload_n 0, 1) := by decide +kernel
theorem d4_1 : decode c_4 1 = .ok (.lload_n 2, 1) := by decide +kernel
theorem d4_2 : decode c_4 2 = .ok (.ladd, 1) := by decide +kernel
theorem d4_3 : decode c_4 3 = .ok (.lstore 4, 2) := by decide +kernel
theorem d4_5 : decode c_4 5 = .ok (.lload 4, 2) := by decide +kernel
theorem d4_7 : decode c_4 7 = .ok (.lload_n 0, 1) := by decide +kernel
theorem d4_8 : decode c_4 8 = .ok (.lxor, 1) := by decide +kernel
theorem d4_9 : decode c_4 9 = .ok (.lload 4, 2) := by decide +kernel
theorem d4_11 : decode c_4 11 = .ok (.lload_n 2, 1) := by decide +kernel
theorem d4_12 : decode c_4 12 = .ok (.lxor, 1) := by decide +kernel
theorem d4_13 : decode c_4 13 = .ok (.land, 1) := by decide +kernel
theorem d4_14 : decode c_4 14 = .ok (.lconst 0, 1) := by decide +kernel
theorem d4_15 : decode c_4 15 = .ok (.lcmp, 1) := by decide +kernel
theorem d4_16 : decode c_4 16 = .ok (.ifCond .lt 6, 3) := by decide +kernel
theorem d4_19 : decode c_4 19 = .ok (.lload 4, 2) := by decide +kernel
theorem d4_21 : decode c_4 21 = .ok (.lreturn, 1) := by decide +kernel
abbrev yn4 : MethodName := ⟨"java/math/BigDecimal", "add", "(JJ)J"⟩
theorem ef_addJJI (m : MethodId) (x0 : Int64) (x1 : Int64) (x2 : Int32) : entryFrame m #[(.long x0), (.long x1), (.int x2)] 7 = mkF m 0 #[.val (.long x0), .second, .val (.long x1), .second, .val (.int x2), .unset, .unset] [] := rfl
abbrev c_5 := jdk_17_method_133_code
theorem d5_0 : decode c_5 0 = .ok (.lload_n 0, 1) := by decide +kernel
theorem d5_1 : decode c_5 1 = .ok (.lload_n 2, 1) := by decide +kernel
theorem d5_2 : decode c_5 2 = .ok (.invokestatic 996, 3) := by decide +kernel
theorem pd3 : parseMethodDescriptor "(JJ)J" = some ⟨[.long, .long], some .long⟩ := by decide +kernel
theorem d5_5 : decode c_5 5 = .ok (.lstore 5, 2) := by decide +kernel
theorem d5_7 : decode c_5 7 = .ok (.lload 5, 2) := by decide +kernel
theorem d5_9 : decode c_5 9 = .ok (.ldc2_w 125, 3) := by decide +kernel
theorem d5_12 : decode c_5 12 = .ok (.lcmp, 1) := by decide +kernel
theorem d5_13 : decode c_5 13 = .ok (.ifCond .eq 11, 3) := by decide +kernel
theorem d5_16 : decode c_5 16 = .ok (.lload 5, 2) := by decide +kernel
theorem d5_18 : decode c_5 18 = .ok (.iload 4, 2) := by decide +kernel
theorem d5_20 : decode c_5 20 = .ok (.invokestatic 328, 3) := by decide +kernel
theorem pd4 : parseMethodDescriptor "(JI)Ljava/math/BigDecimal;" = some ⟨[.long, .int], some (.object "java/math/BigDecimal")⟩ := by decide +kernel
theorem d5_23 : decode c_5 23 = .ok (.areturn, 1) := by decide +kernel
abbrev yn5 : MethodName := ⟨"java/math/BigDecimal", "add", "(JJI)Ljava/math/BigDecimal;"⟩
theorem ef_addJIJI (m : MethodId) (x0 : Int64) (x1 : Int32) (x2 : Int64) (x3 : Int32) : entryFrame m #[(.long x0), (.int x3), (.long x2), (.int x3)] 12 = mkF m 0 #[.val (.long x0), .second, .val (.int x3), .val (.long x2), .second, .val (.int x3), .unset, .unset, .unset, .unset, .unset, .unset] [] := rfl
abbrev c_6 := jdk_17_method_134_code
theorem d6_0 : decode c_6 0 = .ok (.iload_n 2, 1) := by decide +kernel
theorem d6_1 : decode c_6 1 = .ok (.i2l, 1) := by decide +kernel
theorem d6_2 : decode c_6 2 = .ok (.iload 5, 2) := by decide +kernel
theorem d6_4 : decode c_6 4 = .ok (.i2l, 1) := by decide +kernel
theorem d6_5 : decode c_6 5 = .ok (.lsub, 1) := by decide +kernel
theorem d6_6 : decode c_6 6 = .ok (.lstore 6, 2) := by decide +kernel
theorem d6_8 : decode c_6 8 = .ok (.lload 6, 2) := by decide +kernel
theorem d6_10 : decode c_6 10 = .ok (.lconst 0, 1) := by decide +kernel
theorem d6_11 : decode c_6 11 = .ok (.lcmp, 1) := by decide +kernel
theorem d6_12 : decode c_6 12 = .ok (.ifCond .ne 10, 3) := by decide +kernel
theorem d6_15 : decode c_6 15 = .ok (.lload_n 0, 1) := by decide +kernel
theorem d6_16 : decode c_6 16 = .ok (.lload_n 3, 1) := by decide +kernel
theorem d6_17 : decode c_6 17 = .ok (.iload_n 2, 1) := by decide +kernel
theorem d6_18 : decode c_6 18 = .ok (.invokestatic 1000, 3) := by decide +kernel
theorem pd5 : parseMethodDescriptor "(JJI)Ljava/math/BigDecimal;" = some ⟨[.long, .long, .int], some (.object "java/math/BigDecimal")⟩ := by decide +kernel
theorem d6_21 : decode c_6 21 = .ok (.areturn, 1) := by decide +kernel
abbrev yn6 : MethodName := ⟨"java/math/BigDecimal", "add", "(JIJI)Ljava/math/BigDecimal;"⟩
theorem ef_bdadd (m : MethodId) (x0 : Addr) (x1 : Addr) : entryFrame m #[(.ref x0), (.ref x1)] 2 = mkF m 0 #[.val (.ref x0), .val (.ref x1)] [] := rfl
abbrev c_7 := jdk_17_method_26_code
theorem d7_0 : decode c_7 0 = .ok (.aload_n 0, 1) := by decide +kernel
theorem d7_1 : decode c_7 1 = .ok (.getfield 24, 3) := by decide +kernel
theorem d7_4 : decode c_7 4 = .ok (.ldc2_w 125, 3) := by decide +kernel
theorem d7_7 : decode c_7 7 = .ok (.lcmp, 1) := by decide +kernel
theorem d7_8 : decode c_7 8 = .ok (.ifCond .eq 54, 3) := by decide +kernel
theorem d7_11 : decode c_7 11 = .ok (.aload_n 1, 1) := by decide +kernel
theorem d7_12 : decode c_7 12 = .ok (.getfield 24, 3) := by decide +kernel
theorem d7_15 : decode c_7 15 = .ok (.ldc2_w 125, 3) := by decide +kernel
theorem d7_18 : decode c_7 18 = .ok (.lcmp, 1) := by decide +kernel
theorem d7_19 : decode c_7 19 = .ok (.ifCond .eq 23, 3) := by decide +kernel
theorem d7_22 : decode c_7 22 = .ok (.aload_n 0, 1) := by decide +kernel
theorem d7_23 : decode c_7 23 = .ok (.getfield 24, 3) := by decide +kernel
theorem d7_26 : decode c_7 26 = .ok (.aload_n 0, 1) := by decide +kernel
theorem d7_27 : decode c_7 27 = .ok (.getfield 17, 3) := by decide +kernel
theorem d7_30 : decode c_7 30 = .ok (.aload_n 1, 1) := by decide +kernel
theorem d7_31 : decode c_7 31 = .ok (.getfield 24, 3) := by decide +kernel
theorem d7_34 : decode c_7 34 = .ok (.aload_n 1, 1) := by decide +kernel
theorem d7_35 : decode c_7 35 = .ok (.getfield 17, 3) := by decide +kernel
theorem d7_38 : decode c_7 38 = .ok (.invokestatic 257, 3) := by decide +kernel
theorem pd6 : parseMethodDescriptor "(JIJI)Ljava/math/BigDecimal;" = some ⟨[.long, .int, .long, .int], some (.object "java/math/BigDecimal")⟩ := by decide +kernel
theorem d7_41 : decode c_7 41 = .ok (.areturn, 1) := by decide +kernel
abbrev yn7 : MethodName := ⟨"java/math/BigDecimal", "add", "(Ljava/math/BigDecimal;)Ljava/math/BigDecimal;"⟩
theorem ef_bdsub (m : MethodId) (x0 : Addr) (x1 : Addr) : entryFrame m #[(.ref x0), (.ref x1)] 2 = mkF m 0 #[.val (.ref x0), .val (.ref x1)] [] := rfl
abbrev c_8 := jdk_17_method_29_code
theorem d8_0 : decode c_8 0 = .ok (.aload_n 0, 1) := by decide +kernel
theorem d8_1 : decode c_8 1 = .ok (.getfield 24, 3) := by decide +kernel
theorem d8_4 : decode c_8 4 = .ok (.ldc2_w 125, 3) := by decide +kernel
theorem d8_7 : decode c_8 7 = .ok (.lcmp, 1) := by decide +kernel
theorem d8_8 : decode c_8 8 = .ok (.ifCond .eq 58, 3) := by decide +kernel
theorem d8_11 : decode c_8 11 = .ok (.aload_n 1, 1) := by decide +kernel
theorem d8_12 : decode c_8 12 = .ok (.getfield 24, 3) := by decide +kernel
theorem d8_15 : decode c_8 15 = .ok (.ldc2_w 125, 3) := by decide +kernel
theorem d8_18 : decode c_8 18 = .ok (.lcmp, 1) := by decide +kernel
theorem d8_19 : decode c_8 19 = .ok (.ifCond .eq 24, 3) := by decide +kernel
theorem d8_22 : decode c_8 22 = .ok (.aload_n 0, 1) := by decide +kernel
theorem d8_23 : decode c_8 23 = .ok (.getfield 24, 3) := by decide +kernel
theorem d8_26 : decode c_8 26 = .ok (.aload_n 0, 1) := by decide +kernel
theorem d8_27 : decode c_8 27 = .ok (.getfield 17, 3) := by decide +kernel
theorem d8_30 : decode c_8 30 = .ok (.aload_n 1, 1) := by decide +kernel
theorem d8_31 : decode c_8 31 = .ok (.getfield 24, 3) := by decide +kernel
theorem d8_34 : decode c_8 34 = .ok (.lneg, 1) := by decide +kernel
theorem d8_35 : decode c_8 35 = .ok (.aload_n 1, 1) := by decide +kernel
theorem d8_36 : decode c_8 36 = .ok (.getfield 17, 3) := by decide +kernel
theorem d8_39 : decode c_8 39 = .ok (.invokestatic 257, 3) := by decide +kernel
theorem d8_42 : decode c_8 42 = .ok (.areturn, 1) := by decide +kernel
abbrev yn8 : MethodName := ⟨"java/math/BigDecimal", "subtract", "(Ljava/math/BigDecimal;)Ljava/math/BigDecimal;"⟩
theorem ef_bdcmp (m : MethodId) (x0 : Addr) (x1 : Addr) : entryFrame m #[(.ref x0), (.ref x1)] 6 = mkF m 0 #[.val (.ref x0), .val (.ref x1), .unset, .unset, .unset, .unset] [] := rfl
abbrev c_9 := jdk_17_method_70_code
theorem d9_0 : decode c_9 0 = .ok (.aload_n 0, 1) := by decide +kernel
theorem d9_1 : decode c_9 1 = .ok (.getfield 17, 3) := by decide +kernel
theorem d9_4 : decode c_9 4 = .ok (.aload_n 1, 1) := by decide +kernel
theorem d9_5 : decode c_9 5 = .ok (.getfield 17, 3) := by decide +kernel
theorem d9_8 : decode c_9 8 = .ok (.if_icmp .ne 55, 3) := by decide +kernel
theorem d9_11 : decode c_9 11 = .ok (.aload_n 0, 1) := by decide +kernel
theorem d9_12 : decode c_9 12 = .ok (.getfield 24, 3) := by decide +kernel
theorem d9_15 : decode c_9 15 = .ok (.lstore_n 2, 1) := by decide +kernel
theorem d9_16 : decode c_9 16 = .ok (.aload_n 1, 1) := by decide +kernel
theorem d9_17 : decode c_9 17 = .ok (.getfield 24, 3) := by decide +kernel
theorem d9_20 : decode c_9 20 = .ok (.lstore 4, 2) := by decide +kernel
theorem d9_22 : decode c_9 22 = .ok (.lload_n 2, 1) := by decide +kernel
theorem d9_23 : decode c_9 23 = .ok (.ldc2_w 125, 3) := by decide +kernel
theorem d9_26 : decode c_9 26 = .ok (.lcmp, 1) := by decide +kernel
theorem d9_27 : decode c_9 27 = .ok (.ifCond .eq 36, 3) := by decide +kernel
theorem d9_30 : decode c_9 30 = .ok (.lload 4, 2) := by decide +kernel
theorem d9_32 : decode c_9 32 = .ok (.ldc2_w 125, 3) := by decide +kernel
theorem d9_35 : decode c_9 35 = .ok (.lcmp, 1) := by decide +kernel
theorem d9_36 : decode c_9 36 = .ok (.ifCond .eq 27, 3) := by decide +kernel
theorem d9_39 : decode c_9 39 = .ok (.lload_n 2, 1) := by decide +kernel
theorem d9_40 : decode c_9 40 = .ok (.lload 4, 2) := by decide +kernel
theorem d9_42 : decode c_9 42 = .ok (.lcmp, 1) := by decide +kernel
theorem d9_43 : decode c_9 43 = .ok (.ifCond .eq 18, 3) := by decide +kernel
theorem d9_61 : decode c_9 61 = .ok (.iconst 0, 1) := by decide +kernel
theorem d9_46 : decode c_9 46 = .ok (.lload_n 2, 1) := by decide +kernel
theorem d9_47 : decode c_9 47 = .ok (.lload 4, 2) := by decide +kernel
theorem d9_49 : decode c_9 49 = .ok (.lcmp, 1) := by decide +kernel
theorem d9_50 : decode c_9 50 = .ok (.ifCond .le 7, 3) := by decide +kernel
theorem d9_53 : decode c_9 53 = .ok (.iconst 1, 1) := by decide +kernel
theorem d9_54 : decode c_9 54 = .ok (.goto 8, 3) := by decide +kernel
theorem d9_57 : decode c_9 57 = .ok (.iconst (-1), 1) := by decide +kernel
theorem d9_58 : decode c_9 58 = .ok (.goto 4, 3) := by decide +kernel
theorem d9_62 : decode c_9 62 = .ok (.ireturn, 1) := by decide +kernel
abbrev yn9 : MethodName := ⟨"java/math/BigDecimal", "compareTo", "(Ljava/math/BigDecimal;)I"⟩
theorem ef_bdmax (m : MethodId) (x0 : Addr) (x1 : Addr) : entryFrame m #[(.ref x0), (.ref x1)] 2 = mkF m 0 #[.val (.ref x0), .val (.ref x1)] [] := rfl
abbrev c_10 := jdk_17_method_74_code
theorem d10_0 : decode c_10 0 = .ok (.aload_n 0, 1) := by decide +kernel
theorem d10_1 : decode c_10 1 = .ok (.aload_n 1, 1) := by decide +kernel
theorem d10_2 : decode c_10 2 = .ok (.invokevirtual 480, 3) := by decide +kernel
theorem pd7 : parseMethodDescriptor "(Ljava/math/BigDecimal;)I" = some ⟨[(.object "java/math/BigDecimal")], some .int⟩ := by decide +kernel
theorem d10_5 : decode c_10 5 = .ok (.ifCond .lt 7, 3) := by decide +kernel
theorem d10_12 : decode c_10 12 = .ok (.aload_n 1, 1) := by decide +kernel
theorem d10_13 : decode c_10 13 = .ok (.areturn, 1) := by decide +kernel
theorem d10_8 : decode c_10 8 = .ok (.aload_n 0, 1) := by decide +kernel
theorem d10_9 : decode c_10 9 = .ok (.goto 4, 3) := by decide +kernel
abbrev yn10 : MethodName := ⟨"java/math/BigDecimal", "max", "(Ljava/math/BigDecimal;)Ljava/math/BigDecimal;"⟩
theorem ef_lmax (m : MethodId) (x0 : Int64) (x1 : Int64) : entryFrame m #[(.long x0), (.long x1)] 4 = mkF m 0 #[.val (.long x0), .second, .val (.long x1), .second] [] := rfl
abbrev c_11 := jdk_29_method_66_code
theorem d11_0 : decode c_11 0 = .ok (.lload_n 0, 1) := by decide +kernel
theorem d11_1 : decode c_11 1 = .ok (.lload_n 2, 1) := by decide +kernel
theorem d11_2 : decode c_11 2 = .ok (.lcmp, 1) := by decide +kernel
theorem d11_3 : decode c_11 3 = .ok (.ifCond .lt 7, 3) := by decide +kernel
theorem d11_10 : decode c_11 10 = .ok (.lload_n 2, 1) := by decide +kernel
theorem d11_6 : decode c_11 6 = .ok (.lload_n 0, 1) := by decide +kernel
theorem d11_7 : decode c_11 7 = .ok (.goto 4, 3) := by decide +kernel
theorem d11_11 : decode c_11 11 = .ok (.lreturn, 1) := by decide +kernel
abbrev yn11 : MethodName := ⟨"java/lang/Math", "max", "(JJ)J"⟩
theorem ef_lmin (m : MethodId) (x0 : Int64) (x1 : Int64) : entryFrame m #[(.long x0), (.long x1)] 4 = mkF m 0 #[.val (.long x0), .second, .val (.long x1), .second] [] := rfl
abbrev c_12 := jdk_29_method_70_code
theorem d12_0 : decode c_12 0 = .ok (.lload_n 0, 1) := by decide +kernel
theorem d12_1 : decode c_12 1 = .ok (.lload_n 2, 1) := by decide +kernel
theorem d12_2 : decode c_12 2 = .ok (.lcmp, 1) := by decide +kernel
theorem d12_3 : decode c_12 3 = .ok (.ifCond .gt 7, 3) := by decide +kernel
theorem d12_10 : decode c_12 10 = .ok (.lload_n 2, 1) := by decide +kernel
theorem d12_6 : decode c_12 6 = .ok (.lload_n 0, 1) := by decide +kernel
theorem d12_7 : decode c_12 7 = .ok (.goto 4, 3) := by decide +kernel
theorem d12_11 : decode c_12 11 = .ok (.lreturn, 1) := by decide +kernel
abbrev yn12 : MethodName := ⟨"java/lang/Math", "min", "(JJ)J"⟩
theorem ef_imax (m : MethodId) (x0 : Int32) (x1 : Int32) : entryFrame m #[(.int x0), (.int x1)] 2 = mkF m 0 #[.val (.int x0), .val (.int x1)] [] := rfl
abbrev c_13 := jdk_29_method_65_code
theorem d13_0 : decode c_13 0 = .ok (.iload_n 0, 1) := by decide +kernel
theorem d13_1 : decode c_13 1 = .ok (.iload_n 1, 1) := by decide +kernel
theorem d13_2 : decode c_13 2 = .ok (.if_icmp .lt 7, 3) := by decide +kernel
theorem d13_9 : decode c_13 9 = .ok (.iload_n 1, 1) := by decide +kernel
theorem d13_5 : decode c_13 5 = .ok (.iload_n 0, 1) := by decide +kernel
theorem d13_6 : decode c_13 6 = .ok (.goto 4, 3) := by decide +kernel
theorem d13_10 : decode c_13 10 = .ok (.ireturn, 1) := by decide +kernel
abbrev yn13 : MethodName := ⟨"java/lang/Math", "max", "(II)I"⟩
theorem ef_w1 (m : MethodId) (x0 : Addr) (x1 : Int32) (x2 : Int32) : entryFrame m #[(.ref x0), (.int x1), (.int x2)] 5 = mkF m 0 #[.val (.ref x0), .val (.int x1), .val (.int x2), .unset, .unset] [] := rfl
theorem pn_com_example_vestline_vestline_finalaveragepay_BestPeriodsTotalPinLaw : plainName "com/example/vestline/vestline/finalaveragepay/BestPeriodsTotalPinLaw" = true := by first | (simp [plainName, overriddenIn]; done) | decide +kernel
abbrev c_14 := method_3_code
theorem d14_0 : decode c_14 0 = .ok (.lconst 0, 1) := by decide +kernel
theorem d14_1 : decode c_14 1 = .ok (.lstore_n 3, 1) := by decide +kernel
theorem d14_2 : decode c_14 2 = .ok (.iload_n 2, 1) := by decide +kernel
theorem d14_3 : decode c_14 3 = .ok (.ifCond .le 9, 3) := by decide +kernel
theorem d14_6 : decode c_14 6 = .ok (.lload_n 3, 1) := by decide +kernel
theorem d14_7 : decode c_14 7 = .ok (.aload_n 0, 1) := by decide +kernel
theorem d14_8 : decode c_14 8 = .ok (.iload_n 1, 1) := by decide +kernel
theorem d14_9 : decode c_14 9 = .ok (.laload, 1) := by decide +kernel
theorem d14_10 : decode c_14 10 = .ok (.ladd, 1) := by decide +kernel
theorem d14_11 : decode c_14 11 = .ok (.lstore_n 3, 1) := by decide +kernel
theorem d14_12 : decode c_14 12 = .ok (.iload_n 2, 1) := by decide +kernel
theorem d14_13 : decode c_14 13 = .ok (.iconst 1, 1) := by decide +kernel
theorem d14_14 : decode c_14 14 = .ok (.if_icmp .le 11, 3) := by decide +kernel
theorem d14_25 : decode c_14 25 = .ok (.iload_n 2, 1) := by decide +kernel
theorem d14_26 : decode c_14 26 = .ok (.iconst 2, 1) := by decide +kernel
theorem d14_27 : decode c_14 27 = .ok (.if_icmp .le 11, 3) := by decide +kernel
theorem d14_38 : decode c_14 38 = .ok (.iload_n 2, 1) := by decide +kernel
theorem d14_39 : decode c_14 39 = .ok (.iconst 3, 1) := by decide +kernel
theorem d14_40 : decode c_14 40 = .ok (.if_icmp .le 11, 3) := by decide +kernel
theorem d14_51 : decode c_14 51 = .ok (.lload_n 3, 1) := by decide +kernel
theorem d14_52 : decode c_14 52 = .ok (.lreturn, 1) := by decide +kernel
abbrev yn14 : MethodName := ⟨"com/example/vestline/vestline/finalaveragepay/BestPeriodsTotalPinLaw", "w", "([JII)J"⟩
theorem ef_w2 (m : MethodId) (x0 : Addr) (x1 : Int32) (x2 : Int32) : entryFrame m #[(.ref x0), (.int x1), (.int x2)] 5 = mkF m 0 #[.val (.ref x0), .val (.int x1), .val (.int x2), .unset, .unset] [] := rfl
theorem d14_17 : decode c_14 17 = .ok (.lload_n 3, 1) := by decide +kernel
theorem d14_18 : decode c_14 18 = .ok (.aload_n 0, 1) := by decide +kernel
theorem d14_19 : decode c_14 19 = .ok (.iload_n 1, 1) := by decide +kernel
theorem d14_20 : decode c_14 20 = .ok (.iconst 1, 1) := by decide +kernel
theorem d14_21 : decode c_14 21 = .ok (.iadd, 1) := by decide +kernel
theorem d14_22 : decode c_14 22 = .ok (.laload, 1) := by decide +kernel
theorem d14_23 : decode c_14 23 = .ok (.ladd, 1) := by decide +kernel
theorem d14_24 : decode c_14 24 = .ok (.lstore_n 3, 1) := by decide +kernel
theorem ef_w3 (m : MethodId) (x0 : Addr) (x1 : Int32) (x2 : Int32) : entryFrame m #[(.ref x0), (.int x1), (.int x2)] 5 = mkF m 0 #[.val (.ref x0), .val (.int x1), .val (.int x2), .unset, .unset] [] := rfl
theorem d14_30 : decode c_14 30 = .ok (.lload_n 3, 1) := by decide +kernel
theorem d14_31 : decode c_14 31 = .ok (.aload_n 0, 1) := by decide +kernel
theorem d14_32 : decode c_14 32 = .ok (.iload_n 1, 1) := by decide +kernel
theorem d14_33 : decode c_14 33 = .ok (.iconst 2, 1) := by decide +kernel
theorem d14_34 : decode c_14 34 = .ok (.iadd, 1) := by decide +kernel
theorem d14_35 : decode c_14 35 = .ok (.laload, 1) := by decide +kernel
theorem d14_36 : decode c_14 36 = .ok (.ladd, 1) := by decide +kernel
theorem d14_37 : decode c_14 37 = .ok (.lstore_n 3, 1) := by decide +kernel
theorem ef_w4 (m : MethodId) (x0 : Addr) (x1 : Int32) (x2 : Int32) : entryFrame m #[(.ref x0), (.int x1), (.int x2)] 5 = mkF m 0 #[.val (.ref x0), .val (.int x1), .val (.int x2), .unset, .unset] [] := rfl
theorem d14_43 : decode c_14 43 = .ok (.lload_n 3, 1) := by decide +kernel
theorem d14_44 : decode c_14 44 = .ok (.aload_n 0, 1) := by decide +kernel
theorem d14_45 : decode c_14 45 = .ok (.iload_n 1, 1) := by decide +kernel
theorem d14_46 : decode c_14 46 = .ok (.iconst 3, 1) := by decide +kernel
theorem d14_47 : decode c_14 47 = .ok (.iadd, 1) := by decide +kernel
theorem d14_48 : decode c_14 48 = .ok (.laload, 1) := by decide +kernel
theorem d14_49 : decode c_14 49 = .ok (.ladd, 1) := by decide +kernel
theorem d14_50 : decode c_14 50 = .ok (.lstore_n 3, 1) := by decide +kernel
theorem ef_one1 (m : MethodId) (x0 : Addr) (x1 : Int32) (x2 : Int32) (x3 : Int32) (x4 : Int64) : entryFrame m #[(.ref x0), (.int x1), (.int x2), (.int x3), (.long x4)] 6 = mkF m 0 #[.val (.ref x0), .val (.int x1), .val (.int x2), .val (.int x3), .val (.long x4), .second] [] := rfl
abbrev c_15 := method_4_code
theorem d15_0 : decode c_15 0 = .ok (.iload_n 3, 1) := by decide +kernel
theorem d15_1 : decode c_15 1 = .ok (.iload_n 2, 1) := by decide +kernel
theorem d15_2 : decode c_15 2 = .ok (.iadd, 1) := by decide +kernel
theorem d15_3 : decode c_15 3 = .ok (.iload_n 1, 1) := by decide +kernel
theorem d15_4 : decode c_15 4 = .ok (.if_icmp .gt 15, 3) := by decide +kernel
theorem d15_19 : decode c_15 19 = .ok (.lload 4, 2) := by decide +kernel
theorem d15_21 : decode c_15 21 = .ok (.lreturn, 1) := by decide +kernel
theorem d15_7 : decode c_15 7 = .ok (.lload 4, 2) := by decide +kernel
theorem d15_9 : decode c_15 9 = .ok (.aload_n 0, 1) := by decide +kernel
theorem d15_10 : decode c_15 10 = .ok (.iload_n 3, 1) := by decide +kernel
theorem d15_11 : decode c_15 11 = .ok (.iload_n 2, 1) := by decide +kernel
theorem d15_12 : decode c_15 12 = .ok (.invokestatic 36, 3) := by decide +kernel
theorem pd8 : parseMethodDescriptor "([JII)J" = some ⟨[(.array .long), .int, .int], some .long⟩ := by decide +kernel
theorem d15_15 : decode c_15 15 = .ok (.invokestatic 40, 3) := by decide +kernel
theorem d15_18 : decode c_15 18 = .ok (.lreturn, 1) := by decide +kernel
abbrev yn15 : MethodName := ⟨"com/example/vestline/vestline/finalaveragepay/BestPeriodsTotalPinLaw", "one", "([JIIIJ)J"⟩
theorem ef_one2 (m : MethodId) (x0 : Addr) (x1 : Int32) (x2 : Int32) (x3 : Int32) (x4 : Int64) : entryFrame m #[(.ref x0), (.int x1), (.int x2), (.int x3), (.long x4)] 6 = mkF m 0 #[.val (.ref x0), .val (.int x1), .val (.int x2), .val (.int x3), .val (.long x4), .second] [] := rfl
theorem ef_one3 (m : MethodId) (x0 : Addr) (x1 : Int32) (x2 : Int32) (x3 : Int32) (x4 : Int64) : entryFrame m #[(.ref x0), (.int x1), (.int x2), (.int x3), (.long x4)] 6 = mkF m 0 #[.val (.ref x0), .val (.int x1), .val (.int x2), .val (.int x3), .val (.long x4), .second] [] := rfl
theorem ef_oneN (m : MethodId) (x0 : Addr) (x1 : Int32) (x2 : Int32) (x3 : Int32) (x4 : Int64) : entryFrame m #[(.ref x0), (.int x1), (.int x2), (.int x3), (.long x4)] 6 = mkF m 0 #[.val (.ref x0), .val (.int x1), .val (.int x2), .val (.int x3), .val (.long x4), .second] [] := rfl
theorem ef_two1 (m : MethodId) (x0 : Addr) (x1 : Int32) (x2 : Int32) (x3 : Int32) (x4 : Int32) (x5 : Int64) : entryFrame m #[(.ref x0), (.int x1), (.int x2), (.int x3), (.int x4), (.long x5)] 7 = mkF m 0 #[.val (.ref x0), .val (.int x1), .val (.int x2), .val (.int x3), .val (.int x4), .val (.long x5), .second] [] := rfl
abbrev c_16 := method_5_code
theorem d16_0 : decode c_16 0 = .ok (.iload 4, 2) := by decide +kernel
theorem d16_2 : decode c_16 2 = .ok (.iload_n 3, 1) := by decide +kernel
theorem d16_3 : decode c_16 3 = .ok (.isub, 1) := by decide +kernel
theorem d16_4 : decode c_16 4 = .ok (.iload_n 2, 1) := by decide +kernel
theorem d16_5 : decode c_16 5 = .ok (.if_icmp .lt 31, 3) := by decide +kernel
theorem d16_8 : decode c_16 8 = .ok (.iload 4, 2) := by decide +kernel
theorem d16_10 : decode c_16 10 = .ok (.iload_n 2, 1) := by decide +kernel
theorem d16_11 : decode c_16 11 = .ok (.iadd, 1) := by decide +kernel
theorem d16_12 : decode c_16 12 = .ok (.iload_n 1, 1) := by decide +kernel
theorem d16_13 : decode c_16 13 = .ok (.if_icmp .gt 23, 3) := by decide +kernel
theorem d16_36 : decode c_16 36 = .ok (.lload 5, 2) := by decide +kernel
theorem d16_38 : decode c_16 38 = .ok (.lreturn, 1) := by decide +kernel
theorem d16_16 : decode c_16 16 = .ok (.lload 5, 2) := by decide +kernel
theorem d16_18 : decode c_16 18 = .ok (.aload_n 0, 1) := by decide +kernel
theorem d16_19 : decode c_16 19 = .ok (.iload_n 3, 1) := by decide +kernel
theorem d16_20 : decode c_16 20 = .ok (.iload_n 2, 1) := by decide +kernel
theorem d16_21 : decode c_16 21 = .ok (.invokestatic 36, 3) := by decide +kernel
theorem d16_24 : decode c_16 24 = .ok (.aload_n 0, 1) := by decide +kernel
theorem d16_25 : decode c_16 25 = .ok (.iload 4, 2) := by decide +kernel
theorem d16_27 : decode c_16 27 = .ok (.iload_n 2, 1) := by decide +kernel
theorem d16_28 : decode c_16 28 = .ok (.invokestatic 36, 3) := by decide +kernel
theorem d16_31 : decode c_16 31 = .ok (.ladd, 1) := by decide +kernel
theorem d16_32 : decode c_16 32 = .ok (.invokestatic 40, 3) := by decide +kernel
theorem d16_35 : decode c_16 35 = .ok (.lreturn, 1) := by decide +kernel
abbrev yn16 : MethodName := ⟨"com/example/vestline/vestline/finalaveragepay/BestPeriodsTotalPinLaw", "two", "([JIIIIJ)J"⟩
theorem ef_two2 (m : MethodId) (x0 : Addr) (x1 : Int32) (x2 : Int32) (x3 : Int32) (x4 : Int32) (x5 : Int64) : entryFrame m #[(.ref x0), (.int x1), (.int x2), (.int x3), (.int x4), (.long x5)] 7 = mkF m 0 #[.val (.ref x0), .val (.int x1), .val (.int x2), .val (.int x3), .val (.int x4), .val (.long x5), .second] [] := rfl
theorem ef_twoN1 (m : MethodId) (x0 : Addr) (x1 : Int32) (x2 : Int32) (x3 : Int32) (x4 : Int32) (x5 : Int64) : entryFrame m #[(.ref x0), (.int x1), (.int x2), (.int x3), (.int x4), (.long x5)] 7 = mkF m 0 #[.val (.ref x0), .val (.int x1), .val (.int x2), .val (.int x3), .val (.int x4), .val (.long x5), .second] [] := rfl
theorem ef_twoN2 (m : MethodId) (x0 : Addr) (x1 : Int32) (x2 : Int32) (x3 : Int32) (x4 : Int32) (x5 : Int64) : entryFrame m #[(.ref x0), (.int x1), (.int x2), (.int x3), (.int x4), (.long x5)] 7 = mkF m 0 #[.val (.ref x0), .val (.int x1), .val (.int x2), .val (.int x3), .val (.int x4), .val (.long x5), .second] [] := rfl
theorem ef_refr (m : MethodId) (x0 : Addr) (x1 : Int32) (x2 : Int32) (x3 : Int32) : entryFrame m #[(.ref x0), (.int x1), (.int x2), (.int x3)] 6 = mkF m 0 #[.val (.ref x0), .val (.int x1), .val (.int x2), .val (.int x3), .unset, .unset] [] := rfl
abbrev c_17 := method_6_code
theorem d17_0 : decode c_17 0 = .ok (.iload_n 2, 1) := by decide +kernel
theorem d17_1 : decode c_17 1 = .ok (.ifCond .ne 5, 3) := by decide +kernel
theorem d17_4 : decode c_17 4 = .ok (.lconst 0, 1) := by decide +kernel
theorem d17_5 : decode c_17 5 = .ok (.lreturn, 1) := by decide +kernel
theorem d17_6 : decode c_17 6 = .ok (.iload_n 2, 1) := by decide +kernel
theorem d17_7 : decode c_17 7 = .ok (.iconst 1, 1) := by decide +kernel
theorem d17_8 : decode c_17 8 = .ok (.if_icmp .ne 47, 3) := by decide +kernel
theorem d17_11 : decode c_17 11 = .ok (.aload_n 0, 1) := by decide +kernel
theorem d17_12 : decode c_17 12 = .ok (.iconst 0, 1) := by decide +kernel
theorem d17_13 : decode c_17 13 = .ok (.iload_n 3, 1) := by decide +kernel
theorem d17_14 : decode c_17 14 = .ok (.invokestatic 36, 3) := by decide +kernel
theorem d17_17 : decode c_17 17 = .ok (.lstore 4, 2) := by decide +kernel
theorem d17_19 : decode c_17 19 = .ok (.aload_n 0, 1) := by decide +kernel
theorem d17_20 : decode c_17 20 = .ok (.iload_n 1, 1) := by decide +kernel
theorem d17_21 : decode c_17 21 = .ok (.iload_n 3, 1) := by decide +kernel
theorem d17_22 : decode c_17 22 = .ok (.iconst 1, 1) := by decide +kernel
theorem d17_23 : decode c_17 23 = .ok (.lload 4, 2) := by decide +kernel
theorem d17_25 : decode c_17 25 = .ok (.invokestatic 46, 3) := by decide +kernel
theorem pd9 : parseMethodDescriptor "([JIIIJ)J" = some ⟨[(.array .long), .int, .int, .int, .long], some .long⟩ := by decide +kernel
theorem d17_28 : decode c_17 28 = .ok (.lstore 4, 2) := by decide +kernel
theorem d17_30 : decode c_17 30 = .ok (.aload_n 0, 1) := by decide +kernel
theorem d17_31 : decode c_17 31 = .ok (.iload_n 1, 1) := by decide +kernel
theorem d17_32 : decode c_17 32 = .ok (.iload_n 3, 1) := by decide +kernel
theorem d17_33 : decode c_17 33 = .ok (.iconst 2, 1) := by decide +kernel
theorem d17_34 : decode c_17 34 = .ok (.lload 4, 2) := by decide +kernel
theorem d17_36 : decode c_17 36 = .ok (.invokestatic 46, 3) := by decide +kernel
theorem d17_39 : decode c_17 39 = .ok (.lstore 4, 2) := by decide +kernel
theorem d17_41 : decode c_17 41 = .ok (.aload_n 0, 1) := by decide +kernel
theorem d17_42 : decode c_17 42 = .ok (.iload_n 1, 1) := by decide +kernel
theorem d17_43 : decode c_17 43 = .ok (.iload_n 3, 1) := by decide +kernel
theorem d17_44 : decode c_17 44 = .ok (.iconst 3, 1) := by decide +kernel
theorem d17_45 : decode c_17 45 = .ok (.lload 4, 2) := by decide +kernel
theorem d17_47 : decode c_17 47 = .ok (.invokestatic 46, 3) := by decide +kernel
theorem d17_50 : decode c_17 50 = .ok (.lstore 4, 2) := by decide +kernel
theorem d17_52 : decode c_17 52 = .ok (.lload 4, 2) := by decide +kernel
theorem d17_54 : decode c_17 54 = .ok (.lreturn, 1) := by decide +kernel
theorem d17_55 : decode c_17 55 = .ok (.iload_n 2, 1) := by decide +kernel
theorem d17_56 : decode c_17 56 = .ok (.iconst 2, 1) := by decide +kernel
theorem d17_57 : decode c_17 57 = .ok (.if_icmp .ne 93, 3) := by decide +kernel
theorem d17_60 : decode c_17 60 = .ok (.aload_n 0, 1) := by decide +kernel
theorem d17_61 : decode c_17 61 = .ok (.iconst 0, 1) := by decide +kernel
theorem d17_62 : decode c_17 62 = .ok (.iload_n 3, 1) := by decide +kernel
theorem d17_63 : decode c_17 63 = .ok (.invokestatic 36, 3) := by decide +kernel
theorem d17_66 : decode c_17 66 = .ok (.aload_n 0, 1) := by decide +kernel
theorem d17_67 : decode c_17 67 = .ok (.iload_n 3, 1) := by decide +kernel
theorem d17_68 : decode c_17 68 = .ok (.iload_n 3, 1) := by decide +kernel
theorem d17_69 : decode c_17 69 = .ok (.invokestatic 36, 3) := by decide +kernel
theorem d17_72 : decode c_17 72 = .ok (.ladd, 1) := by decide +kernel
theorem d17_73 : decode c_17 73 = .ok (.lstore 4, 2) := by decide +kernel
theorem d17_75 : decode c_17 75 = .ok (.aload_n 0, 1) := by decide +kernel
theorem d17_76 : decode c_17 76 = .ok (.iload_n 1, 1) := by decide +kernel
theorem d17_77 : decode c_17 77 = .ok (.iload_n 3, 1) := by decide +kernel
theorem d17_78 : decode c_17 78 = .ok (.iconst 0, 1) := by decide +kernel
theorem d17_79 : decode c_17 79 = .ok (.iconst 1, 1) := by decide +kernel
theorem d17_80 : decode c_17 80 = .ok (.lload 4, 2) := by decide +kernel
theorem d17_82 : decode c_17 82 = .ok (.invokestatic 50, 3) := by decide +kernel
theorem pd10 : parseMethodDescriptor "([JIIIIJ)J" = some ⟨[(.array .long), .int, .int, .int, .int, .long], some .long⟩ := by decide +kernel
theorem d17_85 : decode c_17 85 = .ok (.lstore 4, 2) := by decide +kernel
theorem d17_87 : decode c_17 87 = .ok (.aload_n 0, 1) := by decide +kernel
theorem d17_88 : decode c_17 88 = .ok (.iload_n 1, 1) := by decide +kernel
theorem d17_89 : decode c_17 89 = .ok (.iload_n 3, 1) := by decide +kernel
theorem d17_90 : decode c_17 90 = .ok (.iconst 0, 1) := by decide +kernel
theorem d17_91 : decode c_17 91 = .ok (.iconst 2, 1) := by decide +kernel
theorem d17_92 : decode c_17 92 = .ok (.lload 4, 2) := by decide +kernel
theorem d17_94 : decode c_17 94 = .ok (.invokestatic 50, 3) := by decide +kernel
theorem d17_97 : decode c_17 97 = .ok (.lstore 4, 2) := by decide +kernel
theorem d17_99 : decode c_17 99 = .ok (.aload_n 0, 1) := by decide +kernel
theorem d17_100 : decode c_17 100 = .ok (.iload_n 1, 1) := by decide +kernel
theorem d17_101 : decode c_17 101 = .ok (.iload_n 3, 1) := by decide +kernel
theorem d17_102 : decode c_17 102 = .ok (.iconst 0, 1) := by decide +kernel
theorem d17_103 : decode c_17 103 = .ok (.iconst 3, 1) := by decide +kernel
theorem d17_104 : decode c_17 104 = .ok (.lload 4, 2) := by decide +kernel
theorem d17_106 : decode c_17 106 = .ok (.invokestatic 50, 3) := by decide +kernel
theorem d17_109 : decode c_17 109 = .ok (.lstore 4, 2) := by decide +kernel
theorem d17_111 : decode c_17 111 = .ok (.aload_n 0, 1) := by decide +kernel
theorem d17_112 : decode c_17 112 = .ok (.iload_n 1, 1) := by decide +kernel
theorem d17_113 : decode c_17 113 = .ok (.iload_n 3, 1) := by decide +kernel
theorem d17_114 : decode c_17 114 = .ok (.iconst 1, 1) := by decide +kernel
theorem d17_115 : decode c_17 115 = .ok (.iconst 2, 1) := by decide +kernel
theorem d17_116 : decode c_17 116 = .ok (.lload 4, 2) := by decide +kernel
theorem d17_118 : decode c_17 118 = .ok (.invokestatic 50, 3) := by decide +kernel
theorem d17_121 : decode c_17 121 = .ok (.lstore 4, 2) := by decide +kernel
theorem d17_123 : decode c_17 123 = .ok (.aload_n 0, 1) := by decide +kernel
theorem d17_124 : decode c_17 124 = .ok (.iload_n 1, 1) := by decide +kernel
theorem d17_125 : decode c_17 125 = .ok (.iload_n 3, 1) := by decide +kernel
theorem d17_126 : decode c_17 126 = .ok (.iconst 1, 1) := by decide +kernel
theorem d17_127 : decode c_17 127 = .ok (.iconst 3, 1) := by decide +kernel
theorem d17_128 : decode c_17 128 = .ok (.lload 4, 2) := by decide +kernel
theorem d17_130 : decode c_17 130 = .ok (.invokestatic 50, 3) := by decide +kernel
theorem d17_133 : decode c_17 133 = .ok (.lstore 4, 2) := by decide +kernel
theorem d17_135 : decode c_17 135 = .ok (.aload_n 0, 1) := by decide +kernel
theorem d17_136 : decode c_17 136 = .ok (.iload_n 1, 1) := by decide +kernel
theorem d17_137 : decode c_17 137 = .ok (.iload_n 3, 1) := by decide +kernel
theorem d17_138 : decode c_17 138 = .ok (.iconst 2, 1) := by decide +kernel
theorem d17_139 : decode c_17 139 = .ok (.iconst 3, 1) := by decide +kernel
theorem d17_140 : decode c_17 140 = .ok (.lload 4, 2) := by decide +kernel
theorem d17_142 : decode c_17 142 = .ok (.invokestatic 50, 3) := by decide +kernel
theorem d17_145 : decode c_17 145 = .ok (.lstore 4, 2) := by decide +kernel
theorem d17_147 : decode c_17 147 = .ok (.lload 4, 2) := by decide +kernel
theorem d17_149 : decode c_17 149 = .ok (.lreturn, 1) := by decide +kernel
theorem d17_150 : decode c_17 150 = .ok (.aload_n 0, 1) := by decide +kernel
theorem d17_151 : decode c_17 151 = .ok (.iconst 0, 1) := by decide +kernel
theorem d17_152 : decode c_17 152 = .ok (.iload_n 1, 1) := by decide +kernel
theorem d17_153 : decode c_17 153 = .ok (.invokestatic 36, 3) := by decide +kernel
theorem d17_156 : decode c_17 156 = .ok (.lstore 4, 2) := by decide +kernel
theorem d17_158 : decode c_17 158 = .ok (.iload_n 2, 1) := by decide +kernel
theorem d17_159 : decode c_17 159 = .ok (.iconst 3, 1) := by decide +kernel
theorem d17_160 : decode c_17 160 = .ok (.if_icmp .ne 36, 3) := by decide +kernel
theorem d17_163 : decode c_17 163 = .ok (.iload_n 1, 1) := by decide +kernel
theorem d17_164 : decode c_17 164 = .ok (.iconst 4, 1) := by decide +kernel
theorem d17_165 : decode c_17 165 = .ok (.if_icmp .ne 28, 3) := by decide +kernel
theorem d17_193 : decode c_17 193 = .ok (.lload 4, 2) := by decide +kernel
theorem d17_195 : decode c_17 195 = .ok (.lreturn, 1) := by decide +kernel
theorem d17_168 : decode c_17 168 = .ok (.lload 4, 2) := by decide +kernel
theorem d17_170 : decode c_17 170 = .ok (.aload_n 0, 1) := by decide +kernel
theorem d17_171 : decode c_17 171 = .ok (.iconst 0, 1) := by decide +kernel
theorem d17_172 : decode c_17 172 = .ok (.laload, 1) := by decide +kernel
theorem d17_173 : decode c_17 173 = .ok (.aload_n 0, 1) := by decide +kernel
theorem d17_174 : decode c_17 174 = .ok (.iconst 1, 1) := by decide +kernel
theorem d17_175 : decode c_17 175 = .ok (.laload, 1) := by decide +kernel
theorem d17_176 : decode c_17 176 = .ok (.invokestatic 54, 3) := by decide +kernel
theorem d17_179 : decode c_17 179 = .ok (.aload_n 0, 1) := by decide +kernel
theorem d17_180 : decode c_17 180 = .ok (.iconst 2, 1) := by decide +kernel
theorem d17_181 : decode c_17 181 = .ok (.laload, 1) := by decide +kernel
theorem d17_182 : decode c_17 182 = .ok (.aload_n 0, 1) := by decide +kernel
theorem d17_183 : decode c_17 183 = .ok (.iconst 3, 1) := by decide +kernel
theorem d17_184 : decode c_17 184 = .ok (.laload, 1) := by decide +kernel
theorem d17_185 : decode c_17 185 = .ok (.invokestatic 54, 3) := by decide +kernel
theorem d17_188 : decode c_17 188 = .ok (.invokestatic 54, 3) := by decide +kernel
theorem d17_191 : decode c_17 191 = .ok (.lsub, 1) := by decide +kernel
theorem d17_192 : decode c_17 192 = .ok (.lreturn, 1) := by decide +kernel
theorem d17_196 : decode c_17 196 = .ok (.lload 4, 2) := by decide +kernel
theorem d17_198 : decode c_17 198 = .ok (.lreturn, 1) := by decide +kernel
abbrev yn17 : MethodName := ⟨"com/example/vestline/vestline/finalaveragepay/BestPeriodsTotalPinLaw", "reference", "([JIII)J"⟩
theorem ef_acinit (m : MethodId) (x0 : Addr) : entryFrame m #[(.ref x0)] 1 = mkF m 0 #[.val (.ref x0)] [] := rfl
theorem pn_java_util_AbstractCollection : plainName "java/util/AbstractCollection" = true := by first | (simp [plainName, overriddenIn]; done) | decide +kernel
abbrev c_18 := jdk_22_method_1_code
theorem d18_0 : decode c_18 0 = .ok (.aload_n 0, 1) := by decide +kernel
theorem d18_1 : decode c_18 1 = .ok (.invokespecial 1, 3) := by decide +kernel
theorem d18_4 : decode c_18 4 = .ok (.return_, 1) := by decide +kernel
abbrev yn18 : MethodName := ⟨"java/util/AbstractCollection", "<init>", "()V"⟩
theorem ef_abinit (m : MethodId) (x0 : Addr) : entryFrame m #[(.ref x0)] 1 = mkF m 0 #[.val (.ref x0)] [] := rfl
theorem pn_java_util_AbstractList : plainName "java/util/AbstractList" = true := by first | (simp [plainName, overriddenIn]; done) | decide +kernel
abbrev c_19 := jdk_39_method_1_code
theorem d19_0 : decode c_19 0 = .ok (.aload_n 0, 1) := by decide +kernel
theorem d19_1 : decode c_19 1 = .ok (.invokespecial 1, 3) := by decide +kernel
theorem d19_4 : decode c_19 4 = .ok (.aload_n 0, 1) := by decide +kernel
theorem d19_5 : decode c_19 5 = .ok (.iconst 0, 1) := by decide +kernel
theorem d19_6 : decode c_19 6 = .ok (.putfield 7, 3) := by decide +kernel
theorem d19_9 : decode c_19 9 = .ok (.return_, 1) := by decide +kernel
abbrev yn19 : MethodName := ⟨"java/util/AbstractList", "<init>", "()V"⟩
theorem ef_alinit (m : MethodId) (x0 : Addr) : entryFrame m #[(.ref x0)] 1 = mkF m 0 #[.val (.ref x0)] [] := rfl
theorem pn_java_util_ArrayList : plainName "java/util/ArrayList" = true := by first | (simp [plainName, overriddenIn]; done) | decide +kernel
abbrev c_20 := jdk_38_method_2_code
theorem d20_0 : decode c_20 0 = .ok (.aload_n 0, 1) := by decide +kernel
theorem d20_1 : decode c_20 1 = .ok (.invokespecial 1, 3) := by decide +kernel
theorem d20_4 : decode c_20 4 = .ok (.aload_n 0, 1) := by decide +kernel
theorem d20_5 : decode c_20 5 = .ok (.getstatic 39, 3) := by decide +kernel
theorem d20_8 : decode c_20 8 = .ok (.putfield 9, 3) := by decide +kernel
theorem d20_11 : decode c_20 11 = .ok (.return_, 1) := by decide +kernel
abbrev yn20 : MethodName := ⟨"java/util/ArrayList", "<init>", "()V"⟩
theorem ef_growI (m : MethodId) (x0 : Addr) (x1 : Int32) : entryFrame m #[(.ref x0), (.int x1)] 4 = mkF m 0 #[.val (.ref x0), .val (.int x1), .unset, .unset] [] := rfl
abbrev c_21 := jdk_38_method_6_code
theorem d21_0 : decode c_21 0 = .ok (.aload_n 0, 1) := by decide +kernel
theorem d21_1 : decode c_21 1 = .ok (.getfield 9, 3) := by decide +kernel
theorem d21_4 : decode c_21 4 = .ok (.arraylength, 1) := by decide +kernel
theorem d21_5 : decode c_21 5 = .ok (.istore_n 2, 1) := by decide +kernel
theorem d21_6 : decode c_21 6 = .ok (.iload_n 2, 1) := by decide +kernel
theorem d21_7 : decode c_21 7 = .ok (.ifCond .gt 13, 3) := by decide +kernel
theorem d21_10 : decode c_21 10 = .ok (.aload_n 0, 1) := by decide +kernel
theorem d21_11 : decode c_21 11 = .ok (.getfield 9, 3) := by decide +kernel
theorem d21_14 : decode c_21 14 = .ok (.getstatic 39, 3) := by decide +kernel
theorem d21_17 : decode c_21 17 = .ok (.if_acmp .eq 28, 3) := by decide +kernel
theorem d21_45 : decode c_21 45 = .ok (.aload_n 0, 1) := by decide +kernel
theorem d21_46 : decode c_21 46 = .ok (.bipush 10, 2) := by decide +kernel
theorem d21_48 : decode c_21 48 = .ok (.iload_n 1, 1) := by decide +kernel
theorem d21_49 : decode c_21 49 = .ok (.invokestatic 79, 3) := by decide +kernel
theorem pd11 : parseMethodDescriptor "(II)I" = some ⟨[.int, .int], some .int⟩ := by decide +kernel
theorem d21_52 : decode c_21 52 = .ok (.anewarray 7, 3) := by decide +kernel
theorem d21_55 : decode c_21 55 = .ok (.dup_x1, 1) := by decide +kernel
theorem d21_56 : decode c_21 56 = .ok (.putfield 9, 3) := by decide +kernel
theorem d21_59 : decode c_21 59 = .ok (.areturn, 1) := by decide +kernel
abbrev yn21 : MethodName := ⟨"java/util/ArrayList", "grow", "(I)[Ljava/lang/Object;"⟩
theorem ef_grow (m : MethodId) (x0 : Addr) : entryFrame m #[(.ref x0)] 1 = mkF m 0 #[.val (.ref x0)] [] := rfl
abbrev c_22 := jdk_38_method_7_code
theorem d22_0 : decode c_22 0 = .ok (.aload_n 0, 1) := by decide +kernel
theorem d22_1 : decode c_22 1 = .ok (.aload_n 0, 1) := by decide +kernel
theorem d22_2 : decode c_22 2 = .ok (.getfield 48, 3) := by decide +kernel
theorem d22_5 : decode c_22 5 = .ok (.iconst 1, 1) := by decide +kernel
theorem d22_6 : decode c_22 6 = .ok (.iadd, 1) := by decide +kernel
theorem d22_7 : decode c_22 7 = .ok (.invokevirtual 69, 3) := by decide +kernel
theorem pd12 : parseMethodDescriptor "(I)[Ljava/lang/Object;" = some ⟨[.int], some (.array (.object "java/lang/Object"))⟩ := by decide +kernel
theorem d22_10 : decode c_22 10 = .ok (.areturn, 1) := by decide +kernel
abbrev yn22 : MethodName := ⟨"java/util/ArrayList", "grow", "()[Ljava/lang/Object;"⟩
theorem ef_addA0 (m : MethodId) (x0 : Addr) (x1 : Addr) (x2 : Addr) (x3 : Int32) : entryFrame m #[(.ref x0), (.ref x1), (.ref x2), (.int x3)] 4 = mkF m 0 #[.val (.ref x0), .val (.ref x1), .val (.ref x2), .val (.int x3)] [] := rfl
abbrev c_23 := jdk_38_method_24_code
theorem d23_0 : decode c_23 0 = .ok (.iload_n 3, 1) := by decide +kernel
theorem d23_1 : decode c_23 1 = .ok (.aload_n 2, 1) := by decide +kernel
theorem d23_2 : decode c_23 2 = .ok (.arraylength, 1) := by decide +kernel
theorem d23_3 : decode c_23 3 = .ok (.if_icmp .ne 8, 3) := by decide +kernel
theorem d23_6 : decode c_23 6 = .ok (.aload_n 0, 1) := by decide +kernel
theorem d23_7 : decode c_23 7 = .ok (.invokevirtual 129, 3) := by decide +kernel
theorem pd13 : parseMethodDescriptor "()[Ljava/lang/Object;" = some ⟨[], some (.array (.object "java/lang/Object"))⟩ := by decide +kernel
theorem d23_10 : decode c_23 10 = .ok (.astore_n 2, 1) := by decide +kernel
theorem d23_11 : decode c_23 11 = .ok (.aload_n 2, 1) := by decide +kernel
theorem d23_12 : decode c_23 12 = .ok (.iload_n 3, 1) := by decide +kernel
theorem d23_13 : decode c_23 13 = .ok (.aload_n 1, 1) := by decide +kernel
theorem d23_14 : decode c_23 14 = .ok (.aastore, 1) := by decide +kernel
theorem d23_15 : decode c_23 15 = .ok (.aload_n 0, 1) := by decide +kernel
theorem d23_16 : decode c_23 16 = .ok (.iload_n 3, 1) := by decide +kernel
theorem d23_17 : decode c_23 17 = .ok (.iconst 1, 1) := by decide +kernel
theorem d23_18 : decode c_23 18 = .ok (.iadd, 1) := by decide +kernel
theorem d23_19 : decode c_23 19 = .ok (.putfield 48, 3) := by decide +kernel
theorem d23_22 : decode c_23 22 = .ok (.return_, 1) := by decide +kernel
abbrev yn23 : MethodName := ⟨"java/util/ArrayList", "add", "(Ljava/lang/Object;[Ljava/lang/Object;I)V"⟩
theorem ef_add0 (m : MethodId) (x0 : Addr) (x1 : Addr) : entryFrame m #[(.ref x0), (.ref x1)] 2 = mkF m 0 #[.val (.ref x0), .val (.ref x1)] [] := rfl
abbrev c_24 := jdk_38_method_25_code
theorem d24_0 : decode c_24 0 = .ok (.aload_n 0, 1) := by decide +kernel
theorem d24_1 : decode c_24 1 = .ok (.dup, 1) := by decide +kernel
theorem d24_2 : decode c_24 2 = .ok (.getfield 63, 3) := by decide +kernel
theorem d24_5 : decode c_24 5 = .ok (.iconst 1, 1) := by decide +kernel
theorem d24_6 : decode c_24 6 = .ok (.iadd, 1) := by decide +kernel
theorem d24_7 : decode c_24 7 = .ok (.putfield 63, 3) := by decide +kernel
theorem d24_10 : decode c_24 10 = .ok (.aload_n 0, 1) := by decide +kernel
theorem d24_11 : decode c_24 11 = .ok (.aload_n 1, 1) := by decide +kernel
theorem d24_12 : decode c_24 12 = .ok (.aload_n 0, 1) := by decide +kernel
theorem d24_13 : decode c_24 13 = .ok (.getfield 9, 3) := by decide +kernel
theorem d24_16 : decode c_24 16 = .ok (.aload_n 0, 1) := by decide +kernel
theorem d24_17 : decode c_24 17 = .ok (.getfield 48, 3) := by decide +kernel
theorem d24_20 : decode c_24 20 = .ok (.invokevirtual 131, 3) := by decide +kernel
theorem pd14 : parseMethodDescriptor "(Ljava/lang/Object;[Ljava/lang/Object;I)V" = some ⟨[(.object "java/lang/Object"), (.array (.object "java/lang/Object")), .int], none⟩ := by decide +kernel
theorem d24_23 : decode c_24 23 = .ok (.iconst 1, 1) := by decide +kernel
theorem d24_24 : decode c_24 24 = .ok (.ireturn, 1) := by decide +kernel
abbrev yn24 : MethodName := ⟨"java/util/ArrayList", "add", "(Ljava/lang/Object;)Z"⟩
theorem ef_addAk (m : MethodId) (x0 : Addr) (x1 : Addr) (x2 : Addr) (x3 : Int32) : entryFrame m #[(.ref x0), (.ref x1), (.ref x2), (.int x3)] 4 = mkF m 0 #[.val (.ref x0), .val (.ref x1), .val (.ref x2), .val (.int x3)] [] := rfl
theorem ef_addk (m : MethodId) (x0 : Addr) (x1 : Addr) : entryFrame m #[(.ref x0), (.ref x1)] 2 = mkF m 0 #[.val (.ref x0), .val (.ref x1)] [] := rfl
theorem ef_alsize (m : MethodId) (x0 : Addr) : entryFrame m #[(.ref x0)] 1 = mkF m 0 #[.val (.ref x0)] [] := rfl
abbrev c_25 := jdk_38_method_8_code
theorem d25_0 : decode c_25 0 = .ok (.aload_n 0, 1) := by decide +kernel
theorem d25_1 : decode c_25 1 = .ok (.getfield 48, 3) := by decide +kernel
theorem d25_4 : decode c_25 4 = .ok (.ireturn, 1) := by decide +kernel
abbrev yn25 : MethodName := ⟨"java/util/ArrayList", "size", "()I"⟩
theorem ef_pcheck (m : MethodId) (x0 : Int32) (x1 : Int32) (x2 : Value) (hx2 : x2.category = 1) : entryFrame m #[(.int x0), (.int x1), x2] 3 = mkF m 0 #[.val (.int x0), .val (.int x1), .val x2] [] := by first | (simp [entryFrame, mkF, argsToLocals, Value.category, hx2]; done) | rfl | (cases x2 <;> first | rfl | (simp [Value.category] at hx2))
theorem pn_jdk_internal_util_Preconditions : plainName "jdk/internal/util/Preconditions" = true := by first | (simp [plainName, overriddenIn]; done) | decide +kernel
abbrev c_26 := jdk_41_method_11_code
theorem d26_0 : decode c_26 0 = .ok (.iload_n 0, 1) := by decide +kernel
theorem d26_1 : decode c_26 1 = .ok (.ifCond .lt 8, 3) := by decide +kernel
theorem d26_4 : decode c_26 4 = .ok (.iload_n 0, 1) := by decide +kernel
theorem d26_5 : decode c_26 5 = .ok (.iload_n 1, 1) := by decide +kernel
theorem d26_6 : decode c_26 6 = .ok (.if_icmp .lt 10, 3) := by decide +kernel
theorem d26_16 : decode c_26 16 = .ok (.iload_n 0, 1) := by decide +kernel
theorem d26_17 : decode c_26 17 = .ok (.ireturn, 1) := by decide +kernel
abbrev yn26 : MethodName := ⟨"jdk/internal/util/Preconditions", "checkIndex", "(IILjava/util/function/BiFunction;)I"⟩
theorem ef_ocheck (m : MethodId) (x0 : Int32) (x1 : Int32) : entryFrame m #[(.int x0), (.int x1)] 2 = mkF m 0 #[.val (.int x0), .val (.int x1)] [] := rfl
theorem pn_java_util_Objects : plainName "java/util/Objects" = true := by first | (simp [plainName, overriddenIn]; done) | decide +kernel
abbrev c_27 := jdk_31_method_17_code
theorem d27_0 : decode c_27 0 = .ok (.iload_n 0, 1) := by decide +kernel
theorem d27_1 : decode c_27 1 = .ok (.iload_n 1, 1) := by decide +kernel
theorem d27_2 : decode c_27 2 = .ok (.aconst_null, 1) := by decide +kernel
theorem d27_3 : decode c_27 3 = .ok (.invokestatic 105, 3) := by decide +kernel
theorem pd15 : parseMethodDescriptor "(IILjava/util/function/BiFunction;)I" = some ⟨[.int, .int, (.object "java/util/function/BiFunction")], some .int⟩ := by decide +kernel
theorem d27_6 : decode c_27 6 = .ok (.ireturn, 1) := by decide +kernel
abbrev yn27 : MethodName := ⟨"java/util/Objects", "checkIndex", "(II)I"⟩
theorem ef_eldG (m : MethodId) (x0 : Addr) (x1 : Int32) : entryFrame m #[(.ref x0), (.int x1)] 2 = mkF m 0 #[.val (.ref x0), .val (.int x1)] [] := rfl
abbrev c_28 := jdk_38_method_18_code
theorem d28_0 : decode c_28 0 = .ok (.aload_n 0, 1) := by decide +kernel
theorem d28_1 : decode c_28 1 = .ok (.getfield 9, 3) := by decide +kernel
theorem d28_4 : decode c_28 4 = .ok (.iload_n 1, 1) := by decide +kernel
theorem d28_5 : decode c_28 5 = .ok (.aaload, 1) := by decide +kernel
theorem d28_6 : decode c_28 6 = .ok (.areturn, 1) := by decide +kernel
abbrev yn28 : MethodName := ⟨"java/util/ArrayList", "elementData", "(I)Ljava/lang/Object;"⟩
theorem ef_getG (m : MethodId) (x0 : Addr) (x1 : Int32) : entryFrame m #[(.ref x0), (.int x1)] 2 = mkF m 0 #[.val (.ref x0), .val (.int x1)] [] := rfl
abbrev c_29 := jdk_38_method_20_code
theorem d29_0 : decode c_29 0 = .ok (.iload_n 1, 1) := by decide +kernel
theorem d29_1 : decode c_29 1 = .ok (.aload_n 0, 1) := by decide +kernel
theorem d29_2 : decode c_29 2 = .ok (.getfield 48, 3) := by decide +kernel
theorem d29_5 : decode c_29 5 = .ok (.invokestatic 118, 3) := by decide +kernel
theorem d29_8 : decode c_29 8 = .ok (.pop, 1) := by decide +kernel
theorem d29_9 : decode c_29 9 = .ok (.aload_n 0, 1) := by decide +kernel
theorem d29_10 : decode c_29 10 = .ok (.iload_n 1, 1) := by decide +kernel
theorem d29_11 : decode c_29 11 = .ok (.invokevirtual 123, 3) := by decide +kernel
theorem pd16 : parseMethodDescriptor "(I)Ljava/lang/Object;" = some ⟨[.int], some (.object "java/lang/Object")⟩ := by decide +kernel
theorem d29_14 : decode c_29 14 = .ok (.areturn, 1) := by decide +kernel
abbrev yn29 : MethodName := ⟨"java/util/ArrayList", "get", "(I)Ljava/lang/Object;"⟩
abbrev c_30 := jdk_65_method_117_code
theorem d30_5 : decode c_30 5 = .ok (.iload_n 2, 1) := by decide +kernel
theorem d30_6 : decode c_30 6 = .ok (.iload_n 3, 1) := by decide +kernel
theorem d30_7 : decode c_30 7 = .ok (.if_icmp .ge 13, 3) := by decide +kernel
theorem d30_10 : decode c_30 10 = .ok (.aload_n 0, 1) := by decide +kernel
theorem d30_11 : decode c_30 11 = .ok (.iload_n 2, 1) := by decide +kernel
theorem d30_12 : decode c_30 12 = .ok (.aload_n 1, 1) := by decide +kernel
theorem d30_13 : decode c_30 13 = .ok (.aastore, 1) := by decide +kernel
theorem d30_14 : decode c_30 14 = .ok (.iinc 2 1, 3) := by decide +kernel
theorem d30_17 : decode c_30 17 = .ok (.goto (-12), 3) := by decide +kernel
theorem ef_fill (m : MethodId) (x0 : Addr) (x1 : Addr) : entryFrame m #[(.ref x0), (.ref x1)] 4 = mkF m 0 #[.val (.ref x0), .val (.ref x1), .unset, .unset] [] := rfl
theorem pn_java_util_Arrays : plainName "java/util/Arrays" = true := by first | (simp [plainName, overriddenIn]; done) | decide +kernel
theorem d30_0 : decode c_30 0 = .ok (.iconst 0, 1) := by decide +kernel
theorem d30_1 : decode c_30 1 = .ok (.istore_n 2, 1) := by decide +kernel
theorem d30_2 : decode c_30 2 = .ok (.aload_n 0, 1) := by decide +kernel
theorem d30_3 : decode c_30 3 = .ok (.arraylength, 1) := by decide +kernel
theorem d30_4 : decode c_30 4 = .ok (.istore_n 3, 1) := by decide +kernel
theorem d30_20 : decode c_30 20 = .ok (.return_, 1) := by decide +kernel
abbrev yn30 : MethodName := ⟨"java/util/Arrays", "fill", "([Ljava/lang/Object;Ljava/lang/Object;)V"⟩
abbrev c_31 := prog_2_method_2_code
theorem d31_25 : decode c_31 25 = .ok (.iload 5, 2) := by decide +kernel
theorem d31_27 : decode c_31 27 = .ok (.iload_n 3, 1) := by decide +kernel
theorem d31_28 : decode c_31 28 = .ok (.if_icmp .ge 35, 3) := by decide +kernel
theorem d31_31 : decode c_31 31 = .ok (.aload 4, 2) := by decide +kernel
theorem d31_33 : decode c_31 33 = .ok (.iload 5, 2) := by decide +kernel
theorem d31_35 : decode c_31 35 = .ok (.iconst 1, 1) := by decide +kernel
theorem d31_36 : decode c_31 36 = .ok (.iadd, 1) := by decide +kernel
theorem d31_37 : decode c_31 37 = .ok (.aload 4, 2) := by decide +kernel
theorem d31_39 : decode c_31 39 = .ok (.iload 5, 2) := by decide +kernel
theorem d31_41 : decode c_31 41 = .ok (.aaload, 1) := by decide +kernel
theorem d31_42 : decode c_31 42 = .ok (.aload_n 0, 1) := by decide +kernel
theorem d31_43 : decode c_31 43 = .ok (.iload 5, 2) := by decide +kernel
theorem d31_45 : decode c_31 45 = .ok (.invokeinterface 19 2, 5) := by decide +kernel
abbrev yn31 : MethodName := ⟨"java/util/List", "get", "(I)Ljava/lang/Object;"⟩
theorem d31_50 : decode c_31 50 = .ok (.checkcast 13, 3) := by decide +kernel
theorem d31_53 : decode c_31 53 = .ok (.invokevirtual 23, 3) := by decide +kernel
theorem pd17 : parseMethodDescriptor "(Ljava/math/BigDecimal;)Ljava/math/BigDecimal;" = some ⟨[(.object "java/math/BigDecimal")], some (.object "java/math/BigDecimal")⟩ := by decide +kernel
theorem d31_56 : decode c_31 56 = .ok (.aastore, 1) := by decide +kernel
theorem d31_57 : decode c_31 57 = .ok (.iinc 5 1, 3) := by decide +kernel
theorem d31_60 : decode c_31 60 = .ok (.goto (-35), 3) := by decide +kernel
theorem d31_102 : decode c_31 102 = .ok (.iload 8, 2) := by decide +kernel
theorem d31_104 : decode c_31 104 = .ok (.iload_n 3, 1) := by decide +kernel
theorem d31_105 : decode c_31 105 = .ok (.if_icmp .gt 68, 3) := by decide +kernel
theorem d31_108 : decode c_31 108 = .ok (.aload 5, 2) := by decide +kernel
theorem d31_110 : decode c_31 110 = .ok (.iload 8, 2) := by decide +kernel
theorem d31_112 : decode c_31 112 = .ok (.iload_n 2, 1) := by decide +kernel
theorem d31_113 : decode c_31 113 = .ok (.isub, 1) := by decide +kernel
theorem d31_114 : decode c_31 114 = .ok (.aaload, 1) := by decide +kernel
theorem d31_115 : decode c_31 115 = .ok (.aload 4, 2) := by decide +kernel
theorem d31_117 : decode c_31 117 = .ok (.iload 8, 2) := by decide +kernel
theorem d31_119 : decode c_31 119 = .ok (.aaload, 1) := by decide +kernel
theorem d31_120 : decode c_31 120 = .ok (.aload 4, 2) := by decide +kernel
theorem d31_122 : decode c_31 122 = .ok (.iload 8, 2) := by decide +kernel
theorem d31_124 : decode c_31 124 = .ok (.iload_n 2, 1) := by decide +kernel
theorem d31_125 : decode c_31 125 = .ok (.isub, 1) := by decide +kernel
theorem d31_126 : decode c_31 126 = .ok (.aaload, 1) := by decide +kernel
theorem d31_127 : decode c_31 127 = .ok (.invokevirtual 33, 3) := by decide +kernel
theorem d31_130 : decode c_31 130 = .ok (.invokevirtual 23, 3) := by decide +kernel
theorem d31_133 : decode c_31 133 = .ok (.astore 9, 2) := by decide +kernel
theorem d31_135 : decode c_31 135 = .ok (.aload 7, 2) := by decide +kernel
theorem d31_137 : decode c_31 137 = .ok (.iload 8, 2) := by decide +kernel
theorem d31_139 : decode c_31 139 = .ok (.aload 7, 2) := by decide +kernel
theorem d31_141 : decode c_31 141 = .ok (.iload 8, 2) := by decide +kernel
theorem d31_143 : decode c_31 143 = .ok (.iconst 1, 1) := by decide +kernel
theorem d31_144 : decode c_31 144 = .ok (.isub, 1) := by decide +kernel
theorem d31_145 : decode c_31 145 = .ok (.aaload, 1) := by decide +kernel
theorem d31_146 : decode c_31 146 = .ok (.ifnonnull 8, 3) := by decide +kernel
theorem d31_149 : decode c_31 149 = .ok (.aload 9, 2) := by decide +kernel
theorem d31_151 : decode c_31 151 = .ok (.goto 15, 3) := by decide +kernel
theorem d31_166 : decode c_31 166 = .ok (.aastore, 1) := by decide +kernel
theorem d31_167 : decode c_31 167 = .ok (.iinc 8 1, 3) := by decide +kernel
theorem d31_170 : decode c_31 170 = .ok (.goto (-68), 3) := by decide +kernel
theorem d31_154 : decode c_31 154 = .ok (.aload 7, 2) := by decide +kernel
theorem d31_156 : decode c_31 156 = .ok (.iload 8, 2) := by decide +kernel
theorem d31_158 : decode c_31 158 = .ok (.iconst 1, 1) := by decide +kernel
theorem d31_159 : decode c_31 159 = .ok (.isub, 1) := by decide +kernel
theorem d31_160 : decode c_31 160 = .ok (.aaload, 1) := by decide +kernel
theorem d31_161 : decode c_31 161 = .ok (.aload 9, 2) := by decide +kernel
theorem d31_163 : decode c_31 163 = .ok (.invokevirtual 36, 3) := by decide +kernel
theorem d31_82 : decode c_31 82 = .ok (.iload 6, 2) := by decide +kernel
theorem d31_84 : decode c_31 84 = .ok (.iload_n 1, 1) := by decide +kernel
theorem d31_85 : decode c_31 85 = .ok (.if_icmp .gt 98, 3) := by decide +kernel
theorem d31_88 : decode c_31 88 = .ok (.iload_n 3, 1) := by decide +kernel
theorem d31_89 : decode c_31 89 = .ok (.iconst 1, 1) := by decide +kernel
theorem d31_90 : decode c_31 90 = .ok (.iadd, 1) := by decide +kernel
theorem d31_91 : decode c_31 91 = .ok (.anewarray 13, 3) := by decide +kernel
theorem d31_94 : decode c_31 94 = .ok (.astore 7, 2) := by decide +kernel
theorem d31_96 : decode c_31 96 = .ok (.iload 6, 2) := by decide +kernel
theorem d31_98 : decode c_31 98 = .ok (.iload_n 2, 1) := by decide +kernel
theorem d31_99 : decode c_31 99 = .ok (.imul, 1) := by decide +kernel
theorem d31_100 : decode c_31 100 = .ok (.istore 8, 2) := by decide +kernel
theorem ef_tot0 (m : MethodId) (x0 : Addr) (x1 : Int32) (x2 : Int32) : entryFrame m #[(.ref x0), (.int x1), (.int x2)] 10 = mkF m 0 #[.val (.ref x0), .val (.int x1), .val (.int x2), .unset, .unset, .unset, .unset, .unset, .unset, .unset] [] := rfl
theorem pn_com_example_vestline_vestline_finalaveragepay_BestPeriods : plainName "com/example/vestline/vestline/finalaveragepay/BestPeriods" = true := by first | (simp [plainName, overriddenIn]; done) | decide +kernel
theorem d31_0 : decode c_31 0 = .ok (.aload_n 0, 1) := by decide +kernel
theorem d31_1 : decode c_31 1 = .ok (.invokeinterface 7 1, 5) := by decide +kernel
theorem pd18 : parseMethodDescriptor "()I" = some ⟨[], some .int⟩ := by decide +kernel
abbrev yn32 : MethodName := ⟨"java/util/List", "size", "()I"⟩
theorem d31_6 : decode c_31 6 = .ok (.istore_n 3, 1) := by decide +kernel
theorem d31_7 : decode c_31 7 = .ok (.iload_n 3, 1) := by decide +kernel
theorem d31_8 : decode c_31 8 = .ok (.iconst 1, 1) := by decide +kernel
theorem d31_9 : decode c_31 9 = .ok (.iadd, 1) := by decide +kernel
theorem d31_10 : decode c_31 10 = .ok (.anewarray 13, 3) := by decide +kernel
theorem d31_13 : decode c_31 13 = .ok (.astore 4, 2) := by decide +kernel
theorem d31_15 : decode c_31 15 = .ok (.aload 4, 2) := by decide +kernel
theorem d31_17 : decode c_31 17 = .ok (.iconst 0, 1) := by decide +kernel
theorem d31_18 : decode c_31 18 = .ok (.getstatic 15, 3) := by decide +kernel
theorem d31_21 : decode c_31 21 = .ok (.aastore, 1) := by decide +kernel
theorem d31_22 : decode c_31 22 = .ok (.iconst 0, 1) := by decide +kernel
theorem d31_23 : decode c_31 23 = .ok (.istore 5, 2) := by decide +kernel
theorem d31_63 : decode c_31 63 = .ok (.iload_n 3, 1) := by decide +kernel
theorem d31_64 : decode c_31 64 = .ok (.iconst 1, 1) := by decide +kernel
theorem d31_65 : decode c_31 65 = .ok (.iadd, 1) := by decide +kernel
theorem d31_66 : decode c_31 66 = .ok (.anewarray 13, 3) := by decide +kernel
theorem d31_69 : decode c_31 69 = .ok (.astore 5, 2) := by decide +kernel
theorem d31_71 : decode c_31 71 = .ok (.aload 5, 2) := by decide +kernel
theorem d31_73 : decode c_31 73 = .ok (.getstatic 15, 3) := by decide +kernel
theorem d31_76 : decode c_31 76 = .ok (.invokestatic 27, 3) := by decide +kernel
theorem pd19 : parseMethodDescriptor "([Ljava/lang/Object;Ljava/lang/Object;)V" = some ⟨[(.array (.object "java/lang/Object")), (.object "java/lang/Object")], none⟩ := by decide +kernel
theorem d31_79 : decode c_31 79 = .ok (.iconst 1, 1) := by decide +kernel
theorem d31_80 : decode c_31 80 = .ok (.istore 6, 2) := by decide +kernel
theorem d31_183 : decode c_31 183 = .ok (.aload 5, 2) := by decide +kernel
theorem d31_185 : decode c_31 185 = .ok (.iload_n 3, 1) := by decide +kernel
theorem d31_186 : decode c_31 186 = .ok (.aaload, 1) := by decide +kernel
theorem d31_187 : decode c_31 187 = .ok (.areturn, 1) := by decide +kernel
abbrev yn33 : MethodName := ⟨"com/example/vestline/vestline/finalaveragepay/BestPeriods", "total", "(Ljava/util/List;II)Ljava/math/BigDecimal;"⟩
theorem ef_tot1 (m : MethodId) (x0 : Addr) (x1 : Int32) (x2 : Int32) : entryFrame m #[(.ref x0), (.int x1), (.int x2)] 10 = mkF m 0 #[.val (.ref x0), .val (.int x1), .val (.int x2), .unset, .unset, .unset, .unset, .unset, .unset, .unset] [] := rfl
theorem d31_173 : decode c_31 173 = .ok (.aload 7, 2) := by decide +kernel
theorem d31_175 : decode c_31 175 = .ok (.astore 5, 2) := by decide +kernel
theorem d31_177 : decode c_31 177 = .ok (.iinc 6 1, 3) := by decide +kernel
theorem d31_180 : decode c_31 180 = .ok (.goto (-98), 3) := by decide +kernel
theorem ef_tot2 (m : MethodId) (x0 : Addr) (x1 : Int32) (x2 : Int32) : entryFrame m #[(.ref x0), (.int x1), (.int x2)] 10 = mkF m 0 #[.val (.ref x0), .val (.int x1), .val (.int x2), .unset, .unset, .unset, .unset, .unset, .unset, .unset] [] := rfl
theorem ef_tot3 (m : MethodId) (x0 : Addr) (x1 : Int32) (x2 : Int32) : entryFrame m #[(.ref x0), (.int x1), (.int x2)] 10 = mkF m 0 #[.val (.ref x0), .val (.int x1), .val (.int x2), .unset, .unset, .unset, .unset, .unset, .unset, .unset] [] := rfl
theorem ef_tot4 (m : MethodId) (x0 : Addr) (x1 : Int32) (x2 : Int32) : entryFrame m #[(.ref x0), (.int x1), (.int x2)] 10 = mkF m 0 #[.val (.ref x0), .val (.int x1), .val (.int x2), .unset, .unset, .unset, .unset, .unset, .unset, .unset] [] := rfl
theorem pd20 : parseMethodDescriptor "([JIII)J" = some ⟨[(.array .long), .int, .int, .int], some .long⟩ := by decide +kernel
theorem ef_law (m : MethodId) (x0 : Int32) (x1 : Int32) (x2 : Int32) (x3 : Int32) (x4 : Int32) : entryFrame m #[(.int x0), (.int x1), (.int x2), (.int x3), (.int x4)] maxLocals = mkF m 0 #[.val (.int x0), .val (.int x1), .val (.int x2), .val (.int x3), .val (.int x4), .unset, .unset, .unset, .unset, .unset, .unset, .unset, .unset] [] := rfl
theorem pd21 : parseMethodDescriptor "(Ljava/util/List;II)Ljava/math/BigDecimal;" = some ⟨[(.object "java/util/List"), .int, .int], some (.object "java/math/BigDecimal")⟩ := by decide +kernel
theorem pd22 : parseMethodDescriptor "(Ljava/lang/Object;)Z" = some ⟨[(.object "java/lang/Object")], some .boolean⟩ := by decide +kernel
theorem own_i {n : Nat} (h : n < 2147483648) : (Int32.ofNat n).toInt = n := len_toInt h
theorem own_lt {i n : Nat} (h : i < n) (hn : n < 2147483648) : Int32.ofNat i < Int32.ofNat n := by
  rw [Int32.lt_iff_toInt_lt, own_i (Nat.lt_trans h hn), own_i hn]; omega
theorem own_nlt {i n : Nat} (h : n ≤ i) (hi : i < 2147483648) : ¬ (Int32.ofNat i < Int32.ofNat n) := by
  rw [Int32.lt_iff_toInt_lt, own_i hi, own_i (Nat.lt_of_le_of_lt h hi)]; omega
theorem own_nneg {i : Nat} (hi : i < 2147483648) : ¬ (Int32.ofNat i < (0 : Int32)) := by
  rw [Int32.lt_iff_toInt_lt, own_i hi]; have : (0 : Int32).toInt = 0 := rfl; omega
theorem own_cl {i : Nat} (hi : i < 2147483648) : (Int32.ofNat i).toNatClampNeg = i := by
  have h := own_i hi; simp only [Int32.toNatClampNeg, h]; omega
theorem own_succ (i : Nat) : Int32.ofNat i + (1 : Int32) = Int32.ofNat (i + 1) := (Int32.ofNat_add i 1).symm
theorem own_neq {i n : Nat} (h : i ≠ n) (hi : i < 2147483648) (hn : n < 2147483648) : ¬ (Int32.ofNat i = Int32.ofNat n) := fun q => by
  have q := congrArg Int32.toInt q; rw [own_i hi, own_i hn] at q; omega
theorem own_sub {i n : Nat} (h : i ≤ n) (hn : n < 2147483648) : Int32.ofNat n - Int32.ofNat i = Int32.ofNat (n - i) := by
  apply Int32.toInt_inj.mp
  have s := c_isub (Int32.ofNat n) (Int32.ofNat i); have r := rng32 (Int32.ofNat n - Int32.ofNat i)
  rw [own_i hn, own_i (by omega)] at s; rw [own_i (by omega)]; omega
theorem Arv.push {Z : State} {h h' : Heap} {a : Addr} {c : Cell} {k : ClassId} {ty : FieldType} {z j : Int32} {vs : List Value} {dv v : Value} (A : Arr Z h a c ty) (q1 : c.cls = k) (S : c.slots.size = z.toNatClampNeg) (q3 : ¬ z < 0) (H : Has c vs dv) (G : ∀ i, i < c.slots.size → fits ty (vs.getD i dv) = true) (hv : fits ty v = true) (W : Wr h h' a j.toNatClampNeg v) (hj : j.toNatClampNeg = vs.length) : Arv Z h' a k ty z (vs ++ [v]) dv := by
  have F : Arv Z h a k ty z (vs ++ List.replicate 1 dv) dv := Arv.pad ⟨c, A, q1, S, q3, H, G⟩ (pad_rep vs dv 1)
  obtain ⟨c', A', r1, r2, r3, H', G'⟩ := F
  have R := Arv.set A' r1 r2 r3 H' G' hv W vs.length hj (by simp)
  have e : (vs ++ List.replicate 1 dv).set vs.length v = vs ++ [v] := by simp
  rw [e] at R; exact R
theorem nb {a b : Nat} (h : Nat.ble a b = true) : a ≤ b := Nat.le_of_ble_eq_true h
def BD (Z : State) (h : Heap) (x : Addr) (v : Int64) : Prop := Exa Z h x "java/math/BigDecimal" ∧ Fld Z h x "java/math/BigDecimal" "scale" "I" (.int (0 : Int32)) ∧ Fld Z h x "java/math/BigDecimal" "intCompact" "J" (.long v)
theorem BD.lt {Z : State} {h : Heap} {x : Addr} {v : Int64} (S : BD Z h x v) : x < h.size := S.1.lt
theorem BD.keep {Z : State} {h h' : Heap} {x : Addr} {v : Int64} {ws : List Addr} (S : BD Z h x v) (K : Keep h h' ws) (q : x ∉ ws) : BD Z h' x v := ⟨S.1.keep K, S.2.1.keep K q, S.2.2.keep K q⟩
theorem BD.ext {Z : State} {h h' : Heap} {x : Addr} {v : Int64} (S : BD Z h x v) (E : Ext h h') : BD Z h' x v := ⟨S.1.ext E, S.2.1.ext E, S.2.2.ext E⟩
def Bn (k : Nat) (x : Int64) : Prop := -((k : Int) * 2147483648) ≤ x.toInt ∧ x.toInt ≤ (k : Int) * 2147483648
theorem Bn.mono {k k' : Nat} {x : Int64} (h : Bn k x) (hk : k ≤ k') : Bn k' x := by unfold Bn at *; omega
theorem Bn.add {k1 k2 : Nat} {x y v : Int64} (hX : Bn k1 x) (hY : Bn k2 y) (e : v.toInt = x.toInt + y.toInt) : Bn (k1 + k2) v := by unfold Bn at *; omega
theorem Bn.sub {k1 k2 : Nat} {x y v : Int64} (hX : Bn k1 x) (hY : Bn k2 y) (e : v.toInt = x.toInt - y.toInt) : Bn (k1 + k2) v := by unfold Bn at *; omega
theorem Bn.or {k : Nat} {x y v : Int64} (hX : Bn k x) (hY : Bn k y) (e : v.toInt = x.toInt ∨ v.toInt = y.toInt) : Bn k v := by unfold Bn at *; omega
theorem own_bd0 : Bn 0 (0 : Int64) := by unfold Bn; decide
theorem own_bd32 (x : Int32) : Bn 1 x.toInt64 := by
  have e : x.toInt64.toInt = x.toInt := Int32.toInt_toInt64 x; have r := rng32 x; unfold Bn; rw [e]; omega
theorem own_min64 : ((-9223372036854775808 : Int64)).toInt = -9223372036854775808 := by decide
theorem own_nmin {k : Nat} {x : Int64} (h : Bn k x) (hk : k ≤ 1000) : ¬ (x = (-9223372036854775808 : Int64)) := fun e => by
  have m := own_min64; rw [← e] at m; unfold Bn at h; omega
theorem own_tadd {x y : Int64} (hX : Bn 100 x) (hY : Bn 100 y) : (x + y).toInt = x.toInt + y.toInt := by
  have e := c_ladd x y; have b1 := (x + y).toInt_lt; have b2 := (x + y).le_toInt; unfold Bn at *; omega
theorem own_tsub {x y : Int64} (hX : Bn 100 x) (hY : Bn 100 y) : (x - y).toInt = x.toInt - y.toInt := by
  have e := c_lsub x y; have b1 := (x - y).toInt_lt; have b2 := (x - y).le_toInt; unfold Bn at *; omega
theorem own_tneg {y : Int64} (hY : Bn 100 y) : (-y).toInt = -y.toInt := by
  have e := own_tsub (x := 0) (Bn.mono own_bd0 (by decide)) hY; have z : (0 : Int64).toInt = 0 := rfl
  rw [Int64.zero_sub] at e; omega
theorem own_bneg {k : Nat} {y : Int64} (h : Bn k y) (hk : k ≤ 100) : Bn k (-y) := by
  have e := own_tneg (h.mono hk); unfold Bn at *; omega
theorem own_sg (x : Int64) : x < (0 : Int64) ↔ x.toBitVec.msb = true := by
  rw [Int64.lt_iff_toInt_lt, BitVec.msb_eq_toInt, decide_eq_true_iff]; exact Iff.rfl
theorem own_novf {x y : Int64} (hX : Bn 100 x) (hY : Bn 100 y) : ¬ ((((x + y) ^^^ x) &&& ((x + y) ^^^ y)) < (0 : Int64)) := by
  have e := own_tadd hX hY; have z : (0 : Int64).toInt = 0 := rfl
  have a := own_sg (x + y); have b := own_sg x; have c := own_sg y
  rw [Int64.lt_iff_toInt_lt] at a b c
  rw [own_sg]
  show ¬ (((x + y).toBitVec ^^^ x.toBitVec) &&& ((x + y).toBitVec ^^^ y.toBitVec)).msb = true
  rw [BitVec.msb_and, BitVec.msb_xor, BitVec.msb_xor]
  generalize (x + y).toBitVec.msb = p at *; generalize x.toBitVec.msb = q at *; generalize y.toBitVec.msb = r at *
  cases p <;> cases q <;> cases r <;> simp at * <;> omega
theorem own_cmp0 {x y : Int64} (h : x = y) : (if x = y then (0 : Int32) else (if y < x then (1 : Int32) else (-1 : Int32))) = (0 : Int32) := if_pos h
theorem own_cmpl {x y : Int64} : (if x = y then (0 : Int32) else (if y < x then (1 : Int32) else (-1 : Int32))) < (0 : Int32) → x.toInt ≤ y.toInt := by
  intro h
  by_cases q : x = y
  · rw [q]; exact Int.le_refl _
  · rw [if_neg q] at h
    by_cases r : y < x
    · rw [if_pos r] at h; exact absurd h (by decide)
    · rw [Int64.lt_iff_toInt_lt] at r; omega
theorem own_cmpg {x y : Int64} : ¬ ((if x = y then (0 : Int32) else (if y < x then (1 : Int32) else (-1 : Int32))) < (0 : Int32)) → y.toInt ≤ x.toInt := by
  intro h
  by_cases q : x = y
  · rw [q]; exact Int.le_refl _
  · rw [if_neg q] at h
    by_cases r : y < x
    · rw [Int64.lt_iff_toInt_lt] at r; omega
    · rw [if_neg r] at h; exact absurd (by decide) h
theorem own_lmI {a b : Int64} {s : Int} (e : b.toInt = s) : ((if a < b then b else a).toInt = a.toInt ∨ (if a < b then b else a).toInt = s) ∧ a.toInt ≤ (if a < b then b else a).toInt ∧ s ≤ (if a < b then b else a).toInt := by
  by_cases q : a < b
  · rw [if_pos q]; rw [Int64.lt_iff_toInt_lt] at q; omega
  · rw [if_neg q]; rw [Int64.lt_iff_toInt_lt] at q; omega
theorem own_lmN {a b : Int64} : ((if b < a then b else a).toInt = a.toInt ∨ (if b < a then b else a).toInt = b.toInt) ∧ (if b < a then b else a).toInt ≤ a.toInt ∧ (if b < a then b else a).toInt ≤ b.toInt := by
  by_cases q : b < a
  · rw [if_pos q]; rw [Int64.lt_iff_toInt_lt] at q; omega
  · rw [if_neg q]; rw [Int64.lt_iff_toInt_lt] at q; omega
theorem own_w1 {a : Int64} (ha : Bn 1 a) : ((0 : Int64) + a).toInt = a.toInt ∧ Bn 1 ((0 : Int64) + a) := by
  have e := own_tadd (x := 0) (Bn.mono own_bd0 (by decide)) (ha.mono (by decide)); have z : (0 : Int64).toInt = 0 := rfl
  have e' : ((0 : Int64) + a).toInt = a.toInt := by omega
  exact ⟨e', by unfold Bn at *; omega⟩
theorem own_w2 {a b : Int64} {k : Nat} (ha : Bn k a) (hb : Bn 1 b) (hk : k ≤ 90) : (a + b).toInt = a.toInt + b.toInt ∧ Bn (k + 1) (a + b) := by
  have e := own_tadd (ha.mono (show k ≤ 100 by omega)) (hb.mono (by decide)); exact ⟨e, Bn.add ha hb e⟩
def IsM (v : Int) (l : List Int) : Prop := v ∈ l ∧ ∀ m ∈ l, m ≤ v
theorem IsM.unique {v w : Int} {l : List Int} (h : IsM v l) (g : IsM w l) : v = w := Int.le_antisymm (g.2 _ h.1) (h.2 _ g.1)
theorem own_mapr (zl : List Addr) (i : Nat) (h : i < zl.length) : (zl.map Value.ref).getD i .null = .ref (zl.getD i 0) := by simp [List.getD_eq_getElem?_getD, h]
theorem own_z11 {v : Int64} (h0 : ¬ (v < (0 : Int64))) (h1 : v < (11 : Int64)) : (¬ (v.toInt32 < (0 : Int32)) ∧ v.toInt32 < (11 : Int32)) ∧ v.toInt32.toNatClampNeg = v.toInt.toNat ∧ v.toInt.toNat < 11 ∧ Int64.ofNat v.toInt.toNat = v := by
  have z : (0 : Int64).toInt = 0 := rfl; have y : (11 : Int64).toInt = 11 := rfl
  rw [Int64.lt_iff_toInt_lt] at h0 h1
  have q : v.toInt = 0 ∨ v.toInt = 1 ∨ v.toInt = 2 ∨ v.toInt = 3 ∨ v.toInt = 4 ∨ v.toInt = 5 ∨ v.toInt = 6 ∨ v.toInt = 7 ∨ v.toInt = 8 ∨ v.toInt = 9 ∨ v.toInt = 10 := by omega
  rcases q with e | e | e | e | e | e | e | e | e | e | e
  · obtain rfl : v = (0 : Int64) := Int64.toInt_inj.mp (e.trans rfl)
    decide
  · obtain rfl : v = (1 : Int64) := Int64.toInt_inj.mp (e.trans rfl)
    decide
  · obtain rfl : v = (2 : Int64) := Int64.toInt_inj.mp (e.trans rfl)
    decide
  · obtain rfl : v = (3 : Int64) := Int64.toInt_inj.mp (e.trans rfl)
    decide
  · obtain rfl : v = (4 : Int64) := Int64.toInt_inj.mp (e.trans rfl)
    decide
  · obtain rfl : v = (5 : Int64) := Int64.toInt_inj.mp (e.trans rfl)
    decide
  · obtain rfl : v = (6 : Int64) := Int64.toInt_inj.mp (e.trans rfl)
    decide
  · obtain rfl : v = (7 : Int64) := Int64.toInt_inj.mp (e.trans rfl)
    decide
  · obtain rfl : v = (8 : Int64) := Int64.toInt_inj.mp (e.trans rfl)
    decide
  · obtain rfl : v = (9 : Int64) := Int64.toInt_inj.mp (e.trans rfl)
    decide
  · obtain rfl : v = (10 : Int64) := Int64.toInt_inj.mp (e.trans rfl)
    decide
def Q_numinit (Z : State) (a : Addr) (h0 : Heap) (n0 : Nat) (vQ_ : Option Value) (hQ_ : Heap) (LQ_ : List Loc) : Prop := vQ_ = none ∧ Fr n0 LQ_ ∧ hQ_ = h0
theorem rm_numinit (l : Launch) (Z : State) (a0 : Array Value) (hw : HW a0 Z) (ws : List Jvm.Cond) (a : Addr) (h0 : Heap) (n0 : Nat) (Z0 : n0 ≤ h0.size)  :
    CT l yn0 (Jvm.Cond.code yn0 jdk_18_method_1_code 1 none :: ws) (⟨1, 0, 0, 12⟩ : Room) #[(.ref a)] Z h0 (Q_numinit Z a h0 n0) := by
  refine MetFree.of_bodySF (plainFor_of_name pn_java_lang_Number) hisR ?_
  intro p e s m args below meth cO s₁ Bd hml hP hK
  obtain ⟨rfl, hZ, hh⟩ := hP
  have hx := Bd.exec
  have hby := Bd.bytes
  have hown : s.vm.findClass "java/lang/Number" = some m.cls := findClass_of_methodNamed Bd.named
  have hnm := (name_of_methodNamed Bd.named Bd.method).1
  have X0 : Stand p l e (⟨1, 0, 0, 12⟩ : Room) s m #[(.ref a)] below meth cO s₁ [] 0 0 := Stand.of_body Bd
  have e0 : s₁.heap = h0 := by rw [← hh, Bd.state]; rfl
  have N0 := Fr.nil n0
  have D_ : ∀ {i : Nat} {x}, decode jdk_18_method_1_code i = x → decode cO.code i = x := fun h => hb hby h
  have W0 : ∀ zQ, SS p e below s₁ m 0 #[.val (.ref a)] [] zQ → Steps p.tables e below (s₁.setTop (entryFrame m #[(.ref a)] 1)) zQ := fun tt kt => castTop (ef_numinit m a) kt
  obtain ⟨T101, X101, e101, st101⟩ := initO X0 hx hZ hown (w148 hw) (w20 hw) (w21 hw) e0 (g := (mkF m 1 #[.val (.ref a)] [(.ref a)])) rfl (by rw [hml]; rfl) rfl (D_ d0_1) (by decide) (W := 0) (by show 2 * 0 + _ ≤ _; exact Nat.le_of_eq rfl) (by decide)
  have W102 : ∀ zQ, SS p e below T101 m 4 #[.val (.ref a)] [] zQ → Steps p.tables e below (s₁.setTop (entryFrame m #[(.ref a)] 1)) zQ := by
    intro tt kt
    refine W0 tt ?_
    refine XS.aloadN X0.here hx rfl (D_ d0_0) rfl rfl ?_
    refine st101 _ ?_
    exact kt
  obtain ⟨fs, hr, hrun, hended, hW, hsame⟩ := X101.leave (v := none) (fun _ => rfl)
  refine ⟨_, _, W102 _ (X101.returnOut hx Bd.returns (D_ d0_4) hr), hrun, hended, _, _, rfl, ?_, ⟨_, rfl⟩, hW, hsame.mono (by decide) (by decide)⟩
  show Q_numinit Z a h0 n0 _ T101.heap _
  rw [e101]
  exact ⟨rfl, N0, rfl⟩
def Q_bdinit (Z : State) (a : Addr) (v : Int64) (h0 : Heap) (n0 : Nat) (vQ_ : Option Value) (hQ_ : Heap) (LQ_ : List Loc) : Prop := vQ_ = none ∧ Fr n0 LQ_ ∧ Keep h0 hQ_ [a] ∧ Fld Z hQ_ a "java/math/BigDecimal" "scale" "I" (.int (0 : Int32)) ∧ Fld Z hQ_ a "java/math/BigDecimal" "intCompact" "J" (.long v)
theorem rm_bdinit (l : Launch) (Z : State) (a0 : Array Value) (hw : HW a0 Z) (ws : List Jvm.Cond) (a : Addr) (v : Int64) (h0 : Heap) (n0 : Nat) (Z0 : n0 ≤ h0.size) (E1 : Exa Z h0 a "java/math/BigDecimal") (F0 : Fld Z h0 a "java/math/BigDecimal" "scale" "I" (.int (0 : Int32))) (F1 : Fld Z h0 a "java/math/BigDecimal" "precision" "I" (.int (0 : Int32))) (F2 : Fld Z h0 a "java/math/BigDecimal" "intCompact" "J" (.long (0 : Int64))) (F3 : Fld Z h0 a "java/math/BigDecimal" "intVal" "Ljava/math/BigInteger;" .null) (g1 : n0 ≤ a) :
    CT l yn1 (Jvm.Cond.code yn1 jdk_17_method_1_code 6 none :: ws) (⟨2, 0, 0, 24⟩ : Room) #[(.ref a), .null, (.long v), (.int (0 : Int32)), (.int (0 : Int32))] Z h0 (Q_bdinit Z a v h0 n0) := by
  refine MetFree.of_bodySF (plainFor_of_name pn_java_math_BigDecimal) hisR ?_
  intro p e s m args below meth cO s₁ Bd hml hP hK
  obtain ⟨rfl, hZ, hh⟩ := hP
  have hx := Bd.exec
  have hby := Bd.bytes
  have hown : s.vm.findClass "java/math/BigDecimal" = some m.cls := findClass_of_methodNamed Bd.named
  have hnm := (name_of_methodNamed Bd.named Bd.method).1
  have X0 : Stand p l e (⟨2, 0, 0, 24⟩ : Room) s m #[(.ref a), .null, (.long v), (.int (0 : Int32)), (.int (0 : Int32))] below meth cO s₁ [] 0 0 := Stand.of_body Bd
  have e0 : s₁.heap = h0 := by rw [← hh, Bd.state]; rfl
  have N0 := Fr.nil n0
  have D_ : ∀ {i : Nat} {x}, decode jdk_17_method_1_code i = x → decode cO.code i = x := fun h => hb hby h
  have W0 : ∀ zQ, SS p e below s₁ m 0 #[.val (.ref a), .val .null, .val (.long v), .second, .val (.int (0 : Int32)), .val (.int (0 : Int32))] [] zQ → Steps p.tables e below (s₁.setTop (entryFrame m #[(.ref a), .null, (.long v), (.int (0 : Int32)), (.int (0 : Int32))] 6)) zQ := fun tt kt => castTop (ef_bdinit m a v (0 : Int32) (0 : Int32)) kt
  obtain ⟨_, _, ⟨T101, L101, k101, n101⟩, -, X101, ⟨Lc101, hQ101, l101, y101, z101⟩, st101⟩ := X0.specialBack hx (y := yn0) rfl hown (mvT hZ (w142 hw)) (mvT hZ (w143 hw)) (mvT hZ (w147 hw)) (by decide) (backOf (W := 0) (rm_numinit l Z a0 hw [] a h0 n0 Z0 ) hZ (w147 hw) (w146 hw) (by decide) (by decide)) (g := (mkF m 1 #[.val (.ref a), .val .null, .val (.long v), .second, .val (.int (0 : Int32)), .val (.int (0 : Int32))] [(.ref a)])) rfl (by rw [hml]; rfl) (Steps.refl _) (a := a) (argsL := []) (rest := []) (lenOf pd0 rfl) rfl (wq rfl) (D_ d1_1) (fun _ _ => ⟨rfl, e0, (nb rfl), (nb rfl)⟩)
  dsimp only [Pt.U, Pt.locs, Pt.cells, Pt.slots] at X101 l101 y101 z101 st101 hQ101
  subst l101 y101 z101
  obtain ⟨rfl, Nq101, eq101⟩ := hQ101
  have N101 := Fr.app N0 Nq101
  obtain ⟨T102, h102, X102, e102, Wr102, st102⟩ := putF X101 hx hZ hown (host := "") (Or.inl (w64 hw)) Via.refl eq101 F0 E1 (Or.inr ⟨(w65 hw), rfl, hnm⟩) (w138 hw) (ty := .int) (by decide) rfl rfl (g := (mkF m 7 #[.val (.ref a), .val .null, .val (.long v), .second, .val (.int (0 : Int32)), .val (.int (0 : Int32))] [(.int (0 : Int32)), (.ref a)])) rfl rfl (D_ d1_7)
  have K102 := Keep.of_wr Wr102
  have G102 := F0.same Wr102
  have N102 := Fr.snoc X102 N101 g1
  have F103 : Exa Z h102 a "java/math/BigDecimal" := (E1.keep K102)
  have F104 : Fld Z h102 a "java/math/BigDecimal" "precision" "I" (.int (0 : Int32)) := (Fld.other Wr102 F1 (Or.inr (slot_ne (Or.inl (w150 hw)) (Or.inr (w65 hw)) (by decide) (t := .int) (t' := .int) (by decide) (by decide))))
  obtain ⟨T105, h105, X105, e105, Wr105, st105⟩ := putF X102 hx hZ hown (host := "") (Or.inl (w149 hw)) Via.refl e102 F104 F103 (Or.inl (w150 hw)) (w138 hw) (ty := .int) (by decide) rfl rfl (g := (mkF m 13 #[.val (.ref a), .val .null, .val (.long v), .second, .val (.int (0 : Int32)), .val (.int (0 : Int32))] [(.int (0 : Int32)), (.ref a)])) rfl rfl (D_ d1_13)
  have K105 := Keep.of_wr Wr105
  have G105 := F104.same Wr105
  have N105 := Fr.snoc X105 N102 g1
  have F106 : Exa Z h105 a "java/math/BigDecimal" := (F103.keep K105)
  have F107 : Fld Z h105 a "java/math/BigDecimal" "intCompact" "J" (.long (0 : Int64)) := (Fld.other Wr105 (Fld.other Wr102 F2 (Or.inr (slot_ne (Or.inr (w67 hw)) (Or.inr (w65 hw)) (by decide) (t := .long) (t' := .int) (by decide) (by decide)))) (Or.inr (slot_ne (Or.inr (w67 hw)) (Or.inl (w150 hw)) (by decide) (t := .long) (t' := .int) (by decide) (by decide))))
  obtain ⟨T108, h108, X108, e108, Wr108, st108⟩ := putF X105 hx hZ hown (host := "") (Or.inl (w66 hw)) Via.refl e105 F107 F106 (Or.inr ⟨(w67 hw), rfl, hnm⟩) (w138 hw) (ty := .long) (by decide) rfl rfl (g := (mkF m 18 #[.val (.ref a), .val .null, .val (.long v), .second, .val (.int (0 : Int32)), .val (.int (0 : Int32))] [(.long v), (.ref a)])) rfl rfl (D_ d1_18)
  have K108 := Keep.of_wr Wr108
  have G108 := F107.same Wr108
  have N108 := Fr.snoc X108 N105 g1
  have F109 : Exa Z h108 a "java/math/BigDecimal" := (F106.keep K108)
  have F110 : Fld Z h108 a "java/math/BigDecimal" "intVal" "Ljava/math/BigInteger;" .null := (Fld.other Wr108 (Fld.other Wr105 (Fld.other Wr102 F3 (Or.inr (slot_ne (Or.inr (w152 hw)) (Or.inr (w65 hw)) (by decide) (t := (.object "java/math/BigInteger")) (t' := .int) (by decide) (by decide)))) (Or.inr (slot_ne (Or.inr (w152 hw)) (Or.inl (w150 hw)) (by decide) (t := (.object "java/math/BigInteger")) (t' := .int) (by decide) (by decide)))) (Or.inr (slot_ne (Or.inr (w152 hw)) (Or.inr (w67 hw)) (by decide) (t := (.object "java/math/BigInteger")) (t' := .long) (by decide) (by decide))))
  obtain ⟨T111, h111, X111, e111, Wr111, st111⟩ := putF X108 hx hZ hown (host := "") (Or.inl (w151 hw)) Via.refl e108 F110 F109 (Or.inr ⟨(w152 hw), rfl, hnm⟩) (w138 hw) (ty := (.object "java/math/BigInteger")) (by decide) rfl rfl (g := (mkF m 23 #[.val (.ref a), .val .null, .val (.long v), .second, .val (.int (0 : Int32)), .val (.int (0 : Int32))] [.null, (.ref a)])) rfl rfl (D_ d1_23)
  have K111 := Keep.of_wr Wr111
  have G111 := F110.same Wr111
  have N111 := Fr.snoc X111 N108 g1
  have W112 : ∀ zQ, SS p e below T111 m 26 #[.val (.ref a), .val .null, .val (.long v), .second, .val (.int (0 : Int32)), .val (.int (0 : Int32))] [] zQ → Steps p.tables e below (s₁.setTop (entryFrame m #[(.ref a), .null, (.long v), (.int (0 : Int32)), (.int (0 : Int32))] 6)) zQ := by
    intro tt kt
    refine W0 tt ?_
    refine XS.aloadN X0.here hx rfl (D_ d1_0) rfl rfl ?_
    refine st101.trans ?_
    refine XS.aloadN X101.here hx rfl (D_ d1_4) rfl rfl ?_
    refine XS.iload X101.here hx rfl (D_ d1_5) rfl ?_
    refine st102 _ ?_
    refine XS.aloadN X102.here hx rfl (D_ d1_10) rfl rfl ?_
    refine XS.iload X102.here hx rfl (D_ d1_11) rfl ?_
    refine st105 _ ?_
    refine XS.aloadN X105.here hx rfl (D_ d1_16) rfl rfl ?_
    refine XS.lloadN X105.here hx rfl (D_ d1_17) rfl ?_
    refine st108 _ ?_
    refine XS.aloadN X108.here hx rfl (D_ d1_21) rfl rfl ?_
    refine XS.aloadN X108.here hx rfl (D_ d1_22) rfl rfl ?_
    refine st111 _ ?_
    exact kt
  have F113 : Fld Z h111 a "java/math/BigDecimal" "scale" "I" (.int (0 : Int32)) := (Fld.other Wr111 (Fld.other Wr108 (Fld.other Wr105 G102 (Or.inr (slot_ne (Or.inr (w65 hw)) (Or.inl (w150 hw)) (by decide) (t := .int) (t' := .int) (by decide) (by decide)))) (Or.inr (slot_ne (Or.inr (w65 hw)) (Or.inr (w67 hw)) (by decide) (t := .int) (t' := .long) (by decide) (by decide)))) (Or.inr (slot_ne (Or.inr (w65 hw)) (Or.inr (w152 hw)) (by decide) (t := .int) (t' := (.object "java/math/BigInteger")) (by decide) (by decide))))
  have F114 : Fld Z h111 a "java/math/BigDecimal" "intCompact" "J" (.long v) := (Fld.other Wr111 G108 (Or.inr (slot_ne (Or.inr (w67 hw)) (Or.inr (w152 hw)) (by decide) (t := .long) (t' := (.object "java/math/BigInteger")) (by decide) (by decide))))
  obtain ⟨fs, hr, hrun, hended, hW, hsame⟩ := X111.leave (v := none) (fun _ => rfl)
  refine ⟨_, _, W112 _ (X111.returnOut hx Bd.returns (D_ d1_26) hr), hrun, hended, _, _, rfl, ?_, ⟨_, rfl⟩, hW, hsame.mono (by decide) (by decide)⟩
  show Q_bdinit Z a v h0 n0 _ T111.heap _
  rw [e111]
  exact ⟨rfl, N111, (Keep.trans (Keep.trans (Keep.trans (Keep.trans (Keep.refl h0 [a]) K102 (allS (Or.inl (List.mem_of_getElem? (i := 0) rfl)) all0)) K105 (allS (Or.inl (List.mem_of_getElem? (i := 0) rfl)) all0)) K108 (allS (Or.inl (List.mem_of_getElem? (i := 0) rfl)) all0)) K111 (allS (Or.inl (List.mem_of_getElem? (i := 0) rfl)) all0)), F113, F114⟩
def Q_valJ (Z : State) (v : Int64) (zt : Addr) (kz : ClassId) (zl : List Addr) (h0 : Heap) (n0 : Nat) (vQ_ : Option Value) (hQ_ : Heap) (LQ_ : List Loc) : Prop := ∃ r : Addr, vQ_ = some (.ref r) ∧ Fr n0 LQ_ ∧ Keep h0 hQ_ [] ∧ BD Z hQ_ r v
theorem rm_valJ (l : Launch) (Z : State) (a0 : Array Value) (hw : HW a0 Z) (ws : List Jvm.Cond) (v : Int64) (zt : Addr) (kz : ClassId) (zl : List Addr) (h0 : Heap) (n0 : Nat) (Z0 : n0 ≤ h0.size) (O0 : Old Z n0 h0) (S_zt : Sta Z Z.heap "java/math/BigDecimal" "ZERO_THROUGH_TEN" "[Ljava/math/BigDecimal;" (.ref zt)) (V_zt : Arv Z Z.heap zt kz (.object "java/math/BigDecimal") (11 : Int32) (zl.map Value.ref) .null) (hzl : zl.length = 11) (hz : ∀ i, i < 11 → BD Z Z.heap (zl.getD i 0) (Int64.ofNat i)) (hv : ¬ (v = (-9223372036854775808 : Int64))) :
    CT l yn2 (Jvm.Cond.code yn2 jdk_17_method_21_code 2 (some (.object "java/math/BigDecimal")) :: ws) (⟨3, 1, 5, 42⟩ : Room) #[(.long v)] Z h0 (Q_valJ Z v zt kz zl h0 n0) := by
  refine MetFree.of_bodySF (plainFor_of_name pn_java_math_BigDecimal) hisR ?_
  intro p e s m args below meth cO s₁ Bd hml hP hK
  obtain ⟨rfl, hZ, hh⟩ := hP
  have hx := Bd.exec
  have hby := Bd.bytes
  have hown : s.vm.findClass "java/math/BigDecimal" = some m.cls := findClass_of_methodNamed Bd.named
  have hnm := (name_of_methodNamed Bd.named Bd.method).1
  have X0 : Stand p l e (⟨3, 1, 5, 42⟩ : Room) s m #[(.long v)] below meth cO s₁ [] 0 0 := Stand.of_body Bd
  have e0 : s₁.heap = h0 := by rw [← hh, Bd.state]; rfl
  have N0 := Fr.nil n0
  have D_ : ∀ {i : Nat} {x}, decode jdk_17_method_21_code i = x → decode cO.code i = x := fun h => hb hby h
  have W0 : ∀ zQ, SS p e below s₁ m 0 #[.val (.long v), .second] [] zQ → Steps p.tables e below (s₁.setTop (entryFrame m #[(.long v)] 2)) zQ := fun tt kt => castTop (ef_valJ m v) kt
  have W101 : ∀ zQ, SS p e below s₁ m 3 #[.val (.long v), .second] [(.int (lcmpW v (0 : Int64)))] zQ → Steps p.tables e below (s₁.setTop (entryFrame m #[(.long v)] 2)) zQ := by
    intro tt kt
    refine W0 tt ?_
    refine XS.lloadN X0.here hx rfl (D_ d2_0) rfl ?_
    refine XS.lconst X0.here hx rfl (D_ d2_1) ?_
    refine XS.lcmp X0.here hx rfl (D_ d2_2) rfl ?_
    exact kt
  by_cases hc102 : v < (0 : Int64)
  ·
    obtain ⟨T103, h103, X103, e103, E103, A103, D103, U103, st103⟩ := newO X0 hx hZ hown (w137 hw) (w138 hw) (w45 hw) e0 (g := (mkF m 31 #[.val (.long v), .second] [])) rfl (D_ d2_31) (by decide) (by decide)
    obtain ⟨b103, g103⟩ : ∃ z, z = h0.size := ⟨_, rfl⟩
    rw [← g103] at A103 D103 U103 st103
    have K103 := (Keep.refl h0 []).ext E103
    have G103_scale : Fld Z h103 b103 "java/math/BigDecimal" "scale" "I" (.int (0 : Int32)) := D103 (Or.inr (w65 hw)) (ty := .int) (by decide)
    have G103_intCompact : Fld Z h103 b103 "java/math/BigDecimal" "intCompact" "J" (.long (0 : Int64)) := D103 (Or.inr (w67 hw)) (ty := .long) (by decide)
    have G103_precision : Fld Z h103 b103 "java/math/BigDecimal" "precision" "I" (.int (0 : Int32)) := D103 (Or.inl (w150 hw)) (ty := .int) (by decide)
    have G103_intVal : Fld Z h103 b103 "java/math/BigDecimal" "intVal" "Ljava/math/BigInteger;" .null := D103 (Or.inr (w152 hw)) (ty := (.object "java/math/BigInteger")) (by decide)
    obtain ⟨_, _, ⟨T104, L104, k104, n104⟩, -, X104, ⟨Lc104, hQ104, l104, y104, z104⟩, st104⟩ := X103.specialBack hx (y := yn1) rfl hown (mvT hZ (w139 hw)) (mvT hZ (w140 hw)) (mvT hZ (w141 hw)) (by decide) (backOf (W := 1) (rm_bdinit l Z a0 hw [] b103 v h103 n0 (Nat.le_trans Z0 K103.1) A103 G103_scale G103_precision G103_intCompact G103_intVal (Nat.le_trans Z0 (Nat.le_of_eq g103.symm))) hZ (w141 hw) (w45 hw) (by decide) (by decide)) (g := (mkF m 39 #[.val (.long v), .second] [(.int (0 : Int32)), (.int (0 : Int32)), (.long v), .null, (.ref b103), (.ref b103)])) rfl (by rw [hml]; rfl) (Steps.refl _) (a := b103) (argsL := [.null, (.long v), (.int (0 : Int32)), (.int (0 : Int32))]) (rest := [(.ref b103)]) (lenOf pd1 rfl) rfl (wq rfl) (D_ d2_39) (fun _ _ => ⟨rfl, e103, (nb rfl), (nb rfl)⟩)
    dsimp only [Pt.U, Pt.locs, Pt.cells, Pt.slots] at X104 l104 y104 z104 st104 hQ104
    subst l104 y104 z104
    obtain ⟨rfl, Nq104, K104, P104_0, P104_1⟩ := hQ104
    have N104 := Fr.app N0 Nq104
    have W105 : ∀ zQ, SS p e below T104 m 42 #[.val (.long v), .second] [(.ref b103)] zQ → Steps p.tables e below (s₁.setTop (entryFrame m #[(.long v)] 2)) zQ := by
      intro tt kt
      refine W101 tt ?_
      refine XS.ifYes X0.here hx rfl (pc0 := 3) (pc' := 23) rfl (D_ d2_3) rfl ((if0 _ _).trans (tlt ((lw_lt _ _).mpr hc102)).1) (by decide) (by decide) ?_
      refine XS.lloadN X0.here hx rfl (D_ d2_23) rfl ?_
      refine X0.ldc2Long hx hown (mvT hZ (w68 hw)) (g := (mkF m 24 #[.val (.long v), .second] [(.long v)])) rfl (D_ d2_24) _ ?_
      refine XS.lcmp X0.here hx rfl (D_ d2_27) rfl ?_
      refine XS.ifNo X0.here hx rfl (D_ d2_28) rfl ((if0 _ _).trans (feq (fun q => hv ((lw_eq _ _).mp q))).1) ?_
      refine st103 _ ?_
      refine XS.dup X103.here hx rfl (D_ d2_34) rfl rfl ?_
      refine XS.aconstNull X103.here hx rfl (D_ d2_35) ?_
      refine XS.lloadN X103.here hx rfl (D_ d2_36) rfl ?_
      refine XS.iconst X103.here hx rfl (D_ d2_37) ?_
      refine XS.iconst X103.here hx rfl (D_ d2_38) ?_
      refine st104.trans ?_
      exact kt
    have F106 : Exa Z T104.heap b103 "java/math/BigDecimal" := (A103.keep K104)
    obtain ⟨fs, hr, hrun, hended, hW, hsame⟩ := X104.leave (v := some (.ref b103)) (fun h => by rw [Bd.returns] at h; cases h)
    refine ⟨_, _, W105 _ (own_retR X104 hx Bd.returns rfl rfl (D_ d2_42) hr), hrun, hended, _, _, rfl, ?_, ⟨_, rfl⟩, hW, hsame.mono (by decide) (by decide)⟩
    show Q_valJ Z v zt kz zl h0 n0 _ T104.heap _
    exact ⟨b103, rfl, N104, (Keep.trans (Keep.trans (Keep.refl h0 []) K103 all0) K104 (allS (Or.inr (Nat.le_of_eq g103.symm)) all0)), ⟨F106, P104_0, P104_1⟩⟩
  ·
    have F108 : Sta Z h0 "java/math/BigDecimal" "ZERO_THROUGH_TEN" "[Ljava/math/BigDecimal;" (.ref zt) := S_zt.ext O0.2
    obtain ⟨T107, X107, e107, st107⟩ := getS2 X0 hx hZ hown (host := "") (Or.inl (w58 hw)) Via.refl e0 F108 (g := (mkF m 7 #[.val (.long v), .second] [(.long v)])) rfl (D_ d2_7)
    have F109 : Arv Z h0 zt kz (.object "java/math/BigDecimal") (11 : Int32) (zl.map Value.ref) .null := V_zt.ext O0.2
    obtain ⟨cl110, Ar110, -, S110, M110, -, -⟩ := id F109
    have W111 : ∀ zQ, SS p e below T107 m 13 #[.val (.long v), .second] [(.int (lcmpW v (11 : Int64)))] zQ → Steps p.tables e below (s₁.setTop (entryFrame m #[(.long v)] 2)) zQ := by
      intro tt kt
      refine W101 tt ?_
      refine XS.ifNo X0.here hx rfl (D_ d2_3) rfl ((if0 _ _).trans (flt (fun q => hc102 ((lw_lt _ _).mp q))).1) ?_
      refine XS.lloadN X0.here hx rfl (D_ d2_6) rfl ?_
      refine st107 _ ?_
      refine X107.arraylength hx (by first | exact Ar110.1 | (rw [e107]; exact Ar110.1)) (State.isArrayOf_alike hZ.alike Ar110.2.1) (g := (mkF m 10 #[.val (.long v), .second] [(.ref zt), (.long v)])) rfl rfl (D_ d2_10) _ ?_
      rw [len_of S110 M110]
      refine XS.i2l X107.here hx rfl (D_ d2_11) rfl ?_
      refine XS.lcmp X107.here hx rfl (D_ d2_12) rfl ?_
      exact kt
    by_cases hc112 : v < (11 : Int64)
    ·
      obtain ⟨T113, X113, e113, st113⟩ := getS2 X107 hx hZ hown (host := "") (Or.inl (w58 hw)) Via.refl e107 F108 (g := (mkF m 16 #[.val (.long v), .second] [])) rfl (D_ d2_16)
      obtain ⟨cl114, Ar114, q114, S114, M114, H114, F114g⟩ := id F109
      obtain ⟨hi1, hi2, hi3, hi4⟩ := own_z11 hc102 hc112
      obtain ⟨zz, hzz⟩ : ∃ z, z = zl.getD v.toInt.toNat 0 := ⟨_, rfl⟩
      have hin114 : ¬ ((v.toInt32) < 0 ∨ cl114.slots.size ≤ ((v.toInt32)).toNatClampNeg) := inb_of S114 hi1
      have hat114 : cl114.slots[((v.toInt32)).toNatClampNeg]? = some (.ref zz) := Has.at H114 hin114 (by rw [hi2, hzz]; exact own_mapr zl _ (by rw [hzl]; exact hi3))
      have W115 : ∀ zQ, SS p e below T113 m 22 #[.val (.long v), .second] [(.ref zz)] zQ → Steps p.tables e below (s₁.setTop (entryFrame m #[(.long v)] 2)) zQ := by
        intro tt kt
        refine W111 tt ?_
        refine XS.ifNo X107.here hx rfl (D_ d2_13) rfl ((if0 _ _).trans (tlt ((lw_lt _ _).mpr hc112)).2.1) ?_
        refine st113 _ ?_
        refine XS.lloadN X113.here hx rfl (D_ d2_19) rfl ?_
        refine XS.l2i X113.here hx rfl (D_ d2_20) rfl ?_
        refine X113.aaload hx (j := (v.toInt32)) (v := (.ref zz)) (by first | exact Ar114.1 | (rw [e113]; exact Ar114.1)) (State.isArrayOf_alike hZ.alike Ar114.2.1) rfl Ar114.2.2 hin114 hat114 (g := (mkF m 21 #[.val (.long v), .second] [(.int (v.toInt32)), (.ref zt)])) rfl rfl (D_ d2_21) _ ?_
        exact kt
      have hR : BD Z h0 zz v := by have q := (hz _ hi3).ext O0.2; rw [← hzz, hi4] at q; exact q
      obtain ⟨fs, hr, hrun, hended, hW, hsame⟩ := X113.leave (v := some (.ref zz)) (fun h => by rw [Bd.returns] at h; cases h)
      refine ⟨_, _, W115 _ (own_retR X113 hx Bd.returns rfl rfl (D_ d2_22) hr), hrun, hended, _, _, rfl, ?_, ⟨_, rfl⟩, hW, hsame.mono (by decide) (by decide)⟩
      show Q_valJ Z v zt kz zl h0 n0 _ T113.heap _
      rw [e113]
      exact ⟨zz, rfl, N0, (Keep.refl h0 []), hR⟩
    ·
      obtain ⟨T116, h116, X116, e116, E116, A116, D116, U116, st116⟩ := newO X107 hx hZ hown (w137 hw) (w138 hw) (w45 hw) e107 (g := (mkF m 31 #[.val (.long v), .second] [])) rfl (D_ d2_31) (by decide) (by decide)
      obtain ⟨b116, g116⟩ : ∃ z, z = h0.size := ⟨_, rfl⟩
      rw [← g116] at A116 D116 U116 st116
      have K116 := (Keep.refl h0 []).ext E116
      have G116_scale : Fld Z h116 b116 "java/math/BigDecimal" "scale" "I" (.int (0 : Int32)) := D116 (Or.inr (w65 hw)) (ty := .int) (by decide)
      have G116_intCompact : Fld Z h116 b116 "java/math/BigDecimal" "intCompact" "J" (.long (0 : Int64)) := D116 (Or.inr (w67 hw)) (ty := .long) (by decide)
      have G116_precision : Fld Z h116 b116 "java/math/BigDecimal" "precision" "I" (.int (0 : Int32)) := D116 (Or.inl (w150 hw)) (ty := .int) (by decide)
      have G116_intVal : Fld Z h116 b116 "java/math/BigDecimal" "intVal" "Ljava/math/BigInteger;" .null := D116 (Or.inr (w152 hw)) (ty := (.object "java/math/BigInteger")) (by decide)
      obtain ⟨_, _, ⟨T117, L117, k117, n117⟩, -, X117, ⟨Lc117, hQ117, l117, y117, z117⟩, st117⟩ := X116.specialBack hx (y := yn1) rfl hown (mvT hZ (w139 hw)) (mvT hZ (w140 hw)) (mvT hZ (w141 hw)) (by decide) (backOf (W := 1) (rm_bdinit l Z a0 hw [] b116 v h116 n0 (Nat.le_trans Z0 K116.1) A116 G116_scale G116_precision G116_intCompact G116_intVal (Nat.le_trans Z0 (Nat.le_of_eq g116.symm))) hZ (w141 hw) (w45 hw) (by decide) (by decide)) (g := (mkF m 39 #[.val (.long v), .second] [(.int (0 : Int32)), (.int (0 : Int32)), (.long v), .null, (.ref b116), (.ref b116)])) rfl (by rw [hml]; rfl) (Steps.refl _) (a := b116) (argsL := [.null, (.long v), (.int (0 : Int32)), (.int (0 : Int32))]) (rest := [(.ref b116)]) (lenOf pd1 rfl) rfl (wq rfl) (D_ d2_39) (fun _ _ => ⟨rfl, e116, (nb rfl), (nb rfl)⟩)
      dsimp only [Pt.U, Pt.locs, Pt.cells, Pt.slots] at X117 l117 y117 z117 st117 hQ117
      subst l117 y117 z117
      obtain ⟨rfl, Nq117, K117, P117_0, P117_1⟩ := hQ117
      have N117 := Fr.app N0 Nq117
      have W118 : ∀ zQ, SS p e below T117 m 42 #[.val (.long v), .second] [(.ref b116)] zQ → Steps p.tables e below (s₁.setTop (entryFrame m #[(.long v)] 2)) zQ := by
        intro tt kt
        refine W111 tt ?_
        refine XS.ifYes X107.here hx rfl (pc0 := 13) (pc' := 23) rfl (D_ d2_13) rfl ((if0 _ _).trans (flt (fun q => hc112 ((lw_lt _ _).mp q))).2.1) (by decide) (by decide) ?_
        refine XS.lloadN X107.here hx rfl (D_ d2_23) rfl ?_
        refine X107.ldc2Long hx hown (mvT hZ (w68 hw)) (g := (mkF m 24 #[.val (.long v), .second] [(.long v)])) rfl (D_ d2_24) _ ?_
        refine XS.lcmp X107.here hx rfl (D_ d2_27) rfl ?_
        refine XS.ifNo X107.here hx rfl (D_ d2_28) rfl ((if0 _ _).trans (feq (fun q => hv ((lw_eq _ _).mp q))).1) ?_
        refine st116 _ ?_
        refine XS.dup X116.here hx rfl (D_ d2_34) rfl rfl ?_
        refine XS.aconstNull X116.here hx rfl (D_ d2_35) ?_
        refine XS.lloadN X116.here hx rfl (D_ d2_36) rfl ?_
        refine XS.iconst X116.here hx rfl (D_ d2_37) ?_
        refine XS.iconst X116.here hx rfl (D_ d2_38) ?_
        refine st117.trans ?_
        exact kt
      have F119 : Exa Z T117.heap b116 "java/math/BigDecimal" := (A116.keep K117)
      obtain ⟨fs, hr, hrun, hended, hW, hsame⟩ := X117.leave (v := some (.ref b116)) (fun h => by rw [Bd.returns] at h; cases h)
      refine ⟨_, _, W118 _ (own_retR X117 hx Bd.returns rfl rfl (D_ d2_42) hr), hrun, hended, _, _, rfl, ?_, ⟨_, rfl⟩, hW, hsame.mono (by decide) (by decide)⟩
      show Q_valJ Z v zt kz zl h0 n0 _ T117.heap _
      exact ⟨b116, rfl, N117, (Keep.trans (Keep.trans (Keep.refl h0 []) K116 all0) K117 (allS (Or.inr (Nat.le_of_eq g116.symm)) all0)), ⟨F119, P117_0, P117_1⟩⟩
def Q_valJI (Z : State) (v : Int64) (zt : Addr) (kz : ClassId) (zl : List Addr) (h0 : Heap) (n0 : Nat) (vQ_ : Option Value) (hQ_ : Heap) (LQ_ : List Loc) : Prop := ∃ r : Addr, vQ_ = some (.ref r) ∧ Fr n0 LQ_ ∧ Keep h0 hQ_ [] ∧ BD Z hQ_ r v
theorem rm_valJI (l : Launch) (Z : State) (a0 : Array Value) (hw : HW a0 Z) (ws : List Jvm.Cond) (v : Int64) (zt : Addr) (kz : ClassId) (zl : List Addr) (h0 : Heap) (n0 : Nat) (Z0 : n0 ≤ h0.size) (O0 : Old Z n0 h0) (S_zt : Sta Z Z.heap "java/math/BigDecimal" "ZERO_THROUGH_TEN" "[Ljava/math/BigDecimal;" (.ref zt)) (V_zt : Arv Z Z.heap zt kz (.object "java/math/BigDecimal") (11 : Int32) (zl.map Value.ref) .null) (hzl : zl.length = 11) (hz : ∀ i, i < 11 → BD Z Z.heap (zl.getD i 0) (Int64.ofNat i)) (hv : ¬ (v = (-9223372036854775808 : Int64))) :
    CT l yn3 (Jvm.Cond.code yn3 jdk_17_method_20_code 3 (some (.object "java/math/BigDecimal")) :: ws) (⟨4, 1, 5, 55⟩ : Room) #[(.long v), (.int (0 : Int32))] Z h0 (Q_valJI Z v zt kz zl h0 n0) := by
  refine MetFree.of_bodySF (plainFor_of_name pn_java_math_BigDecimal) hisR ?_
  intro p e s m args below meth cO s₁ Bd hml hP hK
  obtain ⟨rfl, hZ, hh⟩ := hP
  have hx := Bd.exec
  have hby := Bd.bytes
  have hown : s.vm.findClass "java/math/BigDecimal" = some m.cls := findClass_of_methodNamed Bd.named
  have hnm := (name_of_methodNamed Bd.named Bd.method).1
  have X0 : Stand p l e (⟨4, 1, 5, 55⟩ : Room) s m #[(.long v), (.int (0 : Int32))] below meth cO s₁ [] 0 0 := Stand.of_body Bd
  have e0 : s₁.heap = h0 := by rw [← hh, Bd.state]; rfl
  have N0 := Fr.nil n0
  have D_ : ∀ {i : Nat} {x}, decode jdk_17_method_20_code i = x → decode cO.code i = x := fun h => hb hby h
  have W0 : ∀ zQ, SS p e below s₁ m 0 #[.val (.long v), .second, .val (.int (0 : Int32))] [] zQ → Steps p.tables e below (s₁.setTop (entryFrame m #[(.long v), (.int (0 : Int32))] 3)) zQ := fun tt kt => castTop (ef_valJI m v (0 : Int32)) kt
  obtain ⟨_, _, ⟨T101, L101, k101, n101⟩, -, X101, ⟨Lc101, hQ101, l101, y101, z101⟩, st101⟩ := Jvm.LawKit.callS X0 hx (y := yn2) hown (mvT hZ (w136 hw)) (mvT hZ (w56 hw)) (mvT hZ (w45 hw)) (mvT hZ (w57 hw)) (by decide) (backOf (W := 0) (rm_valJ l Z a0 hw [] v zt kz zl h0 n0 Z0 O0 S_zt V_zt hzl hz hv) hZ (w57 hw) (w45 hw) (by decide) (by decide)) (g := (mkF m 5 #[.val (.long v), .second, .val (.int (0 : Int32))] [(.long v)])) rfl (by rw [hml]; rfl) (argsL := [(.long v)]) (rest := []) (lenOf pd2 rfl) rfl (wq rfl) (D_ d3_5) (fun _ _ => ⟨rfl, e0, (nb rfl), (nb rfl)⟩)
  dsimp only [Pt.U, Pt.locs, Pt.cells, Pt.slots] at X101 l101 y101 z101 st101 hQ101
  subst l101 y101 z101
  obtain ⟨r_102, rfl, Nq101, K101, P101_0⟩ := hQ101
  have N101 := Fr.app N0 Nq101
  have W103 : ∀ zQ, SS p e below T101 m 8 #[.val (.long v), .second, .val (.int (0 : Int32))] [(.ref r_102)] zQ → Steps p.tables e below (s₁.setTop (entryFrame m #[(.long v), (.int (0 : Int32))] 3)) zQ := by
    intro tt kt
    refine W0 tt ?_
    refine XS.iloadN X0.here hx rfl (D_ d3_0) rfl ?_
    refine XS.ifNo X0.here hx rfl (D_ d3_1) rfl ((if0 _ _).trans (teq (by decide)).2) ?_
    refine XS.lloadN X0.here hx rfl (D_ d3_4) rfl ?_
    refine st101 _ ?_
    exact kt
  obtain ⟨fs, hr, hrun, hended, hW, hsame⟩ := X101.leave (v := some (.ref r_102)) (fun h => by rw [Bd.returns] at h; cases h)
  refine ⟨_, _, W103 _ (own_retR X101 hx Bd.returns rfl rfl (D_ d3_8) hr), hrun, hended, _, _, rfl, ?_, ⟨_, rfl⟩, hW, hsame.mono (by decide) (by decide)⟩
  show Q_valJI Z v zt kz zl h0 n0 _ T101.heap _
  exact ⟨r_102, rfl, N101, (Keep.trans (Keep.refl h0 []) K101 all0), P101_0⟩
def Q_addJJ (Z : State) (x : Int64) (y : Int64) (h0 : Heap) (n0 : Nat) (vQ_ : Option Value) (hQ_ : Heap) (LQ_ : List Loc) : Prop := vQ_ = some (.long (x + y)) ∧ Fr n0 LQ_ ∧ hQ_ = h0
theorem rm_addJJ (l : Launch) (Z : State) (a0 : Array Value) (hw : HW a0 Z) (ws : List Jvm.Cond) (x : Int64) (y : Int64) (h0 : Heap) (n0 : Nat) (Z0 : n0 ≤ h0.size) (hX : Bn 100 x) (hY : Bn 100 y) :
    CT l yn4 (Jvm.Cond.code yn4 jdk_17_method_132_code 6 (some .long) :: ws) (⟨0, 0, 0, 0⟩ : Room) #[(.long x), (.long y)] Z h0 (Q_addJJ Z x y h0 n0) := by
  refine MetFree.of_bodySF (plainFor_of_name pn_java_math_BigDecimal) hisR ?_
  intro p e s m args below meth cO s₁ Bd hml hP hK
  obtain ⟨rfl, hZ, hh⟩ := hP
  have hx := Bd.exec
  have hby := Bd.bytes
  have hown : s.vm.findClass "java/math/BigDecimal" = some m.cls := findClass_of_methodNamed Bd.named
  have hnm := (name_of_methodNamed Bd.named Bd.method).1
  have X0 : Stand p l e (⟨0, 0, 0, 0⟩ : Room) s m #[(.long x), (.long y)] below meth cO s₁ [] 0 0 := Stand.of_body Bd
  have e0 : s₁.heap = h0 := by rw [← hh, Bd.state]; rfl
  have N0 := Fr.nil n0
  have D_ : ∀ {i : Nat} {x}, decode jdk_17_method_132_code i = x → decode cO.code i = x := fun h => hb hby h
  have W0 : ∀ zQ, SS p e below s₁ m 0 #[.val (.long x), .second, .val (.long y), .second, .unset, .unset] [] zQ → Steps p.tables e below (s₁.setTop (entryFrame m #[(.long x), (.long y)] 6)) zQ := fun tt kt => castTop (ef_addJJ m x y) kt
  have W101 : ∀ zQ, SS p e below s₁ m 21 #[.val (.long x), .second, .val (.long y), .second, .val (.long (x + y)), .second] [(.long (x + y))] zQ → Steps p.tables e below (s₁.setTop (entryFrame m #[(.long x), (.long y)] 6)) zQ := by
    intro tt kt
    refine W0 tt ?_
    refine XS.lloadN X0.here hx rfl (D_ d4_0) rfl ?_
    refine XS.lloadN X0.here hx rfl (D_ d4_1) rfl ?_
    refine XS.ladd X0.here hx rfl (D_ d4_2) rfl ?_
    refine XS.lstore X0.here hx rfl (D_ d4_3) rfl (l' := #[.val (.long x), .second, .val (.long y), .second, .val (.long (x + y)), .second]) rfl ?_
    refine XS.lload X0.here hx rfl (D_ d4_5) rfl ?_
    refine XS.lloadN X0.here hx rfl (D_ d4_7) rfl ?_
    refine XS.lxor X0.here hx rfl (D_ d4_8) rfl ?_
    refine XS.lload X0.here hx rfl (D_ d4_9) rfl ?_
    refine XS.lloadN X0.here hx rfl (D_ d4_11) rfl ?_
    refine XS.lxor X0.here hx rfl (D_ d4_12) rfl ?_
    refine XS.land X0.here hx rfl (D_ d4_13) rfl ?_
    refine XS.lconst X0.here hx rfl (D_ d4_14) ?_
    refine XS.lcmp X0.here hx rfl (D_ d4_15) rfl ?_
    refine XS.ifNo X0.here hx rfl (D_ d4_16) rfl ((if0 _ _).trans (flt (fun q => (own_novf hX hY) ((lw_lt _ _).mp q))).1) ?_
    refine XS.lload X0.here hx rfl (D_ d4_19) rfl ?_
    exact kt
  obtain ⟨fs, hr, hrun, hended, hW, hsame⟩ := X0.leave (v := some (.long (x + y))) (fun h => by rw [Bd.returns] at h; cases h)
  refine ⟨_, _, W101 _ (own_retJ X0 hx Bd.returns (D_ d4_21) hr), hrun, hended, _, _, rfl, ?_, ⟨_, rfl⟩, hW, hsame.mono (by decide) (by decide)⟩
  show Q_addJJ Z x y h0 n0 _ s₁.heap _
  rw [e0]
  exact ⟨rfl, N0, rfl⟩
def Q_addJJI (Z : State) (x : Int64) (y : Int64) (zt : Addr) (kz : ClassId) (zl : List Addr) (h0 : Heap) (n0 : Nat) (vQ_ : Option Value) (hQ_ : Heap) (LQ_ : List Loc) : Prop := ∃ r : Addr, ∃ v : Int64, vQ_ = some (.ref r) ∧ Fr n0 LQ_ ∧ Keep h0 hQ_ [] ∧ BD Z hQ_ r v ∧ v.toInt = x.toInt + y.toInt
theorem rm_addJJI (l : Launch) (Z : State) (a0 : Array Value) (hw : HW a0 Z) (ws : List Jvm.Cond) (x : Int64) (y : Int64) (zt : Addr) (kz : ClassId) (zl : List Addr) (h0 : Heap) (n0 : Nat) (Z0 : n0 ≤ h0.size) (O0 : Old Z n0 h0) (S_zt : Sta Z Z.heap "java/math/BigDecimal" "ZERO_THROUGH_TEN" "[Ljava/math/BigDecimal;" (.ref zt)) (V_zt : Arv Z Z.heap zt kz (.object "java/math/BigDecimal") (11 : Int32) (zl.map Value.ref) .null) (hzl : zl.length = 11) (hz : ∀ i, i < 11 → BD Z Z.heap (zl.getD i 0) (Int64.ofNat i)) (hX : Bn 100 x) (hY : Bn 100 y) :
    CT l yn5 (Jvm.Cond.code yn5 jdk_17_method_133_code 7 (some (.object "java/math/BigDecimal")) :: ws) (⟨5, 1, 5, 69⟩ : Room) #[(.long x), (.long y), (.int (0 : Int32))] Z h0 (Q_addJJI Z x y zt kz zl h0 n0) := by
  refine MetFree.of_bodySF (plainFor_of_name pn_java_math_BigDecimal) hisR ?_
  intro p e s m args below meth cO s₁ Bd hml hP hK
  obtain ⟨rfl, hZ, hh⟩ := hP
  have hx := Bd.exec
  have hby := Bd.bytes
  have hown : s.vm.findClass "java/math/BigDecimal" = some m.cls := findClass_of_methodNamed Bd.named
  have hnm := (name_of_methodNamed Bd.named Bd.method).1
  have X0 : Stand p l e (⟨5, 1, 5, 69⟩ : Room) s m #[(.long x), (.long y), (.int (0 : Int32))] below meth cO s₁ [] 0 0 := Stand.of_body Bd
  have e0 : s₁.heap = h0 := by rw [← hh, Bd.state]; rfl
  have N0 := Fr.nil n0
  have D_ : ∀ {i : Nat} {x}, decode jdk_17_method_133_code i = x → decode cO.code i = x := fun h => hb hby h
  have W0 : ∀ zQ, SS p e below s₁ m 0 #[.val (.long x), .second, .val (.long y), .second, .val (.int (0 : Int32)), .unset, .unset] [] zQ → Steps p.tables e below (s₁.setTop (entryFrame m #[(.long x), (.long y), (.int (0 : Int32))] 7)) zQ := fun tt kt => castTop (ef_addJJI m x y (0 : Int32)) kt
  obtain ⟨_, _, ⟨T101, L101, k101, n101⟩, -, X101, ⟨Lc101, hQ101, l101, y101, z101⟩, st101⟩ := Jvm.LawKit.callS X0 hx (y := yn4) hown (mvT hZ (w130 hw)) (mvT hZ (w131 hw)) (mvT hZ (w45 hw)) (mvT hZ (w132 hw)) (by decide) (backOf (W := 0) (rm_addJJ l Z a0 hw [] x y h0 n0 Z0 hX hY) hZ (w132 hw) (w45 hw) (by decide) (by decide)) (g := (mkF m 2 #[.val (.long x), .second, .val (.long y), .second, .val (.int (0 : Int32)), .unset, .unset] [(.long y), (.long x)])) rfl (by rw [hml]; rfl) (argsL := [(.long x), (.long y)]) (rest := []) (lenOf pd3 rfl) rfl (wq rfl) (D_ d5_2) (fun _ _ => ⟨rfl, e0, (nb rfl), (nb rfl)⟩)
  dsimp only [Pt.U, Pt.locs, Pt.cells, Pt.slots] at X101 l101 y101 z101 st101 hQ101
  subst l101 y101 z101
  obtain ⟨rfl, Nq101, eq101⟩ := hQ101
  have N101 := Fr.app N0 Nq101
  obtain ⟨_, _, ⟨T102, L102, k102, n102⟩, -, X102, ⟨Lc102, hQ102, l102, y102, z102⟩, st102⟩ := Jvm.LawKit.callS X101 hx (y := yn3) hown (mvT hZ (w133 hw)) (mvT hZ (w134 hw)) (mvT hZ (w45 hw)) (mvT hZ (w135 hw)) (by decide) (backOf (W := 0) (rm_valJI l Z a0 hw [] (x + y) zt kz zl h0 n0 Z0 O0 S_zt V_zt hzl hz (own_nmin (Bn.add hX hY (own_tadd hX hY)) (by decide))) hZ (w135 hw) (w45 hw) (by decide) (by decide)) (g := (mkF m 20 #[.val (.long x), .second, .val (.long y), .second, .val (.int (0 : Int32)), .val (.long (x + y)), .second] [(.int (0 : Int32)), (.long (x + y))])) rfl (by rw [hml]; rfl) (argsL := [(.long (x + y)), (.int (0 : Int32))]) (rest := []) (lenOf pd4 rfl) rfl (wq rfl) (D_ d5_20) (fun _ _ => ⟨rfl, eq101, (nb rfl), (nb rfl)⟩)
  dsimp only [Pt.U, Pt.locs, Pt.cells, Pt.slots] at X102 l102 y102 z102 st102 hQ102
  subst l102 y102 z102
  obtain ⟨r_103, rfl, Nq102, K102, P102_0⟩ := hQ102
  have N102 := Fr.app N101 Nq102
  have W104 : ∀ zQ, SS p e below T102 m 23 #[.val (.long x), .second, .val (.long y), .second, .val (.int (0 : Int32)), .val (.long (x + y)), .second] [(.ref r_103)] zQ → Steps p.tables e below (s₁.setTop (entryFrame m #[(.long x), (.long y), (.int (0 : Int32))] 7)) zQ := by
    intro tt kt
    refine W0 tt ?_
    refine XS.lloadN X0.here hx rfl (D_ d5_0) rfl ?_
    refine XS.lloadN X0.here hx rfl (D_ d5_1) rfl ?_
    refine st101 _ ?_
    refine XS.lstore X101.here hx rfl (D_ d5_5) rfl (l' := #[.val (.long x), .second, .val (.long y), .second, .val (.int (0 : Int32)), .val (.long (x + y)), .second]) rfl ?_
    refine XS.lload X101.here hx rfl (D_ d5_7) rfl ?_
    refine X101.ldc2Long hx hown (mvT hZ (w68 hw)) (g := (mkF m 9 #[.val (.long x), .second, .val (.long y), .second, .val (.int (0 : Int32)), .val (.long (x + y)), .second] [(.long (x + y))])) rfl (D_ d5_9) _ ?_
    refine XS.lcmp X101.here hx rfl (D_ d5_12) rfl ?_
    refine XS.ifNo X101.here hx rfl (D_ d5_13) rfl ((if0 _ _).trans (feq (fun q => (own_nmin (Bn.add hX hY (own_tadd hX hY)) (by decide)) ((lw_eq _ _).mp q))).1) ?_
    refine XS.lload X101.here hx rfl (D_ d5_16) rfl ?_
    refine XS.iload X101.here hx rfl (D_ d5_18) rfl ?_
    refine st102 _ ?_
    exact kt
  obtain ⟨fs, hr, hrun, hended, hW, hsame⟩ := X102.leave (v := some (.ref r_103)) (fun h => by rw [Bd.returns] at h; cases h)
  refine ⟨_, _, W104 _ (own_retR X102 hx Bd.returns rfl rfl (D_ d5_23) hr), hrun, hended, _, _, rfl, ?_, ⟨_, rfl⟩, hW, hsame.mono (by decide) (by decide)⟩
  show Q_addJJI Z x y zt kz zl h0 n0 _ T102.heap _
  exact ⟨r_103, (x + y), rfl, N102, (Keep.trans (Keep.refl h0 []) K102 all0), P102_0, (own_tadd hX hY)⟩
def Q_addJIJI (Z : State) (x : Int64) (y : Int64) (zt : Addr) (kz : ClassId) (zl : List Addr) (h0 : Heap) (n0 : Nat) (vQ_ : Option Value) (hQ_ : Heap) (LQ_ : List Loc) : Prop := ∃ r : Addr, ∃ v : Int64, vQ_ = some (.ref r) ∧ Fr n0 LQ_ ∧ Keep h0 hQ_ [] ∧ BD Z hQ_ r v ∧ v.toInt = x.toInt + y.toInt
theorem rm_addJIJI (l : Launch) (Z : State) (a0 : Array Value) (hw : HW a0 Z) (ws : List Jvm.Cond) (x : Int64) (y : Int64) (zt : Addr) (kz : ClassId) (zl : List Addr) (h0 : Heap) (n0 : Nat) (Z0 : n0 ≤ h0.size) (O0 : Old Z n0 h0) (S_zt : Sta Z Z.heap "java/math/BigDecimal" "ZERO_THROUGH_TEN" "[Ljava/math/BigDecimal;" (.ref zt)) (V_zt : Arv Z Z.heap zt kz (.object "java/math/BigDecimal") (11 : Int32) (zl.map Value.ref) .null) (hzl : zl.length = 11) (hz : ∀ i, i < 11 → BD Z Z.heap (zl.getD i 0) (Int64.ofNat i)) (hX : Bn 100 x) (hY : Bn 100 y) :
    CT l yn6 (Jvm.Cond.code yn6 jdk_17_method_134_code 12 (some (.object "java/math/BigDecimal")) :: ws) (⟨6, 1, 5, 87⟩ : Room) #[(.long x), (.int (0 : Int32)), (.long y), (.int (0 : Int32))] Z h0 (Q_addJIJI Z x y zt kz zl h0 n0) := by
  refine MetFree.of_bodySF (plainFor_of_name pn_java_math_BigDecimal) hisR ?_
  intro p e s m args below meth cO s₁ Bd hml hP hK
  obtain ⟨rfl, hZ, hh⟩ := hP
  have hx := Bd.exec
  have hby := Bd.bytes
  have hown : s.vm.findClass "java/math/BigDecimal" = some m.cls := findClass_of_methodNamed Bd.named
  have hnm := (name_of_methodNamed Bd.named Bd.method).1
  have X0 : Stand p l e (⟨6, 1, 5, 87⟩ : Room) s m #[(.long x), (.int (0 : Int32)), (.long y), (.int (0 : Int32))] below meth cO s₁ [] 0 0 := Stand.of_body Bd
  have e0 : s₁.heap = h0 := by rw [← hh, Bd.state]; rfl
  have N0 := Fr.nil n0
  have D_ : ∀ {i : Nat} {x}, decode jdk_17_method_134_code i = x → decode cO.code i = x := fun h => hb hby h
  have W0 : ∀ zQ, SS p e below s₁ m 0 #[.val (.long x), .second, .val (.int (0 : Int32)), .val (.long y), .second, .val (.int (0 : Int32)), .unset, .unset, .unset, .unset, .unset, .unset] [] zQ → Steps p.tables e below (s₁.setTop (entryFrame m #[(.long x), (.int (0 : Int32)), (.long y), (.int (0 : Int32))] 12)) zQ := fun tt kt => castTop (ef_addJIJI m x (0 : Int32) y (0 : Int32)) kt
  obtain ⟨_, _, ⟨T101, L101, k101, n101⟩, -, X101, ⟨Lc101, hQ101, l101, y101, z101⟩, st101⟩ := Jvm.LawKit.callS X0 hx (y := yn5) hown (mvT hZ (w127 hw)) (mvT hZ (w128 hw)) (mvT hZ (w45 hw)) (mvT hZ (w129 hw)) (by decide) (backOf (W := 0) (rm_addJJI l Z a0 hw [] x y zt kz zl h0 n0 Z0 O0 S_zt V_zt hzl hz hX hY) hZ (w129 hw) (w45 hw) (by decide) (by decide)) (g := (mkF m 18 #[.val (.long x), .second, .val (.int (0 : Int32)), .val (.long y), .second, .val (.int (0 : Int32)), .val (.long (0 : Int64)), .second, .unset, .unset, .unset, .unset] [(.int (0 : Int32)), (.long y), (.long x)])) rfl (by rw [hml]; rfl) (argsL := [(.long x), (.long y), (.int (0 : Int32))]) (rest := []) (lenOf pd5 rfl) rfl (wq rfl) (D_ d6_18) (fun _ _ => ⟨rfl, e0, (nb rfl), (nb rfl)⟩)
  dsimp only [Pt.U, Pt.locs, Pt.cells, Pt.slots] at X101 l101 y101 z101 st101 hQ101
  subst l101 y101 z101
  obtain ⟨r_102, v_103, rfl, Nq101, K101, P101_0, P101_1⟩ := hQ101
  have N101 := Fr.app N0 Nq101
  have W104 : ∀ zQ, SS p e below T101 m 21 #[.val (.long x), .second, .val (.int (0 : Int32)), .val (.long y), .second, .val (.int (0 : Int32)), .val (.long (0 : Int64)), .second, .unset, .unset, .unset, .unset] [(.ref r_102)] zQ → Steps p.tables e below (s₁.setTop (entryFrame m #[(.long x), (.int (0 : Int32)), (.long y), (.int (0 : Int32))] 12)) zQ := by
    intro tt kt
    refine W0 tt ?_
    refine XS.iloadN X0.here hx rfl (D_ d6_0) rfl ?_
    refine XS.i2l X0.here hx rfl (D_ d6_1) rfl ?_
    refine XS.iload X0.here hx rfl (D_ d6_2) rfl ?_
    refine XS.i2l X0.here hx rfl (D_ d6_4) rfl ?_
    refine XS.lsub X0.here hx rfl (D_ d6_5) rfl ?_
    refine XS.lstore X0.here hx rfl (D_ d6_6) rfl (l' := #[.val (.long x), .second, .val (.int (0 : Int32)), .val (.long y), .second, .val (.int (0 : Int32)), .val (.long (0 : Int64)), .second, .unset, .unset, .unset, .unset]) rfl ?_
    refine XS.lload X0.here hx rfl (D_ d6_8) rfl ?_
    refine XS.lconst X0.here hx rfl (D_ d6_10) ?_
    refine XS.lcmp X0.here hx rfl (D_ d6_11) rfl ?_
    refine XS.ifNo X0.here hx rfl (D_ d6_12) rfl ((if0 _ _).trans (teq ((lw_eq _ _).mpr rfl)).2) ?_
    refine XS.lloadN X0.here hx rfl (D_ d6_15) rfl ?_
    refine XS.lloadN X0.here hx rfl (D_ d6_16) rfl ?_
    refine XS.iloadN X0.here hx rfl (D_ d6_17) rfl ?_
    refine st101 _ ?_
    exact kt
  obtain ⟨fs, hr, hrun, hended, hW, hsame⟩ := X101.leave (v := some (.ref r_102)) (fun h => by rw [Bd.returns] at h; cases h)
  refine ⟨_, _, W104 _ (own_retR X101 hx Bd.returns rfl rfl (D_ d6_21) hr), hrun, hended, _, _, rfl, ?_, ⟨_, rfl⟩, hW, hsame.mono (by decide) (by decide)⟩
  show Q_addJIJI Z x y zt kz zl h0 n0 _ T101.heap _
  exact ⟨r_102, v_103, rfl, N101, (Keep.trans (Keep.refl h0 []) K101 all0), P101_0, P101_1⟩
def Q_bdadd (Z : State) (a : Addr) (o : Addr) (x : Int64) (y : Int64) (zt : Addr) (kz : ClassId) (zl : List Addr) (h0 : Heap) (n0 : Nat) (vQ_ : Option Value) (hQ_ : Heap) (LQ_ : List Loc) : Prop := ∃ r : Addr, ∃ v : Int64, vQ_ = some (.ref r) ∧ Fr n0 LQ_ ∧ Keep h0 hQ_ [] ∧ BD Z hQ_ r v ∧ v.toInt = x.toInt + y.toInt
theorem rm_bdadd (l : Launch) (Z : State) (a0 : Array Value) (hw : HW a0 Z) (ws : List Jvm.Cond) (a : Addr) (o : Addr) (x : Int64) (y : Int64) (zt : Addr) (kz : ClassId) (zl : List Addr) (h0 : Heap) (n0 : Nat) (Z0 : n0 ≤ h0.size) (O0 : Old Z n0 h0) (S_zt : Sta Z Z.heap "java/math/BigDecimal" "ZERO_THROUGH_TEN" "[Ljava/math/BigDecimal;" (.ref zt)) (V_zt : Arv Z Z.heap zt kz (.object "java/math/BigDecimal") (11 : Int32) (zl.map Value.ref) .null) (hzl : zl.length = 11) (hz : ∀ i, i < 11 → BD Z Z.heap (zl.getD i 0) (Int64.ofNat i)) (hA : BD Z h0 a x) (hB : BD Z h0 o y) (hX : Bn 100 x) (hY : Bn 100 y) :
    CT l yn7 (Jvm.Cond.code yn7 jdk_17_method_26_code 2 (some (.object "java/math/BigDecimal")) :: ws) (⟨7, 1, 5, 110⟩ : Room) #[(.ref a), (.ref o)] Z h0 (Q_bdadd Z a o x y zt kz zl h0 n0) := by
  refine MetFree.of_bodySF (plainFor_of_name pn_java_math_BigDecimal) hisR ?_
  intro p e s m args below meth cO s₁ Bd hml hP hK
  obtain ⟨rfl, hZ, hh⟩ := hP
  have hx := Bd.exec
  have hby := Bd.bytes
  have hown : s.vm.findClass "java/math/BigDecimal" = some m.cls := findClass_of_methodNamed Bd.named
  have hnm := (name_of_methodNamed Bd.named Bd.method).1
  have X0 : Stand p l e (⟨7, 1, 5, 110⟩ : Room) s m #[(.ref a), (.ref o)] below meth cO s₁ [] 0 0 := Stand.of_body Bd
  have e0 : s₁.heap = h0 := by rw [← hh, Bd.state]; rfl
  have N0 := Fr.nil n0
  have D_ : ∀ {i : Nat} {x}, decode jdk_17_method_26_code i = x → decode cO.code i = x := fun h => hb hby h
  have W0 : ∀ zQ, SS p e below s₁ m 0 #[.val (.ref a), .val (.ref o)] [] zQ → Steps p.tables e below (s₁.setTop (entryFrame m #[(.ref a), (.ref o)] 2)) zQ := fun tt kt => castTop (ef_bdadd m a o) kt
  have hxm : ¬ (x = (-9223372036854775808 : Int64)) := own_nmin hX (by decide)
  have hym : ¬ (y = (-9223372036854775808 : Int64)) := own_nmin hY (by decide)
  obtain ⟨T101, X101, e101, st101⟩ := getF X0 hx hZ hown (host := "") (Or.inl (w66 hw)) Via.refl e0 hA.2.2 (g := (mkF m 1 #[.val (.ref a), .val (.ref o)] [(.ref a)])) rfl rfl (D_ d7_1)
  obtain ⟨T102, X102, e102, st102⟩ := getF X101 hx hZ hown (host := "") (Or.inl (w66 hw)) Via.refl e101 hB.2.2 (g := (mkF m 12 #[.val (.ref a), .val (.ref o)] [(.ref o)])) rfl rfl (D_ d7_12)
  obtain ⟨T103, X103, e103, st103⟩ := getF X102 hx hZ hown (host := "") (Or.inl (w66 hw)) Via.refl e102 hA.2.2 (g := (mkF m 23 #[.val (.ref a), .val (.ref o)] [(.ref a)])) rfl rfl (D_ d7_23)
  obtain ⟨T104, X104, e104, st104⟩ := getF X103 hx hZ hown (host := "") (Or.inl (w64 hw)) Via.refl e103 hA.2.1 (g := (mkF m 27 #[.val (.ref a), .val (.ref o)] [(.ref a), (.long x)])) rfl rfl (D_ d7_27)
  obtain ⟨T105, X105, e105, st105⟩ := getF X104 hx hZ hown (host := "") (Or.inl (w66 hw)) Via.refl e104 hB.2.2 (g := (mkF m 31 #[.val (.ref a), .val (.ref o)] [(.ref o), (.int (0 : Int32)), (.long x)])) rfl rfl (D_ d7_31)
  obtain ⟨T106, X106, e106, st106⟩ := getF X105 hx hZ hown (host := "") (Or.inl (w64 hw)) Via.refl e105 hB.2.1 (g := (mkF m 35 #[.val (.ref a), .val (.ref o)] [(.ref o), (.long y), (.int (0 : Int32)), (.long x)])) rfl rfl (D_ d7_35)
  obtain ⟨_, _, ⟨T107, L107, k107, n107⟩, -, X107, ⟨Lc107, hQ107, l107, y107, z107⟩, st107⟩ := Jvm.LawKit.callS X106 hx (y := yn6) hown (mvT hZ (w124 hw)) (mvT hZ (w125 hw)) (mvT hZ (w45 hw)) (mvT hZ (w126 hw)) (by decide) (backOf (W := 0) (rm_addJIJI l Z a0 hw [] x y zt kz zl h0 n0 Z0 O0 S_zt V_zt hzl hz hX hY) hZ (w126 hw) (w45 hw) (by decide) (by decide)) (g := (mkF m 38 #[.val (.ref a), .val (.ref o)] [(.int (0 : Int32)), (.long y), (.int (0 : Int32)), (.long x)])) rfl (by rw [hml]; rfl) (argsL := [(.long x), (.int (0 : Int32)), (.long y), (.int (0 : Int32))]) (rest := []) (lenOf pd6 rfl) rfl (wq rfl) (D_ d7_38) (fun _ _ => ⟨rfl, e106, (nb rfl), (nb rfl)⟩)
  dsimp only [Pt.U, Pt.locs, Pt.cells, Pt.slots] at X107 l107 y107 z107 st107 hQ107
  subst l107 y107 z107
  obtain ⟨r_108, v_109, rfl, Nq107, K107, P107_0, P107_1⟩ := hQ107
  have N107 := Fr.app N0 Nq107
  have W110 : ∀ zQ, SS p e below T107 m 41 #[.val (.ref a), .val (.ref o)] [(.ref r_108)] zQ → Steps p.tables e below (s₁.setTop (entryFrame m #[(.ref a), (.ref o)] 2)) zQ := by
    intro tt kt
    refine W0 tt ?_
    refine XS.aloadN X0.here hx rfl (D_ d7_0) rfl rfl ?_
    refine st101 _ ?_
    refine X101.ldc2Long hx hown (mvT hZ (w68 hw)) (g := (mkF m 4 #[.val (.ref a), .val (.ref o)] [(.long x)])) rfl (D_ d7_4) _ ?_
    refine XS.lcmp X101.here hx rfl (D_ d7_7) rfl ?_
    refine XS.ifNo X101.here hx rfl (D_ d7_8) rfl ((if0 _ _).trans (feq (fun q => hxm ((lw_eq _ _).mp q))).1) ?_
    refine XS.aloadN X101.here hx rfl (D_ d7_11) rfl rfl ?_
    refine st102 _ ?_
    refine X102.ldc2Long hx hown (mvT hZ (w68 hw)) (g := (mkF m 15 #[.val (.ref a), .val (.ref o)] [(.long y)])) rfl (D_ d7_15) _ ?_
    refine XS.lcmp X102.here hx rfl (D_ d7_18) rfl ?_
    refine XS.ifNo X102.here hx rfl (D_ d7_19) rfl ((if0 _ _).trans (feq (fun q => hym ((lw_eq _ _).mp q))).1) ?_
    refine XS.aloadN X102.here hx rfl (D_ d7_22) rfl rfl ?_
    refine st103 _ ?_
    refine XS.aloadN X103.here hx rfl (D_ d7_26) rfl rfl ?_
    refine st104 _ ?_
    refine XS.aloadN X104.here hx rfl (D_ d7_30) rfl rfl ?_
    refine st105 _ ?_
    refine XS.aloadN X105.here hx rfl (D_ d7_34) rfl rfl ?_
    refine st106 _ ?_
    refine st107 _ ?_
    exact kt
  obtain ⟨fs, hr, hrun, hended, hW, hsame⟩ := X107.leave (v := some (.ref r_108)) (fun h => by rw [Bd.returns] at h; cases h)
  refine ⟨_, _, W110 _ (own_retR X107 hx Bd.returns rfl rfl (D_ d7_41) hr), hrun, hended, _, _, rfl, ?_, ⟨_, rfl⟩, hW, hsame.mono (by decide) (by decide)⟩
  show Q_bdadd Z a o x y zt kz zl h0 n0 _ T107.heap _
  exact ⟨r_108, v_109, rfl, N107, (Keep.trans (Keep.refl h0 []) K107 all0), P107_0, P107_1⟩
def Q_bdsub (Z : State) (a : Addr) (o : Addr) (x : Int64) (y : Int64) (zt : Addr) (kz : ClassId) (zl : List Addr) (h0 : Heap) (n0 : Nat) (vQ_ : Option Value) (hQ_ : Heap) (LQ_ : List Loc) : Prop := ∃ r : Addr, ∃ v : Int64, vQ_ = some (.ref r) ∧ Fr n0 LQ_ ∧ Keep h0 hQ_ [] ∧ BD Z hQ_ r v ∧ v.toInt = x.toInt - y.toInt
theorem rm_bdsub (l : Launch) (Z : State) (a0 : Array Value) (hw : HW a0 Z) (ws : List Jvm.Cond) (a : Addr) (o : Addr) (x : Int64) (y : Int64) (zt : Addr) (kz : ClassId) (zl : List Addr) (h0 : Heap) (n0 : Nat) (Z0 : n0 ≤ h0.size) (O0 : Old Z n0 h0) (S_zt : Sta Z Z.heap "java/math/BigDecimal" "ZERO_THROUGH_TEN" "[Ljava/math/BigDecimal;" (.ref zt)) (V_zt : Arv Z Z.heap zt kz (.object "java/math/BigDecimal") (11 : Int32) (zl.map Value.ref) .null) (hzl : zl.length = 11) (hz : ∀ i, i < 11 → BD Z Z.heap (zl.getD i 0) (Int64.ofNat i)) (hA : BD Z h0 a x) (hB : BD Z h0 o y) (hX : Bn 100 x) (hY : Bn 100 y) :
    CT l yn8 (Jvm.Cond.code yn8 jdk_17_method_29_code 2 (some (.object "java/math/BigDecimal")) :: ws) (⟨7, 1, 5, 110⟩ : Room) #[(.ref a), (.ref o)] Z h0 (Q_bdsub Z a o x y zt kz zl h0 n0) := by
  refine MetFree.of_bodySF (plainFor_of_name pn_java_math_BigDecimal) hisR ?_
  intro p e s m args below meth cO s₁ Bd hml hP hK
  obtain ⟨rfl, hZ, hh⟩ := hP
  have hx := Bd.exec
  have hby := Bd.bytes
  have hown : s.vm.findClass "java/math/BigDecimal" = some m.cls := findClass_of_methodNamed Bd.named
  have hnm := (name_of_methodNamed Bd.named Bd.method).1
  have X0 : Stand p l e (⟨7, 1, 5, 110⟩ : Room) s m #[(.ref a), (.ref o)] below meth cO s₁ [] 0 0 := Stand.of_body Bd
  have e0 : s₁.heap = h0 := by rw [← hh, Bd.state]; rfl
  have N0 := Fr.nil n0
  have D_ : ∀ {i : Nat} {x}, decode jdk_17_method_29_code i = x → decode cO.code i = x := fun h => hb hby h
  have W0 : ∀ zQ, SS p e below s₁ m 0 #[.val (.ref a), .val (.ref o)] [] zQ → Steps p.tables e below (s₁.setTop (entryFrame m #[(.ref a), (.ref o)] 2)) zQ := fun tt kt => castTop (ef_bdsub m a o) kt
  have hxm : ¬ (x = (-9223372036854775808 : Int64)) := own_nmin hX (by decide)
  have hym : ¬ (y = (-9223372036854775808 : Int64)) := own_nmin hY (by decide)
  obtain ⟨T101, X101, e101, st101⟩ := getF X0 hx hZ hown (host := "") (Or.inl (w66 hw)) Via.refl e0 hA.2.2 (g := (mkF m 1 #[.val (.ref a), .val (.ref o)] [(.ref a)])) rfl rfl (D_ d8_1)
  obtain ⟨T102, X102, e102, st102⟩ := getF X101 hx hZ hown (host := "") (Or.inl (w66 hw)) Via.refl e101 hB.2.2 (g := (mkF m 12 #[.val (.ref a), .val (.ref o)] [(.ref o)])) rfl rfl (D_ d8_12)
  obtain ⟨T103, X103, e103, st103⟩ := getF X102 hx hZ hown (host := "") (Or.inl (w66 hw)) Via.refl e102 hA.2.2 (g := (mkF m 23 #[.val (.ref a), .val (.ref o)] [(.ref a)])) rfl rfl (D_ d8_23)
  obtain ⟨T104, X104, e104, st104⟩ := getF X103 hx hZ hown (host := "") (Or.inl (w64 hw)) Via.refl e103 hA.2.1 (g := (mkF m 27 #[.val (.ref a), .val (.ref o)] [(.ref a), (.long x)])) rfl rfl (D_ d8_27)
  obtain ⟨T105, X105, e105, st105⟩ := getF X104 hx hZ hown (host := "") (Or.inl (w66 hw)) Via.refl e104 hB.2.2 (g := (mkF m 31 #[.val (.ref a), .val (.ref o)] [(.ref o), (.int (0 : Int32)), (.long x)])) rfl rfl (D_ d8_31)
  obtain ⟨T106, X106, e106, st106⟩ := getF X105 hx hZ hown (host := "") (Or.inl (w64 hw)) Via.refl e105 hB.2.1 (g := (mkF m 36 #[.val (.ref a), .val (.ref o)] [(.ref o), (.long (-y)), (.int (0 : Int32)), (.long x)])) rfl rfl (D_ d8_36)
  obtain ⟨_, _, ⟨T107, L107, k107, n107⟩, -, X107, ⟨Lc107, hQ107, l107, y107, z107⟩, st107⟩ := Jvm.LawKit.callS X106 hx (y := yn6) hown (mvT hZ (w124 hw)) (mvT hZ (w125 hw)) (mvT hZ (w45 hw)) (mvT hZ (w126 hw)) (by decide) (backOf (W := 0) (rm_addJIJI l Z a0 hw [] x (-y) zt kz zl h0 n0 Z0 O0 S_zt V_zt hzl hz hX (own_bneg hY (by decide))) hZ (w126 hw) (w45 hw) (by decide) (by decide)) (g := (mkF m 39 #[.val (.ref a), .val (.ref o)] [(.int (0 : Int32)), (.long (-y)), (.int (0 : Int32)), (.long x)])) rfl (by rw [hml]; rfl) (argsL := [(.long x), (.int (0 : Int32)), (.long (-y)), (.int (0 : Int32))]) (rest := []) (lenOf pd6 rfl) rfl (wq rfl) (D_ d8_39) (fun _ _ => ⟨rfl, e106, (nb rfl), (nb rfl)⟩)
  dsimp only [Pt.U, Pt.locs, Pt.cells, Pt.slots] at X107 l107 y107 z107 st107 hQ107
  subst l107 y107 z107
  obtain ⟨r_108, v_109, rfl, Nq107, K107, P107_0, P107_1⟩ := hQ107
  have N107 := Fr.app N0 Nq107
  have W110 : ∀ zQ, SS p e below T107 m 42 #[.val (.ref a), .val (.ref o)] [(.ref r_108)] zQ → Steps p.tables e below (s₁.setTop (entryFrame m #[(.ref a), (.ref o)] 2)) zQ := by
    intro tt kt
    refine W0 tt ?_
    refine XS.aloadN X0.here hx rfl (D_ d8_0) rfl rfl ?_
    refine st101 _ ?_
    refine X101.ldc2Long hx hown (mvT hZ (w68 hw)) (g := (mkF m 4 #[.val (.ref a), .val (.ref o)] [(.long x)])) rfl (D_ d8_4) _ ?_
    refine XS.lcmp X101.here hx rfl (D_ d8_7) rfl ?_
    refine XS.ifNo X101.here hx rfl (D_ d8_8) rfl ((if0 _ _).trans (feq (fun q => hxm ((lw_eq _ _).mp q))).1) ?_
    refine XS.aloadN X101.here hx rfl (D_ d8_11) rfl rfl ?_
    refine st102 _ ?_
    refine X102.ldc2Long hx hown (mvT hZ (w68 hw)) (g := (mkF m 15 #[.val (.ref a), .val (.ref o)] [(.long y)])) rfl (D_ d8_15) _ ?_
    refine XS.lcmp X102.here hx rfl (D_ d8_18) rfl ?_
    refine XS.ifNo X102.here hx rfl (D_ d8_19) rfl ((if0 _ _).trans (feq (fun q => hym ((lw_eq _ _).mp q))).1) ?_
    refine XS.aloadN X102.here hx rfl (D_ d8_22) rfl rfl ?_
    refine st103 _ ?_
    refine XS.aloadN X103.here hx rfl (D_ d8_26) rfl rfl ?_
    refine st104 _ ?_
    refine XS.aloadN X104.here hx rfl (D_ d8_30) rfl rfl ?_
    refine st105 _ ?_
    refine XS.lneg X105.here hx rfl (D_ d8_34) rfl ?_
    refine XS.aloadN X105.here hx rfl (D_ d8_35) rfl rfl ?_
    refine st106 _ ?_
    refine st107 _ ?_
    exact kt
  obtain ⟨fs, hr, hrun, hended, hW, hsame⟩ := X107.leave (v := some (.ref r_108)) (fun h => by rw [Bd.returns] at h; cases h)
  refine ⟨_, _, W110 _ (own_retR X107 hx Bd.returns rfl rfl (D_ d8_42) hr), hrun, hended, _, _, rfl, ?_, ⟨_, rfl⟩, hW, hsame.mono (by decide) (by decide)⟩
  show Q_bdsub Z a o x y zt kz zl h0 n0 _ T107.heap _
  exact ⟨r_108, v_109, rfl, N107, (Keep.trans (Keep.refl h0 []) K107 all0), P107_0, (by rw [P107_1, own_tneg hY]; omega)⟩
def Q_bdcmp (Z : State) (a : Addr) (o : Addr) (x : Int64) (y : Int64) (h0 : Heap) (n0 : Nat) (vQ_ : Option Value) (hQ_ : Heap) (LQ_ : List Loc) : Prop := vQ_ = some (.int (if x = y then (0 : Int32) else (if y < x then (1 : Int32) else (-1 : Int32)))) ∧ Fr n0 LQ_ ∧ hQ_ = h0
theorem rm_bdcmp (l : Launch) (Z : State) (a0 : Array Value) (hw : HW a0 Z) (ws : List Jvm.Cond) (a : Addr) (o : Addr) (x : Int64) (y : Int64) (h0 : Heap) (n0 : Nat) (Z0 : n0 ≤ h0.size) (hA : BD Z h0 a x) (hB : BD Z h0 o y) (hxm : ¬ (x = (-9223372036854775808 : Int64))) (hym : ¬ (y = (-9223372036854775808 : Int64))) :
    CT l yn9 (Jvm.Cond.code yn9 jdk_17_method_70_code 6 (some .int) :: ws) (⟨0, 0, 0, 0⟩ : Room) #[(.ref a), (.ref o)] Z h0 (Q_bdcmp Z a o x y h0 n0) := by
  refine MetFree.of_bodySF (plainFor_of_name pn_java_math_BigDecimal) hisR ?_
  intro p e s m args below meth cO s₁ Bd hml hP hK
  obtain ⟨rfl, hZ, hh⟩ := hP
  have hx := Bd.exec
  have hby := Bd.bytes
  have hown : s.vm.findClass "java/math/BigDecimal" = some m.cls := findClass_of_methodNamed Bd.named
  have hnm := (name_of_methodNamed Bd.named Bd.method).1
  have X0 : Stand p l e (⟨0, 0, 0, 0⟩ : Room) s m #[(.ref a), (.ref o)] below meth cO s₁ [] 0 0 := Stand.of_body Bd
  have e0 : s₁.heap = h0 := by rw [← hh, Bd.state]; rfl
  have N0 := Fr.nil n0
  have D_ : ∀ {i : Nat} {x}, decode jdk_17_method_70_code i = x → decode cO.code i = x := fun h => hb hby h
  have W0 : ∀ zQ, SS p e below s₁ m 0 #[.val (.ref a), .val (.ref o), .unset, .unset, .unset, .unset] [] zQ → Steps p.tables e below (s₁.setTop (entryFrame m #[(.ref a), (.ref o)] 6)) zQ := fun tt kt => castTop (ef_bdcmp m a o) kt
  obtain ⟨T101, X101, e101, st101⟩ := getF X0 hx hZ hown (host := "") (Or.inl (w64 hw)) Via.refl e0 hA.2.1 (g := (mkF m 1 #[.val (.ref a), .val (.ref o), .unset, .unset, .unset, .unset] [(.ref a)])) rfl rfl (D_ d9_1)
  obtain ⟨T102, X102, e102, st102⟩ := getF X101 hx hZ hown (host := "") (Or.inl (w64 hw)) Via.refl e101 hB.2.1 (g := (mkF m 5 #[.val (.ref a), .val (.ref o), .unset, .unset, .unset, .unset] [(.ref o), (.int (0 : Int32))])) rfl rfl (D_ d9_5)
  obtain ⟨T103, X103, e103, st103⟩ := getF X102 hx hZ hown (host := "") (Or.inl (w66 hw)) Via.refl e102 hA.2.2 (g := (mkF m 12 #[.val (.ref a), .val (.ref o), .unset, .unset, .unset, .unset] [(.ref a)])) rfl rfl (D_ d9_12)
  obtain ⟨T104, X104, e104, st104⟩ := getF X103 hx hZ hown (host := "") (Or.inl (w66 hw)) Via.refl e103 hB.2.2 (g := (mkF m 17 #[.val (.ref a), .val (.ref o), .val (.long x), .second, .unset, .unset] [(.ref o)])) rfl rfl (D_ d9_17)
  have W105 : ∀ zQ, SS p e below T104 m 43 #[.val (.ref a), .val (.ref o), .val (.long x), .second, .val (.long y), .second] [(.int (lcmpW x y))] zQ → Steps p.tables e below (s₁.setTop (entryFrame m #[(.ref a), (.ref o)] 6)) zQ := by
    intro tt kt
    refine W0 tt ?_
    refine XS.aloadN X0.here hx rfl (D_ d9_0) rfl rfl ?_
    refine st101 _ ?_
    refine XS.aloadN X101.here hx rfl (D_ d9_4) rfl rfl ?_
    refine st102 _ ?_
    refine XS.icmpNo X102.here hx rfl (D_ d9_8) rfl (teq (by decide)).2 ?_
    refine XS.aloadN X102.here hx rfl (D_ d9_11) rfl rfl ?_
    refine st103 _ ?_
    refine XS.lstoreN X103.here hx rfl (D_ d9_15) rfl (l' := #[.val (.ref a), .val (.ref o), .val (.long x), .second, .unset, .unset]) rfl ?_
    refine XS.aloadN X103.here hx rfl (D_ d9_16) rfl rfl ?_
    refine st104 _ ?_
    refine XS.lstore X104.here hx rfl (D_ d9_20) rfl (l' := #[.val (.ref a), .val (.ref o), .val (.long x), .second, .val (.long y), .second]) rfl ?_
    refine XS.lloadN X104.here hx rfl (D_ d9_22) rfl ?_
    refine X104.ldc2Long hx hown (mvT hZ (w68 hw)) (g := (mkF m 23 #[.val (.ref a), .val (.ref o), .val (.long x), .second, .val (.long y), .second] [(.long x)])) rfl (D_ d9_23) _ ?_
    refine XS.lcmp X104.here hx rfl (D_ d9_26) rfl ?_
    refine XS.ifNo X104.here hx rfl (D_ d9_27) rfl ((if0 _ _).trans (feq (fun q => hxm ((lw_eq _ _).mp q))).1) ?_
    refine XS.lload X104.here hx rfl (D_ d9_30) rfl ?_
    refine X104.ldc2Long hx hown (mvT hZ (w68 hw)) (g := (mkF m 32 #[.val (.ref a), .val (.ref o), .val (.long x), .second, .val (.long y), .second] [(.long y)])) rfl (D_ d9_32) _ ?_
    refine XS.lcmp X104.here hx rfl (D_ d9_35) rfl ?_
    refine XS.ifNo X104.here hx rfl (D_ d9_36) rfl ((if0 _ _).trans (feq (fun q => hym ((lw_eq _ _).mp q))).1) ?_
    refine XS.lloadN X104.here hx rfl (D_ d9_39) rfl ?_
    refine XS.lload X104.here hx rfl (D_ d9_40) rfl ?_
    refine XS.lcmp X104.here hx rfl (D_ d9_42) rfl ?_
    exact kt
  have W108 : ∀ zQ, SS p e below T104 m 62 #[.val (.ref a), .val (.ref o), .val (.long x), .second, .val (.long y), .second] [(.int (if x = y then (0 : Int32) else (if y < x then (1 : Int32) else (-1 : Int32))))] zQ → Steps p.tables e below (s₁.setTop (entryFrame m #[(.ref a), (.ref o)] 6)) zQ := by
    intro tt kt
    refine W105 tt ?_
    by_cases hj106 : x = y
    ·
      refine XS.ifYes X104.here hx rfl (pc0 := 43) (pc' := 61) rfl (D_ d9_43) rfl ((if0 _ _).trans (teq ((lw_eq _ _).mpr hj106)).1) (by decide) (by decide) ?_
      refine XS.iconst X104.here hx rfl (D_ d9_61) ?_
      exact castTop (by first | rfl | (simp only [if_pos hj106]; first | done | rfl)) kt
    ·
      refine XS.ifNo X104.here hx rfl (D_ d9_43) rfl ((if0 _ _).trans (feq (fun q => hj106 ((lw_eq _ _).mp q))).1) ?_
      refine XS.lloadN X104.here hx rfl (D_ d9_46) rfl ?_
      refine XS.lload X104.here hx rfl (D_ d9_47) rfl ?_
      refine XS.lcmp X104.here hx rfl (D_ d9_49) rfl ?_
      by_cases hj107 : y < x
      ·
        refine XS.ifNo X104.here hx rfl (D_ d9_50) rfl ((if0 _ _).trans (tlt ((lw_gt _ _).mpr hj107)).2.2.2) ?_
        refine XS.iconst X104.here hx rfl (D_ d9_53) ?_
        refine XS.goto X104.here hx rfl (pc0 := 54) (pc' := 62) rfl (D_ d9_54) (by decide) (by decide) ?_
        exact castTop (by first | rfl | (simp only [if_neg hj106, if_pos hj107]; first | done | rfl)) kt
      ·
        refine XS.ifYes X104.here hx rfl (pc0 := 50) (pc' := 57) rfl (D_ d9_50) rfl ((if0 _ _).trans (flt (fun q => hj107 ((lw_gt _ _).mp q))).2.2.2) (by decide) (by decide) ?_
        refine XS.iconst X104.here hx rfl (D_ d9_57) ?_
        refine XS.goto X104.here hx rfl (pc0 := 58) (pc' := 62) rfl (D_ d9_58) (by decide) (by decide) ?_
        exact castTop (by first | rfl | (simp only [if_neg hj106, if_neg hj107]; first | done | rfl)) kt
  obtain ⟨fs, hr, hrun, hended, hW, hsame⟩ := X104.leave (v := some (.int (if x = y then (0 : Int32) else (if y < x then (1 : Int32) else (-1 : Int32))))) (fun h => by rw [Bd.returns] at h; cases h)
  refine ⟨_, _, W108 _ (retI X104 hx Bd.returns (D_ d9_62) hr), hrun, hended, _, _, rfl, ?_, ⟨_, rfl⟩, hW, hsame.mono (by decide) (by decide)⟩
  show Q_bdcmp Z a o x y h0 n0 _ T104.heap _
  rw [e104]
  exact ⟨rfl, N0, rfl⟩
def Q_bdmax (Z : State) (a : Addr) (o : Addr) (x : Int64) (y : Int64) (h0 : Heap) (n0 : Nat) (vQ_ : Option Value) (hQ_ : Heap) (LQ_ : List Loc) : Prop := ∃ r : Addr, ∃ v : Int64, vQ_ = some (.ref r) ∧ Fr n0 LQ_ ∧ Keep h0 hQ_ [] ∧ BD Z hQ_ r v ∧ (v.toInt = x.toInt ∨ v.toInt = y.toInt) ∧ x.toInt ≤ v.toInt ∧ y.toInt ≤ v.toInt
theorem rm_bdmax (l : Launch) (Z : State) (a0 : Array Value) (hw : HW a0 Z) (ws : List Jvm.Cond) (a : Addr) (o : Addr) (x : Int64) (y : Int64) (h0 : Heap) (n0 : Nat) (Z0 : n0 ≤ h0.size) (hA : BD Z h0 a x) (hB : BD Z h0 o y) (hxm : ¬ (x = (-9223372036854775808 : Int64))) (hym : ¬ (y = (-9223372036854775808 : Int64))) :
    CT l yn10 (Jvm.Cond.code yn10 jdk_17_method_74_code 2 (some (.object "java/math/BigDecimal")) :: ws) (⟨1, 0, 0, 17⟩ : Room) #[(.ref a), (.ref o)] Z h0 (Q_bdmax Z a o x y h0 n0) := by
  refine MetFree.of_bodySF (plainFor_of_name pn_java_math_BigDecimal) hisR ?_
  intro p e s m args below meth cO s₁ Bd hml hP hK
  obtain ⟨rfl, hZ, hh⟩ := hP
  have hx := Bd.exec
  have hby := Bd.bytes
  have hown : s.vm.findClass "java/math/BigDecimal" = some m.cls := findClass_of_methodNamed Bd.named
  have hnm := (name_of_methodNamed Bd.named Bd.method).1
  have X0 : Stand p l e (⟨1, 0, 0, 17⟩ : Room) s m #[(.ref a), (.ref o)] below meth cO s₁ [] 0 0 := Stand.of_body Bd
  have e0 : s₁.heap = h0 := by rw [← hh, Bd.state]; rfl
  have N0 := Fr.nil n0
  have D_ : ∀ {i : Nat} {x}, decode jdk_17_method_74_code i = x → decode cO.code i = x := fun h => hb hby h
  have W0 : ∀ zQ, SS p e below s₁ m 0 #[.val (.ref a), .val (.ref o)] [] zQ → Steps p.tables e below (s₁.setTop (entryFrame m #[(.ref a), (.ref o)] 2)) zQ := fun tt kt => castTop (ef_bdmax m a o) kt
  obtain ⟨cq101, kq101, q101a, q101b, q101c⟩ := isOf hZ e0 hA.1
  obtain ⟨_, _, ⟨T101, L101, k101, n101⟩, -, X101, ⟨Lc101, hQ101, l101, y101, z101⟩, st101⟩ := X0.virtualBack hx (y := yn9) (z := yn9) hown (mvT hZ (w163 hw)) (mvT hZ (w60 hw)) (notFace_of_selects (args := #[]) (mvT hZ (w62 hw))) (mvT hZ (w62 hw)) (mvT hZ (w61 hw)) (by decide) (backOf (W := 0) (rm_bdcmp l Z a0 hw [] a o x y h0 n0 Z0 hA hB hxm hym) hZ (w63 hw) (w45 hw) (by decide) (by decide)) q101a q101c (g := (mkF m 2 #[.val (.ref a), .val (.ref o)] [(.ref o), (.ref a)])) rfl (by rw [hml]; rfl) (Steps.refl _) (argsL := [(.ref o)]) (rest := []) (lenOf pd7 rfl) rfl (wq rfl) (D_ d10_2) (fun _ _ => ⟨rfl, e0, (nb rfl), (nb rfl)⟩)
  dsimp only [Pt.U, Pt.locs, Pt.cells, Pt.slots] at X101 l101 y101 z101 st101 hQ101
  subst l101 y101 z101
  obtain ⟨rfl, Nq101, eq101⟩ := hQ101
  have N101 := Fr.app N0 Nq101
  have W102 : ∀ zQ, SS p e below T101 m 5 #[.val (.ref a), .val (.ref o)] [(.int (if x = y then (0 : Int32) else (if y < x then (1 : Int32) else (-1 : Int32))))] zQ → Steps p.tables e below (s₁.setTop (entryFrame m #[(.ref a), (.ref o)] 2)) zQ := by
    intro tt kt
    refine W0 tt ?_
    refine XS.aloadN X0.here hx rfl (D_ d10_0) rfl rfl ?_
    refine XS.aloadN X0.here hx rfl (D_ d10_1) rfl rfl ?_
    refine st101.trans ?_
    exact kt
  by_cases hc103 : (if x = y then (0 : Int32) else (if y < x then (1 : Int32) else (-1 : Int32))) < (0 : Int32)
  ·
    have W104 : ∀ zQ, SS p e below T101 m 13 #[.val (.ref a), .val (.ref o)] [(.ref o)] zQ → Steps p.tables e below (s₁.setTop (entryFrame m #[(.ref a), (.ref o)] 2)) zQ := by
      intro tt kt
      refine W102 tt ?_
      refine XS.ifYes X101.here hx rfl (pc0 := 5) (pc' := 12) rfl (D_ d10_5) rfl ((if0 _ _).trans (tlt hc103).1) (by decide) (by decide) ?_
      refine XS.aloadN X101.here hx rfl (D_ d10_12) rfl rfl ?_
      exact kt
    have hle := own_cmpl hc103
    obtain ⟨fs, hr, hrun, hended, hW, hsame⟩ := X101.leave (v := some (.ref o)) (fun h => by rw [Bd.returns] at h; cases h)
    refine ⟨_, _, W104 _ (own_retR X101 hx Bd.returns rfl rfl (D_ d10_13) hr), hrun, hended, _, _, rfl, ?_, ⟨_, rfl⟩, hW, hsame.mono (by decide) (by decide)⟩
    show Q_bdmax Z a o x y h0 n0 _ T101.heap _
    rw [eq101]
    exact ⟨o, y, rfl, N101, (Keep.refl h0 []), hB, (Or.inr rfl), hle, (Int.le_refl _)⟩
  ·
    have W105 : ∀ zQ, SS p e below T101 m 13 #[.val (.ref a), .val (.ref o)] [(.ref a)] zQ → Steps p.tables e below (s₁.setTop (entryFrame m #[(.ref a), (.ref o)] 2)) zQ := by
      intro tt kt
      refine W102 tt ?_
      refine XS.ifNo X101.here hx rfl (D_ d10_5) rfl ((if0 _ _).trans (flt hc103).1) ?_
      refine XS.aloadN X101.here hx rfl (D_ d10_8) rfl rfl ?_
      refine XS.goto X101.here hx rfl (pc0 := 9) (pc' := 13) rfl (D_ d10_9) (by decide) (by decide) ?_
      exact kt
    have hle := own_cmpg hc103
    obtain ⟨fs, hr, hrun, hended, hW, hsame⟩ := X101.leave (v := some (.ref a)) (fun h => by rw [Bd.returns] at h; cases h)
    refine ⟨_, _, W105 _ (own_retR X101 hx Bd.returns rfl rfl (D_ d10_13) hr), hrun, hended, _, _, rfl, ?_, ⟨_, rfl⟩, hW, hsame.mono (by decide) (by decide)⟩
    show Q_bdmax Z a o x y h0 n0 _ T101.heap _
    rw [eq101]
    exact ⟨a, x, rfl, N101, (Keep.refl h0 []), hA, (Or.inl rfl), (Int.le_refl _), hle⟩
def Q_lmax (Z : State) (a : Int64) (b : Int64) (h0 : Heap) (n0 : Nat) (vQ_ : Option Value) (hQ_ : Heap) (LQ_ : List Loc) : Prop := vQ_ = some (.long (if a < b then b else a)) ∧ Fr n0 LQ_ ∧ hQ_ = h0
theorem rm_lmax (l : Launch) (Z : State) (a0 : Array Value) (hw : HW a0 Z) (ws : List Jvm.Cond) (a : Int64) (b : Int64) (h0 : Heap) (n0 : Nat) (Z0 : n0 ≤ h0.size)  :
    CT l yn11 (Jvm.Cond.code yn11 jdk_29_method_66_code 4 (some .long) :: ws) (⟨0, 0, 0, 0⟩ : Room) #[(.long a), (.long b)] Z h0 (Q_lmax Z a b h0 n0) := by
  refine MetFree.of_bodySF (Jvm.Free.JP.mathPlain rfl (by decide +kernel)) hisR ?_
  intro p e s m args below meth cO s₁ Bd hml hP hK
  obtain ⟨rfl, hZ, hh⟩ := hP
  have hx := Bd.exec
  have hby := Bd.bytes
  have hown : s.vm.findClass "java/lang/Math" = some m.cls := findClass_of_methodNamed Bd.named
  have hnm := (name_of_methodNamed Bd.named Bd.method).1
  have X0 : Stand p l e (⟨0, 0, 0, 0⟩ : Room) s m #[(.long a), (.long b)] below meth cO s₁ [] 0 0 := Stand.of_body Bd
  have e0 : s₁.heap = h0 := by rw [← hh, Bd.state]; rfl
  have N0 := Fr.nil n0
  have D_ : ∀ {i : Nat} {x}, decode jdk_29_method_66_code i = x → decode cO.code i = x := fun h => hb hby h
  have W0 : ∀ zQ, SS p e below s₁ m 0 #[.val (.long a), .second, .val (.long b), .second] [] zQ → Steps p.tables e below (s₁.setTop (entryFrame m #[(.long a), (.long b)] 4)) zQ := fun tt kt => castTop (ef_lmax m a b) kt
  have W101 : ∀ zQ, SS p e below s₁ m 3 #[.val (.long a), .second, .val (.long b), .second] [(.int (lcmpW a b))] zQ → Steps p.tables e below (s₁.setTop (entryFrame m #[(.long a), (.long b)] 4)) zQ := by
    intro tt kt
    refine W0 tt ?_
    refine XS.lloadN X0.here hx rfl (D_ d11_0) rfl ?_
    refine XS.lloadN X0.here hx rfl (D_ d11_1) rfl ?_
    refine XS.lcmp X0.here hx rfl (D_ d11_2) rfl ?_
    exact kt
  have W103 : ∀ zQ, SS p e below s₁ m 11 #[.val (.long a), .second, .val (.long b), .second] [(.long (if a < b then b else a))] zQ → Steps p.tables e below (s₁.setTop (entryFrame m #[(.long a), (.long b)] 4)) zQ := by
    intro tt kt
    refine W101 tt ?_
    by_cases hj102 : a < b
    ·
      refine XS.ifYes X0.here hx rfl (pc0 := 3) (pc' := 10) rfl (D_ d11_3) rfl ((if0 _ _).trans (tlt ((lw_lt _ _).mpr hj102)).1) (by decide) (by decide) ?_
      refine XS.lloadN X0.here hx rfl (D_ d11_10) rfl ?_
      exact castTop (by first | rfl | (simp only [if_pos hj102]; first | done | rfl)) kt
    ·
      refine XS.ifNo X0.here hx rfl (D_ d11_3) rfl ((if0 _ _).trans (flt (fun q => hj102 ((lw_lt _ _).mp q))).1) ?_
      refine XS.lloadN X0.here hx rfl (D_ d11_6) rfl ?_
      refine XS.goto X0.here hx rfl (pc0 := 7) (pc' := 11) rfl (D_ d11_7) (by decide) (by decide) ?_
      exact castTop (by first | rfl | (simp only [if_neg hj102]; first | done | rfl)) kt
  obtain ⟨fs, hr, hrun, hended, hW, hsame⟩ := X0.leave (v := some (.long (if a < b then b else a))) (fun h => by rw [Bd.returns] at h; cases h)
  refine ⟨_, _, W103 _ (own_retJ X0 hx Bd.returns (D_ d11_11) hr), hrun, hended, _, _, rfl, ?_, ⟨_, rfl⟩, hW, hsame.mono (by decide) (by decide)⟩
  show Q_lmax Z a b h0 n0 _ s₁.heap _
  rw [e0]
  exact ⟨rfl, N0, rfl⟩
def Q_lmin (Z : State) (a : Int64) (b : Int64) (h0 : Heap) (n0 : Nat) (vQ_ : Option Value) (hQ_ : Heap) (LQ_ : List Loc) : Prop := vQ_ = some (.long (if b < a then b else a)) ∧ Fr n0 LQ_ ∧ hQ_ = h0
theorem rm_lmin (l : Launch) (Z : State) (a0 : Array Value) (hw : HW a0 Z) (ws : List Jvm.Cond) (a : Int64) (b : Int64) (h0 : Heap) (n0 : Nat) (Z0 : n0 ≤ h0.size)  :
    CT l yn12 (Jvm.Cond.code yn12 jdk_29_method_70_code 4 (some .long) :: ws) (⟨0, 0, 0, 0⟩ : Room) #[(.long a), (.long b)] Z h0 (Q_lmin Z a b h0 n0) := by
  refine MetFree.of_bodySF (Jvm.Free.JP.mathPlain rfl (by decide +kernel)) hisR ?_
  intro p e s m args below meth cO s₁ Bd hml hP hK
  obtain ⟨rfl, hZ, hh⟩ := hP
  have hx := Bd.exec
  have hby := Bd.bytes
  have hown : s.vm.findClass "java/lang/Math" = some m.cls := findClass_of_methodNamed Bd.named
  have hnm := (name_of_methodNamed Bd.named Bd.method).1
  have X0 : Stand p l e (⟨0, 0, 0, 0⟩ : Room) s m #[(.long a), (.long b)] below meth cO s₁ [] 0 0 := Stand.of_body Bd
  have e0 : s₁.heap = h0 := by rw [← hh, Bd.state]; rfl
  have N0 := Fr.nil n0
  have D_ : ∀ {i : Nat} {x}, decode jdk_29_method_70_code i = x → decode cO.code i = x := fun h => hb hby h
  have W0 : ∀ zQ, SS p e below s₁ m 0 #[.val (.long a), .second, .val (.long b), .second] [] zQ → Steps p.tables e below (s₁.setTop (entryFrame m #[(.long a), (.long b)] 4)) zQ := fun tt kt => castTop (ef_lmin m a b) kt
  have W101 : ∀ zQ, SS p e below s₁ m 3 #[.val (.long a), .second, .val (.long b), .second] [(.int (lcmpW a b))] zQ → Steps p.tables e below (s₁.setTop (entryFrame m #[(.long a), (.long b)] 4)) zQ := by
    intro tt kt
    refine W0 tt ?_
    refine XS.lloadN X0.here hx rfl (D_ d12_0) rfl ?_
    refine XS.lloadN X0.here hx rfl (D_ d12_1) rfl ?_
    refine XS.lcmp X0.here hx rfl (D_ d12_2) rfl ?_
    exact kt
  have W103 : ∀ zQ, SS p e below s₁ m 11 #[.val (.long a), .second, .val (.long b), .second] [(.long (if b < a then b else a))] zQ → Steps p.tables e below (s₁.setTop (entryFrame m #[(.long a), (.long b)] 4)) zQ := by
    intro tt kt
    refine W101 tt ?_
    by_cases hj102 : b < a
    ·
      refine XS.ifYes X0.here hx rfl (pc0 := 3) (pc' := 10) rfl (D_ d12_3) rfl ((if0 _ _).trans (tlt ((lw_gt _ _).mpr hj102)).2.2.1) (by decide) (by decide) ?_
      refine XS.lloadN X0.here hx rfl (D_ d12_10) rfl ?_
      exact castTop (by first | rfl | (simp only [if_pos hj102]; first | done | rfl)) kt
    ·
      refine XS.ifNo X0.here hx rfl (D_ d12_3) rfl ((if0 _ _).trans (flt (fun q => hj102 ((lw_gt _ _).mp q))).2.2.1) ?_
      refine XS.lloadN X0.here hx rfl (D_ d12_6) rfl ?_
      refine XS.goto X0.here hx rfl (pc0 := 7) (pc' := 11) rfl (D_ d12_7) (by decide) (by decide) ?_
      exact castTop (by first | rfl | (simp only [if_neg hj102]; first | done | rfl)) kt
  obtain ⟨fs, hr, hrun, hended, hW, hsame⟩ := X0.leave (v := some (.long (if b < a then b else a))) (fun h => by rw [Bd.returns] at h; cases h)
  refine ⟨_, _, W103 _ (own_retJ X0 hx Bd.returns (D_ d12_11) hr), hrun, hended, _, _, rfl, ?_, ⟨_, rfl⟩, hW, hsame.mono (by decide) (by decide)⟩
  show Q_lmin Z a b h0 n0 _ s₁.heap _
  rw [e0]
  exact ⟨rfl, N0, rfl⟩
def Q_imax (Z : State) (j : Int32) (k : Int32) (h0 : Heap) (n0 : Nat) (vQ_ : Option Value) (hQ_ : Heap) (LQ_ : List Loc) : Prop := vQ_ = some (.int (if j < k then k else j)) ∧ Fr n0 LQ_ ∧ hQ_ = h0
theorem rm_imax (l : Launch) (Z : State) (a0 : Array Value) (hw : HW a0 Z) (ws : List Jvm.Cond) (j : Int32) (k : Int32) (h0 : Heap) (n0 : Nat) (Z0 : n0 ≤ h0.size)  :
    CT l yn13 (Jvm.Cond.code yn13 jdk_29_method_65_code 2 (some .int) :: ws) (⟨0, 0, 0, 0⟩ : Room) #[(.int j), (.int k)] Z h0 (Q_imax Z j k h0 n0) := by
  refine MetFree.of_bodySF (Jvm.Free.JP.mathPlain rfl (by decide +kernel)) hisR ?_
  intro p e s m args below meth cO s₁ Bd hml hP hK
  obtain ⟨rfl, hZ, hh⟩ := hP
  have hx := Bd.exec
  have hby := Bd.bytes
  have hown : s.vm.findClass "java/lang/Math" = some m.cls := findClass_of_methodNamed Bd.named
  have hnm := (name_of_methodNamed Bd.named Bd.method).1
  have X0 : Stand p l e (⟨0, 0, 0, 0⟩ : Room) s m #[(.int j), (.int k)] below meth cO s₁ [] 0 0 := Stand.of_body Bd
  have e0 : s₁.heap = h0 := by rw [← hh, Bd.state]; rfl
  have N0 := Fr.nil n0
  have D_ : ∀ {i : Nat} {x}, decode jdk_29_method_65_code i = x → decode cO.code i = x := fun h => hb hby h
  have W0 : ∀ zQ, SS p e below s₁ m 0 #[.val (.int j), .val (.int k)] [] zQ → Steps p.tables e below (s₁.setTop (entryFrame m #[(.int j), (.int k)] 2)) zQ := fun tt kt => castTop (ef_imax m j k) kt
  have W101 : ∀ zQ, SS p e below s₁ m 2 #[.val (.int j), .val (.int k)] [(.int k), (.int j)] zQ → Steps p.tables e below (s₁.setTop (entryFrame m #[(.int j), (.int k)] 2)) zQ := by
    intro tt kt
    refine W0 tt ?_
    refine XS.iloadN X0.here hx rfl (D_ d13_0) rfl ?_
    refine XS.iloadN X0.here hx rfl (D_ d13_1) rfl ?_
    exact kt
  have W103 : ∀ zQ, SS p e below s₁ m 10 #[.val (.int j), .val (.int k)] [(.int (if j < k then k else j))] zQ → Steps p.tables e below (s₁.setTop (entryFrame m #[(.int j), (.int k)] 2)) zQ := by
    intro tt kt
    refine W101 tt ?_
    by_cases hj102 : j < k
    ·
      refine XS.icmpYes X0.here hx rfl (pc0 := 2) (pc' := 9) rfl (D_ d13_2) rfl (tlt hj102).1 (by decide) (by decide) ?_
      refine XS.iloadN X0.here hx rfl (D_ d13_9) rfl ?_
      exact castTop (by first | rfl | (simp only [if_pos hj102]; first | done | rfl)) kt
    ·
      refine XS.icmpNo X0.here hx rfl (D_ d13_2) rfl (flt hj102).1 ?_
      refine XS.iloadN X0.here hx rfl (D_ d13_5) rfl ?_
      refine XS.goto X0.here hx rfl (pc0 := 6) (pc' := 10) rfl (D_ d13_6) (by decide) (by decide) ?_
      exact castTop (by first | rfl | (simp only [if_neg hj102]; first | done | rfl)) kt
  obtain ⟨fs, hr, hrun, hended, hW, hsame⟩ := X0.leave (v := some (.int (if j < k then k else j))) (fun h => by rw [Bd.returns] at h; cases h)
  refine ⟨_, _, W103 _ (retI X0 hx Bd.returns (D_ d13_10) hr), hrun, hended, _, _, rfl, ?_, ⟨_, rfl⟩, hW, hsame.mono (by decide) (by decide)⟩
  show Q_imax Z j k h0 n0 _ s₁.heap _
  rw [e0]
  exact ⟨rfl, N0, rfl⟩
def Q_w1 (Z : State) (p_ : Addr) (i : Nat) (kp : ClassId) (pl : List Value) (y0 : Int64) (h0 : Heap) (n0 : Nat) (vQ_ : Option Value) (hQ_ : Heap) (LQ_ : List Loc) : Prop := ∃ v : Int64, vQ_ = some (.long v) ∧ Fr n0 LQ_ ∧ hQ_ = h0 ∧ v.toInt = y0.toInt ∧ Bn 4 v
theorem rm_w1 (l : Launch) (Z : State) (a0 : Array Value) (hw : HW a0 Z) (ws : List Jvm.Cond) (p_ : Addr) (i : Nat) (kp : ClassId) (pl : List Value) (y0 : Int64) (h0 : Heap) (n0 : Nat) (Z0 : n0 ≤ h0.size) (VP : Arv Z h0 p_ kp .long (4 : Int32) pl (.long (0 : Int64))) (hi : i + 1 ≤ 4) (g0 : pl.getD i (.long (0 : Int64)) = .long y0) (bg0 : Bn 1 y0) :
    CT l yn14 (Jvm.Cond.code yn14 method_3_code 5 (some .long) :: ws) (⟨0, 0, 0, 0⟩ : Room) #[(.ref p_), (.int (Int32.ofNat i)), (.int (1 : Int32))] Z h0 (Q_w1 Z p_ i kp pl y0 h0 n0) := by
  refine MetFree.of_bodySF (plainFor_of_name pn_com_example_vestline_vestline_finalaveragepay_BestPeriodsTotalPinLaw) hisR ?_
  intro p e s m args below meth cO s₁ Bd hml hP hK
  obtain ⟨rfl, hZ, hh⟩ := hP
  have hx := Bd.exec
  have hby := Bd.bytes
  have hown : s.vm.findClass "com/example/vestline/vestline/finalaveragepay/BestPeriodsTotalPinLaw" = some m.cls := findClass_of_methodNamed Bd.named
  have hnm := (name_of_methodNamed Bd.named Bd.method).1
  have X0 : Stand p l e (⟨0, 0, 0, 0⟩ : Room) s m #[(.ref p_), (.int (Int32.ofNat i)), (.int (1 : Int32))] below meth cO s₁ [] 0 0 := Stand.of_body Bd
  have e0 : s₁.heap = h0 := by rw [← hh, Bd.state]; rfl
  have N0 := Fr.nil n0
  have D_ : ∀ {i : Nat} {x}, decode method_3_code i = x → decode cO.code i = x := fun h => hb hby h
  have W0 : ∀ zQ, SS p e below s₁ m 0 #[.val (.ref p_), .val (.int (Int32.ofNat i)), .val (.int (1 : Int32)), .unset, .unset] [] zQ → Steps p.tables e below (s₁.setTop (entryFrame m #[(.ref p_), (.int (Int32.ofNat i)), (.int (1 : Int32))] 5)) zQ := fun tt kt => castTop (ef_w1 m p_ (Int32.ofNat i) (1 : Int32)) kt
  obtain ⟨cl101, Ar101, q101, S101, M101, H101, F101g⟩ := id VP
  have hin101 : ¬ ((Int32.ofNat i) < 0 ∨ cl101.slots.size ≤ ((Int32.ofNat i)).toNatClampNeg) := inb_of S101 ⟨own_nneg (by omega), own_lt (n := 4) (by omega) (by decide)⟩
  have hat101 : cl101.slots[((Int32.ofNat i)).toNatClampNeg]? = some (.long y0) := Has.at H101 hin101 (by rw [own_cl (by omega)]; exact g0)
  have W102 : ∀ zQ, SS p e below s₁ m 52 #[.val (.ref p_), .val (.int (Int32.ofNat i)), .val (.int (1 : Int32)), .val (.long ((0 : Int64) + y0)), .second] [(.long ((0 : Int64) + y0))] zQ → Steps p.tables e below (s₁.setTop (entryFrame m #[(.ref p_), (.int (Int32.ofNat i)), (.int (1 : Int32))] 5)) zQ := by
    intro tt kt
    refine W0 tt ?_
    refine XS.lconst X0.here hx rfl (D_ d14_0) ?_
    refine XS.lstoreN X0.here hx rfl (D_ d14_1) rfl (l' := #[.val (.ref p_), .val (.int (Int32.ofNat i)), .val (.int (1 : Int32)), .val (.long (0 : Int64)), .second]) rfl ?_
    refine XS.iloadN X0.here hx rfl (D_ d14_2) rfl ?_
    refine XS.ifNo X0.here hx rfl (D_ d14_3) rfl ((if0 _ _).trans (tlt (by decide)).2.2.2) ?_
    refine XS.lloadN X0.here hx rfl (D_ d14_6) rfl ?_
    refine XS.aloadN X0.here hx rfl (D_ d14_7) rfl rfl ?_
    refine XS.iloadN X0.here hx rfl (D_ d14_8) rfl ?_
    refine X0.laload hx (j := (Int32.ofNat i)) (v := (.long y0)) (by first | exact Ar101.1 | (rw [e0]; exact Ar101.1)) (State.isArrayOf_alike hZ.alike Ar101.2.1) Ar101.2.2 hin101 hat101 (g := (mkF m 9 #[.val (.ref p_), .val (.int (Int32.ofNat i)), .val (.int (1 : Int32)), .val (.long (0 : Int64)), .second] [(.int (Int32.ofNat i)), (.ref p_), (.long (0 : Int64))])) rfl rfl (D_ d14_9) _ ?_
    refine XS.ladd X0.here hx rfl (D_ d14_10) rfl ?_
    refine XS.lstoreN X0.here hx rfl (D_ d14_11) rfl (l' := #[.val (.ref p_), .val (.int (Int32.ofNat i)), .val (.int (1 : Int32)), .val (.long ((0 : Int64) + y0)), .second]) rfl ?_
    refine XS.iloadN X0.here hx rfl (D_ d14_12) rfl ?_
    refine XS.iconst X0.here hx rfl (D_ d14_13) ?_
    refine XS.icmpYes X0.here hx rfl (pc0 := 14) (pc' := 25) rfl (D_ d14_14) rfl (flt (by decide)).2.2.2 (by decide) (by decide) ?_
    refine XS.iloadN X0.here hx rfl (D_ d14_25) rfl ?_
    refine XS.iconst X0.here hx rfl (D_ d14_26) ?_
    refine XS.icmpYes X0.here hx rfl (pc0 := 27) (pc' := 38) rfl (D_ d14_27) rfl (flt (by decide)).2.2.2 (by decide) (by decide) ?_
    refine XS.iloadN X0.here hx rfl (D_ d14_38) rfl ?_
    refine XS.iconst X0.here hx rfl (D_ d14_39) ?_
    refine XS.icmpYes X0.here hx rfl (pc0 := 40) (pc' := 51) rfl (D_ d14_40) rfl (flt (by decide)).2.2.2 (by decide) (by decide) ?_
    refine XS.lloadN X0.here hx rfl (D_ d14_51) rfl ?_
    exact kt
  have q0 := own_w1 bg0
  obtain ⟨fs, hr, hrun, hended, hW, hsame⟩ := X0.leave (v := some (.long ((0 : Int64) + y0))) (fun h => by rw [Bd.returns] at h; cases h)
  refine ⟨_, _, W102 _ (own_retJ X0 hx Bd.returns (D_ d14_52) hr), hrun, hended, _, _, rfl, ?_, ⟨_, rfl⟩, hW, hsame.mono (by decide) (by decide)⟩
  show Q_w1 Z p_ i kp pl y0 h0 n0 _ s₁.heap _
  rw [e0]
  exact ⟨((0 : Int64) + y0), rfl, N0, rfl, (by have r0 := q0.1; omega), (Bn.mono q0.2 (by decide))⟩
def Q_w2 (Z : State) (p_ : Addr) (i : Nat) (kp : ClassId) (pl : List Value) (y0 : Int64) (y1 : Int64) (h0 : Heap) (n0 : Nat) (vQ_ : Option Value) (hQ_ : Heap) (LQ_ : List Loc) : Prop := ∃ v : Int64, vQ_ = some (.long v) ∧ Fr n0 LQ_ ∧ hQ_ = h0 ∧ v.toInt = y0.toInt + y1.toInt ∧ Bn 4 v
theorem rm_w2 (l : Launch) (Z : State) (a0 : Array Value) (hw : HW a0 Z) (ws : List Jvm.Cond) (p_ : Addr) (i : Nat) (kp : ClassId) (pl : List Value) (y0 : Int64) (y1 : Int64) (h0 : Heap) (n0 : Nat) (Z0 : n0 ≤ h0.size) (VP : Arv Z h0 p_ kp .long (4 : Int32) pl (.long (0 : Int64))) (hi : i + 2 ≤ 4) (g0 : pl.getD i (.long (0 : Int64)) = .long y0) (g1 : pl.getD (i + 1) (.long (0 : Int64)) = .long y1) (bg0 : Bn 1 y0) (bg1 : Bn 1 y1) :
    CT l yn14 (Jvm.Cond.code yn14 method_3_code 5 (some .long) :: ws) (⟨0, 0, 0, 0⟩ : Room) #[(.ref p_), (.int (Int32.ofNat i)), (.int (2 : Int32))] Z h0 (Q_w2 Z p_ i kp pl y0 y1 h0 n0) := by
  refine MetFree.of_bodySF (plainFor_of_name pn_com_example_vestline_vestline_finalaveragepay_BestPeriodsTotalPinLaw) hisR ?_
  intro p e s m args below meth cO s₁ Bd hml hP hK
  obtain ⟨rfl, hZ, hh⟩ := hP
  have hx := Bd.exec
  have hby := Bd.bytes
  have hown : s.vm.findClass "com/example/vestline/vestline/finalaveragepay/BestPeriodsTotalPinLaw" = some m.cls := findClass_of_methodNamed Bd.named
  have hnm := (name_of_methodNamed Bd.named Bd.method).1
  have X0 : Stand p l e (⟨0, 0, 0, 0⟩ : Room) s m #[(.ref p_), (.int (Int32.ofNat i)), (.int (2 : Int32))] below meth cO s₁ [] 0 0 := Stand.of_body Bd
  have e0 : s₁.heap = h0 := by rw [← hh, Bd.state]; rfl
  have N0 := Fr.nil n0
  have D_ : ∀ {i : Nat} {x}, decode method_3_code i = x → decode cO.code i = x := fun h => hb hby h
  have W0 : ∀ zQ, SS p e below s₁ m 0 #[.val (.ref p_), .val (.int (Int32.ofNat i)), .val (.int (2 : Int32)), .unset, .unset] [] zQ → Steps p.tables e below (s₁.setTop (entryFrame m #[(.ref p_), (.int (Int32.ofNat i)), (.int (2 : Int32))] 5)) zQ := fun tt kt => castTop (ef_w2 m p_ (Int32.ofNat i) (2 : Int32)) kt
  obtain ⟨cl101, Ar101, q101, S101, M101, H101, F101g⟩ := id VP
  have hin101 : ¬ ((Int32.ofNat i) < 0 ∨ cl101.slots.size ≤ ((Int32.ofNat i)).toNatClampNeg) := inb_of S101 ⟨own_nneg (by omega), own_lt (n := 4) (by omega) (by decide)⟩
  have hat101 : cl101.slots[((Int32.ofNat i)).toNatClampNeg]? = some (.long y0) := Has.at H101 hin101 (by rw [own_cl (by omega)]; exact g0)
  obtain ⟨cl102, Ar102, q102, S102, M102, H102, F102g⟩ := id VP
  have hin102 : ¬ ((Int32.ofNat (i + 1)) < 0 ∨ cl102.slots.size ≤ ((Int32.ofNat (i + 1))).toNatClampNeg) := inb_of S102 ⟨own_nneg (by omega), own_lt (n := 4) (by omega) (by decide)⟩
  have hat102 : cl102.slots[((Int32.ofNat (i + 1))).toNatClampNeg]? = some (.long y1) := Has.at H102 hin102 (by rw [own_cl (by omega)]; exact g1)
  have W103 : ∀ zQ, SS p e below s₁ m 52 #[.val (.ref p_), .val (.int (Int32.ofNat i)), .val (.int (2 : Int32)), .val (.long (((0 : Int64) + y0) + y1)), .second] [(.long (((0 : Int64) + y0) + y1))] zQ → Steps p.tables e below (s₁.setTop (entryFrame m #[(.ref p_), (.int (Int32.ofNat i)), (.int (2 : Int32))] 5)) zQ := by
    intro tt kt
    refine W0 tt ?_
    refine XS.lconst X0.here hx rfl (D_ d14_0) ?_
    refine XS.lstoreN X0.here hx rfl (D_ d14_1) rfl (l' := #[.val (.ref p_), .val (.int (Int32.ofNat i)), .val (.int (2 : Int32)), .val (.long (0 : Int64)), .second]) rfl ?_
    refine XS.iloadN X0.here hx rfl (D_ d14_2) rfl ?_
    refine XS.ifNo X0.here hx rfl (D_ d14_3) rfl ((if0 _ _).trans (tlt (by decide)).2.2.2) ?_
    refine XS.lloadN X0.here hx rfl (D_ d14_6) rfl ?_
    refine XS.aloadN X0.here hx rfl (D_ d14_7) rfl rfl ?_
    refine XS.iloadN X0.here hx rfl (D_ d14_8) rfl ?_
    refine X0.laload hx (j := (Int32.ofNat i)) (v := (.long y0)) (by first | exact Ar101.1 | (rw [e0]; exact Ar101.1)) (State.isArrayOf_alike hZ.alike Ar101.2.1) Ar101.2.2 hin101 hat101 (g := (mkF m 9 #[.val (.ref p_), .val (.int (Int32.ofNat i)), .val (.int (2 : Int32)), .val (.long (0 : Int64)), .second] [(.int (Int32.ofNat i)), (.ref p_), (.long (0 : Int64))])) rfl rfl (D_ d14_9) _ ?_
    refine XS.ladd X0.here hx rfl (D_ d14_10) rfl ?_
    refine XS.lstoreN X0.here hx rfl (D_ d14_11) rfl (l' := #[.val (.ref p_), .val (.int (Int32.ofNat i)), .val (.int (2 : Int32)), .val (.long ((0 : Int64) + y0)), .second]) rfl ?_
    refine XS.iloadN X0.here hx rfl (D_ d14_12) rfl ?_
    refine XS.iconst X0.here hx rfl (D_ d14_13) ?_
    refine XS.icmpNo X0.here hx rfl (D_ d14_14) rfl (tlt (by decide)).2.2.2 ?_
    refine XS.lloadN X0.here hx rfl (D_ d14_17) rfl ?_
    refine XS.aloadN X0.here hx rfl (D_ d14_18) rfl rfl ?_
    refine XS.iloadN X0.here hx rfl (D_ d14_19) rfl ?_
    refine XS.iconst X0.here hx rfl (D_ d14_20) ?_
    refine XS.iadd X0.here hx rfl (D_ d14_21) rfl ?_
    show SS p e below s₁ m 22 #[.val (.ref p_), .val (.int (Int32.ofNat i)), .val (.int (2 : Int32)), .val (.long ((0 : Int64) + y0)), .second] [(.int ((Int32.ofNat i) + (1 : Int32))), (.ref p_), (.long ((0 : Int64) + y0))] _
    rw [show ((Int32.ofNat i) + (1 : Int32)) = (Int32.ofNat (i + 1)) from own_succ _]
    refine X0.laload hx (j := (Int32.ofNat (i + 1))) (v := (.long y1)) (by first | exact Ar102.1 | (rw [e0]; exact Ar102.1)) (State.isArrayOf_alike hZ.alike Ar102.2.1) Ar102.2.2 hin102 hat102 (g := (mkF m 22 #[.val (.ref p_), .val (.int (Int32.ofNat i)), .val (.int (2 : Int32)), .val (.long ((0 : Int64) + y0)), .second] [(.int (Int32.ofNat (i + 1))), (.ref p_), (.long ((0 : Int64) + y0))])) rfl rfl (D_ d14_22) _ ?_
    refine XS.ladd X0.here hx rfl (D_ d14_23) rfl ?_
    refine XS.lstoreN X0.here hx rfl (D_ d14_24) rfl (l' := #[.val (.ref p_), .val (.int (Int32.ofNat i)), .val (.int (2 : Int32)), .val (.long (((0 : Int64) + y0) + y1)), .second]) rfl ?_
    refine XS.iloadN X0.here hx rfl (D_ d14_25) rfl ?_
    refine XS.iconst X0.here hx rfl (D_ d14_26) ?_
    refine XS.icmpYes X0.here hx rfl (pc0 := 27) (pc' := 38) rfl (D_ d14_27) rfl (flt (by decide)).2.2.2 (by decide) (by decide) ?_
    refine XS.iloadN X0.here hx rfl (D_ d14_38) rfl ?_
    refine XS.iconst X0.here hx rfl (D_ d14_39) ?_
    refine XS.icmpYes X0.here hx rfl (pc0 := 40) (pc' := 51) rfl (D_ d14_40) rfl (flt (by decide)).2.2.2 (by decide) (by decide) ?_
    refine XS.lloadN X0.here hx rfl (D_ d14_51) rfl ?_
    exact kt
  have q0 := own_w1 bg0
  have q1 := own_w2 q0.2 bg1 (by decide)
  obtain ⟨fs, hr, hrun, hended, hW, hsame⟩ := X0.leave (v := some (.long (((0 : Int64) + y0) + y1))) (fun h => by rw [Bd.returns] at h; cases h)
  refine ⟨_, _, W103 _ (own_retJ X0 hx Bd.returns (D_ d14_52) hr), hrun, hended, _, _, rfl, ?_, ⟨_, rfl⟩, hW, hsame.mono (by decide) (by decide)⟩
  show Q_w2 Z p_ i kp pl y0 y1 h0 n0 _ s₁.heap _
  rw [e0]
  exact ⟨(((0 : Int64) + y0) + y1), rfl, N0, rfl, (by have r0 := q0.1; have r1 := q1.1; omega), (Bn.mono q1.2 (by decide))⟩
def Q_w3 (Z : State) (p_ : Addr) (i : Nat) (kp : ClassId) (pl : List Value) (y0 : Int64) (y1 : Int64) (y2 : Int64) (h0 : Heap) (n0 : Nat) (vQ_ : Option Value) (hQ_ : Heap) (LQ_ : List Loc) : Prop := ∃ v : Int64, vQ_ = some (.long v) ∧ Fr n0 LQ_ ∧ hQ_ = h0 ∧ v.toInt = y0.toInt + y1.toInt + y2.toInt ∧ Bn 4 v
theorem rm_w3 (l : Launch) (Z : State) (a0 : Array Value) (hw : HW a0 Z) (ws : List Jvm.Cond) (p_ : Addr) (i : Nat) (kp : ClassId) (pl : List Value) (y0 : Int64) (y1 : Int64) (y2 : Int64) (h0 : Heap) (n0 : Nat) (Z0 : n0 ≤ h0.size) (VP : Arv Z h0 p_ kp .long (4 : Int32) pl (.long (0 : Int64))) (hi : i + 3 ≤ 4) (g0 : pl.getD i (.long (0 : Int64)) = .long y0) (g1 : pl.getD (i + 1) (.long (0 : Int64)) = .long y1) (g2 : pl.getD (i + 2) (.long (0 : Int64)) = .long y2) (bg0 : Bn 1 y0) (bg1 : Bn 1 y1) (bg2 : Bn 1 y2) :
    CT l yn14 (Jvm.Cond.code yn14 method_3_code 5 (some .long) :: ws) (⟨0, 0, 0, 0⟩ : Room) #[(.ref p_), (.int (Int32.ofNat i)), (.int (3 : Int32))] Z h0 (Q_w3 Z p_ i kp pl y0 y1 y2 h0 n0) := by
  refine MetFree.of_bodySF (plainFor_of_name pn_com_example_vestline_vestline_finalaveragepay_BestPeriodsTotalPinLaw) hisR ?_
  intro p e s m args below meth cO s₁ Bd hml hP hK
  obtain ⟨rfl, hZ, hh⟩ := hP
  have hx := Bd.exec
  have hby := Bd.bytes
  have hown : s.vm.findClass "com/example/vestline/vestline/finalaveragepay/BestPeriodsTotalPinLaw" = some m.cls := findClass_of_methodNamed Bd.named
  have hnm := (name_of_methodNamed Bd.named Bd.method).1
  have X0 : Stand p l e (⟨0, 0, 0, 0⟩ : Room) s m #[(.ref p_), (.int (Int32.ofNat i)), (.int (3 : Int32))] below meth cO s₁ [] 0 0 := Stand.of_body Bd
  have e0 : s₁.heap = h0 := by rw [← hh, Bd.state]; rfl
  have N0 := Fr.nil n0
  have D_ : ∀ {i : Nat} {x}, decode method_3_code i = x → decode cO.code i = x := fun h => hb hby h
  have W0 : ∀ zQ, SS p e below s₁ m 0 #[.val (.ref p_), .val (.int (Int32.ofNat i)), .val (.int (3 : Int32)), .unset, .unset] [] zQ → Steps p.tables e below (s₁.setTop (entryFrame m #[(.ref p_), (.int (Int32.ofNat i)), (.int (3 : Int32))] 5)) zQ := fun tt kt => castTop (ef_w3 m p_ (Int32.ofNat i) (3 : Int32)) kt
  obtain ⟨cl101, Ar101, q101, S101, M101, H101, F101g⟩ := id VP
  have hin101 : ¬ ((Int32.ofNat i) < 0 ∨ cl101.slots.size ≤ ((Int32.ofNat i)).toNatClampNeg) := inb_of S101 ⟨own_nneg (by omega), own_lt (n := 4) (by omega) (by decide)⟩
  have hat101 : cl101.slots[((Int32.ofNat i)).toNatClampNeg]? = some (.long y0) := Has.at H101 hin101 (by rw [own_cl (by omega)]; exact g0)
  obtain ⟨cl102, Ar102, q102, S102, M102, H102, F102g⟩ := id VP
  have hin102 : ¬ ((Int32.ofNat (i + 1)) < 0 ∨ cl102.slots.size ≤ ((Int32.ofNat (i + 1))).toNatClampNeg) := inb_of S102 ⟨own_nneg (by omega), own_lt (n := 4) (by omega) (by decide)⟩
  have hat102 : cl102.slots[((Int32.ofNat (i + 1))).toNatClampNeg]? = some (.long y1) := Has.at H102 hin102 (by rw [own_cl (by omega)]; exact g1)
  obtain ⟨cl103, Ar103, q103, S103, M103, H103, F103g⟩ := id VP
  have hin103 : ¬ ((Int32.ofNat (i + 2)) < 0 ∨ cl103.slots.size ≤ ((Int32.ofNat (i + 2))).toNatClampNeg) := inb_of S103 ⟨own_nneg (by omega), own_lt (n := 4) (by omega) (by decide)⟩
  have hat103 : cl103.slots[((Int32.ofNat (i + 2))).toNatClampNeg]? = some (.long y2) := Has.at H103 hin103 (by rw [own_cl (by omega)]; exact g2)
  have W104 : ∀ zQ, SS p e below s₁ m 52 #[.val (.ref p_), .val (.int (Int32.ofNat i)), .val (.int (3 : Int32)), .val (.long ((((0 : Int64) + y0) + y1) + y2)), .second] [(.long ((((0 : Int64) + y0) + y1) + y2))] zQ → Steps p.tables e below (s₁.setTop (entryFrame m #[(.ref p_), (.int (Int32.ofNat i)), (.int (3 : Int32))] 5)) zQ := by
    intro tt kt
    refine W0 tt ?_
    refine XS.lconst X0.here hx rfl (D_ d14_0) ?_
    refine XS.lstoreN X0.here hx rfl (D_ d14_1) rfl (l' := #[.val (.ref p_), .val (.int (Int32.ofNat i)), .val (.int (3 : Int32)), .val (.long (0 : Int64)), .second]) rfl ?_
    refine XS.iloadN X0.here hx rfl (D_ d14_2) rfl ?_
    refine XS.ifNo X0.here hx rfl (D_ d14_3) rfl ((if0 _ _).trans (tlt (by decide)).2.2.2) ?_
    refine XS.lloadN X0.here hx rfl (D_ d14_6) rfl ?_
    refine XS.aloadN X0.here hx rfl (D_ d14_7) rfl rfl ?_
    refine XS.iloadN X0.here hx rfl (D_ d14_8) rfl ?_
    refine X0.laload hx (j := (Int32.ofNat i)) (v := (.long y0)) (by first | exact Ar101.1 | (rw [e0]; exact Ar101.1)) (State.isArrayOf_alike hZ.alike Ar101.2.1) Ar101.2.2 hin101 hat101 (g := (mkF m 9 #[.val (.ref p_), .val (.int (Int32.ofNat i)), .val (.int (3 : Int32)), .val (.long (0 : Int64)), .second] [(.int (Int32.ofNat i)), (.ref p_), (.long (0 : Int64))])) rfl rfl (D_ d14_9) _ ?_
    refine XS.ladd X0.here hx rfl (D_ d14_10) rfl ?_
    refine XS.lstoreN X0.here hx rfl (D_ d14_11) rfl (l' := #[.val (.ref p_), .val (.int (Int32.ofNat i)), .val (.int (3 : Int32)), .val (.long ((0 : Int64) + y0)), .second]) rfl ?_
    refine XS.iloadN X0.here hx rfl (D_ d14_12) rfl ?_
    refine XS.iconst X0.here hx rfl (D_ d14_13) ?_
    refine XS.icmpNo X0.here hx rfl (D_ d14_14) rfl (tlt (by decide)).2.2.2 ?_
    refine XS.lloadN X0.here hx rfl (D_ d14_17) rfl ?_
    refine XS.aloadN X0.here hx rfl (D_ d14_18) rfl rfl ?_
    refine XS.iloadN X0.here hx rfl (D_ d14_19) rfl ?_
    refine XS.iconst X0.here hx rfl (D_ d14_20) ?_
    refine XS.iadd X0.here hx rfl (D_ d14_21) rfl ?_
    show SS p e below s₁ m 22 #[.val (.ref p_), .val (.int (Int32.ofNat i)), .val (.int (3 : Int32)), .val (.long ((0 : Int64) + y0)), .second] [(.int ((Int32.ofNat i) + (1 : Int32))), (.ref p_), (.long ((0 : Int64) + y0))] _
    rw [show ((Int32.ofNat i) + (1 : Int32)) = (Int32.ofNat (i + 1)) from own_succ _]
    refine X0.laload hx (j := (Int32.ofNat (i + 1))) (v := (.long y1)) (by first | exact Ar102.1 | (rw [e0]; exact Ar102.1)) (State.isArrayOf_alike hZ.alike Ar102.2.1) Ar102.2.2 hin102 hat102 (g := (mkF m 22 #[.val (.ref p_), .val (.int (Int32.ofNat i)), .val (.int (3 : Int32)), .val (.long ((0 : Int64) + y0)), .second] [(.int (Int32.ofNat (i + 1))), (.ref p_), (.long ((0 : Int64) + y0))])) rfl rfl (D_ d14_22) _ ?_
    refine XS.ladd X0.here hx rfl (D_ d14_23) rfl ?_
    refine XS.lstoreN X0.here hx rfl (D_ d14_24) rfl (l' := #[.val (.ref p_), .val (.int (Int32.ofNat i)), .val (.int (3 : Int32)), .val (.long (((0 : Int64) + y0) + y1)), .second]) rfl ?_
    refine XS.iloadN X0.here hx rfl (D_ d14_25) rfl ?_
    refine XS.iconst X0.here hx rfl (D_ d14_26) ?_
    refine XS.icmpNo X0.here hx rfl (D_ d14_27) rfl (tlt (by decide)).2.2.2 ?_
    refine XS.lloadN X0.here hx rfl (D_ d14_30) rfl ?_
    refine XS.aloadN X0.here hx rfl (D_ d14_31) rfl rfl ?_
    refine XS.iloadN X0.here hx rfl (D_ d14_32) rfl ?_
    refine XS.iconst X0.here hx rfl (D_ d14_33) ?_
    refine XS.iadd X0.here hx rfl (D_ d14_34) rfl ?_
    show SS p e below s₁ m 35 #[.val (.ref p_), .val (.int (Int32.ofNat i)), .val (.int (3 : Int32)), .val (.long (((0 : Int64) + y0) + y1)), .second] [(.int ((Int32.ofNat i) + (2 : Int32))), (.ref p_), (.long (((0 : Int64) + y0) + y1))] _
    rw [show ((Int32.ofNat i) + (2 : Int32)) = (Int32.ofNat (i + 2)) from (Int32.ofNat_add i 2).symm]
    refine X0.laload hx (j := (Int32.ofNat (i + 2))) (v := (.long y2)) (by first | exact Ar103.1 | (rw [e0]; exact Ar103.1)) (State.isArrayOf_alike hZ.alike Ar103.2.1) Ar103.2.2 hin103 hat103 (g := (mkF m 35 #[.val (.ref p_), .val (.int (Int32.ofNat i)), .val (.int (3 : Int32)), .val (.long (((0 : Int64) + y0) + y1)), .second] [(.int (Int32.ofNat (i + 2))), (.ref p_), (.long (((0 : Int64) + y0) + y1))])) rfl rfl (D_ d14_35) _ ?_
    refine XS.ladd X0.here hx rfl (D_ d14_36) rfl ?_
    refine XS.lstoreN X0.here hx rfl (D_ d14_37) rfl (l' := #[.val (.ref p_), .val (.int (Int32.ofNat i)), .val (.int (3 : Int32)), .val (.long ((((0 : Int64) + y0) + y1) + y2)), .second]) rfl ?_
    refine XS.iloadN X0.here hx rfl (D_ d14_38) rfl ?_
    refine XS.iconst X0.here hx rfl (D_ d14_39) ?_
    refine XS.icmpYes X0.here hx rfl (pc0 := 40) (pc' := 51) rfl (D_ d14_40) rfl (flt (by decide)).2.2.2 (by decide) (by decide) ?_
    refine XS.lloadN X0.here hx rfl (D_ d14_51) rfl ?_
    exact kt
  have q0 := own_w1 bg0
  have q1 := own_w2 q0.2 bg1 (by decide)
  have q2 := own_w2 q1.2 bg2 (by decide)
  obtain ⟨fs, hr, hrun, hended, hW, hsame⟩ := X0.leave (v := some (.long ((((0 : Int64) + y0) + y1) + y2))) (fun h => by rw [Bd.returns] at h; cases h)
  refine ⟨_, _, W104 _ (own_retJ X0 hx Bd.returns (D_ d14_52) hr), hrun, hended, _, _, rfl, ?_, ⟨_, rfl⟩, hW, hsame.mono (by decide) (by decide)⟩
  show Q_w3 Z p_ i kp pl y0 y1 y2 h0 n0 _ s₁.heap _
  rw [e0]
  exact ⟨((((0 : Int64) + y0) + y1) + y2), rfl, N0, rfl, (by have r0 := q0.1; have r1 := q1.1; have r2 := q2.1; omega), (Bn.mono q2.2 (by decide))⟩
def Q_w4 (Z : State) (p_ : Addr) (i : Nat) (kp : ClassId) (pl : List Value) (y0 : Int64) (y1 : Int64) (y2 : Int64) (y3 : Int64) (h0 : Heap) (n0 : Nat) (vQ_ : Option Value) (hQ_ : Heap) (LQ_ : List Loc) : Prop := ∃ v : Int64, vQ_ = some (.long v) ∧ Fr n0 LQ_ ∧ hQ_ = h0 ∧ v.toInt = y0.toInt + y1.toInt + y2.toInt + y3.toInt ∧ Bn 4 v
theorem rm_w4 (l : Launch) (Z : State) (a0 : Array Value) (hw : HW a0 Z) (ws : List Jvm.Cond) (p_ : Addr) (i : Nat) (kp : ClassId) (pl : List Value) (y0 : Int64) (y1 : Int64) (y2 : Int64) (y3 : Int64) (h0 : Heap) (n0 : Nat) (Z0 : n0 ≤ h0.size) (VP : Arv Z h0 p_ kp .long (4 : Int32) pl (.long (0 : Int64))) (hi : i + 4 ≤ 4) (g0 : pl.getD i (.long (0 : Int64)) = .long y0) (g1 : pl.getD (i + 1) (.long (0 : Int64)) = .long y1) (g2 : pl.getD (i + 2) (.long (0 : Int64)) = .long y2) (g3 : pl.getD (i + 3) (.long (0 : Int64)) = .long y3) (bg0 : Bn 1 y0) (bg1 : Bn 1 y1) (bg2 : Bn 1 y2) (bg3 : Bn 1 y3) :
    CT l yn14 (Jvm.Cond.code yn14 method_3_code 5 (some .long) :: ws) (⟨0, 0, 0, 0⟩ : Room) #[(.ref p_), (.int (Int32.ofNat i)), (.int (4 : Int32))] Z h0 (Q_w4 Z p_ i kp pl y0 y1 y2 y3 h0 n0) := by
  refine MetFree.of_bodySF (plainFor_of_name pn_com_example_vestline_vestline_finalaveragepay_BestPeriodsTotalPinLaw) hisR ?_
  intro p e s m args below meth cO s₁ Bd hml hP hK
  obtain ⟨rfl, hZ, hh⟩ := hP
  have hx := Bd.exec
  have hby := Bd.bytes
  have hown : s.vm.findClass "com/example/vestline/vestline/finalaveragepay/BestPeriodsTotalPinLaw" = some m.cls := findClass_of_methodNamed Bd.named
  have hnm := (name_of_methodNamed Bd.named Bd.method).1
  have X0 : Stand p l e (⟨0, 0, 0, 0⟩ : Room) s m #[(.ref p_), (.int (Int32.ofNat i)), (.int (4 : Int32))] below meth cO s₁ [] 0 0 := Stand.of_body Bd
  have e0 : s₁.heap = h0 := by rw [← hh, Bd.state]; rfl
  have N0 := Fr.nil n0
  have D_ : ∀ {i : Nat} {x}, decode method_3_code i = x → decode cO.code i = x := fun h => hb hby h
  have W0 : ∀ zQ, SS p e below s₁ m 0 #[.val (.ref p_), .val (.int (Int32.ofNat i)), .val (.int (4 : Int32)), .unset, .unset] [] zQ → Steps p.tables e below (s₁.setTop (entryFrame m #[(.ref p_), (.int (Int32.ofNat i)), (.int (4 : Int32))] 5)) zQ := fun tt kt => castTop (ef_w4 m p_ (Int32.ofNat i) (4 : Int32)) kt
  obtain ⟨cl101, Ar101, q101, S101, M101, H101, F101g⟩ := id VP
  have hin101 : ¬ ((Int32.ofNat i) < 0 ∨ cl101.slots.size ≤ ((Int32.ofNat i)).toNatClampNeg) := inb_of S101 ⟨own_nneg (by omega), own_lt (n := 4) (by omega) (by decide)⟩
  have hat101 : cl101.slots[((Int32.ofNat i)).toNatClampNeg]? = some (.long y0) := Has.at H101 hin101 (by rw [own_cl (by omega)]; exact g0)
  obtain ⟨cl102, Ar102, q102, S102, M102, H102, F102g⟩ := id VP
  have hin102 : ¬ ((Int32.ofNat (i + 1)) < 0 ∨ cl102.slots.size ≤ ((Int32.ofNat (i + 1))).toNatClampNeg) := inb_of S102 ⟨own_nneg (by omega), own_lt (n := 4) (by omega) (by decide)⟩
  have hat102 : cl102.slots[((Int32.ofNat (i + 1))).toNatClampNeg]? = some (.long y1) := Has.at H102 hin102 (by rw [own_cl (by omega)]; exact g1)
  obtain ⟨cl103, Ar103, q103, S103, M103, H103, F103g⟩ := id VP
  have hin103 : ¬ ((Int32.ofNat (i + 2)) < 0 ∨ cl103.slots.size ≤ ((Int32.ofNat (i + 2))).toNatClampNeg) := inb_of S103 ⟨own_nneg (by omega), own_lt (n := 4) (by omega) (by decide)⟩
  have hat103 : cl103.slots[((Int32.ofNat (i + 2))).toNatClampNeg]? = some (.long y2) := Has.at H103 hin103 (by rw [own_cl (by omega)]; exact g2)
  obtain ⟨cl104, Ar104, q104, S104, M104, H104, F104g⟩ := id VP
  have hin104 : ¬ ((Int32.ofNat (i + 3)) < 0 ∨ cl104.slots.size ≤ ((Int32.ofNat (i + 3))).toNatClampNeg) := inb_of S104 ⟨own_nneg (by omega), own_lt (n := 4) (by omega) (by decide)⟩
  have hat104 : cl104.slots[((Int32.ofNat (i + 3))).toNatClampNeg]? = some (.long y3) := Has.at H104 hin104 (by rw [own_cl (by omega)]; exact g3)
  have W105 : ∀ zQ, SS p e below s₁ m 52 #[.val (.ref p_), .val (.int (Int32.ofNat i)), .val (.int (4 : Int32)), .val (.long (((((0 : Int64) + y0) + y1) + y2) + y3)), .second] [(.long (((((0 : Int64) + y0) + y1) + y2) + y3))] zQ → Steps p.tables e below (s₁.setTop (entryFrame m #[(.ref p_), (.int (Int32.ofNat i)), (.int (4 : Int32))] 5)) zQ := by
    intro tt kt
    refine W0 tt ?_
    refine XS.lconst X0.here hx rfl (D_ d14_0) ?_
    refine XS.lstoreN X0.here hx rfl (D_ d14_1) rfl (l' := #[.val (.ref p_), .val (.int (Int32.ofNat i)), .val (.int (4 : Int32)), .val (.long (0 : Int64)), .second]) rfl ?_
    refine XS.iloadN X0.here hx rfl (D_ d14_2) rfl ?_
    refine XS.ifNo X0.here hx rfl (D_ d14_3) rfl ((if0 _ _).trans (tlt (by decide)).2.2.2) ?_
    refine XS.lloadN X0.here hx rfl (D_ d14_6) rfl ?_
    refine XS.aloadN X0.here hx rfl (D_ d14_7) rfl rfl ?_
    refine XS.iloadN X0.here hx rfl (D_ d14_8) rfl ?_
    refine X0.laload hx (j := (Int32.ofNat i)) (v := (.long y0)) (by first | exact Ar101.1 | (rw [e0]; exact Ar101.1)) (State.isArrayOf_alike hZ.alike Ar101.2.1) Ar101.2.2 hin101 hat101 (g := (mkF m 9 #[.val (.ref p_), .val (.int (Int32.ofNat i)), .val (.int (4 : Int32)), .val (.long (0 : Int64)), .second] [(.int (Int32.ofNat i)), (.ref p_), (.long (0 : Int64))])) rfl rfl (D_ d14_9) _ ?_
    refine XS.ladd X0.here hx rfl (D_ d14_10) rfl ?_
    refine XS.lstoreN X0.here hx rfl (D_ d14_11) rfl (l' := #[.val (.ref p_), .val (.int (Int32.ofNat i)), .val (.int (4 : Int32)), .val (.long ((0 : Int64) + y0)), .second]) rfl ?_
    refine XS.iloadN X0.here hx rfl (D_ d14_12) rfl ?_
    refine XS.iconst X0.here hx rfl (D_ d14_13) ?_
    refine XS.icmpNo X0.here hx rfl (D_ d14_14) rfl (tlt (by decide)).2.2.2 ?_
    refine XS.lloadN X0.here hx rfl (D_ d14_17) rfl ?_
    refine XS.aloadN X0.here hx rfl (D_ d14_18) rfl rfl ?_
    refine XS.iloadN X0.here hx rfl (D_ d14_19) rfl ?_
    refine XS.iconst X0.here hx rfl (D_ d14_20) ?_
    refine XS.iadd X0.here hx rfl (D_ d14_21) rfl ?_
    show SS p e below s₁ m 22 #[.val (.ref p_), .val (.int (Int32.ofNat i)), .val (.int (4 : Int32)), .val (.long ((0 : Int64) + y0)), .second] [(.int ((Int32.ofNat i) + (1 : Int32))), (.ref p_), (.long ((0 : Int64) + y0))] _
    rw [show ((Int32.ofNat i) + (1 : Int32)) = (Int32.ofNat (i + 1)) from own_succ _]
    refine X0.laload hx (j := (Int32.ofNat (i + 1))) (v := (.long y1)) (by first | exact Ar102.1 | (rw [e0]; exact Ar102.1)) (State.isArrayOf_alike hZ.alike Ar102.2.1) Ar102.2.2 hin102 hat102 (g := (mkF m 22 #[.val (.ref p_), .val (.int (Int32.ofNat i)), .val (.int (4 : Int32)), .val (.long ((0 : Int64) + y0)), .second] [(.int (Int32.ofNat (i + 1))), (.ref p_), (.long ((0 : Int64) + y0))])) rfl rfl (D_ d14_22) _ ?_
    refine XS.ladd X0.here hx rfl (D_ d14_23) rfl ?_
    refine XS.lstoreN X0.here hx rfl (D_ d14_24) rfl (l' := #[.val (.ref p_), .val (.int (Int32.ofNat i)), .val (.int (4 : Int32)), .val (.long (((0 : Int64) + y0) + y1)), .second]) rfl ?_
    refine XS.iloadN X0.here hx rfl (D_ d14_25) rfl ?_
    refine XS.iconst X0.here hx rfl (D_ d14_26) ?_
    refine XS.icmpNo X0.here hx rfl (D_ d14_27) rfl (tlt (by decide)).2.2.2 ?_
    refine XS.lloadN X0.here hx rfl (D_ d14_30) rfl ?_
    refine XS.aloadN X0.here hx rfl (D_ d14_31) rfl rfl ?_
    refine XS.iloadN X0.here hx rfl (D_ d14_32) rfl ?_
    refine XS.iconst X0.here hx rfl (D_ d14_33) ?_
    refine XS.iadd X0.here hx rfl (D_ d14_34) rfl ?_
    show SS p e below s₁ m 35 #[.val (.ref p_), .val (.int (Int32.ofNat i)), .val (.int (4 : Int32)), .val (.long (((0 : Int64) + y0) + y1)), .second] [(.int ((Int32.ofNat i) + (2 : Int32))), (.ref p_), (.long (((0 : Int64) + y0) + y1))] _
    rw [show ((Int32.ofNat i) + (2 : Int32)) = (Int32.ofNat (i + 2)) from (Int32.ofNat_add i 2).symm]
    refine X0.laload hx (j := (Int32.ofNat (i + 2))) (v := (.long y2)) (by first | exact Ar103.1 | (rw [e0]; exact Ar103.1)) (State.isArrayOf_alike hZ.alike Ar103.2.1) Ar103.2.2 hin103 hat103 (g := (mkF m 35 #[.val (.ref p_), .val (.int (Int32.ofNat i)), .val (.int (4 : Int32)), .val (.long (((0 : Int64) + y0) + y1)), .second] [(.int (Int32.ofNat (i + 2))), (.ref p_), (.long (((0 : Int64) + y0) + y1))])) rfl rfl (D_ d14_35) _ ?_
    refine XS.ladd X0.here hx rfl (D_ d14_36) rfl ?_
    refine XS.lstoreN X0.here hx rfl (D_ d14_37) rfl (l' := #[.val (.ref p_), .val (.int (Int32.ofNat i)), .val (.int (4 : Int32)), .val (.long ((((0 : Int64) + y0) + y1) + y2)), .second]) rfl ?_
    refine XS.iloadN X0.here hx rfl (D_ d14_38) rfl ?_
    refine XS.iconst X0.here hx rfl (D_ d14_39) ?_
    refine XS.icmpNo X0.here hx rfl (D_ d14_40) rfl (tlt (by decide)).2.2.2 ?_
    refine XS.lloadN X0.here hx rfl (D_ d14_43) rfl ?_
    refine XS.aloadN X0.here hx rfl (D_ d14_44) rfl rfl ?_
    refine XS.iloadN X0.here hx rfl (D_ d14_45) rfl ?_
    refine XS.iconst X0.here hx rfl (D_ d14_46) ?_
    refine XS.iadd X0.here hx rfl (D_ d14_47) rfl ?_
    show SS p e below s₁ m 48 #[.val (.ref p_), .val (.int (Int32.ofNat i)), .val (.int (4 : Int32)), .val (.long ((((0 : Int64) + y0) + y1) + y2)), .second] [(.int ((Int32.ofNat i) + (3 : Int32))), (.ref p_), (.long ((((0 : Int64) + y0) + y1) + y2))] _
    rw [show ((Int32.ofNat i) + (3 : Int32)) = (Int32.ofNat (i + 3)) from (Int32.ofNat_add i 3).symm]
    refine X0.laload hx (j := (Int32.ofNat (i + 3))) (v := (.long y3)) (by first | exact Ar104.1 | (rw [e0]; exact Ar104.1)) (State.isArrayOf_alike hZ.alike Ar104.2.1) Ar104.2.2 hin104 hat104 (g := (mkF m 48 #[.val (.ref p_), .val (.int (Int32.ofNat i)), .val (.int (4 : Int32)), .val (.long ((((0 : Int64) + y0) + y1) + y2)), .second] [(.int (Int32.ofNat (i + 3))), (.ref p_), (.long ((((0 : Int64) + y0) + y1) + y2))])) rfl rfl (D_ d14_48) _ ?_
    refine XS.ladd X0.here hx rfl (D_ d14_49) rfl ?_
    refine XS.lstoreN X0.here hx rfl (D_ d14_50) rfl (l' := #[.val (.ref p_), .val (.int (Int32.ofNat i)), .val (.int (4 : Int32)), .val (.long (((((0 : Int64) + y0) + y1) + y2) + y3)), .second]) rfl ?_
    refine XS.lloadN X0.here hx rfl (D_ d14_51) rfl ?_
    exact kt
  have q0 := own_w1 bg0
  have q1 := own_w2 q0.2 bg1 (by decide)
  have q2 := own_w2 q1.2 bg2 (by decide)
  have q3 := own_w2 q2.2 bg3 (by decide)
  obtain ⟨fs, hr, hrun, hended, hW, hsame⟩ := X0.leave (v := some (.long (((((0 : Int64) + y0) + y1) + y2) + y3))) (fun h => by rw [Bd.returns] at h; cases h)
  refine ⟨_, _, W105 _ (own_retJ X0 hx Bd.returns (D_ d14_52) hr), hrun, hended, _, _, rfl, ?_, ⟨_, rfl⟩, hW, hsame.mono (by decide) (by decide)⟩
  show Q_w4 Z p_ i kp pl y0 y1 y2 y3 h0 n0 _ s₁.heap _
  rw [e0]
  exact ⟨(((((0 : Int64) + y0) + y1) + y2) + y3), rfl, N0, rfl, (by have r0 := q0.1; have r1 := q1.1; have r2 := q2.1; have r3 := q3.1; omega), (Bn.mono q3.2 (by decide))⟩
def Q_one1 (Z : State) (p_ : Addr) (n_ : Int32) (bst : Int64) (i : Nat) (kp : ClassId) (pl : List Value) (y0 : Int64) (h0 : Heap) (n0 : Nat) (vQ_ : Option Value) (hQ_ : Heap) (LQ_ : List Loc) : Prop := ∃ v : Int64, vQ_ = some (.long v) ∧ Fr n0 LQ_ ∧ hQ_ = h0 ∧ (n_ < (Int32.ofNat (i + 1)) → v = bst) ∧ (¬ (n_ < (Int32.ofNat (i + 1))) → (v.toInt = bst.toInt ∨ v.toInt = (y0.toInt)) ∧ bst.toInt ≤ v.toInt ∧ (y0.toInt) ≤ v.toInt)
theorem rm_one1 (l : Launch) (Z : State) (a0 : Array Value) (hw : HW a0 Z) (ws : List Jvm.Cond) (p_ : Addr) (n_ : Int32) (bst : Int64) (i : Nat) (kp : ClassId) (pl : List Value) (y0 : Int64) (h0 : Heap) (n0 : Nat) (Z0 : n0 ≤ h0.size) (VP : Arv Z h0 p_ kp .long (4 : Int32) pl (.long (0 : Int64))) (hi : i + 1 ≤ 4) (g0 : pl.getD i (.long (0 : Int64)) = .long y0) (bg0 : Bn 1 y0) :
    CT l yn15 (Jvm.Cond.code yn15 method_4_code 6 (some .long) :: ws) (⟨1, 0, 0, 18⟩ : Room) #[(.ref p_), (.int n_), (.int (1 : Int32)), (.int (Int32.ofNat i)), (.long bst)] Z h0 (Q_one1 Z p_ n_ bst i kp pl y0 h0 n0) := by
  refine MetFree.of_bodySF (plainFor_of_name pn_com_example_vestline_vestline_finalaveragepay_BestPeriodsTotalPinLaw) hisR ?_
  intro p e s m args below meth cO s₁ Bd hml hP hK
  obtain ⟨rfl, hZ, hh⟩ := hP
  have hx := Bd.exec
  have hby := Bd.bytes
  have hown : s.vm.findClass "com/example/vestline/vestline/finalaveragepay/BestPeriodsTotalPinLaw" = some m.cls := findClass_of_methodNamed Bd.named
  have hnm := (name_of_methodNamed Bd.named Bd.method).1
  have X0 : Stand p l e (⟨1, 0, 0, 18⟩ : Room) s m #[(.ref p_), (.int n_), (.int (1 : Int32)), (.int (Int32.ofNat i)), (.long bst)] below meth cO s₁ [] 0 0 := Stand.of_body Bd
  have e0 : s₁.heap = h0 := by rw [← hh, Bd.state]; rfl
  have N0 := Fr.nil n0
  have D_ : ∀ {i : Nat} {x}, decode method_4_code i = x → decode cO.code i = x := fun h => hb hby h
  have W0 : ∀ zQ, SS p e below s₁ m 0 #[.val (.ref p_), .val (.int n_), .val (.int (1 : Int32)), .val (.int (Int32.ofNat i)), .val (.long bst), .second] [] zQ → Steps p.tables e below (s₁.setTop (entryFrame m #[(.ref p_), (.int n_), (.int (1 : Int32)), (.int (Int32.ofNat i)), (.long bst)] 6)) zQ := fun tt kt => castTop (ef_one1 m p_ n_ (1 : Int32) (Int32.ofNat i) bst) kt
  have W101 : ∀ zQ, SS p e below s₁ m 4 #[.val (.ref p_), .val (.int n_), .val (.int (1 : Int32)), .val (.int (Int32.ofNat i)), .val (.long bst), .second] [(.int n_), (.int (Int32.ofNat (i + 1)))] zQ → Steps p.tables e below (s₁.setTop (entryFrame m #[(.ref p_), (.int n_), (.int (1 : Int32)), (.int (Int32.ofNat i)), (.long bst)] 6)) zQ := by
    intro tt kt
    refine W0 tt ?_
    refine XS.iloadN X0.here hx rfl (D_ d15_0) rfl ?_
    refine XS.iloadN X0.here hx rfl (D_ d15_1) rfl ?_
    refine XS.iadd X0.here hx rfl (D_ d15_2) rfl ?_
    show SS p e below s₁ m 3 #[.val (.ref p_), .val (.int n_), .val (.int (1 : Int32)), .val (.int (Int32.ofNat i)), .val (.long bst), .second] [(.int ((Int32.ofNat i) + (1 : Int32)))] _
    rw [show ((Int32.ofNat i) + (1 : Int32)) = (Int32.ofNat (i + 1)) from (Int32.ofNat_add i 1).symm]
    refine XS.iloadN X0.here hx rfl (D_ d15_3) rfl ?_
    exact kt
  by_cases hc102 : n_ < (Int32.ofNat (i + 1))
  ·
    have W103 : ∀ zQ, SS p e below s₁ m 21 #[.val (.ref p_), .val (.int n_), .val (.int (1 : Int32)), .val (.int (Int32.ofNat i)), .val (.long bst), .second] [(.long bst)] zQ → Steps p.tables e below (s₁.setTop (entryFrame m #[(.ref p_), (.int n_), (.int (1 : Int32)), (.int (Int32.ofNat i)), (.long bst)] 6)) zQ := by
      intro tt kt
      refine W101 tt ?_
      refine XS.icmpYes X0.here hx rfl (pc0 := 4) (pc' := 19) rfl (D_ d15_4) rfl (tlt hc102).2.2.1 (by decide) (by decide) ?_
      refine XS.lload X0.here hx rfl (D_ d15_19) rfl ?_
      exact kt
    obtain ⟨fs, hr, hrun, hended, hW, hsame⟩ := X0.leave (v := some (.long bst)) (fun h => by rw [Bd.returns] at h; cases h)
    refine ⟨_, _, W103 _ (own_retJ X0 hx Bd.returns (D_ d15_21) hr), hrun, hended, _, _, rfl, ?_, ⟨_, rfl⟩, hW, hsame.mono (by decide) (by decide)⟩
    show Q_one1 Z p_ n_ bst i kp pl y0 h0 n0 _ s₁.heap _
    rw [e0]
    exact ⟨bst, rfl, N0, rfl, (fun _ => rfl), (fun q => absurd hc102 q)⟩
  ·
    obtain ⟨_, _, ⟨T104, L104, k104, n104⟩, -, X104, ⟨Lc104, hQ104, l104, y104, z104⟩, st104⟩ := Jvm.LawKit.callS X0 hx (y := yn14) hown (mvT hZ (w164 hw)) (mvT hZ (w165 hw)) (mvT hZ (w53 hw)) (mvT hZ (w166 hw)) (by decide) (backOf (W := 2) (rm_w1 l Z a0 hw [] p_ i kp pl y0 h0 n0 Z0 VP hi g0 bg0) hZ (w166 hw) (w53 hw) (by decide) (by decide)) (g := (mkF m 12 #[.val (.ref p_), .val (.int n_), .val (.int (1 : Int32)), .val (.int (Int32.ofNat i)), .val (.long bst), .second] [(.int (1 : Int32)), (.int (Int32.ofNat i)), (.ref p_), (.long bst)])) rfl (by rw [hml]; rfl) (argsL := [(.ref p_), (.int (Int32.ofNat i)), (.int (1 : Int32))]) (rest := [(.long bst)]) (lenOf pd8 rfl) rfl (wq rfl) (D_ d15_12) (fun _ _ => ⟨rfl, e0, (nb rfl), (nb rfl)⟩)
    dsimp only [Pt.U, Pt.locs, Pt.cells, Pt.slots] at X104 l104 y104 z104 st104 hQ104
    subst l104 y104 z104
    obtain ⟨v_105, rfl, Nq104, eq104, P104_0, P104_1⟩ := hQ104
    have N104 := Fr.app N0 Nq104
    obtain ⟨_, _, ⟨T106, L106, k106, n106⟩, -, X106, ⟨Lc106, hQ106, l106, y106, z106⟩, st106⟩ := Jvm.LawKit.callS X104 hx (y := yn11) hown (mvT hZ (w170 hw)) (mvT hZ (w171 hw)) (mvT hZ (w93 hw)) (mvT hZ (w172 hw)) (by decide) (backOf (W := 0) (rm_lmax l Z a0 hw [] bst v_105 h0 n0 Z0 ) hZ (w172 hw) (w93 hw) (by decide) (by decide)) (g := (mkF m 15 #[.val (.ref p_), .val (.int n_), .val (.int (1 : Int32)), .val (.int (Int32.ofNat i)), .val (.long bst), .second] [(.long v_105), (.long bst)])) rfl (by rw [hml]; rfl) (argsL := [(.long bst), (.long v_105)]) (rest := []) (lenOf pd3 rfl) rfl (wq rfl) (D_ d15_15) (fun _ _ => ⟨rfl, eq104, (nb rfl), (nb rfl)⟩)
    dsimp only [Pt.U, Pt.locs, Pt.cells, Pt.slots] at X106 l106 y106 z106 st106 hQ106
    subst l106 y106 z106
    obtain ⟨rfl, Nq106, eq106⟩ := hQ106
    have N106 := Fr.app N104 Nq106
    have W107 : ∀ zQ, SS p e below T106 m 18 #[.val (.ref p_), .val (.int n_), .val (.int (1 : Int32)), .val (.int (Int32.ofNat i)), .val (.long bst), .second] [(.long (if bst < v_105 then v_105 else bst))] zQ → Steps p.tables e below (s₁.setTop (entryFrame m #[(.ref p_), (.int n_), (.int (1 : Int32)), (.int (Int32.ofNat i)), (.long bst)] 6)) zQ := by
      intro tt kt
      refine W101 tt ?_
      refine XS.icmpNo X0.here hx rfl (D_ d15_4) rfl (flt hc102).2.2.1 ?_
      refine XS.lload X0.here hx rfl (D_ d15_7) rfl ?_
      refine XS.aloadN X0.here hx rfl (D_ d15_9) rfl rfl ?_
      refine XS.iloadN X0.here hx rfl (D_ d15_10) rfl ?_
      refine XS.iloadN X0.here hx rfl (D_ d15_11) rfl ?_
      refine st104 _ ?_
      refine st106 _ ?_
      exact kt
    obtain ⟨fs, hr, hrun, hended, hW, hsame⟩ := X106.leave (v := some (.long (if bst < v_105 then v_105 else bst))) (fun h => by rw [Bd.returns] at h; cases h)
    refine ⟨_, _, W107 _ (own_retJ X106 hx Bd.returns (D_ d15_18) hr), hrun, hended, _, _, rfl, ?_, ⟨_, rfl⟩, hW, hsame.mono (by decide) (by decide)⟩
    show Q_one1 Z p_ n_ bst i kp pl y0 h0 n0 _ T106.heap _
    rw [eq106]
    exact ⟨(if bst < v_105 then v_105 else bst), rfl, N106, rfl, (fun q => absurd q hc102), (fun _ => own_lmI (a := bst) P104_0)⟩
def Q_one2 (Z : State) (p_ : Addr) (n_ : Int32) (bst : Int64) (i : Nat) (kp : ClassId) (pl : List Value) (y0 : Int64) (y1 : Int64) (h0 : Heap) (n0 : Nat) (vQ_ : Option Value) (hQ_ : Heap) (LQ_ : List Loc) : Prop := ∃ v : Int64, vQ_ = some (.long v) ∧ Fr n0 LQ_ ∧ hQ_ = h0 ∧ (n_ < (Int32.ofNat (i + 2)) → v = bst) ∧ (¬ (n_ < (Int32.ofNat (i + 2))) → (v.toInt = bst.toInt ∨ v.toInt = (y0.toInt + y1.toInt)) ∧ bst.toInt ≤ v.toInt ∧ (y0.toInt + y1.toInt) ≤ v.toInt)
theorem rm_one2 (l : Launch) (Z : State) (a0 : Array Value) (hw : HW a0 Z) (ws : List Jvm.Cond) (p_ : Addr) (n_ : Int32) (bst : Int64) (i : Nat) (kp : ClassId) (pl : List Value) (y0 : Int64) (y1 : Int64) (h0 : Heap) (n0 : Nat) (Z0 : n0 ≤ h0.size) (VP : Arv Z h0 p_ kp .long (4 : Int32) pl (.long (0 : Int64))) (hi : i + 2 ≤ 4) (g0 : pl.getD i (.long (0 : Int64)) = .long y0) (g1 : pl.getD (i + 1) (.long (0 : Int64)) = .long y1) (bg0 : Bn 1 y0) (bg1 : Bn 1 y1) :
    CT l yn15 (Jvm.Cond.code yn15 method_4_code 6 (some .long) :: ws) (⟨1, 0, 0, 18⟩ : Room) #[(.ref p_), (.int n_), (.int (2 : Int32)), (.int (Int32.ofNat i)), (.long bst)] Z h0 (Q_one2 Z p_ n_ bst i kp pl y0 y1 h0 n0) := by
  refine MetFree.of_bodySF (plainFor_of_name pn_com_example_vestline_vestline_finalaveragepay_BestPeriodsTotalPinLaw) hisR ?_
  intro p e s m args below meth cO s₁ Bd hml hP hK
  obtain ⟨rfl, hZ, hh⟩ := hP
  have hx := Bd.exec
  have hby := Bd.bytes
  have hown : s.vm.findClass "com/example/vestline/vestline/finalaveragepay/BestPeriodsTotalPinLaw" = some m.cls := findClass_of_methodNamed Bd.named
  have hnm := (name_of_methodNamed Bd.named Bd.method).1
  have X0 : Stand p l e (⟨1, 0, 0, 18⟩ : Room) s m #[(.ref p_), (.int n_), (.int (2 : Int32)), (.int (Int32.ofNat i)), (.long bst)] below meth cO s₁ [] 0 0 := Stand.of_body Bd
  have e0 : s₁.heap = h0 := by rw [← hh, Bd.state]; rfl
  have N0 := Fr.nil n0
  have D_ : ∀ {i : Nat} {x}, decode method_4_code i = x → decode cO.code i = x := fun h => hb hby h
  have W0 : ∀ zQ, SS p e below s₁ m 0 #[.val (.ref p_), .val (.int n_), .val (.int (2 : Int32)), .val (.int (Int32.ofNat i)), .val (.long bst), .second] [] zQ → Steps p.tables e below (s₁.setTop (entryFrame m #[(.ref p_), (.int n_), (.int (2 : Int32)), (.int (Int32.ofNat i)), (.long bst)] 6)) zQ := fun tt kt => castTop (ef_one2 m p_ n_ (2 : Int32) (Int32.ofNat i) bst) kt
  have W101 : ∀ zQ, SS p e below s₁ m 4 #[.val (.ref p_), .val (.int n_), .val (.int (2 : Int32)), .val (.int (Int32.ofNat i)), .val (.long bst), .second] [(.int n_), (.int (Int32.ofNat (i + 2)))] zQ → Steps p.tables e below (s₁.setTop (entryFrame m #[(.ref p_), (.int n_), (.int (2 : Int32)), (.int (Int32.ofNat i)), (.long bst)] 6)) zQ := by
    intro tt kt
    refine W0 tt ?_
    refine XS.iloadN X0.here hx rfl (D_ d15_0) rfl ?_
    refine XS.iloadN X0.here hx rfl (D_ d15_1) rfl ?_
    refine XS.iadd X0.here hx rfl (D_ d15_2) rfl ?_
    show SS p e below s₁ m 3 #[.val (.ref p_), .val (.int n_), .val (.int (2 : Int32)), .val (.int (Int32.ofNat i)), .val (.long bst), .second] [(.int ((Int32.ofNat i) + (2 : Int32)))] _
    rw [show ((Int32.ofNat i) + (2 : Int32)) = (Int32.ofNat (i + 2)) from (Int32.ofNat_add i 2).symm]
    refine XS.iloadN X0.here hx rfl (D_ d15_3) rfl ?_
    exact kt
  by_cases hc102 : n_ < (Int32.ofNat (i + 2))
  ·
    have W103 : ∀ zQ, SS p e below s₁ m 21 #[.val (.ref p_), .val (.int n_), .val (.int (2 : Int32)), .val (.int (Int32.ofNat i)), .val (.long bst), .second] [(.long bst)] zQ → Steps p.tables e below (s₁.setTop (entryFrame m #[(.ref p_), (.int n_), (.int (2 : Int32)), (.int (Int32.ofNat i)), (.long bst)] 6)) zQ := by
      intro tt kt
      refine W101 tt ?_
      refine XS.icmpYes X0.here hx rfl (pc0 := 4) (pc' := 19) rfl (D_ d15_4) rfl (tlt hc102).2.2.1 (by decide) (by decide) ?_
      refine XS.lload X0.here hx rfl (D_ d15_19) rfl ?_
      exact kt
    obtain ⟨fs, hr, hrun, hended, hW, hsame⟩ := X0.leave (v := some (.long bst)) (fun h => by rw [Bd.returns] at h; cases h)
    refine ⟨_, _, W103 _ (own_retJ X0 hx Bd.returns (D_ d15_21) hr), hrun, hended, _, _, rfl, ?_, ⟨_, rfl⟩, hW, hsame.mono (by decide) (by decide)⟩
    show Q_one2 Z p_ n_ bst i kp pl y0 y1 h0 n0 _ s₁.heap _
    rw [e0]
    exact ⟨bst, rfl, N0, rfl, (fun _ => rfl), (fun q => absurd hc102 q)⟩
  ·
    obtain ⟨_, _, ⟨T104, L104, k104, n104⟩, -, X104, ⟨Lc104, hQ104, l104, y104, z104⟩, st104⟩ := Jvm.LawKit.callS X0 hx (y := yn14) hown (mvT hZ (w164 hw)) (mvT hZ (w165 hw)) (mvT hZ (w53 hw)) (mvT hZ (w166 hw)) (by decide) (backOf (W := 2) (rm_w2 l Z a0 hw [] p_ i kp pl y0 y1 h0 n0 Z0 VP hi g0 g1 bg0 bg1) hZ (w166 hw) (w53 hw) (by decide) (by decide)) (g := (mkF m 12 #[.val (.ref p_), .val (.int n_), .val (.int (2 : Int32)), .val (.int (Int32.ofNat i)), .val (.long bst), .second] [(.int (2 : Int32)), (.int (Int32.ofNat i)), (.ref p_), (.long bst)])) rfl (by rw [hml]; rfl) (argsL := [(.ref p_), (.int (Int32.ofNat i)), (.int (2 : Int32))]) (rest := [(.long bst)]) (lenOf pd8 rfl) rfl (wq rfl) (D_ d15_12) (fun _ _ => ⟨rfl, e0, (nb rfl), (nb rfl)⟩)
    dsimp only [Pt.U, Pt.locs, Pt.cells, Pt.slots] at X104 l104 y104 z104 st104 hQ104
    subst l104 y104 z104
    obtain ⟨v_105, rfl, Nq104, eq104, P104_0, P104_1⟩ := hQ104
    have N104 := Fr.app N0 Nq104
    obtain ⟨_, _, ⟨T106, L106, k106, n106⟩, -, X106, ⟨Lc106, hQ106, l106, y106, z106⟩, st106⟩ := Jvm.LawKit.callS X104 hx (y := yn11) hown (mvT hZ (w170 hw)) (mvT hZ (w171 hw)) (mvT hZ (w93 hw)) (mvT hZ (w172 hw)) (by decide) (backOf (W := 0) (rm_lmax l Z a0 hw [] bst v_105 h0 n0 Z0 ) hZ (w172 hw) (w93 hw) (by decide) (by decide)) (g := (mkF m 15 #[.val (.ref p_), .val (.int n_), .val (.int (2 : Int32)), .val (.int (Int32.ofNat i)), .val (.long bst), .second] [(.long v_105), (.long bst)])) rfl (by rw [hml]; rfl) (argsL := [(.long bst), (.long v_105)]) (rest := []) (lenOf pd3 rfl) rfl (wq rfl) (D_ d15_15) (fun _ _ => ⟨rfl, eq104, (nb rfl), (nb rfl)⟩)
    dsimp only [Pt.U, Pt.locs, Pt.cells, Pt.slots] at X106 l106 y106 z106 st106 hQ106
    subst l106 y106 z106
    obtain ⟨rfl, Nq106, eq106⟩ := hQ106
    have N106 := Fr.app N104 Nq106
    have W107 : ∀ zQ, SS p e below T106 m 18 #[.val (.ref p_), .val (.int n_), .val (.int (2 : Int32)), .val (.int (Int32.ofNat i)), .val (.long bst), .second] [(.long (if bst < v_105 then v_105 else bst))] zQ → Steps p.tables e below (s₁.setTop (entryFrame m #[(.ref p_), (.int n_), (.int (2 : Int32)), (.int (Int32.ofNat i)), (.long bst)] 6)) zQ := by
      intro tt kt
      refine W101 tt ?_
      refine XS.icmpNo X0.here hx rfl (D_ d15_4) rfl (flt hc102).2.2.1 ?_
      refine XS.lload X0.here hx rfl (D_ d15_7) rfl ?_
      refine XS.aloadN X0.here hx rfl (D_ d15_9) rfl rfl ?_
      refine XS.iloadN X0.here hx rfl (D_ d15_10) rfl ?_
      refine XS.iloadN X0.here hx rfl (D_ d15_11) rfl ?_
      refine st104 _ ?_
      refine st106 _ ?_
      exact kt
    obtain ⟨fs, hr, hrun, hended, hW, hsame⟩ := X106.leave (v := some (.long (if bst < v_105 then v_105 else bst))) (fun h => by rw [Bd.returns] at h; cases h)
    refine ⟨_, _, W107 _ (own_retJ X106 hx Bd.returns (D_ d15_18) hr), hrun, hended, _, _, rfl, ?_, ⟨_, rfl⟩, hW, hsame.mono (by decide) (by decide)⟩
    show Q_one2 Z p_ n_ bst i kp pl y0 y1 h0 n0 _ T106.heap _
    rw [eq106]
    exact ⟨(if bst < v_105 then v_105 else bst), rfl, N106, rfl, (fun q => absurd q hc102), (fun _ => own_lmI (a := bst) P104_0)⟩
def Q_one3 (Z : State) (p_ : Addr) (n_ : Int32) (bst : Int64) (i : Nat) (kp : ClassId) (pl : List Value) (y0 : Int64) (y1 : Int64) (y2 : Int64) (h0 : Heap) (n0 : Nat) (vQ_ : Option Value) (hQ_ : Heap) (LQ_ : List Loc) : Prop := ∃ v : Int64, vQ_ = some (.long v) ∧ Fr n0 LQ_ ∧ hQ_ = h0 ∧ (n_ < (Int32.ofNat (i + 3)) → v = bst) ∧ (¬ (n_ < (Int32.ofNat (i + 3))) → (v.toInt = bst.toInt ∨ v.toInt = (y0.toInt + y1.toInt + y2.toInt)) ∧ bst.toInt ≤ v.toInt ∧ (y0.toInt + y1.toInt + y2.toInt) ≤ v.toInt)
theorem rm_one3 (l : Launch) (Z : State) (a0 : Array Value) (hw : HW a0 Z) (ws : List Jvm.Cond) (p_ : Addr) (n_ : Int32) (bst : Int64) (i : Nat) (kp : ClassId) (pl : List Value) (y0 : Int64) (y1 : Int64) (y2 : Int64) (h0 : Heap) (n0 : Nat) (Z0 : n0 ≤ h0.size) (VP : Arv Z h0 p_ kp .long (4 : Int32) pl (.long (0 : Int64))) (hi : i + 3 ≤ 4) (g0 : pl.getD i (.long (0 : Int64)) = .long y0) (g1 : pl.getD (i + 1) (.long (0 : Int64)) = .long y1) (g2 : pl.getD (i + 2) (.long (0 : Int64)) = .long y2) (bg0 : Bn 1 y0) (bg1 : Bn 1 y1) (bg2 : Bn 1 y2) :
    CT l yn15 (Jvm.Cond.code yn15 method_4_code 6 (some .long) :: ws) (⟨1, 0, 0, 18⟩ : Room) #[(.ref p_), (.int n_), (.int (3 : Int32)), (.int (Int32.ofNat i)), (.long bst)] Z h0 (Q_one3 Z p_ n_ bst i kp pl y0 y1 y2 h0 n0) := by
  refine MetFree.of_bodySF (plainFor_of_name pn_com_example_vestline_vestline_finalaveragepay_BestPeriodsTotalPinLaw) hisR ?_
  intro p e s m args below meth cO s₁ Bd hml hP hK
  obtain ⟨rfl, hZ, hh⟩ := hP
  have hx := Bd.exec
  have hby := Bd.bytes
  have hown : s.vm.findClass "com/example/vestline/vestline/finalaveragepay/BestPeriodsTotalPinLaw" = some m.cls := findClass_of_methodNamed Bd.named
  have hnm := (name_of_methodNamed Bd.named Bd.method).1
  have X0 : Stand p l e (⟨1, 0, 0, 18⟩ : Room) s m #[(.ref p_), (.int n_), (.int (3 : Int32)), (.int (Int32.ofNat i)), (.long bst)] below meth cO s₁ [] 0 0 := Stand.of_body Bd
  have e0 : s₁.heap = h0 := by rw [← hh, Bd.state]; rfl
  have N0 := Fr.nil n0
  have D_ : ∀ {i : Nat} {x}, decode method_4_code i = x → decode cO.code i = x := fun h => hb hby h
  have W0 : ∀ zQ, SS p e below s₁ m 0 #[.val (.ref p_), .val (.int n_), .val (.int (3 : Int32)), .val (.int (Int32.ofNat i)), .val (.long bst), .second] [] zQ → Steps p.tables e below (s₁.setTop (entryFrame m #[(.ref p_), (.int n_), (.int (3 : Int32)), (.int (Int32.ofNat i)), (.long bst)] 6)) zQ := fun tt kt => castTop (ef_one3 m p_ n_ (3 : Int32) (Int32.ofNat i) bst) kt
  have W101 : ∀ zQ, SS p e below s₁ m 4 #[.val (.ref p_), .val (.int n_), .val (.int (3 : Int32)), .val (.int (Int32.ofNat i)), .val (.long bst), .second] [(.int n_), (.int (Int32.ofNat (i + 3)))] zQ → Steps p.tables e below (s₁.setTop (entryFrame m #[(.ref p_), (.int n_), (.int (3 : Int32)), (.int (Int32.ofNat i)), (.long bst)] 6)) zQ := by
    intro tt kt
    refine W0 tt ?_
    refine XS.iloadN X0.here hx rfl (D_ d15_0) rfl ?_
    refine XS.iloadN X0.here hx rfl (D_ d15_1) rfl ?_
    refine XS.iadd X0.here hx rfl (D_ d15_2) rfl ?_
    show SS p e below s₁ m 3 #[.val (.ref p_), .val (.int n_), .val (.int (3 : Int32)), .val (.int (Int32.ofNat i)), .val (.long bst), .second] [(.int ((Int32.ofNat i) + (3 : Int32)))] _
    rw [show ((Int32.ofNat i) + (3 : Int32)) = (Int32.ofNat (i + 3)) from (Int32.ofNat_add i 3).symm]
    refine XS.iloadN X0.here hx rfl (D_ d15_3) rfl ?_
    exact kt
  by_cases hc102 : n_ < (Int32.ofNat (i + 3))
  ·
    have W103 : ∀ zQ, SS p e below s₁ m 21 #[.val (.ref p_), .val (.int n_), .val (.int (3 : Int32)), .val (.int (Int32.ofNat i)), .val (.long bst), .second] [(.long bst)] zQ → Steps p.tables e below (s₁.setTop (entryFrame m #[(.ref p_), (.int n_), (.int (3 : Int32)), (.int (Int32.ofNat i)), (.long bst)] 6)) zQ := by
      intro tt kt
      refine W101 tt ?_
      refine XS.icmpYes X0.here hx rfl (pc0 := 4) (pc' := 19) rfl (D_ d15_4) rfl (tlt hc102).2.2.1 (by decide) (by decide) ?_
      refine XS.lload X0.here hx rfl (D_ d15_19) rfl ?_
      exact kt
    obtain ⟨fs, hr, hrun, hended, hW, hsame⟩ := X0.leave (v := some (.long bst)) (fun h => by rw [Bd.returns] at h; cases h)
    refine ⟨_, _, W103 _ (own_retJ X0 hx Bd.returns (D_ d15_21) hr), hrun, hended, _, _, rfl, ?_, ⟨_, rfl⟩, hW, hsame.mono (by decide) (by decide)⟩
    show Q_one3 Z p_ n_ bst i kp pl y0 y1 y2 h0 n0 _ s₁.heap _
    rw [e0]
    exact ⟨bst, rfl, N0, rfl, (fun _ => rfl), (fun q => absurd hc102 q)⟩
  ·
    obtain ⟨_, _, ⟨T104, L104, k104, n104⟩, -, X104, ⟨Lc104, hQ104, l104, y104, z104⟩, st104⟩ := Jvm.LawKit.callS X0 hx (y := yn14) hown (mvT hZ (w164 hw)) (mvT hZ (w165 hw)) (mvT hZ (w53 hw)) (mvT hZ (w166 hw)) (by decide) (backOf (W := 2) (rm_w3 l Z a0 hw [] p_ i kp pl y0 y1 y2 h0 n0 Z0 VP hi g0 g1 g2 bg0 bg1 bg2) hZ (w166 hw) (w53 hw) (by decide) (by decide)) (g := (mkF m 12 #[.val (.ref p_), .val (.int n_), .val (.int (3 : Int32)), .val (.int (Int32.ofNat i)), .val (.long bst), .second] [(.int (3 : Int32)), (.int (Int32.ofNat i)), (.ref p_), (.long bst)])) rfl (by rw [hml]; rfl) (argsL := [(.ref p_), (.int (Int32.ofNat i)), (.int (3 : Int32))]) (rest := [(.long bst)]) (lenOf pd8 rfl) rfl (wq rfl) (D_ d15_12) (fun _ _ => ⟨rfl, e0, (nb rfl), (nb rfl)⟩)
    dsimp only [Pt.U, Pt.locs, Pt.cells, Pt.slots] at X104 l104 y104 z104 st104 hQ104
    subst l104 y104 z104
    obtain ⟨v_105, rfl, Nq104, eq104, P104_0, P104_1⟩ := hQ104
    have N104 := Fr.app N0 Nq104
    obtain ⟨_, _, ⟨T106, L106, k106, n106⟩, -, X106, ⟨Lc106, hQ106, l106, y106, z106⟩, st106⟩ := Jvm.LawKit.callS X104 hx (y := yn11) hown (mvT hZ (w170 hw)) (mvT hZ (w171 hw)) (mvT hZ (w93 hw)) (mvT hZ (w172 hw)) (by decide) (backOf (W := 0) (rm_lmax l Z a0 hw [] bst v_105 h0 n0 Z0 ) hZ (w172 hw) (w93 hw) (by decide) (by decide)) (g := (mkF m 15 #[.val (.ref p_), .val (.int n_), .val (.int (3 : Int32)), .val (.int (Int32.ofNat i)), .val (.long bst), .second] [(.long v_105), (.long bst)])) rfl (by rw [hml]; rfl) (argsL := [(.long bst), (.long v_105)]) (rest := []) (lenOf pd3 rfl) rfl (wq rfl) (D_ d15_15) (fun _ _ => ⟨rfl, eq104, (nb rfl), (nb rfl)⟩)
    dsimp only [Pt.U, Pt.locs, Pt.cells, Pt.slots] at X106 l106 y106 z106 st106 hQ106
    subst l106 y106 z106
    obtain ⟨rfl, Nq106, eq106⟩ := hQ106
    have N106 := Fr.app N104 Nq106
    have W107 : ∀ zQ, SS p e below T106 m 18 #[.val (.ref p_), .val (.int n_), .val (.int (3 : Int32)), .val (.int (Int32.ofNat i)), .val (.long bst), .second] [(.long (if bst < v_105 then v_105 else bst))] zQ → Steps p.tables e below (s₁.setTop (entryFrame m #[(.ref p_), (.int n_), (.int (3 : Int32)), (.int (Int32.ofNat i)), (.long bst)] 6)) zQ := by
      intro tt kt
      refine W101 tt ?_
      refine XS.icmpNo X0.here hx rfl (D_ d15_4) rfl (flt hc102).2.2.1 ?_
      refine XS.lload X0.here hx rfl (D_ d15_7) rfl ?_
      refine XS.aloadN X0.here hx rfl (D_ d15_9) rfl rfl ?_
      refine XS.iloadN X0.here hx rfl (D_ d15_10) rfl ?_
      refine XS.iloadN X0.here hx rfl (D_ d15_11) rfl ?_
      refine st104 _ ?_
      refine st106 _ ?_
      exact kt
    obtain ⟨fs, hr, hrun, hended, hW, hsame⟩ := X106.leave (v := some (.long (if bst < v_105 then v_105 else bst))) (fun h => by rw [Bd.returns] at h; cases h)
    refine ⟨_, _, W107 _ (own_retJ X106 hx Bd.returns (D_ d15_18) hr), hrun, hended, _, _, rfl, ?_, ⟨_, rfl⟩, hW, hsame.mono (by decide) (by decide)⟩
    show Q_one3 Z p_ n_ bst i kp pl y0 y1 y2 h0 n0 _ T106.heap _
    rw [eq106]
    exact ⟨(if bst < v_105 then v_105 else bst), rfl, N106, rfl, (fun q => absurd q hc102), (fun _ => own_lmI (a := bst) P104_0)⟩
def Q_oneN (Z : State) (p_ : Addr) (n_ : Int32) (l_ : Int32) (i_ : Int32) (bst : Int64) (h0 : Heap) (n0 : Nat) (vQ_ : Option Value) (hQ_ : Heap) (LQ_ : List Loc) : Prop := vQ_ = some (.long bst) ∧ Fr n0 LQ_ ∧ hQ_ = h0
theorem rm_oneN (l : Launch) (Z : State) (a0 : Array Value) (hw : HW a0 Z) (ws : List Jvm.Cond) (p_ : Addr) (n_ : Int32) (l_ : Int32) (i_ : Int32) (bst : Int64) (h0 : Heap) (n0 : Nat) (Z0 : n0 ≤ h0.size) (hn : n_ < (i_ + l_)) :
    CT l yn15 (Jvm.Cond.code yn15 method_4_code 6 (some .long) :: ws) (⟨0, 0, 0, 0⟩ : Room) #[(.ref p_), (.int n_), (.int l_), (.int i_), (.long bst)] Z h0 (Q_oneN Z p_ n_ l_ i_ bst h0 n0) := by
  refine MetFree.of_bodySF (plainFor_of_name pn_com_example_vestline_vestline_finalaveragepay_BestPeriodsTotalPinLaw) hisR ?_
  intro p e s m args below meth cO s₁ Bd hml hP hK
  obtain ⟨rfl, hZ, hh⟩ := hP
  have hx := Bd.exec
  have hby := Bd.bytes
  have hown : s.vm.findClass "com/example/vestline/vestline/finalaveragepay/BestPeriodsTotalPinLaw" = some m.cls := findClass_of_methodNamed Bd.named
  have hnm := (name_of_methodNamed Bd.named Bd.method).1
  have X0 : Stand p l e (⟨0, 0, 0, 0⟩ : Room) s m #[(.ref p_), (.int n_), (.int l_), (.int i_), (.long bst)] below meth cO s₁ [] 0 0 := Stand.of_body Bd
  have e0 : s₁.heap = h0 := by rw [← hh, Bd.state]; rfl
  have N0 := Fr.nil n0
  have D_ : ∀ {i : Nat} {x}, decode method_4_code i = x → decode cO.code i = x := fun h => hb hby h
  have W0 : ∀ zQ, SS p e below s₁ m 0 #[.val (.ref p_), .val (.int n_), .val (.int l_), .val (.int i_), .val (.long bst), .second] [] zQ → Steps p.tables e below (s₁.setTop (entryFrame m #[(.ref p_), (.int n_), (.int l_), (.int i_), (.long bst)] 6)) zQ := fun tt kt => castTop (ef_oneN m p_ n_ l_ i_ bst) kt
  have W101 : ∀ zQ, SS p e below s₁ m 21 #[.val (.ref p_), .val (.int n_), .val (.int l_), .val (.int i_), .val (.long bst), .second] [(.long bst)] zQ → Steps p.tables e below (s₁.setTop (entryFrame m #[(.ref p_), (.int n_), (.int l_), (.int i_), (.long bst)] 6)) zQ := by
    intro tt kt
    refine W0 tt ?_
    refine XS.iloadN X0.here hx rfl (D_ d15_0) rfl ?_
    refine XS.iloadN X0.here hx rfl (D_ d15_1) rfl ?_
    refine XS.iadd X0.here hx rfl (D_ d15_2) rfl ?_
    refine XS.iloadN X0.here hx rfl (D_ d15_3) rfl ?_
    refine XS.icmpYes X0.here hx rfl (pc0 := 4) (pc' := 19) rfl (D_ d15_4) rfl (tlt hn).2.2.1 (by decide) (by decide) ?_
    refine XS.lload X0.here hx rfl (D_ d15_19) rfl ?_
    exact kt
  obtain ⟨fs, hr, hrun, hended, hW, hsame⟩ := X0.leave (v := some (.long bst)) (fun h => by rw [Bd.returns] at h; cases h)
  refine ⟨_, _, W101 _ (own_retJ X0 hx Bd.returns (D_ d15_21) hr), hrun, hended, _, _, rfl, ?_, ⟨_, rfl⟩, hW, hsame.mono (by decide) (by decide)⟩
  show Q_oneN Z p_ n_ l_ i_ bst h0 n0 _ s₁.heap _
  rw [e0]
  exact ⟨rfl, N0, rfl⟩
def Q_two1 (Z : State) (p_ : Addr) (n_ : Int32) (bst : Int64) (i : Nat) (j : Nat) (kp : ClassId) (pl : List Value) (y0 : Int64) (z0 : Int64) (h0 : Heap) (n0 : Nat) (vQ_ : Option Value) (hQ_ : Heap) (LQ_ : List Loc) : Prop := ∃ v : Int64, vQ_ = some (.long v) ∧ Fr n0 LQ_ ∧ hQ_ = h0 ∧ (n_ < (Int32.ofNat (j + 1)) → v = bst) ∧ (¬ (n_ < (Int32.ofNat (j + 1))) → (v.toInt = bst.toInt ∨ v.toInt = (y0.toInt + z0.toInt)) ∧ bst.toInt ≤ v.toInt ∧ (y0.toInt + z0.toInt) ≤ v.toInt)
theorem rm_two1 (l : Launch) (Z : State) (a0 : Array Value) (hw : HW a0 Z) (ws : List Jvm.Cond) (p_ : Addr) (n_ : Int32) (bst : Int64) (i : Nat) (j : Nat) (kp : ClassId) (pl : List Value) (y0 : Int64) (z0 : Int64) (h0 : Heap) (n0 : Nat) (Z0 : n0 ≤ h0.size) (VP : Arv Z h0 p_ kp .long (4 : Int32) pl (.long (0 : Int64))) (hij : i + 1 ≤ j) (hj : j + 1 ≤ 4) (g0 : pl.getD i (.long (0 : Int64)) = .long y0) (bg0 : Bn 1 y0) (k0 : pl.getD j (.long (0 : Int64)) = .long z0) (bk0 : Bn 1 z0) :
    CT l yn16 (Jvm.Cond.code yn16 method_5_code 7 (some .long) :: ws) (⟨1, 0, 0, 20⟩ : Room) #[(.ref p_), (.int n_), (.int (1 : Int32)), (.int (Int32.ofNat i)), (.int (Int32.ofNat j)), (.long bst)] Z h0 (Q_two1 Z p_ n_ bst i j kp pl y0 z0 h0 n0) := by
  refine MetFree.of_bodySF (plainFor_of_name pn_com_example_vestline_vestline_finalaveragepay_BestPeriodsTotalPinLaw) hisR ?_
  intro p e s m args below meth cO s₁ Bd hml hP hK
  obtain ⟨rfl, hZ, hh⟩ := hP
  have hx := Bd.exec
  have hby := Bd.bytes
  have hown : s.vm.findClass "com/example/vestline/vestline/finalaveragepay/BestPeriodsTotalPinLaw" = some m.cls := findClass_of_methodNamed Bd.named
  have hnm := (name_of_methodNamed Bd.named Bd.method).1
  have X0 : Stand p l e (⟨1, 0, 0, 20⟩ : Room) s m #[(.ref p_), (.int n_), (.int (1 : Int32)), (.int (Int32.ofNat i)), (.int (Int32.ofNat j)), (.long bst)] below meth cO s₁ [] 0 0 := Stand.of_body Bd
  have e0 : s₁.heap = h0 := by rw [← hh, Bd.state]; rfl
  have N0 := Fr.nil n0
  have D_ : ∀ {i : Nat} {x}, decode method_5_code i = x → decode cO.code i = x := fun h => hb hby h
  have W0 : ∀ zQ, SS p e below s₁ m 0 #[.val (.ref p_), .val (.int n_), .val (.int (1 : Int32)), .val (.int (Int32.ofNat i)), .val (.int (Int32.ofNat j)), .val (.long bst), .second] [] zQ → Steps p.tables e below (s₁.setTop (entryFrame m #[(.ref p_), (.int n_), (.int (1 : Int32)), (.int (Int32.ofNat i)), (.int (Int32.ofNat j)), (.long bst)] 7)) zQ := fun tt kt => castTop (ef_two1 m p_ n_ (1 : Int32) (Int32.ofNat i) (Int32.ofNat j) bst) kt
  have W101 : ∀ zQ, SS p e below s₁ m 13 #[.val (.ref p_), .val (.int n_), .val (.int (1 : Int32)), .val (.int (Int32.ofNat i)), .val (.int (Int32.ofNat j)), .val (.long bst), .second] [(.int n_), (.int (Int32.ofNat (j + 1)))] zQ → Steps p.tables e below (s₁.setTop (entryFrame m #[(.ref p_), (.int n_), (.int (1 : Int32)), (.int (Int32.ofNat i)), (.int (Int32.ofNat j)), (.long bst)] 7)) zQ := by
    intro tt kt
    refine W0 tt ?_
    refine XS.iload X0.here hx rfl (D_ d16_0) rfl ?_
    refine XS.iloadN X0.here hx rfl (D_ d16_2) rfl ?_
    refine XS.isub X0.here hx rfl (D_ d16_3) rfl ?_
    show SS p e below s₁ m 4 #[.val (.ref p_), .val (.int n_), .val (.int (1 : Int32)), .val (.int (Int32.ofNat i)), .val (.int (Int32.ofNat j)), .val (.long bst), .second] [(.int ((Int32.ofNat j) - (Int32.ofNat i)))] _
    rw [show ((Int32.ofNat j) - (Int32.ofNat i)) = (Int32.ofNat (j - i)) from own_sub (by omega) (by omega)]
    refine XS.iloadN X0.here hx rfl (D_ d16_4) rfl ?_
    refine XS.icmpNo X0.here hx rfl (D_ d16_5) rfl (flt (show ¬ ((Int32.ofNat (j - i)) < Int32.ofNat 1) from own_nlt (by omega) (by omega))).1 ?_
    refine XS.iload X0.here hx rfl (D_ d16_8) rfl ?_
    refine XS.iloadN X0.here hx rfl (D_ d16_10) rfl ?_
    refine XS.iadd X0.here hx rfl (D_ d16_11) rfl ?_
    show SS p e below s₁ m 12 #[.val (.ref p_), .val (.int n_), .val (.int (1 : Int32)), .val (.int (Int32.ofNat i)), .val (.int (Int32.ofNat j)), .val (.long bst), .second] [(.int ((Int32.ofNat j) + (1 : Int32)))] _
    rw [show ((Int32.ofNat j) + (1 : Int32)) = (Int32.ofNat (j + 1)) from (Int32.ofNat_add j 1).symm]
    refine XS.iloadN X0.here hx rfl (D_ d16_12) rfl ?_
    exact kt
  by_cases hc102 : n_ < (Int32.ofNat (j + 1))
  ·
    have W103 : ∀ zQ, SS p e below s₁ m 38 #[.val (.ref p_), .val (.int n_), .val (.int (1 : Int32)), .val (.int (Int32.ofNat i)), .val (.int (Int32.ofNat j)), .val (.long bst), .second] [(.long bst)] zQ → Steps p.tables e below (s₁.setTop (entryFrame m #[(.ref p_), (.int n_), (.int (1 : Int32)), (.int (Int32.ofNat i)), (.int (Int32.ofNat j)), (.long bst)] 7)) zQ := by
      intro tt kt
      refine W101 tt ?_
      refine XS.icmpYes X0.here hx rfl (pc0 := 13) (pc' := 36) rfl (D_ d16_13) rfl (tlt hc102).2.2.1 (by decide) (by decide) ?_
      refine XS.lload X0.here hx rfl (D_ d16_36) rfl ?_
      exact kt
    obtain ⟨fs, hr, hrun, hended, hW, hsame⟩ := X0.leave (v := some (.long bst)) (fun h => by rw [Bd.returns] at h; cases h)
    refine ⟨_, _, W103 _ (own_retJ X0 hx Bd.returns (D_ d16_38) hr), hrun, hended, _, _, rfl, ?_, ⟨_, rfl⟩, hW, hsame.mono (by decide) (by decide)⟩
    show Q_two1 Z p_ n_ bst i j kp pl y0 z0 h0 n0 _ s₁.heap _
    rw [e0]
    exact ⟨bst, rfl, N0, rfl, (fun _ => rfl), (fun q => absurd hc102 q)⟩
  ·
    obtain ⟨_, _, ⟨T104, L104, k104, n104⟩, -, X104, ⟨Lc104, hQ104, l104, y104, z104⟩, st104⟩ := Jvm.LawKit.callS X0 hx (y := yn14) hown (mvT hZ (w164 hw)) (mvT hZ (w165 hw)) (mvT hZ (w53 hw)) (mvT hZ (w166 hw)) (by decide) (backOf (W := 2) (rm_w1 l Z a0 hw [] p_ i kp pl y0 h0 n0 Z0 VP (by omega) g0 bg0) hZ (w166 hw) (w53 hw) (by decide) (by decide)) (g := (mkF m 21 #[.val (.ref p_), .val (.int n_), .val (.int (1 : Int32)), .val (.int (Int32.ofNat i)), .val (.int (Int32.ofNat j)), .val (.long bst), .second] [(.int (1 : Int32)), (.int (Int32.ofNat i)), (.ref p_), (.long bst)])) rfl (by rw [hml]; rfl) (argsL := [(.ref p_), (.int (Int32.ofNat i)), (.int (1 : Int32))]) (rest := [(.long bst)]) (lenOf pd8 rfl) rfl (wq rfl) (D_ d16_21) (fun _ _ => ⟨rfl, e0, (nb rfl), (nb rfl)⟩)
    dsimp only [Pt.U, Pt.locs, Pt.cells, Pt.slots] at X104 l104 y104 z104 st104 hQ104
    subst l104 y104 z104
    obtain ⟨v_105, rfl, Nq104, eq104, P104_0, P104_1⟩ := hQ104
    have N104 := Fr.app N0 Nq104
    obtain ⟨_, _, ⟨T106, L106, k106, n106⟩, -, X106, ⟨Lc106, hQ106, l106, y106, z106⟩, st106⟩ := Jvm.LawKit.callS X104 hx (y := yn14) hown (mvT hZ (w164 hw)) (mvT hZ (w165 hw)) (mvT hZ (w53 hw)) (mvT hZ (w166 hw)) (by decide) (backOf (W := 4) (rm_w1 l Z a0 hw [] p_ j kp pl z0 h0 n0 Z0 VP (by omega) k0 bk0) hZ (w166 hw) (w53 hw) (by decide) (by decide)) (g := (mkF m 28 #[.val (.ref p_), .val (.int n_), .val (.int (1 : Int32)), .val (.int (Int32.ofNat i)), .val (.int (Int32.ofNat j)), .val (.long bst), .second] [(.int (1 : Int32)), (.int (Int32.ofNat j)), (.ref p_), (.long v_105), (.long bst)])) rfl (by rw [hml]; rfl) (argsL := [(.ref p_), (.int (Int32.ofNat j)), (.int (1 : Int32))]) (rest := [(.long v_105), (.long bst)]) (lenOf pd8 rfl) rfl (wq rfl) (D_ d16_28) (fun _ _ => ⟨rfl, eq104, (nb rfl), (nb rfl)⟩)
    dsimp only [Pt.U, Pt.locs, Pt.cells, Pt.slots] at X106 l106 y106 z106 st106 hQ106
    subst l106 y106 z106
    obtain ⟨v_107, rfl, Nq106, eq106, P106_0, P106_1⟩ := hQ106
    have N106 := Fr.app N104 Nq106
    have qe := own_tadd (Bn.mono P104_1 (by decide)) (Bn.mono P106_1 (by decide))
    rw [P104_0, P106_0] at qe
    obtain ⟨_, _, ⟨T108, L108, k108, n108⟩, -, X108, ⟨Lc108, hQ108, l108, y108, z108⟩, st108⟩ := Jvm.LawKit.callS X106 hx (y := yn11) hown (mvT hZ (w170 hw)) (mvT hZ (w171 hw)) (mvT hZ (w93 hw)) (mvT hZ (w172 hw)) (by decide) (backOf (W := 0) (rm_lmax l Z a0 hw [] bst (v_105 + v_107) h0 n0 Z0 ) hZ (w172 hw) (w93 hw) (by decide) (by decide)) (g := (mkF m 32 #[.val (.ref p_), .val (.int n_), .val (.int (1 : Int32)), .val (.int (Int32.ofNat i)), .val (.int (Int32.ofNat j)), .val (.long bst), .second] [(.long (v_105 + v_107)), (.long bst)])) rfl (by rw [hml]; rfl) (argsL := [(.long bst), (.long (v_105 + v_107))]) (rest := []) (lenOf pd3 rfl) rfl (wq rfl) (D_ d16_32) (fun _ _ => ⟨rfl, eq106, (nb rfl), (nb rfl)⟩)
    dsimp only [Pt.U, Pt.locs, Pt.cells, Pt.slots] at X108 l108 y108 z108 st108 hQ108
    subst l108 y108 z108
    obtain ⟨rfl, Nq108, eq108⟩ := hQ108
    have N108 := Fr.app N106 Nq108
    have W109 : ∀ zQ, SS p e below T108 m 35 #[.val (.ref p_), .val (.int n_), .val (.int (1 : Int32)), .val (.int (Int32.ofNat i)), .val (.int (Int32.ofNat j)), .val (.long bst), .second] [(.long (if bst < (v_105 + v_107) then (v_105 + v_107) else bst))] zQ → Steps p.tables e below (s₁.setTop (entryFrame m #[(.ref p_), (.int n_), (.int (1 : Int32)), (.int (Int32.ofNat i)), (.int (Int32.ofNat j)), (.long bst)] 7)) zQ := by
      intro tt kt
      refine W101 tt ?_
      refine XS.icmpNo X0.here hx rfl (D_ d16_13) rfl (flt hc102).2.2.1 ?_
      refine XS.lload X0.here hx rfl (D_ d16_16) rfl ?_
      refine XS.aloadN X0.here hx rfl (D_ d16_18) rfl rfl ?_
      refine XS.iloadN X0.here hx rfl (D_ d16_19) rfl ?_
      refine XS.iloadN X0.here hx rfl (D_ d16_20) rfl ?_
      refine st104 _ ?_
      refine XS.aloadN X104.here hx rfl (D_ d16_24) rfl rfl ?_
      refine XS.iload X104.here hx rfl (D_ d16_25) rfl ?_
      refine XS.iloadN X104.here hx rfl (D_ d16_27) rfl ?_
      refine st106 _ ?_
      refine XS.ladd X106.here hx rfl (D_ d16_31) rfl ?_
      refine st108 _ ?_
      exact kt
    obtain ⟨fs, hr, hrun, hended, hW, hsame⟩ := X108.leave (v := some (.long (if bst < (v_105 + v_107) then (v_105 + v_107) else bst))) (fun h => by rw [Bd.returns] at h; cases h)
    refine ⟨_, _, W109 _ (own_retJ X108 hx Bd.returns (D_ d16_35) hr), hrun, hended, _, _, rfl, ?_, ⟨_, rfl⟩, hW, hsame.mono (by decide) (by decide)⟩
    show Q_two1 Z p_ n_ bst i j kp pl y0 z0 h0 n0 _ T108.heap _
    rw [eq108]
    exact ⟨(if bst < (v_105 + v_107) then (v_105 + v_107) else bst), rfl, N108, rfl, (fun q => absurd q hc102), (fun _ => own_lmI (a := bst) qe)⟩
def Q_two2 (Z : State) (p_ : Addr) (n_ : Int32) (bst : Int64) (i : Nat) (j : Nat) (kp : ClassId) (pl : List Value) (y0 : Int64) (y1 : Int64) (z0 : Int64) (z1 : Int64) (h0 : Heap) (n0 : Nat) (vQ_ : Option Value) (hQ_ : Heap) (LQ_ : List Loc) : Prop := ∃ v : Int64, vQ_ = some (.long v) ∧ Fr n0 LQ_ ∧ hQ_ = h0 ∧ (n_ < (Int32.ofNat (j + 2)) → v = bst) ∧ (¬ (n_ < (Int32.ofNat (j + 2))) → (v.toInt = bst.toInt ∨ v.toInt = ((y0.toInt + y1.toInt) + (z0.toInt + z1.toInt))) ∧ bst.toInt ≤ v.toInt ∧ ((y0.toInt + y1.toInt) + (z0.toInt + z1.toInt)) ≤ v.toInt)
theorem rm_two2 (l : Launch) (Z : State) (a0 : Array Value) (hw : HW a0 Z) (ws : List Jvm.Cond) (p_ : Addr) (n_ : Int32) (bst : Int64) (i : Nat) (j : Nat) (kp : ClassId) (pl : List Value) (y0 : Int64) (y1 : Int64) (z0 : Int64) (z1 : Int64) (h0 : Heap) (n0 : Nat) (Z0 : n0 ≤ h0.size) (VP : Arv Z h0 p_ kp .long (4 : Int32) pl (.long (0 : Int64))) (hij : i + 2 ≤ j) (hj : j + 2 ≤ 4) (g0 : pl.getD i (.long (0 : Int64)) = .long y0) (g1 : pl.getD (i + 1) (.long (0 : Int64)) = .long y1) (bg0 : Bn 1 y0) (bg1 : Bn 1 y1) (k0 : pl.getD j (.long (0 : Int64)) = .long z0) (k1 : pl.getD (j + 1) (.long (0 : Int64)) = .long z1) (bk0 : Bn 1 z0) (bk1 : Bn 1 z1) :
    CT l yn16 (Jvm.Cond.code yn16 method_5_code 7 (some .long) :: ws) (⟨1, 0, 0, 20⟩ : Room) #[(.ref p_), (.int n_), (.int (2 : Int32)), (.int (Int32.ofNat i)), (.int (Int32.ofNat j)), (.long bst)] Z h0 (Q_two2 Z p_ n_ bst i j kp pl y0 y1 z0 z1 h0 n0) := by
  refine MetFree.of_bodySF (plainFor_of_name pn_com_example_vestline_vestline_finalaveragepay_BestPeriodsTotalPinLaw) hisR ?_
  intro p e s m args below meth cO s₁ Bd hml hP hK
  obtain ⟨rfl, hZ, hh⟩ := hP
  have hx := Bd.exec
  have hby := Bd.bytes
  have hown : s.vm.findClass "com/example/vestline/vestline/finalaveragepay/BestPeriodsTotalPinLaw" = some m.cls := findClass_of_methodNamed Bd.named
  have hnm := (name_of_methodNamed Bd.named Bd.method).1
  have X0 : Stand p l e (⟨1, 0, 0, 20⟩ : Room) s m #[(.ref p_), (.int n_), (.int (2 : Int32)), (.int (Int32.ofNat i)), (.int (Int32.ofNat j)), (.long bst)] below meth cO s₁ [] 0 0 := Stand.of_body Bd
  have e0 : s₁.heap = h0 := by rw [← hh, Bd.state]; rfl
  have N0 := Fr.nil n0
  have D_ : ∀ {i : Nat} {x}, decode method_5_code i = x → decode cO.code i = x := fun h => hb hby h
  have W0 : ∀ zQ, SS p e below s₁ m 0 #[.val (.ref p_), .val (.int n_), .val (.int (2 : Int32)), .val (.int (Int32.ofNat i)), .val (.int (Int32.ofNat j)), .val (.long bst), .second] [] zQ → Steps p.tables e below (s₁.setTop (entryFrame m #[(.ref p_), (.int n_), (.int (2 : Int32)), (.int (Int32.ofNat i)), (.int (Int32.ofNat j)), (.long bst)] 7)) zQ := fun tt kt => castTop (ef_two2 m p_ n_ (2 : Int32) (Int32.ofNat i) (Int32.ofNat j) bst) kt
  have W101 : ∀ zQ, SS p e below s₁ m 13 #[.val (.ref p_), .val (.int n_), .val (.int (2 : Int32)), .val (.int (Int32.ofNat i)), .val (.int (Int32.ofNat j)), .val (.long bst), .second] [(.int n_), (.int (Int32.ofNat (j + 2)))] zQ → Steps p.tables e below (s₁.setTop (entryFrame m #[(.ref p_), (.int n_), (.int (2 : Int32)), (.int (Int32.ofNat i)), (.int (Int32.ofNat j)), (.long bst)] 7)) zQ := by
    intro tt kt
    refine W0 tt ?_
    refine XS.iload X0.here hx rfl (D_ d16_0) rfl ?_
    refine XS.iloadN X0.here hx rfl (D_ d16_2) rfl ?_
    refine XS.isub X0.here hx rfl (D_ d16_3) rfl ?_
    show SS p e below s₁ m 4 #[.val (.ref p_), .val (.int n_), .val (.int (2 : Int32)), .val (.int (Int32.ofNat i)), .val (.int (Int32.ofNat j)), .val (.long bst), .second] [(.int ((Int32.ofNat j) - (Int32.ofNat i)))] _
    rw [show ((Int32.ofNat j) - (Int32.ofNat i)) = (Int32.ofNat (j - i)) from own_sub (by omega) (by omega)]
    refine XS.iloadN X0.here hx rfl (D_ d16_4) rfl ?_
    refine XS.icmpNo X0.here hx rfl (D_ d16_5) rfl (flt (show ¬ ((Int32.ofNat (j - i)) < Int32.ofNat 2) from own_nlt (by omega) (by omega))).1 ?_
    refine XS.iload X0.here hx rfl (D_ d16_8) rfl ?_
    refine XS.iloadN X0.here hx rfl (D_ d16_10) rfl ?_
    refine XS.iadd X0.here hx rfl (D_ d16_11) rfl ?_
    show SS p e below s₁ m 12 #[.val (.ref p_), .val (.int n_), .val (.int (2 : Int32)), .val (.int (Int32.ofNat i)), .val (.int (Int32.ofNat j)), .val (.long bst), .second] [(.int ((Int32.ofNat j) + (2 : Int32)))] _
    rw [show ((Int32.ofNat j) + (2 : Int32)) = (Int32.ofNat (j + 2)) from (Int32.ofNat_add j 2).symm]
    refine XS.iloadN X0.here hx rfl (D_ d16_12) rfl ?_
    exact kt
  by_cases hc102 : n_ < (Int32.ofNat (j + 2))
  ·
    have W103 : ∀ zQ, SS p e below s₁ m 38 #[.val (.ref p_), .val (.int n_), .val (.int (2 : Int32)), .val (.int (Int32.ofNat i)), .val (.int (Int32.ofNat j)), .val (.long bst), .second] [(.long bst)] zQ → Steps p.tables e below (s₁.setTop (entryFrame m #[(.ref p_), (.int n_), (.int (2 : Int32)), (.int (Int32.ofNat i)), (.int (Int32.ofNat j)), (.long bst)] 7)) zQ := by
      intro tt kt
      refine W101 tt ?_
      refine XS.icmpYes X0.here hx rfl (pc0 := 13) (pc' := 36) rfl (D_ d16_13) rfl (tlt hc102).2.2.1 (by decide) (by decide) ?_
      refine XS.lload X0.here hx rfl (D_ d16_36) rfl ?_
      exact kt
    obtain ⟨fs, hr, hrun, hended, hW, hsame⟩ := X0.leave (v := some (.long bst)) (fun h => by rw [Bd.returns] at h; cases h)
    refine ⟨_, _, W103 _ (own_retJ X0 hx Bd.returns (D_ d16_38) hr), hrun, hended, _, _, rfl, ?_, ⟨_, rfl⟩, hW, hsame.mono (by decide) (by decide)⟩
    show Q_two2 Z p_ n_ bst i j kp pl y0 y1 z0 z1 h0 n0 _ s₁.heap _
    rw [e0]
    exact ⟨bst, rfl, N0, rfl, (fun _ => rfl), (fun q => absurd hc102 q)⟩
  ·
    obtain ⟨_, _, ⟨T104, L104, k104, n104⟩, -, X104, ⟨Lc104, hQ104, l104, y104, z104⟩, st104⟩ := Jvm.LawKit.callS X0 hx (y := yn14) hown (mvT hZ (w164 hw)) (mvT hZ (w165 hw)) (mvT hZ (w53 hw)) (mvT hZ (w166 hw)) (by decide) (backOf (W := 2) (rm_w2 l Z a0 hw [] p_ i kp pl y0 y1 h0 n0 Z0 VP (by omega) g0 g1 bg0 bg1) hZ (w166 hw) (w53 hw) (by decide) (by decide)) (g := (mkF m 21 #[.val (.ref p_), .val (.int n_), .val (.int (2 : Int32)), .val (.int (Int32.ofNat i)), .val (.int (Int32.ofNat j)), .val (.long bst), .second] [(.int (2 : Int32)), (.int (Int32.ofNat i)), (.ref p_), (.long bst)])) rfl (by rw [hml]; rfl) (argsL := [(.ref p_), (.int (Int32.ofNat i)), (.int (2 : Int32))]) (rest := [(.long bst)]) (lenOf pd8 rfl) rfl (wq rfl) (D_ d16_21) (fun _ _ => ⟨rfl, e0, (nb rfl), (nb rfl)⟩)
    dsimp only [Pt.U, Pt.locs, Pt.cells, Pt.slots] at X104 l104 y104 z104 st104 hQ104
    subst l104 y104 z104
    obtain ⟨v_105, rfl, Nq104, eq104, P104_0, P104_1⟩ := hQ104
    have N104 := Fr.app N0 Nq104
    obtain ⟨_, _, ⟨T106, L106, k106, n106⟩, -, X106, ⟨Lc106, hQ106, l106, y106, z106⟩, st106⟩ := Jvm.LawKit.callS X104 hx (y := yn14) hown (mvT hZ (w164 hw)) (mvT hZ (w165 hw)) (mvT hZ (w53 hw)) (mvT hZ (w166 hw)) (by decide) (backOf (W := 4) (rm_w2 l Z a0 hw [] p_ j kp pl z0 z1 h0 n0 Z0 VP (by omega) k0 k1 bk0 bk1) hZ (w166 hw) (w53 hw) (by decide) (by decide)) (g := (mkF m 28 #[.val (.ref p_), .val (.int n_), .val (.int (2 : Int32)), .val (.int (Int32.ofNat i)), .val (.int (Int32.ofNat j)), .val (.long bst), .second] [(.int (2 : Int32)), (.int (Int32.ofNat j)), (.ref p_), (.long v_105), (.long bst)])) rfl (by rw [hml]; rfl) (argsL := [(.ref p_), (.int (Int32.ofNat j)), (.int (2 : Int32))]) (rest := [(.long v_105), (.long bst)]) (lenOf pd8 rfl) rfl (wq rfl) (D_ d16_28) (fun _ _ => ⟨rfl, eq104, (nb rfl), (nb rfl)⟩)
    dsimp only [Pt.U, Pt.locs, Pt.cells, Pt.slots] at X106 l106 y106 z106 st106 hQ106
    subst l106 y106 z106
    obtain ⟨v_107, rfl, Nq106, eq106, P106_0, P106_1⟩ := hQ106
    have N106 := Fr.app N104 Nq106
    have qe := own_tadd (Bn.mono P104_1 (by decide)) (Bn.mono P106_1 (by decide))
    rw [P104_0, P106_0] at qe
    obtain ⟨_, _, ⟨T108, L108, k108, n108⟩, -, X108, ⟨Lc108, hQ108, l108, y108, z108⟩, st108⟩ := Jvm.LawKit.callS X106 hx (y := yn11) hown (mvT hZ (w170 hw)) (mvT hZ (w171 hw)) (mvT hZ (w93 hw)) (mvT hZ (w172 hw)) (by decide) (backOf (W := 0) (rm_lmax l Z a0 hw [] bst (v_105 + v_107) h0 n0 Z0 ) hZ (w172 hw) (w93 hw) (by decide) (by decide)) (g := (mkF m 32 #[.val (.ref p_), .val (.int n_), .val (.int (2 : Int32)), .val (.int (Int32.ofNat i)), .val (.int (Int32.ofNat j)), .val (.long bst), .second] [(.long (v_105 + v_107)), (.long bst)])) rfl (by rw [hml]; rfl) (argsL := [(.long bst), (.long (v_105 + v_107))]) (rest := []) (lenOf pd3 rfl) rfl (wq rfl) (D_ d16_32) (fun _ _ => ⟨rfl, eq106, (nb rfl), (nb rfl)⟩)
    dsimp only [Pt.U, Pt.locs, Pt.cells, Pt.slots] at X108 l108 y108 z108 st108 hQ108
    subst l108 y108 z108
    obtain ⟨rfl, Nq108, eq108⟩ := hQ108
    have N108 := Fr.app N106 Nq108
    have W109 : ∀ zQ, SS p e below T108 m 35 #[.val (.ref p_), .val (.int n_), .val (.int (2 : Int32)), .val (.int (Int32.ofNat i)), .val (.int (Int32.ofNat j)), .val (.long bst), .second] [(.long (if bst < (v_105 + v_107) then (v_105 + v_107) else bst))] zQ → Steps p.tables e below (s₁.setTop (entryFrame m #[(.ref p_), (.int n_), (.int (2 : Int32)), (.int (Int32.ofNat i)), (.int (Int32.ofNat j)), (.long bst)] 7)) zQ := by
      intro tt kt
      refine W101 tt ?_
      refine XS.icmpNo X0.here hx rfl (D_ d16_13) rfl (flt hc102).2.2.1 ?_
      refine XS.lload X0.here hx rfl (D_ d16_16) rfl ?_
      refine XS.aloadN X0.here hx rfl (D_ d16_18) rfl rfl ?_
      refine XS.iloadN X0.here hx rfl (D_ d16_19) rfl ?_
      refine XS.iloadN X0.here hx rfl (D_ d16_20) rfl ?_
      refine st104 _ ?_
      refine XS.aloadN X104.here hx rfl (D_ d16_24) rfl rfl ?_
      refine XS.iload X104.here hx rfl (D_ d16_25) rfl ?_
      refine XS.iloadN X104.here hx rfl (D_ d16_27) rfl ?_
      refine st106 _ ?_
      refine XS.ladd X106.here hx rfl (D_ d16_31) rfl ?_
      refine st108 _ ?_
      exact kt
    obtain ⟨fs, hr, hrun, hended, hW, hsame⟩ := X108.leave (v := some (.long (if bst < (v_105 + v_107) then (v_105 + v_107) else bst))) (fun h => by rw [Bd.returns] at h; cases h)
    refine ⟨_, _, W109 _ (own_retJ X108 hx Bd.returns (D_ d16_35) hr), hrun, hended, _, _, rfl, ?_, ⟨_, rfl⟩, hW, hsame.mono (by decide) (by decide)⟩
    show Q_two2 Z p_ n_ bst i j kp pl y0 y1 z0 z1 h0 n0 _ T108.heap _
    rw [eq108]
    exact ⟨(if bst < (v_105 + v_107) then (v_105 + v_107) else bst), rfl, N108, rfl, (fun q => absurd q hc102), (fun _ => own_lmI (a := bst) qe)⟩
def Q_twoN1 (Z : State) (p_ : Addr) (n_ : Int32) (l_ : Int32) (i_ : Int32) (j_ : Int32) (bst : Int64) (h0 : Heap) (n0 : Nat) (vQ_ : Option Value) (hQ_ : Heap) (LQ_ : List Loc) : Prop := vQ_ = some (.long bst) ∧ Fr n0 LQ_ ∧ hQ_ = h0
theorem rm_twoN1 (l : Launch) (Z : State) (a0 : Array Value) (hw : HW a0 Z) (ws : List Jvm.Cond) (p_ : Addr) (n_ : Int32) (l_ : Int32) (i_ : Int32) (j_ : Int32) (bst : Int64) (h0 : Heap) (n0 : Nat) (Z0 : n0 ≤ h0.size) (h1 : (j_ - i_) < l_) :
    CT l yn16 (Jvm.Cond.code yn16 method_5_code 7 (some .long) :: ws) (⟨0, 0, 0, 0⟩ : Room) #[(.ref p_), (.int n_), (.int l_), (.int i_), (.int j_), (.long bst)] Z h0 (Q_twoN1 Z p_ n_ l_ i_ j_ bst h0 n0) := by
  refine MetFree.of_bodySF (plainFor_of_name pn_com_example_vestline_vestline_finalaveragepay_BestPeriodsTotalPinLaw) hisR ?_
  intro p e s m args below meth cO s₁ Bd hml hP hK
  obtain ⟨rfl, hZ, hh⟩ := hP
  have hx := Bd.exec
  have hby := Bd.bytes
  have hown : s.vm.findClass "com/example/vestline/vestline/finalaveragepay/BestPeriodsTotalPinLaw" = some m.cls := findClass_of_methodNamed Bd.named
  have hnm := (name_of_methodNamed Bd.named Bd.method).1
  have X0 : Stand p l e (⟨0, 0, 0, 0⟩ : Room) s m #[(.ref p_), (.int n_), (.int l_), (.int i_), (.int j_), (.long bst)] below meth cO s₁ [] 0 0 := Stand.of_body Bd
  have e0 : s₁.heap = h0 := by rw [← hh, Bd.state]; rfl
  have N0 := Fr.nil n0
  have D_ : ∀ {i : Nat} {x}, decode method_5_code i = x → decode cO.code i = x := fun h => hb hby h
  have W0 : ∀ zQ, SS p e below s₁ m 0 #[.val (.ref p_), .val (.int n_), .val (.int l_), .val (.int i_), .val (.int j_), .val (.long bst), .second] [] zQ → Steps p.tables e below (s₁.setTop (entryFrame m #[(.ref p_), (.int n_), (.int l_), (.int i_), (.int j_), (.long bst)] 7)) zQ := fun tt kt => castTop (ef_twoN1 m p_ n_ l_ i_ j_ bst) kt
  have W101 : ∀ zQ, SS p e below s₁ m 38 #[.val (.ref p_), .val (.int n_), .val (.int l_), .val (.int i_), .val (.int j_), .val (.long bst), .second] [(.long bst)] zQ → Steps p.tables e below (s₁.setTop (entryFrame m #[(.ref p_), (.int n_), (.int l_), (.int i_), (.int j_), (.long bst)] 7)) zQ := by
    intro tt kt
    refine W0 tt ?_
    refine XS.iload X0.here hx rfl (D_ d16_0) rfl ?_
    refine XS.iloadN X0.here hx rfl (D_ d16_2) rfl ?_
    refine XS.isub X0.here hx rfl (D_ d16_3) rfl ?_
    refine XS.iloadN X0.here hx rfl (D_ d16_4) rfl ?_
    refine XS.icmpYes X0.here hx rfl (pc0 := 5) (pc' := 36) rfl (D_ d16_5) rfl (tlt h1).1 (by decide) (by decide) ?_
    refine XS.lload X0.here hx rfl (D_ d16_36) rfl ?_
    exact kt
  obtain ⟨fs, hr, hrun, hended, hW, hsame⟩ := X0.leave (v := some (.long bst)) (fun h => by rw [Bd.returns] at h; cases h)
  refine ⟨_, _, W101 _ (own_retJ X0 hx Bd.returns (D_ d16_38) hr), hrun, hended, _, _, rfl, ?_, ⟨_, rfl⟩, hW, hsame.mono (by decide) (by decide)⟩
  show Q_twoN1 Z p_ n_ l_ i_ j_ bst h0 n0 _ s₁.heap _
  rw [e0]
  exact ⟨rfl, N0, rfl⟩
def Q_twoN2 (Z : State) (p_ : Addr) (n_ : Int32) (l_ : Int32) (i_ : Int32) (j_ : Int32) (bst : Int64) (h0 : Heap) (n0 : Nat) (vQ_ : Option Value) (hQ_ : Heap) (LQ_ : List Loc) : Prop := vQ_ = some (.long bst) ∧ Fr n0 LQ_ ∧ hQ_ = h0
theorem rm_twoN2 (l : Launch) (Z : State) (a0 : Array Value) (hw : HW a0 Z) (ws : List Jvm.Cond) (p_ : Addr) (n_ : Int32) (l_ : Int32) (i_ : Int32) (j_ : Int32) (bst : Int64) (h0 : Heap) (n0 : Nat) (Z0 : n0 ≤ h0.size) (h1 : ¬ ((j_ - i_) < l_)) (h2 : n_ < (j_ + l_)) :
    CT l yn16 (Jvm.Cond.code yn16 method_5_code 7 (some .long) :: ws) (⟨0, 0, 0, 0⟩ : Room) #[(.ref p_), (.int n_), (.int l_), (.int i_), (.int j_), (.long bst)] Z h0 (Q_twoN2 Z p_ n_ l_ i_ j_ bst h0 n0) := by
  refine MetFree.of_bodySF (plainFor_of_name pn_com_example_vestline_vestline_finalaveragepay_BestPeriodsTotalPinLaw) hisR ?_
  intro p e s m args below meth cO s₁ Bd hml hP hK
  obtain ⟨rfl, hZ, hh⟩ := hP
  have hx := Bd.exec
  have hby := Bd.bytes
  have hown : s.vm.findClass "com/example/vestline/vestline/finalaveragepay/BestPeriodsTotalPinLaw" = some m.cls := findClass_of_methodNamed Bd.named
  have hnm := (name_of_methodNamed Bd.named Bd.method).1
  have X0 : Stand p l e (⟨0, 0, 0, 0⟩ : Room) s m #[(.ref p_), (.int n_), (.int l_), (.int i_), (.int j_), (.long bst)] below meth cO s₁ [] 0 0 := Stand.of_body Bd
  have e0 : s₁.heap = h0 := by rw [← hh, Bd.state]; rfl
  have N0 := Fr.nil n0
  have D_ : ∀ {i : Nat} {x}, decode method_5_code i = x → decode cO.code i = x := fun h => hb hby h
  have W0 : ∀ zQ, SS p e below s₁ m 0 #[.val (.ref p_), .val (.int n_), .val (.int l_), .val (.int i_), .val (.int j_), .val (.long bst), .second] [] zQ → Steps p.tables e below (s₁.setTop (entryFrame m #[(.ref p_), (.int n_), (.int l_), (.int i_), (.int j_), (.long bst)] 7)) zQ := fun tt kt => castTop (ef_twoN2 m p_ n_ l_ i_ j_ bst) kt
  have W101 : ∀ zQ, SS p e below s₁ m 38 #[.val (.ref p_), .val (.int n_), .val (.int l_), .val (.int i_), .val (.int j_), .val (.long bst), .second] [(.long bst)] zQ → Steps p.tables e below (s₁.setTop (entryFrame m #[(.ref p_), (.int n_), (.int l_), (.int i_), (.int j_), (.long bst)] 7)) zQ := by
    intro tt kt
    refine W0 tt ?_
    refine XS.iload X0.here hx rfl (D_ d16_0) rfl ?_
    refine XS.iloadN X0.here hx rfl (D_ d16_2) rfl ?_
    refine XS.isub X0.here hx rfl (D_ d16_3) rfl ?_
    refine XS.iloadN X0.here hx rfl (D_ d16_4) rfl ?_
    refine XS.icmpNo X0.here hx rfl (D_ d16_5) rfl (flt h1).1 ?_
    refine XS.iload X0.here hx rfl (D_ d16_8) rfl ?_
    refine XS.iloadN X0.here hx rfl (D_ d16_10) rfl ?_
    refine XS.iadd X0.here hx rfl (D_ d16_11) rfl ?_
    refine XS.iloadN X0.here hx rfl (D_ d16_12) rfl ?_
    refine XS.icmpYes X0.here hx rfl (pc0 := 13) (pc' := 36) rfl (D_ d16_13) rfl (tlt h2).2.2.1 (by decide) (by decide) ?_
    refine XS.lload X0.here hx rfl (D_ d16_36) rfl ?_
    exact kt
  obtain ⟨fs, hr, hrun, hended, hW, hsame⟩ := X0.leave (v := some (.long bst)) (fun h => by rw [Bd.returns] at h; cases h)
  refine ⟨_, _, W101 _ (own_retJ X0 hx Bd.returns (D_ d16_38) hr), hrun, hended, _, _, rfl, ?_, ⟨_, rfl⟩, hW, hsame.mono (by decide) (by decide)⟩
  show Q_twoN2 Z p_ n_ l_ i_ j_ bst h0 n0 _ s₁.heap _
  rw [e0]
  exact ⟨rfl, N0, rfl⟩
def dpl (n ct le : Int32) (A B C D : Int) : List Int := if ct = (0 : Int32) then [0] else if n = (1 : Int32) ∧ ct = (1 : Int32) ∧ le = (1 : Int32) then [A] else if n = (2 : Int32) ∧ ct = (1 : Int32) ∧ le = (1 : Int32) then [A, B] else if n = (2 : Int32) ∧ ct = (2 : Int32) ∧ le = (1 : Int32) then [A + B] else if n = (2 : Int32) ∧ ct = (1 : Int32) ∧ le = (2 : Int32) then [A + B] else if n = (3 : Int32) ∧ ct = (1 : Int32) ∧ le = (1 : Int32) then [A, B, C] else if n = (3 : Int32) ∧ ct = (2 : Int32) ∧ le = (1 : Int32) then [A + B, A + C, B + C] else if n = (3 : Int32) ∧ ct = (3 : Int32) ∧ le = (1 : Int32) then [A + B + C] else if n = (3 : Int32) ∧ ct = (1 : Int32) ∧ le = (2 : Int32) then [A + B, B + C] else if n = (3 : Int32) ∧ ct = (1 : Int32) ∧ le = (3 : Int32) then [A + B + C] else if n = (4 : Int32) ∧ ct = (1 : Int32) ∧ le = (1 : Int32) then [A, B, C, D] else if n = (4 : Int32) ∧ ct = (2 : Int32) ∧ le = (1 : Int32) then [A + B, A + C, A + D, B + C, B + D, C + D] else if n = (4 : Int32) ∧ ct = (3 : Int32) ∧ le = (1 : Int32) then [A + B + C, A + B + D, A + C + D, B + C + D] else if n = (4 : Int32) ∧ ct = (4 : Int32) ∧ le = (1 : Int32) then [A + B + C + D] else if n = (4 : Int32) ∧ ct = (1 : Int32) ∧ le = (2 : Int32) then [A + B, B + C, C + D] else if n = (4 : Int32) ∧ ct = (2 : Int32) ∧ le = (2 : Int32) then [A + B + C + D] else if n = (4 : Int32) ∧ ct = (1 : Int32) ∧ le = (3 : Int32) then [A + B + C, B + C + D] else if n = (4 : Int32) ∧ ct = (1 : Int32) ∧ le = (4 : Int32) then [A + B + C + D] else [0]
theorem dpl1_11 (A B C D : Int) : dpl (1 : Int32) (1 : Int32) (1 : Int32) A B C D = [A] := by unfold dpl; simp
theorem dpl2_11 (A B C D : Int) : dpl (2 : Int32) (1 : Int32) (1 : Int32) A B C D = [A, B] := by unfold dpl; simp
theorem dpl2_21 (A B C D : Int) : dpl (2 : Int32) (2 : Int32) (1 : Int32) A B C D = [A + B] := by unfold dpl; simp
theorem dpl2_12 (A B C D : Int) : dpl (2 : Int32) (1 : Int32) (2 : Int32) A B C D = [A + B] := by unfold dpl; simp
theorem dpl3_11 (A B C D : Int) : dpl (3 : Int32) (1 : Int32) (1 : Int32) A B C D = [A, B, C] := by unfold dpl; simp
theorem dpl3_21 (A B C D : Int) : dpl (3 : Int32) (2 : Int32) (1 : Int32) A B C D = [A + B, A + C, B + C] := by unfold dpl; simp
theorem dpl3_31 (A B C D : Int) : dpl (3 : Int32) (3 : Int32) (1 : Int32) A B C D = [A + B + C] := by unfold dpl; simp
theorem dpl3_12 (A B C D : Int) : dpl (3 : Int32) (1 : Int32) (2 : Int32) A B C D = [A + B, B + C] := by unfold dpl; simp
theorem dpl3_13 (A B C D : Int) : dpl (3 : Int32) (1 : Int32) (3 : Int32) A B C D = [A + B + C] := by unfold dpl; simp
theorem dpl4_11 (A B C D : Int) : dpl (4 : Int32) (1 : Int32) (1 : Int32) A B C D = [A, B, C, D] := by unfold dpl; simp
theorem dpl4_21 (A B C D : Int) : dpl (4 : Int32) (2 : Int32) (1 : Int32) A B C D = [A + B, A + C, A + D, B + C, B + D, C + D] := by unfold dpl; simp
theorem dpl4_31 (A B C D : Int) : dpl (4 : Int32) (3 : Int32) (1 : Int32) A B C D = [A + B + C, A + B + D, A + C + D, B + C + D] := by unfold dpl; simp
theorem dpl4_41 (A B C D : Int) : dpl (4 : Int32) (4 : Int32) (1 : Int32) A B C D = [A + B + C + D] := by unfold dpl; simp
theorem dpl4_12 (A B C D : Int) : dpl (4 : Int32) (1 : Int32) (2 : Int32) A B C D = [A + B, B + C, C + D] := by unfold dpl; simp
theorem dpl4_22 (A B C D : Int) : dpl (4 : Int32) (2 : Int32) (2 : Int32) A B C D = [A + B + C + D] := by unfold dpl; simp
theorem dpl4_13 (A B C D : Int) : dpl (4 : Int32) (1 : Int32) (3 : Int32) A B C D = [A + B + C, B + C + D] := by unfold dpl; simp
theorem dpl4_14 (A B C D : Int) : dpl (4 : Int32) (1 : Int32) (4 : Int32) A B C D = [A + B + C + D] := by unfold dpl; simp
theorem dpl_0 (n le : Int32) (A B C D : Int) : dpl n (0 : Int32) le A B C D = [0] := by unfold dpl; simp
theorem isM1 {v a : Int} (h : v = a) : IsM v [a] := ⟨List.mem_singleton.mpr h, fun m hm => by rw [List.mem_singleton.mp hm, h]; exact Int.le_refl _⟩
theorem isM2 {v a0 a1 : Int} (h : v = a0 ∨ v = a1) (h0 : a0 ≤ v) (h1 : a1 ≤ v) : IsM v [a0, a1] := ⟨by simpa only [List.mem_cons, List.not_mem_nil, or_false] using h, fun m hm => by
  simp only [List.mem_cons, List.not_mem_nil, or_false] at hm
  rcases hm with rfl | rfl <;> assumption⟩
theorem isM3 {v a0 a1 a2 : Int} (h : v = a0 ∨ v = a1 ∨ v = a2) (h0 : a0 ≤ v) (h1 : a1 ≤ v) (h2 : a2 ≤ v) : IsM v [a0, a1, a2] := ⟨by simpa only [List.mem_cons, List.not_mem_nil, or_false] using h, fun m hm => by
  simp only [List.mem_cons, List.not_mem_nil, or_false] at hm
  rcases hm with rfl | rfl | rfl <;> assumption⟩
theorem isM4 {v a0 a1 a2 a3 : Int} (h : v = a0 ∨ v = a1 ∨ v = a2 ∨ v = a3) (h0 : a0 ≤ v) (h1 : a1 ≤ v) (h2 : a2 ≤ v) (h3 : a3 ≤ v) : IsM v [a0, a1, a2, a3] := ⟨by simpa only [List.mem_cons, List.not_mem_nil, or_false] using h, fun m hm => by
  simp only [List.mem_cons, List.not_mem_nil, or_false] at hm
  rcases hm with rfl | rfl | rfl | rfl <;> assumption⟩
theorem isM5 {v a0 a1 a2 a3 a4 : Int} (h : v = a0 ∨ v = a1 ∨ v = a2 ∨ v = a3 ∨ v = a4) (h0 : a0 ≤ v) (h1 : a1 ≤ v) (h2 : a2 ≤ v) (h3 : a3 ≤ v) (h4 : a4 ≤ v) : IsM v [a0, a1, a2, a3, a4] := ⟨by simpa only [List.mem_cons, List.not_mem_nil, or_false] using h, fun m hm => by
  simp only [List.mem_cons, List.not_mem_nil, or_false] at hm
  rcases hm with rfl | rfl | rfl | rfl | rfl <;> assumption⟩
theorem isM6 {v a0 a1 a2 a3 a4 a5 : Int} (h : v = a0 ∨ v = a1 ∨ v = a2 ∨ v = a3 ∨ v = a4 ∨ v = a5) (h0 : a0 ≤ v) (h1 : a1 ≤ v) (h2 : a2 ≤ v) (h3 : a3 ≤ v) (h4 : a4 ≤ v) (h5 : a5 ≤ v) : IsM v [a0, a1, a2, a3, a4, a5] := ⟨by simpa only [List.mem_cons, List.not_mem_nil, or_false] using h, fun m hm => by
  simp only [List.mem_cons, List.not_mem_nil, or_false] at hm
  rcases hm with rfl | rfl | rfl | rfl | rfl | rfl <;> assumption⟩
theorem own_sb1 {a : Int64} (h : Bn 1 a) : -(8 * 2147483648) ≤ a.toInt ∧ a.toInt ≤ 8 * 2147483648 := by unfold Bn at *; omega
theorem own_sb2 {a b : Int64} (h : Bn 1 a) (g : Bn 1 b) : -(8 * 2147483648) ≤ a.toInt + b.toInt ∧ a.toInt + b.toInt ≤ 8 * 2147483648 := by unfold Bn at *; omega
theorem own_sb3 {a b c : Int64} (h : Bn 1 a) (g : Bn 1 b) (f : Bn 1 c) : -(8 * 2147483648) ≤ a.toInt + b.toInt + c.toInt ∧ a.toInt + b.toInt + c.toInt ≤ 8 * 2147483648 := by unfold Bn at *; omega
theorem own_st1 {a b : Int64} (h : Bn 1 a) (g : Bn 1 b) : -(8 * 2147483648) ≤ a.toInt + b.toInt ∧ a.toInt + b.toInt ≤ 8 * 2147483648 := own_sb2 h g
theorem own_st2 {a b c d : Int64} (h : Bn 1 a) (g : Bn 1 b) (f : Bn 1 c) (e : Bn 1 d) : -(8 * 2147483648) ≤ (a.toInt + b.toInt) + (c.toInt + d.toInt) ∧ (a.toInt + b.toInt) + (c.toInt + d.toInt) ≤ 8 * 2147483648 := by unfold Bn at *; omega
theorem own_bc {k K : Nat} {P : Prop} [Decidable P] {b v : Int64} {s : Int} (hb : Bn k b) (h0 : P → v = b) (h1 : ¬ P → (v.toInt = b.toInt ∨ v.toInt = s) ∧ b.toInt ≤ v.toInt ∧ s ≤ v.toInt) (hs : -(8 * 2147483648) ≤ s ∧ s ≤ 8 * 2147483648) (hk : k ≤ K := by decide) (h8 : 8 ≤ K := by decide) : Bn K v := by
  by_cases p : P
  · rw [h0 p]; exact hb.mono hk
  · have q := h1 p; unfold Bn at *; omega
theorem own_dp1 {A v0 v1 v2 v3 : Int} (e0 : v0 = A) (e1 : v1 = v0) (e2 : v2 = v1) (e3 : v3 = v2) : IsM v3 [A] := isM1 (by omega)
theorem own_dp2 {A B v0 v1 v2 v3 : Int} (e0 : v0 = A) (d1 : v1 = v0 ∨ v1 = B) (l1 : v0 ≤ v1) (r1 : B ≤ v1) (e2 : v2 = v1) (e3 : v3 = v2) : IsM v3 [A, B] := isM2 (by rcases d1 with d | d <;> first | (left; omega) | (right; omega)) (by omega) (by omega)
theorem own_dp3 {A B C v0 v1 v2 v3 : Int} (e0 : v0 = A) (d1 : v1 = v0 ∨ v1 = B) (l1 : v0 ≤ v1) (r1 : B ≤ v1) (d2 : v2 = v1 ∨ v2 = C) (l2 : v1 ≤ v2) (r2 : C ≤ v2) (e3 : v3 = v2) : IsM v3 [A, B, C] := isM3 (by rcases d1 with d | d <;> rcases d2 with d | d <;> first | (left; omega) | (right; left; omega) | (right; right; omega)) (by omega) (by omega) (by omega)
theorem own_dp4 {A B C D v0 v1 v2 v3 : Int} (e0 : v0 = A) (d1 : v1 = v0 ∨ v1 = B) (l1 : v0 ≤ v1) (r1 : B ≤ v1) (d2 : v2 = v1 ∨ v2 = C) (l2 : v1 ≤ v2) (r2 : C ≤ v2) (d3 : v3 = v2 ∨ v3 = D) (l3 : v2 ≤ v3) (r3 : D ≤ v3) : IsM v3 [A, B, C, D] := isM4 (by rcases d1 with d | d <;> rcases d2 with d | d <;> rcases d3 with d | d <;> first | (left; omega) | (right; left; omega) | (right; right; left; omega) | (right; right; right; omega)) (by omega) (by omega) (by omega) (by omega)
theorem own_dp5 {A B v0 v1 v2 : Int} (e0 : v0 = A + B) (e1 : v1 = v0) (e2 : v2 = v1) : IsM v2 [A + B] := isM1 (by omega)
theorem own_dp6 {A B C v0 v1 v2 : Int} (e0 : v0 = A + B) (d1 : v1 = v0 ∨ v1 = B + C) (l1 : v0 ≤ v1) (r1 : B + C ≤ v1) (e2 : v2 = v1) : IsM v2 [A + B, B + C] := isM2 (by rcases d1 with d | d <;> first | (left; omega) | (right; omega)) (by omega) (by omega)
theorem own_dp7 {A B C D v0 v1 v2 : Int} (e0 : v0 = A + B) (d1 : v1 = v0 ∨ v1 = B + C) (l1 : v0 ≤ v1) (r1 : B + C ≤ v1) (d2 : v2 = v1 ∨ v2 = C + D) (l2 : v1 ≤ v2) (r2 : C + D ≤ v2) : IsM v2 [A + B, B + C, C + D] := isM3 (by rcases d1 with d | d <;> rcases d2 with d | d <;> first | (left; omega) | (right; left; omega) | (right; right; omega)) (by omega) (by omega) (by omega)
theorem own_dp8 {A B C v0 v1 : Int} (e0 : v0 = A + B + C) (e1 : v1 = v0) : IsM v1 [A + B + C] := isM1 (by omega)
theorem own_dp9 {A B C D v0 v1 : Int} (e0 : v0 = A + B + C) (d1 : v1 = v0 ∨ v1 = B + C + D) (l1 : v0 ≤ v1) (r1 : B + C + D ≤ v1) : IsM v1 [A + B + C, B + C + D] := isM2 (by rcases d1 with d | d <;> first | (left; omega) | (right; omega)) (by omega) (by omega)
theorem own_dp10 {A B C D v0 : Int} (e0 : v0 = A + B + C + D) : IsM v0 [A + B + C + D] := isM1 (by omega)
theorem own_dp11 {A B v0 v1 v2 v3 v4 v5 v6 v7 v8 : Int} (e0 : v0 = A) (e1 : v1 = B) (e2 : v2 = v0 + v1) (d3 : v3 = v2 ∨ v3 = A + B) (l3 : v2 ≤ v3) (r3 : A + B ≤ v3) (e4 : v4 = v3) (e5 : v5 = v4) (e6 : v6 = v5) (e7 : v7 = v6) (e8 : v8 = v7) : IsM v8 [A + B] := isM1 (by rcases d3 with d | d <;> omega)
theorem own_dp12 {A B C v0 v1 v2 v3 v4 v5 v6 v7 v8 : Int} (e0 : v0 = A) (e1 : v1 = B) (e2 : v2 = v0 + v1) (d3 : v3 = v2 ∨ v3 = A + B) (l3 : v2 ≤ v3) (r3 : A + B ≤ v3) (d4 : v4 = v3 ∨ v4 = A + C) (l4 : v3 ≤ v4) (r4 : A + C ≤ v4) (e5 : v5 = v4) (d6 : v6 = v5 ∨ v6 = B + C) (l6 : v5 ≤ v6) (r6 : B + C ≤ v6) (e7 : v7 = v6) (e8 : v8 = v7) : IsM v8 [A + B, A + C, B + C] := isM3 (by rcases d3 with d | d <;> rcases d4 with d | d <;> rcases d6 with d | d <;> first | (left; omega) | (right; left; omega) | (right; right; omega)) (by omega) (by omega) (by omega)
theorem own_dp13 {A B C D v0 v1 v2 v3 v4 v5 v6 v7 v8 : Int} (e0 : v0 = A) (e1 : v1 = B) (e2 : v2 = v0 + v1) (d3 : v3 = v2 ∨ v3 = A + B) (l3 : v2 ≤ v3) (r3 : A + B ≤ v3) (d4 : v4 = v3 ∨ v4 = A + C) (l4 : v3 ≤ v4) (r4 : A + C ≤ v4) (d5 : v5 = v4 ∨ v5 = A + D) (l5 : v4 ≤ v5) (r5 : A + D ≤ v5) (d6 : v6 = v5 ∨ v6 = B + C) (l6 : v5 ≤ v6) (r6 : B + C ≤ v6) (d7 : v7 = v6 ∨ v7 = B + D) (l7 : v6 ≤ v7) (r7 : B + D ≤ v7) (d8 : v8 = v7 ∨ v8 = C + D) (l8 : v7 ≤ v8) (r8 : C + D ≤ v8) : IsM v8 [A + B, A + C, A + D, B + C, B + D, C + D] := isM6 (by rcases d3 with d | d <;> rcases d4 with d | d <;> rcases d5 with d | d <;> rcases d6 with d | d <;> rcases d7 with d | d <;> rcases d8 with d | d <;> first | (left; omega) | (right; left; omega) | (right; right; left; omega) | (right; right; right; left; omega) | (right; right; right; right; left; omega) | (right; right; right; right; right; omega)) (by omega) (by omega) (by omega) (by omega) (by omega) (by omega)
theorem own_dp14 {A B C D v0 v1 v2 v3 : Int} (e0 : v0 = A + B) (e1 : v1 = C + D) (e2 : v2 = v0 + v1) (d3 : v3 = v2 ∨ v3 = (A + B) + (C + D)) (l3 : v2 ≤ v3) (r3 : (A + B) + (C + D) ≤ v3) : IsM v3 [A + B + C + D] := isM1 (by rcases d3 with d | d <;> omega)
theorem own_dp15 {A B C v0 : Int} (e0 : v0 = A + B + C) : IsM v0 [A + B + C] := isM1 (by omega)
theorem own_dp16 {A B C D v0 v1 v2 v3 v4 : Int} (e0 : v0 = A + B + C + D) (d1 : v1 = A ∨ v1 = B) (l1 : v1 ≤ A) (r1 : v1 ≤ B) (d2 : v2 = C ∨ v2 = D) (l2 : v2 ≤ C) (r2 : v2 ≤ D) (d3 : v3 = v1 ∨ v3 = v2) (l3 : v3 ≤ v1) (r3 : v3 ≤ v2) (e4 : v4 = v0 - v3) : IsM v4 [A + B + C, A + B + D, A + C + D, B + C + D] := isM4 (by rcases d1 with d | d <;> rcases d2 with d | d <;> rcases d3 with d | d <;> first | (left; omega) | (right; left; omega) | (right; right; left; omega) | (right; right; right; omega)) (by omega) (by omega) (by omega) (by omega)
theorem own_dp17 {A B C D v0 : Int} (e0 : v0 = A + B + C + D) : IsM v0 [A + B + C + D] := isM1 (by omega)
def Q_refr (Z : State) (p_ : Addr) (n_ : Int32) (ct : Int32) (le : Int32) (kp : ClassId) (x0 : Int64) (x1 : Int64) (x2 : Int64) (x3 : Int64) (h0 : Heap) (n0 : Nat) (vQ_ : Option Value) (hQ_ : Heap) (LQ_ : List Loc) : Prop := ∃ v : Int64, vQ_ = some (.long v) ∧ Fr n0 LQ_ ∧ hQ_ = h0 ∧ IsM v.toInt (dpl n_ ct le x0.toInt x1.toInt x2.toInt x3.toInt) ∧ Bn 100 v
theorem rm_refr (l : Launch) (Z : State) (a0 : Array Value) (hw : HW a0 Z) (ws : List Jvm.Cond) (p_ : Addr) (n_ : Int32) (ct : Int32) (le : Int32) (kp : ClassId) (x0 : Int64) (x1 : Int64) (x2 : Int64) (x3 : Int64) (h0 : Heap) (n0 : Nat) (Z0 : n0 ≤ h0.size) (VP : Arv Z h0 p_ kp .long (4 : Int32) [(.long x0), (.long x1), (.long x2), (.long x3)] (.long (0 : Int64))) (hb0 : Bn 1 x0) (hb1 : Bn 1 x1) (hb2 : Bn 1 x2) (hb3 : Bn 1 x3) (hcl : ct = (0 : Int32) ∨ (ct = (1 : Int32) ∧ le = (1 : Int32) ∧ (n_ = (1 : Int32) ∨ n_ = (2 : Int32) ∨ n_ = (3 : Int32) ∨ n_ = (4 : Int32))) ∨ (ct = (1 : Int32) ∧ le = (2 : Int32) ∧ (n_ = (2 : Int32) ∨ n_ = (3 : Int32) ∨ n_ = (4 : Int32))) ∨ (ct = (1 : Int32) ∧ le = (3 : Int32) ∧ (n_ = (3 : Int32) ∨ n_ = (4 : Int32))) ∨ (ct = (1 : Int32) ∧ le = (4 : Int32) ∧ (n_ = (4 : Int32))) ∨ (ct = (2 : Int32) ∧ le = (1 : Int32) ∧ (n_ = (2 : Int32) ∨ n_ = (3 : Int32) ∨ n_ = (4 : Int32))) ∨ (ct = (2 : Int32) ∧ le = (2 : Int32) ∧ (n_ = (4 : Int32))) ∨ (ct = (3 : Int32) ∧ le = (1 : Int32) ∧ (n_ = (3 : Int32) ∨ n_ = (4 : Int32))) ∨ (ct = (4 : Int32) ∧ le = (1 : Int32) ∧ (n_ = (4 : Int32)))) :
    CT l yn17 (Jvm.Cond.code yn17 method_6_code 6 (some .long) :: ws) (⟨2, 0, 0, 38⟩ : Room) #[(.ref p_), (.int n_), (.int ct), (.int le)] Z h0 (Q_refr Z p_ n_ ct le kp x0 x1 x2 x3 h0 n0) := by
  refine MetFree.of_bodySF (plainFor_of_name pn_com_example_vestline_vestline_finalaveragepay_BestPeriodsTotalPinLaw) hisR ?_
  intro p e s m args below meth cO s₁ Bd hml hP hK
  obtain ⟨rfl, hZ, hh⟩ := hP
  have hx := Bd.exec
  have hby := Bd.bytes
  have hown : s.vm.findClass "com/example/vestline/vestline/finalaveragepay/BestPeriodsTotalPinLaw" = some m.cls := findClass_of_methodNamed Bd.named
  have hnm := (name_of_methodNamed Bd.named Bd.method).1
  have X0 : Stand p l e (⟨2, 0, 0, 38⟩ : Room) s m #[(.ref p_), (.int n_), (.int ct), (.int le)] below meth cO s₁ [] 0 0 := Stand.of_body Bd
  have e0 : s₁.heap = h0 := by rw [← hh, Bd.state]; rfl
  have N0 := Fr.nil n0
  have D_ : ∀ {i : Nat} {x}, decode method_6_code i = x → decode cO.code i = x := fun h => hb hby h
  have W0 : ∀ zQ, SS p e below s₁ m 0 #[.val (.ref p_), .val (.int n_), .val (.int ct), .val (.int le), .unset, .unset] [] zQ → Steps p.tables e below (s₁.setTop (entryFrame m #[(.ref p_), (.int n_), (.int ct), (.int le)] 6)) zQ := fun tt kt => castTop (ef_refr m p_ n_ ct le) kt
  rcases hcl with hct | ⟨hct, hle, hn⟩ | ⟨hct, hle, hn⟩ | ⟨hct, hle, hn⟩ | ⟨hct, hle, hn⟩ | ⟨hct, hle, hn⟩ | ⟨hct, hle, hn⟩ | ⟨hct, hle, hn⟩ | ⟨hct, hle, hn⟩
  ·
    have W101 : ∀ zQ, SS p e below s₁ m 5 #[.val (.ref p_), .val (.int n_), .val (.int (0 : Int32)), .val (.int le), .unset, .unset] [(.long (0 : Int64))] zQ → Steps p.tables e below (s₁.setTop (entryFrame m #[(.ref p_), (.int n_), (.int ct), (.int le)] 6)) zQ := by
      intro tt kt
      refine W0 tt ?_
      rw [show ct = (0 : Int32) from hct]
      refine XS.iloadN X0.here hx rfl (D_ d17_0) rfl ?_
      refine XS.ifNo X0.here hx rfl (D_ d17_1) rfl ((if0 _ _).trans (teq (by decide)).2) ?_
      refine XS.lconst X0.here hx rfl (D_ d17_4) ?_
      exact kt
    obtain ⟨fs, hr, hrun, hended, hW, hsame⟩ := X0.leave (v := some (.long (0 : Int64))) (fun h => by rw [Bd.returns] at h; cases h)
    refine ⟨_, _, W101 _ (own_retJ X0 hx Bd.returns (D_ d17_5) hr), hrun, hended, _, _, rfl, ?_, ⟨_, rfl⟩, hW, hsame.mono (by decide) (by decide)⟩
    show Q_refr Z p_ n_ ct le kp x0 x1 x2 x3 h0 n0 _ s₁.heap _
    rw [e0]
    exact ⟨(0 : Int64), rfl, N0, rfl, (by rw [hct, dpl_0]; exact ⟨List.mem_singleton.mpr rfl, fun m hm => by rw [List.mem_singleton.mp hm]; exact Int.le_refl _⟩), (Bn.mono own_bd0 (by decide))⟩
  ·
    obtain ⟨_, _, ⟨T102, L102, k102, n102⟩, -, X102, ⟨Lc102, hQ102, l102, y102, z102⟩, st102⟩ := Jvm.LawKit.callS X0 hx (y := yn14) hown (mvT hZ (w164 hw)) (mvT hZ (w165 hw)) (mvT hZ (w53 hw)) (mvT hZ (w166 hw)) (by decide) (backOf (W := 0) (rm_w1 l Z a0 hw [] p_ 0 kp [.long x0, .long x1, .long x2, .long x3] x0 h0 n0 Z0 VP (nb rfl) rfl hb0) hZ (w166 hw) (w53 hw) (by decide) (by decide)) (g := (mkF m 14 #[.val (.ref p_), .val (.int n_), .val (.int (1 : Int32)), .val (.int (1 : Int32)), .unset, .unset] [(.int (1 : Int32)), (.int (0 : Int32)), (.ref p_)])) rfl (by rw [hml]; rfl) (argsL := [(.ref p_), (.int (0 : Int32)), (.int (1 : Int32))]) (rest := []) (lenOf pd8 rfl) rfl (wq rfl) (D_ d17_14) (fun _ _ => ⟨rfl, e0, (nb rfl), (nb rfl)⟩)
    dsimp only [Pt.U, Pt.locs, Pt.cells, Pt.slots] at X102 l102 y102 z102 st102 hQ102
    subst l102 y102 z102
    obtain ⟨v_103, rfl, Nq102, eq102, P102_0, P102_1⟩ := hQ102
    have N102 := Fr.app N0 Nq102
    obtain ⟨_, _, ⟨T104, L104, k104, n104⟩, -, X104, ⟨Lc104, hQ104, l104, y104, z104⟩, st104⟩ := Jvm.LawKit.callS X102 hx (y := yn15) hown (mvT hZ (w167 hw)) (mvT hZ (w168 hw)) (mvT hZ (w53 hw)) (mvT hZ (w169 hw)) (by decide) (backOf (W := 0) (rm_one1 l Z a0 hw [] p_ n_ v_103 1 kp [.long x0, .long x1, .long x2, .long x3] x1 h0 n0 Z0 VP (nb rfl) rfl hb1) hZ (w169 hw) (w53 hw) (by decide) (by decide)) (g := (mkF m 25 #[.val (.ref p_), .val (.int n_), .val (.int (1 : Int32)), .val (.int (1 : Int32)), .val (.long v_103), .second] [(.long v_103), (.int (1 : Int32)), (.int (1 : Int32)), (.int n_), (.ref p_)])) rfl (by rw [hml]; rfl) (argsL := [(.ref p_), (.int n_), (.int (1 : Int32)), (.int (1 : Int32)), (.long v_103)]) (rest := []) (lenOf pd9 rfl) rfl (wq rfl) (D_ d17_25) (fun _ _ => ⟨rfl, eq102, (nb rfl), (nb rfl)⟩)
    dsimp only [Pt.U, Pt.locs, Pt.cells, Pt.slots] at X104 l104 y104 z104 st104 hQ104
    subst l104 y104 z104
    obtain ⟨v_105, rfl, Nq104, eq104, P104_0, P104_1⟩ := hQ104
    have N104 := Fr.app N102 Nq104
    have hbd106 : Bn 8 v_105 := own_bc P102_1 P104_0 P104_1 (own_sb1 hb1)
    obtain ⟨_, _, ⟨T107, L107, k107, n107⟩, -, X107, ⟨Lc107, hQ107, l107, y107, z107⟩, st107⟩ := Jvm.LawKit.callS X104 hx (y := yn15) hown (mvT hZ (w167 hw)) (mvT hZ (w168 hw)) (mvT hZ (w53 hw)) (mvT hZ (w169 hw)) (by decide) (backOf (W := 0) (rm_one1 l Z a0 hw [] p_ n_ v_105 2 kp [.long x0, .long x1, .long x2, .long x3] x2 h0 n0 Z0 VP (nb rfl) rfl hb2) hZ (w169 hw) (w53 hw) (by decide) (by decide)) (g := (mkF m 36 #[.val (.ref p_), .val (.int n_), .val (.int (1 : Int32)), .val (.int (1 : Int32)), .val (.long v_105), .second] [(.long v_105), (.int (2 : Int32)), (.int (1 : Int32)), (.int n_), (.ref p_)])) rfl (by rw [hml]; rfl) (argsL := [(.ref p_), (.int n_), (.int (1 : Int32)), (.int (2 : Int32)), (.long v_105)]) (rest := []) (lenOf pd9 rfl) rfl (wq rfl) (D_ d17_36) (fun _ _ => ⟨rfl, eq104, (nb rfl), (nb rfl)⟩)
    dsimp only [Pt.U, Pt.locs, Pt.cells, Pt.slots] at X107 l107 y107 z107 st107 hQ107
    subst l107 y107 z107
    obtain ⟨v_108, rfl, Nq107, eq107, P107_0, P107_1⟩ := hQ107
    have N107 := Fr.app N104 Nq107
    have hbd109 : Bn 8 v_108 := own_bc hbd106 P107_0 P107_1 (own_sb1 hb2)
    obtain ⟨_, _, ⟨T110, L110, k110, n110⟩, -, X110, ⟨Lc110, hQ110, l110, y110, z110⟩, st110⟩ := Jvm.LawKit.callS X107 hx (y := yn15) hown (mvT hZ (w167 hw)) (mvT hZ (w168 hw)) (mvT hZ (w53 hw)) (mvT hZ (w169 hw)) (by decide) (backOf (W := 0) (rm_one1 l Z a0 hw [] p_ n_ v_108 3 kp [.long x0, .long x1, .long x2, .long x3] x3 h0 n0 Z0 VP (nb rfl) rfl hb3) hZ (w169 hw) (w53 hw) (by decide) (by decide)) (g := (mkF m 47 #[.val (.ref p_), .val (.int n_), .val (.int (1 : Int32)), .val (.int (1 : Int32)), .val (.long v_108), .second] [(.long v_108), (.int (3 : Int32)), (.int (1 : Int32)), (.int n_), (.ref p_)])) rfl (by rw [hml]; rfl) (argsL := [(.ref p_), (.int n_), (.int (1 : Int32)), (.int (3 : Int32)), (.long v_108)]) (rest := []) (lenOf pd9 rfl) rfl (wq rfl) (D_ d17_47) (fun _ _ => ⟨rfl, eq107, (nb rfl), (nb rfl)⟩)
    dsimp only [Pt.U, Pt.locs, Pt.cells, Pt.slots] at X110 l110 y110 z110 st110 hQ110
    subst l110 y110 z110
    obtain ⟨v_111, rfl, Nq110, eq110, P110_0, P110_1⟩ := hQ110
    have N110 := Fr.app N107 Nq110
    have hbd112 : Bn 8 v_111 := own_bc hbd109 P110_0 P110_1 (own_sb1 hb3)
    have W113 : ∀ zQ, SS p e below T110 m 54 #[.val (.ref p_), .val (.int n_), .val (.int (1 : Int32)), .val (.int (1 : Int32)), .val (.long v_111), .second] [(.long v_111)] zQ → Steps p.tables e below (s₁.setTop (entryFrame m #[(.ref p_), (.int n_), (.int ct), (.int le)] 6)) zQ := by
      intro tt kt
      refine W0 tt ?_
      rw [show ct = (1 : Int32) from hct]
      show SS p e below s₁ m 0 #[.val (.ref p_), .val (.int n_), .val (.int (1 : Int32)), .val (.int le), .unset, .unset] [] _
      rw [show le = (1 : Int32) from hle]
      refine XS.iloadN X0.here hx rfl (D_ d17_0) rfl ?_
      refine XS.ifYes X0.here hx rfl (pc0 := 1) (pc' := 6) rfl (D_ d17_1) rfl ((if0 _ _).trans (feq (by decide)).2) (by decide) (by decide) ?_
      refine XS.iloadN X0.here hx rfl (D_ d17_6) rfl ?_
      refine XS.iconst X0.here hx rfl (D_ d17_7) ?_
      refine XS.icmpNo X0.here hx rfl (D_ d17_8) rfl (teq (by decide)).2 ?_
      refine XS.aloadN X0.here hx rfl (D_ d17_11) rfl rfl ?_
      refine XS.iconst X0.here hx rfl (D_ d17_12) ?_
      refine XS.iloadN X0.here hx rfl (D_ d17_13) rfl ?_
      refine st102 _ ?_
      refine XS.lstore X102.here hx rfl (D_ d17_17) rfl (l' := #[.val (.ref p_), .val (.int n_), .val (.int (1 : Int32)), .val (.int (1 : Int32)), .val (.long v_103), .second]) rfl ?_
      refine XS.aloadN X102.here hx rfl (D_ d17_19) rfl rfl ?_
      refine XS.iloadN X102.here hx rfl (D_ d17_20) rfl ?_
      refine XS.iloadN X102.here hx rfl (D_ d17_21) rfl ?_
      refine XS.iconst X102.here hx rfl (D_ d17_22) ?_
      refine XS.lload X102.here hx rfl (D_ d17_23) rfl ?_
      refine st104 _ ?_
      refine XS.lstore X104.here hx rfl (D_ d17_28) rfl (l' := #[.val (.ref p_), .val (.int n_), .val (.int (1 : Int32)), .val (.int (1 : Int32)), .val (.long v_105), .second]) rfl ?_
      refine XS.aloadN X104.here hx rfl (D_ d17_30) rfl rfl ?_
      refine XS.iloadN X104.here hx rfl (D_ d17_31) rfl ?_
      refine XS.iloadN X104.here hx rfl (D_ d17_32) rfl ?_
      refine XS.iconst X104.here hx rfl (D_ d17_33) ?_
      refine XS.lload X104.here hx rfl (D_ d17_34) rfl ?_
      refine st107 _ ?_
      refine XS.lstore X107.here hx rfl (D_ d17_39) rfl (l' := #[.val (.ref p_), .val (.int n_), .val (.int (1 : Int32)), .val (.int (1 : Int32)), .val (.long v_108), .second]) rfl ?_
      refine XS.aloadN X107.here hx rfl (D_ d17_41) rfl rfl ?_
      refine XS.iloadN X107.here hx rfl (D_ d17_42) rfl ?_
      refine XS.iloadN X107.here hx rfl (D_ d17_43) rfl ?_
      refine XS.iconst X107.here hx rfl (D_ d17_44) ?_
      refine XS.lload X107.here hx rfl (D_ d17_45) rfl ?_
      refine st110 _ ?_
      refine XS.lstore X110.here hx rfl (D_ d17_50) rfl (l' := #[.val (.ref p_), .val (.int n_), .val (.int (1 : Int32)), .val (.int (1 : Int32)), .val (.long v_111), .second]) rfl ?_
      refine XS.lload X110.here hx rfl (D_ d17_52) rfl ?_
      exact kt
    have hI114 : IsM v_111.toInt (dpl n_ ct le x0.toInt x1.toInt x2.toInt x3.toInt) := by
      rcases hn with hn | hn | hn | hn
      · rw [hn, hct, hle, dpl1_11]; exact (own_dp1 P102_0 (congrArg Int64.toInt (P104_0 (by rw [hn]; decide))) (congrArg Int64.toInt (P107_0 (by rw [hn]; decide))) (congrArg Int64.toInt (P110_0 (by rw [hn]; decide))))
      · rw [hn, hct, hle, dpl2_11]; exact (own_dp2 P102_0 (P104_1 (by rw [hn]; decide)).1 (P104_1 (by rw [hn]; decide)).2.1 (P104_1 (by rw [hn]; decide)).2.2 (congrArg Int64.toInt (P107_0 (by rw [hn]; decide))) (congrArg Int64.toInt (P110_0 (by rw [hn]; decide))))
      · rw [hn, hct, hle, dpl3_11]; exact (own_dp3 P102_0 (P104_1 (by rw [hn]; decide)).1 (P104_1 (by rw [hn]; decide)).2.1 (P104_1 (by rw [hn]; decide)).2.2 (P107_1 (by rw [hn]; decide)).1 (P107_1 (by rw [hn]; decide)).2.1 (P107_1 (by rw [hn]; decide)).2.2 (congrArg Int64.toInt (P110_0 (by rw [hn]; decide))))
      · rw [hn, hct, hle, dpl4_11]; exact (own_dp4 P102_0 (P104_1 (by rw [hn]; decide)).1 (P104_1 (by rw [hn]; decide)).2.1 (P104_1 (by rw [hn]; decide)).2.2 (P107_1 (by rw [hn]; decide)).1 (P107_1 (by rw [hn]; decide)).2.1 (P107_1 (by rw [hn]; decide)).2.2 (P110_1 (by rw [hn]; decide)).1 (P110_1 (by rw [hn]; decide)).2.1 (P110_1 (by rw [hn]; decide)).2.2)
    obtain ⟨fs, hr, hrun, hended, hW, hsame⟩ := X110.leave (v := some (.long v_111)) (fun h => by rw [Bd.returns] at h; cases h)
    refine ⟨_, _, W113 _ (own_retJ X110 hx Bd.returns (D_ d17_54) hr), hrun, hended, _, _, rfl, ?_, ⟨_, rfl⟩, hW, hsame.mono (by decide) (by decide)⟩
    show Q_refr Z p_ n_ ct le kp x0 x1 x2 x3 h0 n0 _ T110.heap _
    rw [eq110]
    exact ⟨v_111, rfl, N110, rfl, hI114, (Bn.mono hbd112 (by decide))⟩
  ·
    obtain ⟨_, _, ⟨T115, L115, k115, n115⟩, -, X115, ⟨Lc115, hQ115, l115, y115, z115⟩, st115⟩ := Jvm.LawKit.callS X0 hx (y := yn14) hown (mvT hZ (w164 hw)) (mvT hZ (w165 hw)) (mvT hZ (w53 hw)) (mvT hZ (w166 hw)) (by decide) (backOf (W := 0) (rm_w2 l Z a0 hw [] p_ 0 kp [.long x0, .long x1, .long x2, .long x3] x0 x1 h0 n0 Z0 VP (nb rfl) rfl rfl hb0 hb1) hZ (w166 hw) (w53 hw) (by decide) (by decide)) (g := (mkF m 14 #[.val (.ref p_), .val (.int n_), .val (.int (1 : Int32)), .val (.int (2 : Int32)), .unset, .unset] [(.int (2 : Int32)), (.int (0 : Int32)), (.ref p_)])) rfl (by rw [hml]; rfl) (argsL := [(.ref p_), (.int (0 : Int32)), (.int (2 : Int32))]) (rest := []) (lenOf pd8 rfl) rfl (wq rfl) (D_ d17_14) (fun _ _ => ⟨rfl, e0, (nb rfl), (nb rfl)⟩)
    dsimp only [Pt.U, Pt.locs, Pt.cells, Pt.slots] at X115 l115 y115 z115 st115 hQ115
    subst l115 y115 z115
    obtain ⟨v_116, rfl, Nq115, eq115, P115_0, P115_1⟩ := hQ115
    have N115 := Fr.app N0 Nq115
    obtain ⟨_, _, ⟨T117, L117, k117, n117⟩, -, X117, ⟨Lc117, hQ117, l117, y117, z117⟩, st117⟩ := Jvm.LawKit.callS X115 hx (y := yn15) hown (mvT hZ (w167 hw)) (mvT hZ (w168 hw)) (mvT hZ (w53 hw)) (mvT hZ (w169 hw)) (by decide) (backOf (W := 0) (rm_one2 l Z a0 hw [] p_ n_ v_116 1 kp [.long x0, .long x1, .long x2, .long x3] x1 x2 h0 n0 Z0 VP (nb rfl) rfl rfl hb1 hb2) hZ (w169 hw) (w53 hw) (by decide) (by decide)) (g := (mkF m 25 #[.val (.ref p_), .val (.int n_), .val (.int (1 : Int32)), .val (.int (2 : Int32)), .val (.long v_116), .second] [(.long v_116), (.int (1 : Int32)), (.int (2 : Int32)), (.int n_), (.ref p_)])) rfl (by rw [hml]; rfl) (argsL := [(.ref p_), (.int n_), (.int (2 : Int32)), (.int (1 : Int32)), (.long v_116)]) (rest := []) (lenOf pd9 rfl) rfl (wq rfl) (D_ d17_25) (fun _ _ => ⟨rfl, eq115, (nb rfl), (nb rfl)⟩)
    dsimp only [Pt.U, Pt.locs, Pt.cells, Pt.slots] at X117 l117 y117 z117 st117 hQ117
    subst l117 y117 z117
    obtain ⟨v_118, rfl, Nq117, eq117, P117_0, P117_1⟩ := hQ117
    have N117 := Fr.app N115 Nq117
    have hbd119 : Bn 8 v_118 := own_bc P115_1 P117_0 P117_1 (own_sb2 hb1 hb2)
    obtain ⟨_, _, ⟨T120, L120, k120, n120⟩, -, X120, ⟨Lc120, hQ120, l120, y120, z120⟩, st120⟩ := Jvm.LawKit.callS X117 hx (y := yn15) hown (mvT hZ (w167 hw)) (mvT hZ (w168 hw)) (mvT hZ (w53 hw)) (mvT hZ (w169 hw)) (by decide) (backOf (W := 0) (rm_one2 l Z a0 hw [] p_ n_ v_118 2 kp [.long x0, .long x1, .long x2, .long x3] x2 x3 h0 n0 Z0 VP (nb rfl) rfl rfl hb2 hb3) hZ (w169 hw) (w53 hw) (by decide) (by decide)) (g := (mkF m 36 #[.val (.ref p_), .val (.int n_), .val (.int (1 : Int32)), .val (.int (2 : Int32)), .val (.long v_118), .second] [(.long v_118), (.int (2 : Int32)), (.int (2 : Int32)), (.int n_), (.ref p_)])) rfl (by rw [hml]; rfl) (argsL := [(.ref p_), (.int n_), (.int (2 : Int32)), (.int (2 : Int32)), (.long v_118)]) (rest := []) (lenOf pd9 rfl) rfl (wq rfl) (D_ d17_36) (fun _ _ => ⟨rfl, eq117, (nb rfl), (nb rfl)⟩)
    dsimp only [Pt.U, Pt.locs, Pt.cells, Pt.slots] at X120 l120 y120 z120 st120 hQ120
    subst l120 y120 z120
    obtain ⟨v_121, rfl, Nq120, eq120, P120_0, P120_1⟩ := hQ120
    have N120 := Fr.app N117 Nq120
    have hbd122 : Bn 8 v_121 := own_bc hbd119 P120_0 P120_1 (own_sb2 hb2 hb3)
    obtain ⟨_, _, ⟨T123, L123, k123, n123⟩, -, X123, ⟨Lc123, hQ123, l123, y123, z123⟩, st123⟩ := Jvm.LawKit.callS X120 hx (y := yn15) hown (mvT hZ (w167 hw)) (mvT hZ (w168 hw)) (mvT hZ (w53 hw)) (mvT hZ (w169 hw)) (by decide) (backOf (W := 0) (rm_oneN l Z a0 hw [] p_ n_ (2 : Int32) (3 : Int32) v_121 h0 n0 Z0 (by rcases hn with h | h | h <;> rw [h] <;> decide)) hZ (w169 hw) (w53 hw) (by decide) (by decide)) (g := (mkF m 47 #[.val (.ref p_), .val (.int n_), .val (.int (1 : Int32)), .val (.int (2 : Int32)), .val (.long v_121), .second] [(.long v_121), (.int (3 : Int32)), (.int (2 : Int32)), (.int n_), (.ref p_)])) rfl (by rw [hml]; rfl) (argsL := [(.ref p_), (.int n_), (.int (2 : Int32)), (.int (3 : Int32)), (.long v_121)]) (rest := []) (lenOf pd9 rfl) rfl (wq rfl) (D_ d17_47) (fun _ _ => ⟨rfl, eq120, (nb rfl), (nb rfl)⟩)
    dsimp only [Pt.U, Pt.locs, Pt.cells, Pt.slots] at X123 l123 y123 z123 st123 hQ123
    subst l123 y123 z123
    obtain ⟨rfl, Nq123, eq123⟩ := hQ123
    have N123 := Fr.app N120 Nq123
    have W124 : ∀ zQ, SS p e below T123 m 54 #[.val (.ref p_), .val (.int n_), .val (.int (1 : Int32)), .val (.int (2 : Int32)), .val (.long v_121), .second] [(.long v_121)] zQ → Steps p.tables e below (s₁.setTop (entryFrame m #[(.ref p_), (.int n_), (.int ct), (.int le)] 6)) zQ := by
      intro tt kt
      refine W0 tt ?_
      rw [show ct = (1 : Int32) from hct]
      show SS p e below s₁ m 0 #[.val (.ref p_), .val (.int n_), .val (.int (1 : Int32)), .val (.int le), .unset, .unset] [] _
      rw [show le = (2 : Int32) from hle]
      refine XS.iloadN X0.here hx rfl (D_ d17_0) rfl ?_
      refine XS.ifYes X0.here hx rfl (pc0 := 1) (pc' := 6) rfl (D_ d17_1) rfl ((if0 _ _).trans (feq (by decide)).2) (by decide) (by decide) ?_
      refine XS.iloadN X0.here hx rfl (D_ d17_6) rfl ?_
      refine XS.iconst X0.here hx rfl (D_ d17_7) ?_
      refine XS.icmpNo X0.here hx rfl (D_ d17_8) rfl (teq (by decide)).2 ?_
      refine XS.aloadN X0.here hx rfl (D_ d17_11) rfl rfl ?_
      refine XS.iconst X0.here hx rfl (D_ d17_12) ?_
      refine XS.iloadN X0.here hx rfl (D_ d17_13) rfl ?_
      refine st115 _ ?_
      refine XS.lstore X115.here hx rfl (D_ d17_17) rfl (l' := #[.val (.ref p_), .val (.int n_), .val (.int (1 : Int32)), .val (.int (2 : Int32)), .val (.long v_116), .second]) rfl ?_
      refine XS.aloadN X115.here hx rfl (D_ d17_19) rfl rfl ?_
      refine XS.iloadN X115.here hx rfl (D_ d17_20) rfl ?_
      refine XS.iloadN X115.here hx rfl (D_ d17_21) rfl ?_
      refine XS.iconst X115.here hx rfl (D_ d17_22) ?_
      refine XS.lload X115.here hx rfl (D_ d17_23) rfl ?_
      refine st117 _ ?_
      refine XS.lstore X117.here hx rfl (D_ d17_28) rfl (l' := #[.val (.ref p_), .val (.int n_), .val (.int (1 : Int32)), .val (.int (2 : Int32)), .val (.long v_118), .second]) rfl ?_
      refine XS.aloadN X117.here hx rfl (D_ d17_30) rfl rfl ?_
      refine XS.iloadN X117.here hx rfl (D_ d17_31) rfl ?_
      refine XS.iloadN X117.here hx rfl (D_ d17_32) rfl ?_
      refine XS.iconst X117.here hx rfl (D_ d17_33) ?_
      refine XS.lload X117.here hx rfl (D_ d17_34) rfl ?_
      refine st120 _ ?_
      refine XS.lstore X120.here hx rfl (D_ d17_39) rfl (l' := #[.val (.ref p_), .val (.int n_), .val (.int (1 : Int32)), .val (.int (2 : Int32)), .val (.long v_121), .second]) rfl ?_
      refine XS.aloadN X120.here hx rfl (D_ d17_41) rfl rfl ?_
      refine XS.iloadN X120.here hx rfl (D_ d17_42) rfl ?_
      refine XS.iloadN X120.here hx rfl (D_ d17_43) rfl ?_
      refine XS.iconst X120.here hx rfl (D_ d17_44) ?_
      refine XS.lload X120.here hx rfl (D_ d17_45) rfl ?_
      refine st123 _ ?_
      refine XS.lstore X123.here hx rfl (D_ d17_50) rfl (l' := #[.val (.ref p_), .val (.int n_), .val (.int (1 : Int32)), .val (.int (2 : Int32)), .val (.long v_121), .second]) rfl ?_
      refine XS.lload X123.here hx rfl (D_ d17_52) rfl ?_
      exact kt
    have hI125 : IsM v_121.toInt (dpl n_ ct le x0.toInt x1.toInt x2.toInt x3.toInt) := by
      rcases hn with hn | hn | hn
      · rw [hn, hct, hle, dpl2_12]; exact (own_dp5 P115_0 (congrArg Int64.toInt (P117_0 (by rw [hn]; decide))) (congrArg Int64.toInt (P120_0 (by rw [hn]; decide))))
      · rw [hn, hct, hle, dpl3_12]; exact (own_dp6 P115_0 (P117_1 (by rw [hn]; decide)).1 (P117_1 (by rw [hn]; decide)).2.1 (P117_1 (by rw [hn]; decide)).2.2 (congrArg Int64.toInt (P120_0 (by rw [hn]; decide))))
      · rw [hn, hct, hle, dpl4_12]; exact (own_dp7 P115_0 (P117_1 (by rw [hn]; decide)).1 (P117_1 (by rw [hn]; decide)).2.1 (P117_1 (by rw [hn]; decide)).2.2 (P120_1 (by rw [hn]; decide)).1 (P120_1 (by rw [hn]; decide)).2.1 (P120_1 (by rw [hn]; decide)).2.2)
    obtain ⟨fs, hr, hrun, hended, hW, hsame⟩ := X123.leave (v := some (.long v_121)) (fun h => by rw [Bd.returns] at h; cases h)
    refine ⟨_, _, W124 _ (own_retJ X123 hx Bd.returns (D_ d17_54) hr), hrun, hended, _, _, rfl, ?_, ⟨_, rfl⟩, hW, hsame.mono (by decide) (by decide)⟩
    show Q_refr Z p_ n_ ct le kp x0 x1 x2 x3 h0 n0 _ T123.heap _
    rw [eq123]
    exact ⟨v_121, rfl, N123, rfl, hI125, (Bn.mono hbd122 (by decide))⟩
  ·
    obtain ⟨_, _, ⟨T126, L126, k126, n126⟩, -, X126, ⟨Lc126, hQ126, l126, y126, z126⟩, st126⟩ := Jvm.LawKit.callS X0 hx (y := yn14) hown (mvT hZ (w164 hw)) (mvT hZ (w165 hw)) (mvT hZ (w53 hw)) (mvT hZ (w166 hw)) (by decide) (backOf (W := 0) (rm_w3 l Z a0 hw [] p_ 0 kp [.long x0, .long x1, .long x2, .long x3] x0 x1 x2 h0 n0 Z0 VP (nb rfl) rfl rfl rfl hb0 hb1 hb2) hZ (w166 hw) (w53 hw) (by decide) (by decide)) (g := (mkF m 14 #[.val (.ref p_), .val (.int n_), .val (.int (1 : Int32)), .val (.int (3 : Int32)), .unset, .unset] [(.int (3 : Int32)), (.int (0 : Int32)), (.ref p_)])) rfl (by rw [hml]; rfl) (argsL := [(.ref p_), (.int (0 : Int32)), (.int (3 : Int32))]) (rest := []) (lenOf pd8 rfl) rfl (wq rfl) (D_ d17_14) (fun _ _ => ⟨rfl, e0, (nb rfl), (nb rfl)⟩)
    dsimp only [Pt.U, Pt.locs, Pt.cells, Pt.slots] at X126 l126 y126 z126 st126 hQ126
    subst l126 y126 z126
    obtain ⟨v_127, rfl, Nq126, eq126, P126_0, P126_1⟩ := hQ126
    have N126 := Fr.app N0 Nq126
    obtain ⟨_, _, ⟨T128, L128, k128, n128⟩, -, X128, ⟨Lc128, hQ128, l128, y128, z128⟩, st128⟩ := Jvm.LawKit.callS X126 hx (y := yn15) hown (mvT hZ (w167 hw)) (mvT hZ (w168 hw)) (mvT hZ (w53 hw)) (mvT hZ (w169 hw)) (by decide) (backOf (W := 0) (rm_one3 l Z a0 hw [] p_ n_ v_127 1 kp [.long x0, .long x1, .long x2, .long x3] x1 x2 x3 h0 n0 Z0 VP (nb rfl) rfl rfl rfl hb1 hb2 hb3) hZ (w169 hw) (w53 hw) (by decide) (by decide)) (g := (mkF m 25 #[.val (.ref p_), .val (.int n_), .val (.int (1 : Int32)), .val (.int (3 : Int32)), .val (.long v_127), .second] [(.long v_127), (.int (1 : Int32)), (.int (3 : Int32)), (.int n_), (.ref p_)])) rfl (by rw [hml]; rfl) (argsL := [(.ref p_), (.int n_), (.int (3 : Int32)), (.int (1 : Int32)), (.long v_127)]) (rest := []) (lenOf pd9 rfl) rfl (wq rfl) (D_ d17_25) (fun _ _ => ⟨rfl, eq126, (nb rfl), (nb rfl)⟩)
    dsimp only [Pt.U, Pt.locs, Pt.cells, Pt.slots] at X128 l128 y128 z128 st128 hQ128
    subst l128 y128 z128
    obtain ⟨v_129, rfl, Nq128, eq128, P128_0, P128_1⟩ := hQ128
    have N128 := Fr.app N126 Nq128
    have hbd130 : Bn 8 v_129 := own_bc P126_1 P128_0 P128_1 (own_sb3 hb1 hb2 hb3)
    obtain ⟨_, _, ⟨T131, L131, k131, n131⟩, -, X131, ⟨Lc131, hQ131, l131, y131, z131⟩, st131⟩ := Jvm.LawKit.callS X128 hx (y := yn15) hown (mvT hZ (w167 hw)) (mvT hZ (w168 hw)) (mvT hZ (w53 hw)) (mvT hZ (w169 hw)) (by decide) (backOf (W := 0) (rm_oneN l Z a0 hw [] p_ n_ (3 : Int32) (2 : Int32) v_129 h0 n0 Z0 (by rcases hn with h | h <;> rw [h] <;> decide)) hZ (w169 hw) (w53 hw) (by decide) (by decide)) (g := (mkF m 36 #[.val (.ref p_), .val (.int n_), .val (.int (1 : Int32)), .val (.int (3 : Int32)), .val (.long v_129), .second] [(.long v_129), (.int (2 : Int32)), (.int (3 : Int32)), (.int n_), (.ref p_)])) rfl (by rw [hml]; rfl) (argsL := [(.ref p_), (.int n_), (.int (3 : Int32)), (.int (2 : Int32)), (.long v_129)]) (rest := []) (lenOf pd9 rfl) rfl (wq rfl) (D_ d17_36) (fun _ _ => ⟨rfl, eq128, (nb rfl), (nb rfl)⟩)
    dsimp only [Pt.U, Pt.locs, Pt.cells, Pt.slots] at X131 l131 y131 z131 st131 hQ131
    subst l131 y131 z131
    obtain ⟨rfl, Nq131, eq131⟩ := hQ131
    have N131 := Fr.app N128 Nq131
    obtain ⟨_, _, ⟨T132, L132, k132, n132⟩, -, X132, ⟨Lc132, hQ132, l132, y132, z132⟩, st132⟩ := Jvm.LawKit.callS X131 hx (y := yn15) hown (mvT hZ (w167 hw)) (mvT hZ (w168 hw)) (mvT hZ (w53 hw)) (mvT hZ (w169 hw)) (by decide) (backOf (W := 0) (rm_oneN l Z a0 hw [] p_ n_ (3 : Int32) (3 : Int32) v_129 h0 n0 Z0 (by rcases hn with h | h <;> rw [h] <;> decide)) hZ (w169 hw) (w53 hw) (by decide) (by decide)) (g := (mkF m 47 #[.val (.ref p_), .val (.int n_), .val (.int (1 : Int32)), .val (.int (3 : Int32)), .val (.long v_129), .second] [(.long v_129), (.int (3 : Int32)), (.int (3 : Int32)), (.int n_), (.ref p_)])) rfl (by rw [hml]; rfl) (argsL := [(.ref p_), (.int n_), (.int (3 : Int32)), (.int (3 : Int32)), (.long v_129)]) (rest := []) (lenOf pd9 rfl) rfl (wq rfl) (D_ d17_47) (fun _ _ => ⟨rfl, eq131, (nb rfl), (nb rfl)⟩)
    dsimp only [Pt.U, Pt.locs, Pt.cells, Pt.slots] at X132 l132 y132 z132 st132 hQ132
    subst l132 y132 z132
    obtain ⟨rfl, Nq132, eq132⟩ := hQ132
    have N132 := Fr.app N131 Nq132
    have W133 : ∀ zQ, SS p e below T132 m 54 #[.val (.ref p_), .val (.int n_), .val (.int (1 : Int32)), .val (.int (3 : Int32)), .val (.long v_129), .second] [(.long v_129)] zQ → Steps p.tables e below (s₁.setTop (entryFrame m #[(.ref p_), (.int n_), (.int ct), (.int le)] 6)) zQ := by
      intro tt kt
      refine W0 tt ?_
      rw [show ct = (1 : Int32) from hct]
      show SS p e below s₁ m 0 #[.val (.ref p_), .val (.int n_), .val (.int (1 : Int32)), .val (.int le), .unset, .unset] [] _
      rw [show le = (3 : Int32) from hle]
      refine XS.iloadN X0.here hx rfl (D_ d17_0) rfl ?_
      refine XS.ifYes X0.here hx rfl (pc0 := 1) (pc' := 6) rfl (D_ d17_1) rfl ((if0 _ _).trans (feq (by decide)).2) (by decide) (by decide) ?_
      refine XS.iloadN X0.here hx rfl (D_ d17_6) rfl ?_
      refine XS.iconst X0.here hx rfl (D_ d17_7) ?_
      refine XS.icmpNo X0.here hx rfl (D_ d17_8) rfl (teq (by decide)).2 ?_
      refine XS.aloadN X0.here hx rfl (D_ d17_11) rfl rfl ?_
      refine XS.iconst X0.here hx rfl (D_ d17_12) ?_
      refine XS.iloadN X0.here hx rfl (D_ d17_13) rfl ?_
      refine st126 _ ?_
      refine XS.lstore X126.here hx rfl (D_ d17_17) rfl (l' := #[.val (.ref p_), .val (.int n_), .val (.int (1 : Int32)), .val (.int (3 : Int32)), .val (.long v_127), .second]) rfl ?_
      refine XS.aloadN X126.here hx rfl (D_ d17_19) rfl rfl ?_
      refine XS.iloadN X126.here hx rfl (D_ d17_20) rfl ?_
      refine XS.iloadN X126.here hx rfl (D_ d17_21) rfl ?_
      refine XS.iconst X126.here hx rfl (D_ d17_22) ?_
      refine XS.lload X126.here hx rfl (D_ d17_23) rfl ?_
      refine st128 _ ?_
      refine XS.lstore X128.here hx rfl (D_ d17_28) rfl (l' := #[.val (.ref p_), .val (.int n_), .val (.int (1 : Int32)), .val (.int (3 : Int32)), .val (.long v_129), .second]) rfl ?_
      refine XS.aloadN X128.here hx rfl (D_ d17_30) rfl rfl ?_
      refine XS.iloadN X128.here hx rfl (D_ d17_31) rfl ?_
      refine XS.iloadN X128.here hx rfl (D_ d17_32) rfl ?_
      refine XS.iconst X128.here hx rfl (D_ d17_33) ?_
      refine XS.lload X128.here hx rfl (D_ d17_34) rfl ?_
      refine st131 _ ?_
      refine XS.lstore X131.here hx rfl (D_ d17_39) rfl (l' := #[.val (.ref p_), .val (.int n_), .val (.int (1 : Int32)), .val (.int (3 : Int32)), .val (.long v_129), .second]) rfl ?_
      refine XS.aloadN X131.here hx rfl (D_ d17_41) rfl rfl ?_
      refine XS.iloadN X131.here hx rfl (D_ d17_42) rfl ?_
      refine XS.iloadN X131.here hx rfl (D_ d17_43) rfl ?_
      refine XS.iconst X131.here hx rfl (D_ d17_44) ?_
      refine XS.lload X131.here hx rfl (D_ d17_45) rfl ?_
      refine st132 _ ?_
      refine XS.lstore X132.here hx rfl (D_ d17_50) rfl (l' := #[.val (.ref p_), .val (.int n_), .val (.int (1 : Int32)), .val (.int (3 : Int32)), .val (.long v_129), .second]) rfl ?_
      refine XS.lload X132.here hx rfl (D_ d17_52) rfl ?_
      exact kt
    have hI134 : IsM v_129.toInt (dpl n_ ct le x0.toInt x1.toInt x2.toInt x3.toInt) := by
      rcases hn with hn | hn
      · rw [hn, hct, hle, dpl3_13]; exact (own_dp8 P126_0 (congrArg Int64.toInt (P128_0 (by rw [hn]; decide))))
      · rw [hn, hct, hle, dpl4_13]; exact (own_dp9 P126_0 (P128_1 (by rw [hn]; decide)).1 (P128_1 (by rw [hn]; decide)).2.1 (P128_1 (by rw [hn]; decide)).2.2)
    obtain ⟨fs, hr, hrun, hended, hW, hsame⟩ := X132.leave (v := some (.long v_129)) (fun h => by rw [Bd.returns] at h; cases h)
    refine ⟨_, _, W133 _ (own_retJ X132 hx Bd.returns (D_ d17_54) hr), hrun, hended, _, _, rfl, ?_, ⟨_, rfl⟩, hW, hsame.mono (by decide) (by decide)⟩
    show Q_refr Z p_ n_ ct le kp x0 x1 x2 x3 h0 n0 _ T132.heap _
    rw [eq132]
    exact ⟨v_129, rfl, N132, rfl, hI134, (Bn.mono hbd130 (by decide))⟩
  ·
    obtain ⟨_, _, ⟨T135, L135, k135, n135⟩, -, X135, ⟨Lc135, hQ135, l135, y135, z135⟩, st135⟩ := Jvm.LawKit.callS X0 hx (y := yn14) hown (mvT hZ (w164 hw)) (mvT hZ (w165 hw)) (mvT hZ (w53 hw)) (mvT hZ (w166 hw)) (by decide) (backOf (W := 0) (rm_w4 l Z a0 hw [] p_ 0 kp [.long x0, .long x1, .long x2, .long x3] x0 x1 x2 x3 h0 n0 Z0 VP (nb rfl) rfl rfl rfl rfl hb0 hb1 hb2 hb3) hZ (w166 hw) (w53 hw) (by decide) (by decide)) (g := (mkF m 14 #[.val (.ref p_), .val (.int n_), .val (.int (1 : Int32)), .val (.int (4 : Int32)), .unset, .unset] [(.int (4 : Int32)), (.int (0 : Int32)), (.ref p_)])) rfl (by rw [hml]; rfl) (argsL := [(.ref p_), (.int (0 : Int32)), (.int (4 : Int32))]) (rest := []) (lenOf pd8 rfl) rfl (wq rfl) (D_ d17_14) (fun _ _ => ⟨rfl, e0, (nb rfl), (nb rfl)⟩)
    dsimp only [Pt.U, Pt.locs, Pt.cells, Pt.slots] at X135 l135 y135 z135 st135 hQ135
    subst l135 y135 z135
    obtain ⟨v_136, rfl, Nq135, eq135, P135_0, P135_1⟩ := hQ135
    have N135 := Fr.app N0 Nq135
    obtain ⟨_, _, ⟨T137, L137, k137, n137⟩, -, X137, ⟨Lc137, hQ137, l137, y137, z137⟩, st137⟩ := Jvm.LawKit.callS X135 hx (y := yn15) hown (mvT hZ (w167 hw)) (mvT hZ (w168 hw)) (mvT hZ (w53 hw)) (mvT hZ (w169 hw)) (by decide) (backOf (W := 0) (rm_oneN l Z a0 hw [] p_ n_ (4 : Int32) (1 : Int32) v_136 h0 n0 Z0 (by rw [hn]; decide)) hZ (w169 hw) (w53 hw) (by decide) (by decide)) (g := (mkF m 25 #[.val (.ref p_), .val (.int n_), .val (.int (1 : Int32)), .val (.int (4 : Int32)), .val (.long v_136), .second] [(.long v_136), (.int (1 : Int32)), (.int (4 : Int32)), (.int n_), (.ref p_)])) rfl (by rw [hml]; rfl) (argsL := [(.ref p_), (.int n_), (.int (4 : Int32)), (.int (1 : Int32)), (.long v_136)]) (rest := []) (lenOf pd9 rfl) rfl (wq rfl) (D_ d17_25) (fun _ _ => ⟨rfl, eq135, (nb rfl), (nb rfl)⟩)
    dsimp only [Pt.U, Pt.locs, Pt.cells, Pt.slots] at X137 l137 y137 z137 st137 hQ137
    subst l137 y137 z137
    obtain ⟨rfl, Nq137, eq137⟩ := hQ137
    have N137 := Fr.app N135 Nq137
    obtain ⟨_, _, ⟨T138, L138, k138, n138⟩, -, X138, ⟨Lc138, hQ138, l138, y138, z138⟩, st138⟩ := Jvm.LawKit.callS X137 hx (y := yn15) hown (mvT hZ (w167 hw)) (mvT hZ (w168 hw)) (mvT hZ (w53 hw)) (mvT hZ (w169 hw)) (by decide) (backOf (W := 0) (rm_oneN l Z a0 hw [] p_ n_ (4 : Int32) (2 : Int32) v_136 h0 n0 Z0 (by rw [hn]; decide)) hZ (w169 hw) (w53 hw) (by decide) (by decide)) (g := (mkF m 36 #[.val (.ref p_), .val (.int n_), .val (.int (1 : Int32)), .val (.int (4 : Int32)), .val (.long v_136), .second] [(.long v_136), (.int (2 : Int32)), (.int (4 : Int32)), (.int n_), (.ref p_)])) rfl (by rw [hml]; rfl) (argsL := [(.ref p_), (.int n_), (.int (4 : Int32)), (.int (2 : Int32)), (.long v_136)]) (rest := []) (lenOf pd9 rfl) rfl (wq rfl) (D_ d17_36) (fun _ _ => ⟨rfl, eq137, (nb rfl), (nb rfl)⟩)
    dsimp only [Pt.U, Pt.locs, Pt.cells, Pt.slots] at X138 l138 y138 z138 st138 hQ138
    subst l138 y138 z138
    obtain ⟨rfl, Nq138, eq138⟩ := hQ138
    have N138 := Fr.app N137 Nq138
    obtain ⟨_, _, ⟨T139, L139, k139, n139⟩, -, X139, ⟨Lc139, hQ139, l139, y139, z139⟩, st139⟩ := Jvm.LawKit.callS X138 hx (y := yn15) hown (mvT hZ (w167 hw)) (mvT hZ (w168 hw)) (mvT hZ (w53 hw)) (mvT hZ (w169 hw)) (by decide) (backOf (W := 0) (rm_oneN l Z a0 hw [] p_ n_ (4 : Int32) (3 : Int32) v_136 h0 n0 Z0 (by rw [hn]; decide)) hZ (w169 hw) (w53 hw) (by decide) (by decide)) (g := (mkF m 47 #[.val (.ref p_), .val (.int n_), .val (.int (1 : Int32)), .val (.int (4 : Int32)), .val (.long v_136), .second] [(.long v_136), (.int (3 : Int32)), (.int (4 : Int32)), (.int n_), (.ref p_)])) rfl (by rw [hml]; rfl) (argsL := [(.ref p_), (.int n_), (.int (4 : Int32)), (.int (3 : Int32)), (.long v_136)]) (rest := []) (lenOf pd9 rfl) rfl (wq rfl) (D_ d17_47) (fun _ _ => ⟨rfl, eq138, (nb rfl), (nb rfl)⟩)
    dsimp only [Pt.U, Pt.locs, Pt.cells, Pt.slots] at X139 l139 y139 z139 st139 hQ139
    subst l139 y139 z139
    obtain ⟨rfl, Nq139, eq139⟩ := hQ139
    have N139 := Fr.app N138 Nq139
    have W140 : ∀ zQ, SS p e below T139 m 54 #[.val (.ref p_), .val (.int n_), .val (.int (1 : Int32)), .val (.int (4 : Int32)), .val (.long v_136), .second] [(.long v_136)] zQ → Steps p.tables e below (s₁.setTop (entryFrame m #[(.ref p_), (.int n_), (.int ct), (.int le)] 6)) zQ := by
      intro tt kt
      refine W0 tt ?_
      rw [show ct = (1 : Int32) from hct]
      show SS p e below s₁ m 0 #[.val (.ref p_), .val (.int n_), .val (.int (1 : Int32)), .val (.int le), .unset, .unset] [] _
      rw [show le = (4 : Int32) from hle]
      refine XS.iloadN X0.here hx rfl (D_ d17_0) rfl ?_
      refine XS.ifYes X0.here hx rfl (pc0 := 1) (pc' := 6) rfl (D_ d17_1) rfl ((if0 _ _).trans (feq (by decide)).2) (by decide) (by decide) ?_
      refine XS.iloadN X0.here hx rfl (D_ d17_6) rfl ?_
      refine XS.iconst X0.here hx rfl (D_ d17_7) ?_
      refine XS.icmpNo X0.here hx rfl (D_ d17_8) rfl (teq (by decide)).2 ?_
      refine XS.aloadN X0.here hx rfl (D_ d17_11) rfl rfl ?_
      refine XS.iconst X0.here hx rfl (D_ d17_12) ?_
      refine XS.iloadN X0.here hx rfl (D_ d17_13) rfl ?_
      refine st135 _ ?_
      refine XS.lstore X135.here hx rfl (D_ d17_17) rfl (l' := #[.val (.ref p_), .val (.int n_), .val (.int (1 : Int32)), .val (.int (4 : Int32)), .val (.long v_136), .second]) rfl ?_
      refine XS.aloadN X135.here hx rfl (D_ d17_19) rfl rfl ?_
      refine XS.iloadN X135.here hx rfl (D_ d17_20) rfl ?_
      refine XS.iloadN X135.here hx rfl (D_ d17_21) rfl ?_
      refine XS.iconst X135.here hx rfl (D_ d17_22) ?_
      refine XS.lload X135.here hx rfl (D_ d17_23) rfl ?_
      refine st137 _ ?_
      refine XS.lstore X137.here hx rfl (D_ d17_28) rfl (l' := #[.val (.ref p_), .val (.int n_), .val (.int (1 : Int32)), .val (.int (4 : Int32)), .val (.long v_136), .second]) rfl ?_
      refine XS.aloadN X137.here hx rfl (D_ d17_30) rfl rfl ?_
      refine XS.iloadN X137.here hx rfl (D_ d17_31) rfl ?_
      refine XS.iloadN X137.here hx rfl (D_ d17_32) rfl ?_
      refine XS.iconst X137.here hx rfl (D_ d17_33) ?_
      refine XS.lload X137.here hx rfl (D_ d17_34) rfl ?_
      refine st138 _ ?_
      refine XS.lstore X138.here hx rfl (D_ d17_39) rfl (l' := #[.val (.ref p_), .val (.int n_), .val (.int (1 : Int32)), .val (.int (4 : Int32)), .val (.long v_136), .second]) rfl ?_
      refine XS.aloadN X138.here hx rfl (D_ d17_41) rfl rfl ?_
      refine XS.iloadN X138.here hx rfl (D_ d17_42) rfl ?_
      refine XS.iloadN X138.here hx rfl (D_ d17_43) rfl ?_
      refine XS.iconst X138.here hx rfl (D_ d17_44) ?_
      refine XS.lload X138.here hx rfl (D_ d17_45) rfl ?_
      refine st139 _ ?_
      refine XS.lstore X139.here hx rfl (D_ d17_50) rfl (l' := #[.val (.ref p_), .val (.int n_), .val (.int (1 : Int32)), .val (.int (4 : Int32)), .val (.long v_136), .second]) rfl ?_
      refine XS.lload X139.here hx rfl (D_ d17_52) rfl ?_
      exact kt
    have hI141 : IsM v_136.toInt (dpl n_ ct le x0.toInt x1.toInt x2.toInt x3.toInt) := by
      rw [hn, hct, hle, dpl4_14]; exact (own_dp10 P135_0)
    obtain ⟨fs, hr, hrun, hended, hW, hsame⟩ := X139.leave (v := some (.long v_136)) (fun h => by rw [Bd.returns] at h; cases h)
    refine ⟨_, _, W140 _ (own_retJ X139 hx Bd.returns (D_ d17_54) hr), hrun, hended, _, _, rfl, ?_, ⟨_, rfl⟩, hW, hsame.mono (by decide) (by decide)⟩
    show Q_refr Z p_ n_ ct le kp x0 x1 x2 x3 h0 n0 _ T139.heap _
    rw [eq139]
    exact ⟨v_136, rfl, N139, rfl, hI141, (Bn.mono P135_1 (by decide))⟩
  ·
    obtain ⟨_, _, ⟨T142, L142, k142, n142⟩, -, X142, ⟨Lc142, hQ142, l142, y142, z142⟩, st142⟩ := Jvm.LawKit.callS X0 hx (y := yn14) hown (mvT hZ (w164 hw)) (mvT hZ (w165 hw)) (mvT hZ (w53 hw)) (mvT hZ (w166 hw)) (by decide) (backOf (W := 0) (rm_w1 l Z a0 hw [] p_ 0 kp [.long x0, .long x1, .long x2, .long x3] x0 h0 n0 Z0 VP (nb rfl) rfl hb0) hZ (w166 hw) (w53 hw) (by decide) (by decide)) (g := (mkF m 63 #[.val (.ref p_), .val (.int n_), .val (.int (2 : Int32)), .val (.int (1 : Int32)), .unset, .unset] [(.int (1 : Int32)), (.int (0 : Int32)), (.ref p_)])) rfl (by rw [hml]; rfl) (argsL := [(.ref p_), (.int (0 : Int32)), (.int (1 : Int32))]) (rest := []) (lenOf pd8 rfl) rfl (wq rfl) (D_ d17_63) (fun _ _ => ⟨rfl, e0, (nb rfl), (nb rfl)⟩)
    dsimp only [Pt.U, Pt.locs, Pt.cells, Pt.slots] at X142 l142 y142 z142 st142 hQ142
    subst l142 y142 z142
    obtain ⟨v_143, rfl, Nq142, eq142, P142_0, P142_1⟩ := hQ142
    have N142 := Fr.app N0 Nq142
    obtain ⟨_, _, ⟨T144, L144, k144, n144⟩, -, X144, ⟨Lc144, hQ144, l144, y144, z144⟩, st144⟩ := Jvm.LawKit.callS X142 hx (y := yn14) hown (mvT hZ (w164 hw)) (mvT hZ (w165 hw)) (mvT hZ (w53 hw)) (mvT hZ (w166 hw)) (by decide) (backOf (W := 2) (rm_w1 l Z a0 hw [] p_ 1 kp [.long x0, .long x1, .long x2, .long x3] x1 h0 n0 Z0 VP (nb rfl) rfl hb1) hZ (w166 hw) (w53 hw) (by decide) (by decide)) (g := (mkF m 69 #[.val (.ref p_), .val (.int n_), .val (.int (2 : Int32)), .val (.int (1 : Int32)), .unset, .unset] [(.int (1 : Int32)), (.int (1 : Int32)), (.ref p_), (.long v_143)])) rfl (by rw [hml]; rfl) (argsL := [(.ref p_), (.int (1 : Int32)), (.int (1 : Int32))]) (rest := [(.long v_143)]) (lenOf pd8 rfl) rfl (wq rfl) (D_ d17_69) (fun _ _ => ⟨rfl, eq142, (nb rfl), (nb rfl)⟩)
    dsimp only [Pt.U, Pt.locs, Pt.cells, Pt.slots] at X144 l144 y144 z144 st144 hQ144
    subst l144 y144 z144
    obtain ⟨v_145, rfl, Nq144, eq144, P144_0, P144_1⟩ := hQ144
    have N144 := Fr.app N142 Nq144
    obtain ⟨bs, h_bs⟩ : ∃ z : Int64, z = (v_143 + v_145) := ⟨_, rfl⟩
    have he146 : bs.toInt = v_143.toInt + v_145.toInt := by rw [h_bs]; exact own_tadd (Bn.mono P142_1 (by decide)) (Bn.mono P144_1 (by decide))
    obtain ⟨_, _, ⟨T147, L147, k147, n147⟩, -, X147, ⟨Lc147, hQ147, l147, y147, z147⟩, st147⟩ := Jvm.LawKit.callS X144 hx (y := yn16) hown (mvT hZ (w173 hw)) (mvT hZ (w174 hw)) (mvT hZ (w53 hw)) (mvT hZ (w175 hw)) (by decide) (backOf (W := 0) (rm_two1 l Z a0 hw [] p_ n_ bs 0 1 kp [.long x0, .long x1, .long x2, .long x3] x0 x1 h0 n0 Z0 VP (nb rfl) (nb rfl) rfl hb0 rfl hb1) hZ (w175 hw) (w53 hw) (by decide) (by decide)) (g := (mkF m 82 #[.val (.ref p_), .val (.int n_), .val (.int (2 : Int32)), .val (.int (1 : Int32)), .val (.long bs), .second] [(.long bs), (.int (1 : Int32)), (.int (0 : Int32)), (.int (1 : Int32)), (.int n_), (.ref p_)])) rfl (by rw [hml]; rfl) (argsL := [(.ref p_), (.int n_), (.int (1 : Int32)), (.int (0 : Int32)), (.int (1 : Int32)), (.long bs)]) (rest := []) (lenOf pd10 rfl) rfl (wq rfl) (D_ d17_82) (fun _ _ => ⟨rfl, eq144, (nb rfl), (nb rfl)⟩)
    dsimp only [Pt.U, Pt.locs, Pt.cells, Pt.slots] at X147 l147 y147 z147 st147 hQ147
    subst l147 y147 z147
    obtain ⟨v_148, rfl, Nq147, eq147, P147_0, P147_1⟩ := hQ147
    have N147 := Fr.app N144 Nq147
    have hbd149 : Bn 8 v_148 := own_bc (Bn.add P142_1 P144_1 he146) P147_0 P147_1 (own_st1 hb0 hb1)
    obtain ⟨_, _, ⟨T150, L150, k150, n150⟩, -, X150, ⟨Lc150, hQ150, l150, y150, z150⟩, st150⟩ := Jvm.LawKit.callS X147 hx (y := yn16) hown (mvT hZ (w173 hw)) (mvT hZ (w174 hw)) (mvT hZ (w53 hw)) (mvT hZ (w175 hw)) (by decide) (backOf (W := 0) (rm_two1 l Z a0 hw [] p_ n_ v_148 0 2 kp [.long x0, .long x1, .long x2, .long x3] x0 x2 h0 n0 Z0 VP (nb rfl) (nb rfl) rfl hb0 rfl hb2) hZ (w175 hw) (w53 hw) (by decide) (by decide)) (g := (mkF m 94 #[.val (.ref p_), .val (.int n_), .val (.int (2 : Int32)), .val (.int (1 : Int32)), .val (.long v_148), .second] [(.long v_148), (.int (2 : Int32)), (.int (0 : Int32)), (.int (1 : Int32)), (.int n_), (.ref p_)])) rfl (by rw [hml]; rfl) (argsL := [(.ref p_), (.int n_), (.int (1 : Int32)), (.int (0 : Int32)), (.int (2 : Int32)), (.long v_148)]) (rest := []) (lenOf pd10 rfl) rfl (wq rfl) (D_ d17_94) (fun _ _ => ⟨rfl, eq147, (nb rfl), (nb rfl)⟩)
    dsimp only [Pt.U, Pt.locs, Pt.cells, Pt.slots] at X150 l150 y150 z150 st150 hQ150
    subst l150 y150 z150
    obtain ⟨v_151, rfl, Nq150, eq150, P150_0, P150_1⟩ := hQ150
    have N150 := Fr.app N147 Nq150
    have hbd152 : Bn 8 v_151 := own_bc hbd149 P150_0 P150_1 (own_st1 hb0 hb2)
    obtain ⟨_, _, ⟨T153, L153, k153, n153⟩, -, X153, ⟨Lc153, hQ153, l153, y153, z153⟩, st153⟩ := Jvm.LawKit.callS X150 hx (y := yn16) hown (mvT hZ (w173 hw)) (mvT hZ (w174 hw)) (mvT hZ (w53 hw)) (mvT hZ (w175 hw)) (by decide) (backOf (W := 0) (rm_two1 l Z a0 hw [] p_ n_ v_151 0 3 kp [.long x0, .long x1, .long x2, .long x3] x0 x3 h0 n0 Z0 VP (nb rfl) (nb rfl) rfl hb0 rfl hb3) hZ (w175 hw) (w53 hw) (by decide) (by decide)) (g := (mkF m 106 #[.val (.ref p_), .val (.int n_), .val (.int (2 : Int32)), .val (.int (1 : Int32)), .val (.long v_151), .second] [(.long v_151), (.int (3 : Int32)), (.int (0 : Int32)), (.int (1 : Int32)), (.int n_), (.ref p_)])) rfl (by rw [hml]; rfl) (argsL := [(.ref p_), (.int n_), (.int (1 : Int32)), (.int (0 : Int32)), (.int (3 : Int32)), (.long v_151)]) (rest := []) (lenOf pd10 rfl) rfl (wq rfl) (D_ d17_106) (fun _ _ => ⟨rfl, eq150, (nb rfl), (nb rfl)⟩)
    dsimp only [Pt.U, Pt.locs, Pt.cells, Pt.slots] at X153 l153 y153 z153 st153 hQ153
    subst l153 y153 z153
    obtain ⟨v_154, rfl, Nq153, eq153, P153_0, P153_1⟩ := hQ153
    have N153 := Fr.app N150 Nq153
    have hbd155 : Bn 8 v_154 := own_bc hbd152 P153_0 P153_1 (own_st1 hb0 hb3)
    obtain ⟨_, _, ⟨T156, L156, k156, n156⟩, -, X156, ⟨Lc156, hQ156, l156, y156, z156⟩, st156⟩ := Jvm.LawKit.callS X153 hx (y := yn16) hown (mvT hZ (w173 hw)) (mvT hZ (w174 hw)) (mvT hZ (w53 hw)) (mvT hZ (w175 hw)) (by decide) (backOf (W := 0) (rm_two1 l Z a0 hw [] p_ n_ v_154 1 2 kp [.long x0, .long x1, .long x2, .long x3] x1 x2 h0 n0 Z0 VP (nb rfl) (nb rfl) rfl hb1 rfl hb2) hZ (w175 hw) (w53 hw) (by decide) (by decide)) (g := (mkF m 118 #[.val (.ref p_), .val (.int n_), .val (.int (2 : Int32)), .val (.int (1 : Int32)), .val (.long v_154), .second] [(.long v_154), (.int (2 : Int32)), (.int (1 : Int32)), (.int (1 : Int32)), (.int n_), (.ref p_)])) rfl (by rw [hml]; rfl) (argsL := [(.ref p_), (.int n_), (.int (1 : Int32)), (.int (1 : Int32)), (.int (2 : Int32)), (.long v_154)]) (rest := []) (lenOf pd10 rfl) rfl (wq rfl) (D_ d17_118) (fun _ _ => ⟨rfl, eq153, (nb rfl), (nb rfl)⟩)
    dsimp only [Pt.U, Pt.locs, Pt.cells, Pt.slots] at X156 l156 y156 z156 st156 hQ156
    subst l156 y156 z156
    obtain ⟨v_157, rfl, Nq156, eq156, P156_0, P156_1⟩ := hQ156
    have N156 := Fr.app N153 Nq156
    have hbd158 : Bn 8 v_157 := own_bc hbd155 P156_0 P156_1 (own_st1 hb1 hb2)
    obtain ⟨_, _, ⟨T159, L159, k159, n159⟩, -, X159, ⟨Lc159, hQ159, l159, y159, z159⟩, st159⟩ := Jvm.LawKit.callS X156 hx (y := yn16) hown (mvT hZ (w173 hw)) (mvT hZ (w174 hw)) (mvT hZ (w53 hw)) (mvT hZ (w175 hw)) (by decide) (backOf (W := 0) (rm_two1 l Z a0 hw [] p_ n_ v_157 1 3 kp [.long x0, .long x1, .long x2, .long x3] x1 x3 h0 n0 Z0 VP (nb rfl) (nb rfl) rfl hb1 rfl hb3) hZ (w175 hw) (w53 hw) (by decide) (by decide)) (g := (mkF m 130 #[.val (.ref p_), .val (.int n_), .val (.int (2 : Int32)), .val (.int (1 : Int32)), .val (.long v_157), .second] [(.long v_157), (.int (3 : Int32)), (.int (1 : Int32)), (.int (1 : Int32)), (.int n_), (.ref p_)])) rfl (by rw [hml]; rfl) (argsL := [(.ref p_), (.int n_), (.int (1 : Int32)), (.int (1 : Int32)), (.int (3 : Int32)), (.long v_157)]) (rest := []) (lenOf pd10 rfl) rfl (wq rfl) (D_ d17_130) (fun _ _ => ⟨rfl, eq156, (nb rfl), (nb rfl)⟩)
    dsimp only [Pt.U, Pt.locs, Pt.cells, Pt.slots] at X159 l159 y159 z159 st159 hQ159
    subst l159 y159 z159
    obtain ⟨v_160, rfl, Nq159, eq159, P159_0, P159_1⟩ := hQ159
    have N159 := Fr.app N156 Nq159
    have hbd161 : Bn 8 v_160 := own_bc hbd158 P159_0 P159_1 (own_st1 hb1 hb3)
    obtain ⟨_, _, ⟨T162, L162, k162, n162⟩, -, X162, ⟨Lc162, hQ162, l162, y162, z162⟩, st162⟩ := Jvm.LawKit.callS X159 hx (y := yn16) hown (mvT hZ (w173 hw)) (mvT hZ (w174 hw)) (mvT hZ (w53 hw)) (mvT hZ (w175 hw)) (by decide) (backOf (W := 0) (rm_two1 l Z a0 hw [] p_ n_ v_160 2 3 kp [.long x0, .long x1, .long x2, .long x3] x2 x3 h0 n0 Z0 VP (nb rfl) (nb rfl) rfl hb2 rfl hb3) hZ (w175 hw) (w53 hw) (by decide) (by decide)) (g := (mkF m 142 #[.val (.ref p_), .val (.int n_), .val (.int (2 : Int32)), .val (.int (1 : Int32)), .val (.long v_160), .second] [(.long v_160), (.int (3 : Int32)), (.int (2 : Int32)), (.int (1 : Int32)), (.int n_), (.ref p_)])) rfl (by rw [hml]; rfl) (argsL := [(.ref p_), (.int n_), (.int (1 : Int32)), (.int (2 : Int32)), (.int (3 : Int32)), (.long v_160)]) (rest := []) (lenOf pd10 rfl) rfl (wq rfl) (D_ d17_142) (fun _ _ => ⟨rfl, eq159, (nb rfl), (nb rfl)⟩)
    dsimp only [Pt.U, Pt.locs, Pt.cells, Pt.slots] at X162 l162 y162 z162 st162 hQ162
    subst l162 y162 z162
    obtain ⟨v_163, rfl, Nq162, eq162, P162_0, P162_1⟩ := hQ162
    have N162 := Fr.app N159 Nq162
    have hbd164 : Bn 8 v_163 := own_bc hbd161 P162_0 P162_1 (own_st1 hb2 hb3)
    have W165 : ∀ zQ, SS p e below T162 m 149 #[.val (.ref p_), .val (.int n_), .val (.int (2 : Int32)), .val (.int (1 : Int32)), .val (.long v_163), .second] [(.long v_163)] zQ → Steps p.tables e below (s₁.setTop (entryFrame m #[(.ref p_), (.int n_), (.int ct), (.int le)] 6)) zQ := by
      intro tt kt
      refine W0 tt ?_
      rw [show ct = (2 : Int32) from hct]
      show SS p e below s₁ m 0 #[.val (.ref p_), .val (.int n_), .val (.int (2 : Int32)), .val (.int le), .unset, .unset] [] _
      rw [show le = (1 : Int32) from hle]
      refine XS.iloadN X0.here hx rfl (D_ d17_0) rfl ?_
      refine XS.ifYes X0.here hx rfl (pc0 := 1) (pc' := 6) rfl (D_ d17_1) rfl ((if0 _ _).trans (feq (by decide)).2) (by decide) (by decide) ?_
      refine XS.iloadN X0.here hx rfl (D_ d17_6) rfl ?_
      refine XS.iconst X0.here hx rfl (D_ d17_7) ?_
      refine XS.icmpYes X0.here hx rfl (pc0 := 8) (pc' := 55) rfl (D_ d17_8) rfl (feq (by decide)).2 (by decide) (by decide) ?_
      refine XS.iloadN X0.here hx rfl (D_ d17_55) rfl ?_
      refine XS.iconst X0.here hx rfl (D_ d17_56) ?_
      refine XS.icmpNo X0.here hx rfl (D_ d17_57) rfl (teq (by decide)).2 ?_
      refine XS.aloadN X0.here hx rfl (D_ d17_60) rfl rfl ?_
      refine XS.iconst X0.here hx rfl (D_ d17_61) ?_
      refine XS.iloadN X0.here hx rfl (D_ d17_62) rfl ?_
      refine st142 _ ?_
      refine XS.aloadN X142.here hx rfl (D_ d17_66) rfl rfl ?_
      refine XS.iloadN X142.here hx rfl (D_ d17_67) rfl ?_
      refine XS.iloadN X142.here hx rfl (D_ d17_68) rfl ?_
      refine st144 _ ?_
      refine XS.ladd X144.here hx rfl (D_ d17_72) rfl ?_
      show SS p e below T144 m 73 #[.val (.ref p_), .val (.int n_), .val (.int (2 : Int32)), .val (.int (1 : Int32)), .unset, .unset] [(.long (v_143 + v_145))] _
      rw [← h_bs]
      refine XS.lstore X144.here hx rfl (D_ d17_73) rfl (l' := #[.val (.ref p_), .val (.int n_), .val (.int (2 : Int32)), .val (.int (1 : Int32)), .val (.long bs), .second]) rfl ?_
      refine XS.aloadN X144.here hx rfl (D_ d17_75) rfl rfl ?_
      refine XS.iloadN X144.here hx rfl (D_ d17_76) rfl ?_
      refine XS.iloadN X144.here hx rfl (D_ d17_77) rfl ?_
      refine XS.iconst X144.here hx rfl (D_ d17_78) ?_
      refine XS.iconst X144.here hx rfl (D_ d17_79) ?_
      refine XS.lload X144.here hx rfl (D_ d17_80) rfl ?_
      refine st147 _ ?_
      refine XS.lstore X147.here hx rfl (D_ d17_85) rfl (l' := #[.val (.ref p_), .val (.int n_), .val (.int (2 : Int32)), .val (.int (1 : Int32)), .val (.long v_148), .second]) rfl ?_
      refine XS.aloadN X147.here hx rfl (D_ d17_87) rfl rfl ?_
      refine XS.iloadN X147.here hx rfl (D_ d17_88) rfl ?_
      refine XS.iloadN X147.here hx rfl (D_ d17_89) rfl ?_
      refine XS.iconst X147.here hx rfl (D_ d17_90) ?_
      refine XS.iconst X147.here hx rfl (D_ d17_91) ?_
      refine XS.lload X147.here hx rfl (D_ d17_92) rfl ?_
      refine st150 _ ?_
      refine XS.lstore X150.here hx rfl (D_ d17_97) rfl (l' := #[.val (.ref p_), .val (.int n_), .val (.int (2 : Int32)), .val (.int (1 : Int32)), .val (.long v_151), .second]) rfl ?_
      refine XS.aloadN X150.here hx rfl (D_ d17_99) rfl rfl ?_
      refine XS.iloadN X150.here hx rfl (D_ d17_100) rfl ?_
      refine XS.iloadN X150.here hx rfl (D_ d17_101) rfl ?_
      refine XS.iconst X150.here hx rfl (D_ d17_102) ?_
      refine XS.iconst X150.here hx rfl (D_ d17_103) ?_
      refine XS.lload X150.here hx rfl (D_ d17_104) rfl ?_
      refine st153 _ ?_
      refine XS.lstore X153.here hx rfl (D_ d17_109) rfl (l' := #[.val (.ref p_), .val (.int n_), .val (.int (2 : Int32)), .val (.int (1 : Int32)), .val (.long v_154), .second]) rfl ?_
      refine XS.aloadN X153.here hx rfl (D_ d17_111) rfl rfl ?_
      refine XS.iloadN X153.here hx rfl (D_ d17_112) rfl ?_
      refine XS.iloadN X153.here hx rfl (D_ d17_113) rfl ?_
      refine XS.iconst X153.here hx rfl (D_ d17_114) ?_
      refine XS.iconst X153.here hx rfl (D_ d17_115) ?_
      refine XS.lload X153.here hx rfl (D_ d17_116) rfl ?_
      refine st156 _ ?_
      refine XS.lstore X156.here hx rfl (D_ d17_121) rfl (l' := #[.val (.ref p_), .val (.int n_), .val (.int (2 : Int32)), .val (.int (1 : Int32)), .val (.long v_157), .second]) rfl ?_
      refine XS.aloadN X156.here hx rfl (D_ d17_123) rfl rfl ?_
      refine XS.iloadN X156.here hx rfl (D_ d17_124) rfl ?_
      refine XS.iloadN X156.here hx rfl (D_ d17_125) rfl ?_
      refine XS.iconst X156.here hx rfl (D_ d17_126) ?_
      refine XS.iconst X156.here hx rfl (D_ d17_127) ?_
      refine XS.lload X156.here hx rfl (D_ d17_128) rfl ?_
      show SS p e below T156 m 130 #[.val (.ref p_), .val (.int n_), .val (.int (2 : Int32)), .val (.int (1 : Int32)), .val (.long v_157), .second] [(.long v_157), (.int (3 : Int32)), (.int (1 : Int32)), (.int (1 : Int32)), (.int n_), (.ref p_)] _
      refine st159 _ ?_
      refine XS.lstore X159.here hx rfl (D_ d17_133) rfl (l' := #[.val (.ref p_), .val (.int n_), .val (.int (2 : Int32)), .val (.int (1 : Int32)), .val (.long v_160), .second]) rfl ?_
      refine XS.aloadN X159.here hx rfl (D_ d17_135) rfl rfl ?_
      refine XS.iloadN X159.here hx rfl (D_ d17_136) rfl ?_
      refine XS.iloadN X159.here hx rfl (D_ d17_137) rfl ?_
      refine XS.iconst X159.here hx rfl (D_ d17_138) ?_
      refine XS.iconst X159.here hx rfl (D_ d17_139) ?_
      refine XS.lload X159.here hx rfl (D_ d17_140) rfl ?_
      refine st162 _ ?_
      refine XS.lstore X162.here hx rfl (D_ d17_145) rfl (l' := #[.val (.ref p_), .val (.int n_), .val (.int (2 : Int32)), .val (.int (1 : Int32)), .val (.long v_163), .second]) rfl ?_
      refine XS.lload X162.here hx rfl (D_ d17_147) rfl ?_
      exact kt
    have hI166 : IsM v_163.toInt (dpl n_ ct le x0.toInt x1.toInt x2.toInt x3.toInt) := by
      rcases hn with hn | hn | hn
      · rw [hn, hct, hle, dpl2_21]; exact (own_dp11 P142_0 P144_0 he146 (P147_1 (by rw [hn]; decide)).1 (P147_1 (by rw [hn]; decide)).2.1 (P147_1 (by rw [hn]; decide)).2.2 (congrArg Int64.toInt (P150_0 (by rw [hn]; decide))) (congrArg Int64.toInt (P153_0 (by rw [hn]; decide))) (congrArg Int64.toInt (P156_0 (by rw [hn]; decide))) (congrArg Int64.toInt (P159_0 (by rw [hn]; decide))) (congrArg Int64.toInt (P162_0 (by rw [hn]; decide))))
      · rw [hn, hct, hle, dpl3_21]; exact (own_dp12 P142_0 P144_0 he146 (P147_1 (by rw [hn]; decide)).1 (P147_1 (by rw [hn]; decide)).2.1 (P147_1 (by rw [hn]; decide)).2.2 (P150_1 (by rw [hn]; decide)).1 (P150_1 (by rw [hn]; decide)).2.1 (P150_1 (by rw [hn]; decide)).2.2 (congrArg Int64.toInt (P153_0 (by rw [hn]; decide))) (P156_1 (by rw [hn]; decide)).1 (P156_1 (by rw [hn]; decide)).2.1 (P156_1 (by rw [hn]; decide)).2.2 (congrArg Int64.toInt (P159_0 (by rw [hn]; decide))) (congrArg Int64.toInt (P162_0 (by rw [hn]; decide))))
      · rw [hn, hct, hle, dpl4_21]; exact (own_dp13 P142_0 P144_0 he146 (P147_1 (by rw [hn]; decide)).1 (P147_1 (by rw [hn]; decide)).2.1 (P147_1 (by rw [hn]; decide)).2.2 (P150_1 (by rw [hn]; decide)).1 (P150_1 (by rw [hn]; decide)).2.1 (P150_1 (by rw [hn]; decide)).2.2 (P153_1 (by rw [hn]; decide)).1 (P153_1 (by rw [hn]; decide)).2.1 (P153_1 (by rw [hn]; decide)).2.2 (P156_1 (by rw [hn]; decide)).1 (P156_1 (by rw [hn]; decide)).2.1 (P156_1 (by rw [hn]; decide)).2.2 (P159_1 (by rw [hn]; decide)).1 (P159_1 (by rw [hn]; decide)).2.1 (P159_1 (by rw [hn]; decide)).2.2 (P162_1 (by rw [hn]; decide)).1 (P162_1 (by rw [hn]; decide)).2.1 (P162_1 (by rw [hn]; decide)).2.2)
    obtain ⟨fs, hr, hrun, hended, hW, hsame⟩ := X162.leave (v := some (.long v_163)) (fun h => by rw [Bd.returns] at h; cases h)
    refine ⟨_, _, W165 _ (own_retJ X162 hx Bd.returns (D_ d17_149) hr), hrun, hended, _, _, rfl, ?_, ⟨_, rfl⟩, hW, hsame.mono (by decide) (by decide)⟩
    show Q_refr Z p_ n_ ct le kp x0 x1 x2 x3 h0 n0 _ T162.heap _
    rw [eq162]
    exact ⟨v_163, rfl, N162, rfl, hI166, (Bn.mono hbd164 (by decide))⟩
  ·
    obtain ⟨_, _, ⟨T167, L167, k167, n167⟩, -, X167, ⟨Lc167, hQ167, l167, y167, z167⟩, st167⟩ := Jvm.LawKit.callS X0 hx (y := yn14) hown (mvT hZ (w164 hw)) (mvT hZ (w165 hw)) (mvT hZ (w53 hw)) (mvT hZ (w166 hw)) (by decide) (backOf (W := 0) (rm_w2 l Z a0 hw [] p_ 0 kp [.long x0, .long x1, .long x2, .long x3] x0 x1 h0 n0 Z0 VP (nb rfl) rfl rfl hb0 hb1) hZ (w166 hw) (w53 hw) (by decide) (by decide)) (g := (mkF m 63 #[.val (.ref p_), .val (.int n_), .val (.int (2 : Int32)), .val (.int (2 : Int32)), .unset, .unset] [(.int (2 : Int32)), (.int (0 : Int32)), (.ref p_)])) rfl (by rw [hml]; rfl) (argsL := [(.ref p_), (.int (0 : Int32)), (.int (2 : Int32))]) (rest := []) (lenOf pd8 rfl) rfl (wq rfl) (D_ d17_63) (fun _ _ => ⟨rfl, e0, (nb rfl), (nb rfl)⟩)
    dsimp only [Pt.U, Pt.locs, Pt.cells, Pt.slots] at X167 l167 y167 z167 st167 hQ167
    subst l167 y167 z167
    obtain ⟨v_168, rfl, Nq167, eq167, P167_0, P167_1⟩ := hQ167
    have N167 := Fr.app N0 Nq167
    obtain ⟨_, _, ⟨T169, L169, k169, n169⟩, -, X169, ⟨Lc169, hQ169, l169, y169, z169⟩, st169⟩ := Jvm.LawKit.callS X167 hx (y := yn14) hown (mvT hZ (w164 hw)) (mvT hZ (w165 hw)) (mvT hZ (w53 hw)) (mvT hZ (w166 hw)) (by decide) (backOf (W := 2) (rm_w2 l Z a0 hw [] p_ 2 kp [.long x0, .long x1, .long x2, .long x3] x2 x3 h0 n0 Z0 VP (nb rfl) rfl rfl hb2 hb3) hZ (w166 hw) (w53 hw) (by decide) (by decide)) (g := (mkF m 69 #[.val (.ref p_), .val (.int n_), .val (.int (2 : Int32)), .val (.int (2 : Int32)), .unset, .unset] [(.int (2 : Int32)), (.int (2 : Int32)), (.ref p_), (.long v_168)])) rfl (by rw [hml]; rfl) (argsL := [(.ref p_), (.int (2 : Int32)), (.int (2 : Int32))]) (rest := [(.long v_168)]) (lenOf pd8 rfl) rfl (wq rfl) (D_ d17_69) (fun _ _ => ⟨rfl, eq167, (nb rfl), (nb rfl)⟩)
    dsimp only [Pt.U, Pt.locs, Pt.cells, Pt.slots] at X169 l169 y169 z169 st169 hQ169
    subst l169 y169 z169
    obtain ⟨v_170, rfl, Nq169, eq169, P169_0, P169_1⟩ := hQ169
    have N169 := Fr.app N167 Nq169
    obtain ⟨bs, h_bs⟩ : ∃ z : Int64, z = (v_168 + v_170) := ⟨_, rfl⟩
    have he171 : bs.toInt = v_168.toInt + v_170.toInt := by rw [h_bs]; exact own_tadd (Bn.mono P167_1 (by decide)) (Bn.mono P169_1 (by decide))
    obtain ⟨_, _, ⟨T172, L172, k172, n172⟩, -, X172, ⟨Lc172, hQ172, l172, y172, z172⟩, st172⟩ := Jvm.LawKit.callS X169 hx (y := yn16) hown (mvT hZ (w173 hw)) (mvT hZ (w174 hw)) (mvT hZ (w53 hw)) (mvT hZ (w175 hw)) (by decide) (backOf (W := 0) (rm_twoN1 l Z a0 hw [] p_ n_ (2 : Int32) (0 : Int32) (1 : Int32) bs h0 n0 Z0 (by decide : ((1 : Int32) - (0 : Int32)) < (2 : Int32))) hZ (w175 hw) (w53 hw) (by decide) (by decide)) (g := (mkF m 82 #[.val (.ref p_), .val (.int n_), .val (.int (2 : Int32)), .val (.int (2 : Int32)), .val (.long bs), .second] [(.long bs), (.int (1 : Int32)), (.int (0 : Int32)), (.int (2 : Int32)), (.int n_), (.ref p_)])) rfl (by rw [hml]; rfl) (argsL := [(.ref p_), (.int n_), (.int (2 : Int32)), (.int (0 : Int32)), (.int (1 : Int32)), (.long bs)]) (rest := []) (lenOf pd10 rfl) rfl (wq rfl) (D_ d17_82) (fun _ _ => ⟨rfl, eq169, (nb rfl), (nb rfl)⟩)
    dsimp only [Pt.U, Pt.locs, Pt.cells, Pt.slots] at X172 l172 y172 z172 st172 hQ172
    subst l172 y172 z172
    obtain ⟨rfl, Nq172, eq172⟩ := hQ172
    have N172 := Fr.app N169 Nq172
    obtain ⟨_, _, ⟨T173, L173, k173, n173⟩, -, X173, ⟨Lc173, hQ173, l173, y173, z173⟩, st173⟩ := Jvm.LawKit.callS X172 hx (y := yn16) hown (mvT hZ (w173 hw)) (mvT hZ (w174 hw)) (mvT hZ (w53 hw)) (mvT hZ (w175 hw)) (by decide) (backOf (W := 0) (rm_two2 l Z a0 hw [] p_ n_ bs 0 2 kp [.long x0, .long x1, .long x2, .long x3] x0 x1 x2 x3 h0 n0 Z0 VP (nb rfl) (nb rfl) rfl rfl hb0 hb1 rfl rfl hb2 hb3) hZ (w175 hw) (w53 hw) (by decide) (by decide)) (g := (mkF m 94 #[.val (.ref p_), .val (.int n_), .val (.int (2 : Int32)), .val (.int (2 : Int32)), .val (.long bs), .second] [(.long bs), (.int (2 : Int32)), (.int (0 : Int32)), (.int (2 : Int32)), (.int n_), (.ref p_)])) rfl (by rw [hml]; rfl) (argsL := [(.ref p_), (.int n_), (.int (2 : Int32)), (.int (0 : Int32)), (.int (2 : Int32)), (.long bs)]) (rest := []) (lenOf pd10 rfl) rfl (wq rfl) (D_ d17_94) (fun _ _ => ⟨rfl, eq172, (nb rfl), (nb rfl)⟩)
    dsimp only [Pt.U, Pt.locs, Pt.cells, Pt.slots] at X173 l173 y173 z173 st173 hQ173
    subst l173 y173 z173
    obtain ⟨v_174, rfl, Nq173, eq173, P173_0, P173_1⟩ := hQ173
    have N173 := Fr.app N172 Nq173
    have hbd175 : Bn 8 v_174 := own_bc (Bn.add P167_1 P169_1 he171) P173_0 P173_1 (own_st2 hb0 hb1 hb2 hb3)
    obtain ⟨_, _, ⟨T176, L176, k176, n176⟩, -, X176, ⟨Lc176, hQ176, l176, y176, z176⟩, st176⟩ := Jvm.LawKit.callS X173 hx (y := yn16) hown (mvT hZ (w173 hw)) (mvT hZ (w174 hw)) (mvT hZ (w53 hw)) (mvT hZ (w175 hw)) (by decide) (backOf (W := 0) (rm_twoN2 l Z a0 hw [] p_ n_ (2 : Int32) (0 : Int32) (3 : Int32) v_174 h0 n0 Z0 (by decide : ¬ (((3 : Int32) - (0 : Int32)) < (2 : Int32))) (by rw [hn]; decide)) hZ (w175 hw) (w53 hw) (by decide) (by decide)) (g := (mkF m 106 #[.val (.ref p_), .val (.int n_), .val (.int (2 : Int32)), .val (.int (2 : Int32)), .val (.long v_174), .second] [(.long v_174), (.int (3 : Int32)), (.int (0 : Int32)), (.int (2 : Int32)), (.int n_), (.ref p_)])) rfl (by rw [hml]; rfl) (argsL := [(.ref p_), (.int n_), (.int (2 : Int32)), (.int (0 : Int32)), (.int (3 : Int32)), (.long v_174)]) (rest := []) (lenOf pd10 rfl) rfl (wq rfl) (D_ d17_106) (fun _ _ => ⟨rfl, eq173, (nb rfl), (nb rfl)⟩)
    dsimp only [Pt.U, Pt.locs, Pt.cells, Pt.slots] at X176 l176 y176 z176 st176 hQ176
    subst l176 y176 z176
    obtain ⟨rfl, Nq176, eq176⟩ := hQ176
    have N176 := Fr.app N173 Nq176
    obtain ⟨_, _, ⟨T177, L177, k177, n177⟩, -, X177, ⟨Lc177, hQ177, l177, y177, z177⟩, st177⟩ := Jvm.LawKit.callS X176 hx (y := yn16) hown (mvT hZ (w173 hw)) (mvT hZ (w174 hw)) (mvT hZ (w53 hw)) (mvT hZ (w175 hw)) (by decide) (backOf (W := 0) (rm_twoN1 l Z a0 hw [] p_ n_ (2 : Int32) (1 : Int32) (2 : Int32) v_174 h0 n0 Z0 (by decide : ((2 : Int32) - (1 : Int32)) < (2 : Int32))) hZ (w175 hw) (w53 hw) (by decide) (by decide)) (g := (mkF m 118 #[.val (.ref p_), .val (.int n_), .val (.int (2 : Int32)), .val (.int (2 : Int32)), .val (.long v_174), .second] [(.long v_174), (.int (2 : Int32)), (.int (1 : Int32)), (.int (2 : Int32)), (.int n_), (.ref p_)])) rfl (by rw [hml]; rfl) (argsL := [(.ref p_), (.int n_), (.int (2 : Int32)), (.int (1 : Int32)), (.int (2 : Int32)), (.long v_174)]) (rest := []) (lenOf pd10 rfl) rfl (wq rfl) (D_ d17_118) (fun _ _ => ⟨rfl, eq176, (nb rfl), (nb rfl)⟩)
    dsimp only [Pt.U, Pt.locs, Pt.cells, Pt.slots] at X177 l177 y177 z177 st177 hQ177
    subst l177 y177 z177
    obtain ⟨rfl, Nq177, eq177⟩ := hQ177
    have N177 := Fr.app N176 Nq177
    obtain ⟨_, _, ⟨T178, L178, k178, n178⟩, -, X178, ⟨Lc178, hQ178, l178, y178, z178⟩, st178⟩ := Jvm.LawKit.callS X177 hx (y := yn16) hown (mvT hZ (w173 hw)) (mvT hZ (w174 hw)) (mvT hZ (w53 hw)) (mvT hZ (w175 hw)) (by decide) (backOf (W := 0) (rm_twoN2 l Z a0 hw [] p_ n_ (2 : Int32) (1 : Int32) (3 : Int32) v_174 h0 n0 Z0 (by decide : ¬ (((3 : Int32) - (1 : Int32)) < (2 : Int32))) (by rw [hn]; decide)) hZ (w175 hw) (w53 hw) (by decide) (by decide)) (g := (mkF m 130 #[.val (.ref p_), .val (.int n_), .val (.int (2 : Int32)), .val (.int (2 : Int32)), .val (.long v_174), .second] [(.long v_174), (.int (3 : Int32)), (.int (1 : Int32)), (.int (2 : Int32)), (.int n_), (.ref p_)])) rfl (by rw [hml]; rfl) (argsL := [(.ref p_), (.int n_), (.int (2 : Int32)), (.int (1 : Int32)), (.int (3 : Int32)), (.long v_174)]) (rest := []) (lenOf pd10 rfl) rfl (wq rfl) (D_ d17_130) (fun _ _ => ⟨rfl, eq177, (nb rfl), (nb rfl)⟩)
    dsimp only [Pt.U, Pt.locs, Pt.cells, Pt.slots] at X178 l178 y178 z178 st178 hQ178
    subst l178 y178 z178
    obtain ⟨rfl, Nq178, eq178⟩ := hQ178
    have N178 := Fr.app N177 Nq178
    obtain ⟨_, _, ⟨T179, L179, k179, n179⟩, -, X179, ⟨Lc179, hQ179, l179, y179, z179⟩, st179⟩ := Jvm.LawKit.callS X178 hx (y := yn16) hown (mvT hZ (w173 hw)) (mvT hZ (w174 hw)) (mvT hZ (w53 hw)) (mvT hZ (w175 hw)) (by decide) (backOf (W := 0) (rm_twoN1 l Z a0 hw [] p_ n_ (2 : Int32) (2 : Int32) (3 : Int32) v_174 h0 n0 Z0 (by decide : ((3 : Int32) - (2 : Int32)) < (2 : Int32))) hZ (w175 hw) (w53 hw) (by decide) (by decide)) (g := (mkF m 142 #[.val (.ref p_), .val (.int n_), .val (.int (2 : Int32)), .val (.int (2 : Int32)), .val (.long v_174), .second] [(.long v_174), (.int (3 : Int32)), (.int (2 : Int32)), (.int (2 : Int32)), (.int n_), (.ref p_)])) rfl (by rw [hml]; rfl) (argsL := [(.ref p_), (.int n_), (.int (2 : Int32)), (.int (2 : Int32)), (.int (3 : Int32)), (.long v_174)]) (rest := []) (lenOf pd10 rfl) rfl (wq rfl) (D_ d17_142) (fun _ _ => ⟨rfl, eq178, (nb rfl), (nb rfl)⟩)
    dsimp only [Pt.U, Pt.locs, Pt.cells, Pt.slots] at X179 l179 y179 z179 st179 hQ179
    subst l179 y179 z179
    obtain ⟨rfl, Nq179, eq179⟩ := hQ179
    have N179 := Fr.app N178 Nq179
    have W180 : ∀ zQ, SS p e below T179 m 149 #[.val (.ref p_), .val (.int n_), .val (.int (2 : Int32)), .val (.int (2 : Int32)), .val (.long v_174), .second] [(.long v_174)] zQ → Steps p.tables e below (s₁.setTop (entryFrame m #[(.ref p_), (.int n_), (.int ct), (.int le)] 6)) zQ := by
      intro tt kt
      refine W0 tt ?_
      rw [show ct = (2 : Int32) from hct]
      show SS p e below s₁ m 0 #[.val (.ref p_), .val (.int n_), .val (.int (2 : Int32)), .val (.int le), .unset, .unset] [] _
      rw [show le = (2 : Int32) from hle]
      refine XS.iloadN X0.here hx rfl (D_ d17_0) rfl ?_
      refine XS.ifYes X0.here hx rfl (pc0 := 1) (pc' := 6) rfl (D_ d17_1) rfl ((if0 _ _).trans (feq (by decide)).2) (by decide) (by decide) ?_
      refine XS.iloadN X0.here hx rfl (D_ d17_6) rfl ?_
      refine XS.iconst X0.here hx rfl (D_ d17_7) ?_
      refine XS.icmpYes X0.here hx rfl (pc0 := 8) (pc' := 55) rfl (D_ d17_8) rfl (feq (by decide)).2 (by decide) (by decide) ?_
      refine XS.iloadN X0.here hx rfl (D_ d17_55) rfl ?_
      refine XS.iconst X0.here hx rfl (D_ d17_56) ?_
      refine XS.icmpNo X0.here hx rfl (D_ d17_57) rfl (teq (by decide)).2 ?_
      refine XS.aloadN X0.here hx rfl (D_ d17_60) rfl rfl ?_
      refine XS.iconst X0.here hx rfl (D_ d17_61) ?_
      refine XS.iloadN X0.here hx rfl (D_ d17_62) rfl ?_
      refine st167 _ ?_
      refine XS.aloadN X167.here hx rfl (D_ d17_66) rfl rfl ?_
      refine XS.iloadN X167.here hx rfl (D_ d17_67) rfl ?_
      refine XS.iloadN X167.here hx rfl (D_ d17_68) rfl ?_
      refine st169 _ ?_
      refine XS.ladd X169.here hx rfl (D_ d17_72) rfl ?_
      show SS p e below T169 m 73 #[.val (.ref p_), .val (.int n_), .val (.int (2 : Int32)), .val (.int (2 : Int32)), .unset, .unset] [(.long (v_168 + v_170))] _
      rw [← h_bs]
      refine XS.lstore X169.here hx rfl (D_ d17_73) rfl (l' := #[.val (.ref p_), .val (.int n_), .val (.int (2 : Int32)), .val (.int (2 : Int32)), .val (.long bs), .second]) rfl ?_
      refine XS.aloadN X169.here hx rfl (D_ d17_75) rfl rfl ?_
      refine XS.iloadN X169.here hx rfl (D_ d17_76) rfl ?_
      refine XS.iloadN X169.here hx rfl (D_ d17_77) rfl ?_
      refine XS.iconst X169.here hx rfl (D_ d17_78) ?_
      refine XS.iconst X169.here hx rfl (D_ d17_79) ?_
      refine XS.lload X169.here hx rfl (D_ d17_80) rfl ?_
      refine st172 _ ?_
      refine XS.lstore X172.here hx rfl (D_ d17_85) rfl (l' := #[.val (.ref p_), .val (.int n_), .val (.int (2 : Int32)), .val (.int (2 : Int32)), .val (.long bs), .second]) rfl ?_
      refine XS.aloadN X172.here hx rfl (D_ d17_87) rfl rfl ?_
      refine XS.iloadN X172.here hx rfl (D_ d17_88) rfl ?_
      refine XS.iloadN X172.here hx rfl (D_ d17_89) rfl ?_
      refine XS.iconst X172.here hx rfl (D_ d17_90) ?_
      refine XS.iconst X172.here hx rfl (D_ d17_91) ?_
      refine XS.lload X172.here hx rfl (D_ d17_92) rfl ?_
      refine st173 _ ?_
      refine XS.lstore X173.here hx rfl (D_ d17_97) rfl (l' := #[.val (.ref p_), .val (.int n_), .val (.int (2 : Int32)), .val (.int (2 : Int32)), .val (.long v_174), .second]) rfl ?_
      refine XS.aloadN X173.here hx rfl (D_ d17_99) rfl rfl ?_
      refine XS.iloadN X173.here hx rfl (D_ d17_100) rfl ?_
      refine XS.iloadN X173.here hx rfl (D_ d17_101) rfl ?_
      refine XS.iconst X173.here hx rfl (D_ d17_102) ?_
      refine XS.iconst X173.here hx rfl (D_ d17_103) ?_
      refine XS.lload X173.here hx rfl (D_ d17_104) rfl ?_
      refine st176 _ ?_
      refine XS.lstore X176.here hx rfl (D_ d17_109) rfl (l' := #[.val (.ref p_), .val (.int n_), .val (.int (2 : Int32)), .val (.int (2 : Int32)), .val (.long v_174), .second]) rfl ?_
      refine XS.aloadN X176.here hx rfl (D_ d17_111) rfl rfl ?_
      refine XS.iloadN X176.here hx rfl (D_ d17_112) rfl ?_
      refine XS.iloadN X176.here hx rfl (D_ d17_113) rfl ?_
      refine XS.iconst X176.here hx rfl (D_ d17_114) ?_
      refine XS.iconst X176.here hx rfl (D_ d17_115) ?_
      refine XS.lload X176.here hx rfl (D_ d17_116) rfl ?_
      refine st177 _ ?_
      refine XS.lstore X177.here hx rfl (D_ d17_121) rfl (l' := #[.val (.ref p_), .val (.int n_), .val (.int (2 : Int32)), .val (.int (2 : Int32)), .val (.long v_174), .second]) rfl ?_
      refine XS.aloadN X177.here hx rfl (D_ d17_123) rfl rfl ?_
      refine XS.iloadN X177.here hx rfl (D_ d17_124) rfl ?_
      refine XS.iloadN X177.here hx rfl (D_ d17_125) rfl ?_
      refine XS.iconst X177.here hx rfl (D_ d17_126) ?_
      refine XS.iconst X177.here hx rfl (D_ d17_127) ?_
      refine XS.lload X177.here hx rfl (D_ d17_128) rfl ?_
      show SS p e below T177 m 130 #[.val (.ref p_), .val (.int n_), .val (.int (2 : Int32)), .val (.int (2 : Int32)), .val (.long v_174), .second] [(.long v_174), (.int (3 : Int32)), (.int (1 : Int32)), (.int (2 : Int32)), (.int n_), (.ref p_)] _
      refine st178 _ ?_
      refine XS.lstore X178.here hx rfl (D_ d17_133) rfl (l' := #[.val (.ref p_), .val (.int n_), .val (.int (2 : Int32)), .val (.int (2 : Int32)), .val (.long v_174), .second]) rfl ?_
      refine XS.aloadN X178.here hx rfl (D_ d17_135) rfl rfl ?_
      refine XS.iloadN X178.here hx rfl (D_ d17_136) rfl ?_
      refine XS.iloadN X178.here hx rfl (D_ d17_137) rfl ?_
      refine XS.iconst X178.here hx rfl (D_ d17_138) ?_
      refine XS.iconst X178.here hx rfl (D_ d17_139) ?_
      refine XS.lload X178.here hx rfl (D_ d17_140) rfl ?_
      refine st179 _ ?_
      refine XS.lstore X179.here hx rfl (D_ d17_145) rfl (l' := #[.val (.ref p_), .val (.int n_), .val (.int (2 : Int32)), .val (.int (2 : Int32)), .val (.long v_174), .second]) rfl ?_
      refine XS.lload X179.here hx rfl (D_ d17_147) rfl ?_
      exact kt
    have hI181 : IsM v_174.toInt (dpl n_ ct le x0.toInt x1.toInt x2.toInt x3.toInt) := by
      rw [hn, hct, hle, dpl4_22]; exact (own_dp14 P167_0 P169_0 he171 (P173_1 (by rw [hn]; decide)).1 (P173_1 (by rw [hn]; decide)).2.1 (P173_1 (by rw [hn]; decide)).2.2)
    obtain ⟨fs, hr, hrun, hended, hW, hsame⟩ := X179.leave (v := some (.long v_174)) (fun h => by rw [Bd.returns] at h; cases h)
    refine ⟨_, _, W180 _ (own_retJ X179 hx Bd.returns (D_ d17_149) hr), hrun, hended, _, _, rfl, ?_, ⟨_, rfl⟩, hW, hsame.mono (by decide) (by decide)⟩
    show Q_refr Z p_ n_ ct le kp x0 x1 x2 x3 h0 n0 _ T179.heap _
    rw [eq179]
    exact ⟨v_174, rfl, N179, rfl, hI181, (Bn.mono hbd175 (by decide))⟩
  ·
    rcases hn with hn | hn
    ·
      obtain ⟨_, _, ⟨T182, L182, k182, n182⟩, -, X182, ⟨Lc182, hQ182, l182, y182, z182⟩, st182⟩ := Jvm.LawKit.callS X0 hx (y := yn14) hown (mvT hZ (w164 hw)) (mvT hZ (w165 hw)) (mvT hZ (w53 hw)) (mvT hZ (w166 hw)) (by decide) (backOf (W := 0) (rm_w3 l Z a0 hw [] p_ 0 kp [.long x0, .long x1, .long x2, .long x3] x0 x1 x2 h0 n0 Z0 VP (nb rfl) rfl rfl rfl hb0 hb1 hb2) hZ (w166 hw) (w53 hw) (by decide) (by decide)) (g := (mkF m 153 #[.val (.ref p_), .val (.int (3 : Int32)), .val (.int (3 : Int32)), .val (.int (1 : Int32)), .unset, .unset] [(.int (3 : Int32)), (.int (0 : Int32)), (.ref p_)])) rfl (by rw [hml]; rfl) (argsL := [(.ref p_), (.int (0 : Int32)), (.int (3 : Int32))]) (rest := []) (lenOf pd8 rfl) rfl (wq rfl) (D_ d17_153) (fun _ _ => ⟨rfl, e0, (nb rfl), (nb rfl)⟩)
      dsimp only [Pt.U, Pt.locs, Pt.cells, Pt.slots] at X182 l182 y182 z182 st182 hQ182
      subst l182 y182 z182
      obtain ⟨v_183, rfl, Nq182, eq182, P182_0, P182_1⟩ := hQ182
      have N182 := Fr.app N0 Nq182
      have W184 : ∀ zQ, SS p e below T182 m 195 #[.val (.ref p_), .val (.int (3 : Int32)), .val (.int (3 : Int32)), .val (.int (1 : Int32)), .val (.long v_183), .second] [(.long v_183)] zQ → Steps p.tables e below (s₁.setTop (entryFrame m #[(.ref p_), (.int n_), (.int ct), (.int le)] 6)) zQ := by
        intro tt kt
        refine W0 tt ?_
        rw [show ct = (3 : Int32) from hct]
        show SS p e below s₁ m 0 #[.val (.ref p_), .val (.int n_), .val (.int (3 : Int32)), .val (.int le), .unset, .unset] [] _
        rw [show le = (1 : Int32) from hle]
        show SS p e below s₁ m 0 #[.val (.ref p_), .val (.int n_), .val (.int (3 : Int32)), .val (.int (1 : Int32)), .unset, .unset] [] _
        rw [show n_ = (3 : Int32) from hn]
        refine XS.iloadN X0.here hx rfl (D_ d17_0) rfl ?_
        refine XS.ifYes X0.here hx rfl (pc0 := 1) (pc' := 6) rfl (D_ d17_1) rfl ((if0 _ _).trans (feq (by decide)).2) (by decide) (by decide) ?_
        refine XS.iloadN X0.here hx rfl (D_ d17_6) rfl ?_
        refine XS.iconst X0.here hx rfl (D_ d17_7) ?_
        refine XS.icmpYes X0.here hx rfl (pc0 := 8) (pc' := 55) rfl (D_ d17_8) rfl (feq (by decide)).2 (by decide) (by decide) ?_
        refine XS.iloadN X0.here hx rfl (D_ d17_55) rfl ?_
        refine XS.iconst X0.here hx rfl (D_ d17_56) ?_
        refine XS.icmpYes X0.here hx rfl (pc0 := 57) (pc' := 150) rfl (D_ d17_57) rfl (feq (by decide)).2 (by decide) (by decide) ?_
        refine XS.aloadN X0.here hx rfl (D_ d17_150) rfl rfl ?_
        refine XS.iconst X0.here hx rfl (D_ d17_151) ?_
        refine XS.iloadN X0.here hx rfl (D_ d17_152) rfl ?_
        refine st182 _ ?_
        refine XS.lstore X182.here hx rfl (D_ d17_156) rfl (l' := #[.val (.ref p_), .val (.int (3 : Int32)), .val (.int (3 : Int32)), .val (.int (1 : Int32)), .val (.long v_183), .second]) rfl ?_
        refine XS.iloadN X182.here hx rfl (D_ d17_158) rfl ?_
        refine XS.iconst X182.here hx rfl (D_ d17_159) ?_
        refine XS.icmpNo X182.here hx rfl (D_ d17_160) rfl (teq (by decide)).2 ?_
        refine XS.iloadN X182.here hx rfl (D_ d17_163) rfl ?_
        refine XS.iconst X182.here hx rfl (D_ d17_164) ?_
        refine XS.icmpYes X182.here hx rfl (pc0 := 165) (pc' := 193) rfl (D_ d17_165) rfl (feq (by decide)).2 (by decide) (by decide) ?_
        refine XS.lload X182.here hx rfl (D_ d17_193) rfl ?_
        exact kt
      have hI185 : IsM v_183.toInt (dpl n_ ct le x0.toInt x1.toInt x2.toInt x3.toInt) := by
        rw [hn, hct, hle, dpl3_31]; exact (own_dp15 P182_0)
      obtain ⟨fs, hr, hrun, hended, hW, hsame⟩ := X182.leave (v := some (.long v_183)) (fun h => by rw [Bd.returns] at h; cases h)
      refine ⟨_, _, W184 _ (own_retJ X182 hx Bd.returns (D_ d17_195) hr), hrun, hended, _, _, rfl, ?_, ⟨_, rfl⟩, hW, hsame.mono (by decide) (by decide)⟩
      show Q_refr Z p_ n_ ct le kp x0 x1 x2 x3 h0 n0 _ T182.heap _
      rw [eq182]
      exact ⟨v_183, rfl, N182, rfl, hI185, (Bn.mono P182_1 (by decide))⟩
    ·
      obtain ⟨_, _, ⟨T186, L186, k186, n186⟩, -, X186, ⟨Lc186, hQ186, l186, y186, z186⟩, st186⟩ := Jvm.LawKit.callS X0 hx (y := yn14) hown (mvT hZ (w164 hw)) (mvT hZ (w165 hw)) (mvT hZ (w53 hw)) (mvT hZ (w166 hw)) (by decide) (backOf (W := 0) (rm_w4 l Z a0 hw [] p_ 0 kp [.long x0, .long x1, .long x2, .long x3] x0 x1 x2 x3 h0 n0 Z0 VP (nb rfl) rfl rfl rfl rfl hb0 hb1 hb2 hb3) hZ (w166 hw) (w53 hw) (by decide) (by decide)) (g := (mkF m 153 #[.val (.ref p_), .val (.int (4 : Int32)), .val (.int (3 : Int32)), .val (.int (1 : Int32)), .unset, .unset] [(.int (4 : Int32)), (.int (0 : Int32)), (.ref p_)])) rfl (by rw [hml]; rfl) (argsL := [(.ref p_), (.int (0 : Int32)), (.int (4 : Int32))]) (rest := []) (lenOf pd8 rfl) rfl (wq rfl) (D_ d17_153) (fun _ _ => ⟨rfl, e0, (nb rfl), (nb rfl)⟩)
      dsimp only [Pt.U, Pt.locs, Pt.cells, Pt.slots] at X186 l186 y186 z186 st186 hQ186
      subst l186 y186 z186
      obtain ⟨v_187, rfl, Nq186, eq186, P186_0, P186_1⟩ := hQ186
      have N186 := Fr.app N0 Nq186
      obtain ⟨cl188, Ar188, q188, S188, M188, H188, F188g⟩ := id VP
      have hin188 : ¬ ((0 : Int32) < 0 ∨ cl188.slots.size ≤ ((0 : Int32)).toNatClampNeg) := inb_of S188 ⟨by decide, by decide⟩
      have hat188 : cl188.slots[((0 : Int32)).toNatClampNeg]? = some (.long x0) := Has.at H188 hin188 rfl
      obtain ⟨cl189, Ar189, q189, S189, M189, H189, F189g⟩ := id VP
      have hin189 : ¬ ((1 : Int32) < 0 ∨ cl189.slots.size ≤ ((1 : Int32)).toNatClampNeg) := inb_of S189 ⟨by decide, by decide⟩
      have hat189 : cl189.slots[((1 : Int32)).toNatClampNeg]? = some (.long x1) := Has.at H189 hin189 rfl
      obtain ⟨_, _, ⟨T190, L190, k190, n190⟩, -, X190, ⟨Lc190, hQ190, l190, y190, z190⟩, st190⟩ := Jvm.LawKit.callS X186 hx (y := yn12) hown (mvT hZ (w176 hw)) (mvT hZ (w177 hw)) (mvT hZ (w93 hw)) (mvT hZ (w178 hw)) (by decide) (backOf (W := 2) (rm_lmin l Z a0 hw [] x0 x1 h0 n0 Z0 ) hZ (w178 hw) (w93 hw) (by decide) (by decide)) (g := (mkF m 176 #[.val (.ref p_), .val (.int (4 : Int32)), .val (.int (3 : Int32)), .val (.int (1 : Int32)), .val (.long v_187), .second] [(.long x1), (.long x0), (.long v_187)])) rfl (by rw [hml]; rfl) (argsL := [(.long x0), (.long x1)]) (rest := [(.long v_187)]) (lenOf pd3 rfl) rfl (wq rfl) (D_ d17_176) (fun _ _ => ⟨rfl, eq186, (nb rfl), (nb rfl)⟩)
      dsimp only [Pt.U, Pt.locs, Pt.cells, Pt.slots] at X190 l190 y190 z190 st190 hQ190
      subst l190 y190 z190
      obtain ⟨rfl, Nq190, eq190⟩ := hQ190
      have N190 := Fr.app N186 Nq190
      obtain ⟨mn176, h_mn176⟩ : ∃ z : Int64, z = (if x1 < x0 then x1 else x0) := ⟨_, rfl⟩
      have hm191 := own_lmN (a := x0) (b := x1)
      rw [← h_mn176] at hm191
      obtain ⟨cl192, Ar192, q192, S192, M192, H192, F192g⟩ := id VP
      have hin192 : ¬ ((2 : Int32) < 0 ∨ cl192.slots.size ≤ ((2 : Int32)).toNatClampNeg) := inb_of S192 ⟨by decide, by decide⟩
      have hat192 : cl192.slots[((2 : Int32)).toNatClampNeg]? = some (.long x2) := Has.at H192 hin192 rfl
      obtain ⟨cl193, Ar193, q193, S193, M193, H193, F193g⟩ := id VP
      have hin193 : ¬ ((3 : Int32) < 0 ∨ cl193.slots.size ≤ ((3 : Int32)).toNatClampNeg) := inb_of S193 ⟨by decide, by decide⟩
      have hat193 : cl193.slots[((3 : Int32)).toNatClampNeg]? = some (.long x3) := Has.at H193 hin193 rfl
      obtain ⟨_, _, ⟨T194, L194, k194, n194⟩, -, X194, ⟨Lc194, hQ194, l194, y194, z194⟩, st194⟩ := Jvm.LawKit.callS X190 hx (y := yn12) hown (mvT hZ (w176 hw)) (mvT hZ (w177 hw)) (mvT hZ (w93 hw)) (mvT hZ (w178 hw)) (by decide) (backOf (W := 4) (rm_lmin l Z a0 hw [] x2 x3 h0 n0 Z0 ) hZ (w178 hw) (w93 hw) (by decide) (by decide)) (g := (mkF m 185 #[.val (.ref p_), .val (.int (4 : Int32)), .val (.int (3 : Int32)), .val (.int (1 : Int32)), .val (.long v_187), .second] [(.long x3), (.long x2), (.long mn176), (.long v_187)])) rfl (by rw [hml]; rfl) (argsL := [(.long x2), (.long x3)]) (rest := [(.long mn176), (.long v_187)]) (lenOf pd3 rfl) rfl (wq rfl) (D_ d17_185) (fun _ _ => ⟨rfl, eq190, (nb rfl), (nb rfl)⟩)
      dsimp only [Pt.U, Pt.locs, Pt.cells, Pt.slots] at X194 l194 y194 z194 st194 hQ194
      subst l194 y194 z194
      obtain ⟨rfl, Nq194, eq194⟩ := hQ194
      have N194 := Fr.app N190 Nq194
      obtain ⟨mn185, h_mn185⟩ : ∃ z : Int64, z = (if x3 < x2 then x3 else x2) := ⟨_, rfl⟩
      have hm195 := own_lmN (a := x2) (b := x3)
      rw [← h_mn185] at hm195
      obtain ⟨_, _, ⟨T196, L196, k196, n196⟩, -, X196, ⟨Lc196, hQ196, l196, y196, z196⟩, st196⟩ := Jvm.LawKit.callS X194 hx (y := yn12) hown (mvT hZ (w176 hw)) (mvT hZ (w177 hw)) (mvT hZ (w93 hw)) (mvT hZ (w178 hw)) (by decide) (backOf (W := 2) (rm_lmin l Z a0 hw [] mn176 mn185 h0 n0 Z0 ) hZ (w178 hw) (w93 hw) (by decide) (by decide)) (g := (mkF m 188 #[.val (.ref p_), .val (.int (4 : Int32)), .val (.int (3 : Int32)), .val (.int (1 : Int32)), .val (.long v_187), .second] [(.long mn185), (.long mn176), (.long v_187)])) rfl (by rw [hml]; rfl) (argsL := [(.long mn176), (.long mn185)]) (rest := [(.long v_187)]) (lenOf pd3 rfl) rfl (wq rfl) (D_ d17_188) (fun _ _ => ⟨rfl, eq194, (nb rfl), (nb rfl)⟩)
      dsimp only [Pt.U, Pt.locs, Pt.cells, Pt.slots] at X196 l196 y196 z196 st196 hQ196
      subst l196 y196 z196
      obtain ⟨rfl, Nq196, eq196⟩ := hQ196
      have N196 := Fr.app N194 Nq196
      obtain ⟨mn188, h_mn188⟩ : ∃ z : Int64, z = (if mn185 < mn176 then mn185 else mn176) := ⟨_, rfl⟩
      have hm197 := own_lmN (a := mn176) (b := mn185)
      rw [← h_mn188] at hm197
      obtain ⟨df, h_df⟩ : ∃ z : Int64, z = (v_187 - mn188) := ⟨_, rfl⟩
      have he198 : df.toInt = v_187.toInt - mn188.toInt := by rw [h_df]; exact own_tsub (Bn.mono P186_1 (by decide)) (Bn.mono (Bn.or (Bn.or hb0 hb1 hm191.1) (Bn.or hb2 hb3 hm195.1) hm197.1) (by decide))
      have W199 : ∀ zQ, SS p e below T196 m 192 #[.val (.ref p_), .val (.int (4 : Int32)), .val (.int (3 : Int32)), .val (.int (1 : Int32)), .val (.long v_187), .second] [(.long df)] zQ → Steps p.tables e below (s₁.setTop (entryFrame m #[(.ref p_), (.int n_), (.int ct), (.int le)] 6)) zQ := by
        intro tt kt
        refine W0 tt ?_
        rw [show ct = (3 : Int32) from hct]
        show SS p e below s₁ m 0 #[.val (.ref p_), .val (.int n_), .val (.int (3 : Int32)), .val (.int le), .unset, .unset] [] _
        rw [show le = (1 : Int32) from hle]
        show SS p e below s₁ m 0 #[.val (.ref p_), .val (.int n_), .val (.int (3 : Int32)), .val (.int (1 : Int32)), .unset, .unset] [] _
        rw [show n_ = (4 : Int32) from hn]
        refine XS.iloadN X0.here hx rfl (D_ d17_0) rfl ?_
        refine XS.ifYes X0.here hx rfl (pc0 := 1) (pc' := 6) rfl (D_ d17_1) rfl ((if0 _ _).trans (feq (by decide)).2) (by decide) (by decide) ?_
        refine XS.iloadN X0.here hx rfl (D_ d17_6) rfl ?_
        refine XS.iconst X0.here hx rfl (D_ d17_7) ?_
        refine XS.icmpYes X0.here hx rfl (pc0 := 8) (pc' := 55) rfl (D_ d17_8) rfl (feq (by decide)).2 (by decide) (by decide) ?_
        refine XS.iloadN X0.here hx rfl (D_ d17_55) rfl ?_
        refine XS.iconst X0.here hx rfl (D_ d17_56) ?_
        refine XS.icmpYes X0.here hx rfl (pc0 := 57) (pc' := 150) rfl (D_ d17_57) rfl (feq (by decide)).2 (by decide) (by decide) ?_
        refine XS.aloadN X0.here hx rfl (D_ d17_150) rfl rfl ?_
        refine XS.iconst X0.here hx rfl (D_ d17_151) ?_
        refine XS.iloadN X0.here hx rfl (D_ d17_152) rfl ?_
        refine st186 _ ?_
        refine XS.lstore X186.here hx rfl (D_ d17_156) rfl (l' := #[.val (.ref p_), .val (.int (4 : Int32)), .val (.int (3 : Int32)), .val (.int (1 : Int32)), .val (.long v_187), .second]) rfl ?_
        refine XS.iloadN X186.here hx rfl (D_ d17_158) rfl ?_
        refine XS.iconst X186.here hx rfl (D_ d17_159) ?_
        refine XS.icmpNo X186.here hx rfl (D_ d17_160) rfl (teq (by decide)).2 ?_
        refine XS.iloadN X186.here hx rfl (D_ d17_163) rfl ?_
        refine XS.iconst X186.here hx rfl (D_ d17_164) ?_
        refine XS.icmpNo X186.here hx rfl (D_ d17_165) rfl (teq (by decide)).2 ?_
        refine XS.lload X186.here hx rfl (D_ d17_168) rfl ?_
        refine XS.aloadN X186.here hx rfl (D_ d17_170) rfl rfl ?_
        refine XS.iconst X186.here hx rfl (D_ d17_171) ?_
        refine X186.laload hx (j := (0 : Int32)) (v := (.long x0)) (by first | exact Ar188.1 | (rw [eq186]; exact Ar188.1)) (State.isArrayOf_alike hZ.alike Ar188.2.1) Ar188.2.2 hin188 hat188 (g := (mkF m 172 #[.val (.ref p_), .val (.int (4 : Int32)), .val (.int (3 : Int32)), .val (.int (1 : Int32)), .val (.long v_187), .second] [(.int (0 : Int32)), (.ref p_), (.long v_187)])) rfl rfl (D_ d17_172) _ ?_
        refine XS.aloadN X186.here hx rfl (D_ d17_173) rfl rfl ?_
        refine XS.iconst X186.here hx rfl (D_ d17_174) ?_
        refine X186.laload hx (j := (1 : Int32)) (v := (.long x1)) (by first | exact Ar189.1 | (rw [eq186]; exact Ar189.1)) (State.isArrayOf_alike hZ.alike Ar189.2.1) Ar189.2.2 hin189 hat189 (g := (mkF m 175 #[.val (.ref p_), .val (.int (4 : Int32)), .val (.int (3 : Int32)), .val (.int (1 : Int32)), .val (.long v_187), .second] [(.int (1 : Int32)), (.ref p_), (.long x0), (.long v_187)])) rfl rfl (D_ d17_175) _ ?_
        refine st190 _ ?_
        show SS p e below T190 m 179 #[.val (.ref p_), .val (.int (4 : Int32)), .val (.int (3 : Int32)), .val (.int (1 : Int32)), .val (.long v_187), .second] [(.long (if x1 < x0 then x1 else x0)), (.long v_187)] _
        rw [← h_mn176]
        refine XS.aloadN X190.here hx rfl (D_ d17_179) rfl rfl ?_
        refine XS.iconst X190.here hx rfl (D_ d17_180) ?_
        refine X190.laload hx (j := (2 : Int32)) (v := (.long x2)) (by first | exact Ar192.1 | (rw [eq190]; exact Ar192.1)) (State.isArrayOf_alike hZ.alike Ar192.2.1) Ar192.2.2 hin192 hat192 (g := (mkF m 181 #[.val (.ref p_), .val (.int (4 : Int32)), .val (.int (3 : Int32)), .val (.int (1 : Int32)), .val (.long v_187), .second] [(.int (2 : Int32)), (.ref p_), (.long mn176), (.long v_187)])) rfl rfl (D_ d17_181) _ ?_
        refine XS.aloadN X190.here hx rfl (D_ d17_182) rfl rfl ?_
        refine XS.iconst X190.here hx rfl (D_ d17_183) ?_
        refine X190.laload hx (j := (3 : Int32)) (v := (.long x3)) (by first | exact Ar193.1 | (rw [eq190]; exact Ar193.1)) (State.isArrayOf_alike hZ.alike Ar193.2.1) Ar193.2.2 hin193 hat193 (g := (mkF m 184 #[.val (.ref p_), .val (.int (4 : Int32)), .val (.int (3 : Int32)), .val (.int (1 : Int32)), .val (.long v_187), .second] [(.int (3 : Int32)), (.ref p_), (.long x2), (.long mn176), (.long v_187)])) rfl rfl (D_ d17_184) _ ?_
        refine st194 _ ?_
        show SS p e below T194 m 188 #[.val (.ref p_), .val (.int (4 : Int32)), .val (.int (3 : Int32)), .val (.int (1 : Int32)), .val (.long v_187), .second] [(.long (if x3 < x2 then x3 else x2)), (.long mn176), (.long v_187)] _
        rw [← h_mn185]
        refine st196 _ ?_
        show SS p e below T196 m 191 #[.val (.ref p_), .val (.int (4 : Int32)), .val (.int (3 : Int32)), .val (.int (1 : Int32)), .val (.long v_187), .second] [(.long (if mn185 < mn176 then mn185 else mn176)), (.long v_187)] _
        rw [← h_mn188]
        refine XS.lsub X196.here hx rfl (D_ d17_191) rfl ?_
        show SS p e below T196 m 192 #[.val (.ref p_), .val (.int (4 : Int32)), .val (.int (3 : Int32)), .val (.int (1 : Int32)), .val (.long v_187), .second] [(.long (v_187 - mn188))] _
        rw [← h_df]
        exact kt
      have hI200 : IsM df.toInt (dpl n_ ct le x0.toInt x1.toInt x2.toInt x3.toInt) := by
        rw [hn, hct, hle, dpl4_31]; exact (own_dp16 P186_0 hm191.1 hm191.2.1 hm191.2.2 hm195.1 hm195.2.1 hm195.2.2 hm197.1 hm197.2.1 hm197.2.2 he198)
      obtain ⟨fs, hr, hrun, hended, hW, hsame⟩ := X196.leave (v := some (.long df)) (fun h => by rw [Bd.returns] at h; cases h)
      refine ⟨_, _, W199 _ (own_retJ X196 hx Bd.returns (D_ d17_192) hr), hrun, hended, _, _, rfl, ?_, ⟨_, rfl⟩, hW, hsame.mono (by decide) (by decide)⟩
      show Q_refr Z p_ n_ ct le kp x0 x1 x2 x3 h0 n0 _ T196.heap _
      rw [eq196]
      exact ⟨df, rfl, N196, rfl, hI200, (Bn.mono (Bn.sub P186_1 (Bn.or (Bn.or hb0 hb1 hm191.1) (Bn.or hb2 hb3 hm195.1) hm197.1) he198) (by decide))⟩
  ·
    obtain ⟨_, _, ⟨T201, L201, k201, n201⟩, -, X201, ⟨Lc201, hQ201, l201, y201, z201⟩, st201⟩ := Jvm.LawKit.callS X0 hx (y := yn14) hown (mvT hZ (w164 hw)) (mvT hZ (w165 hw)) (mvT hZ (w53 hw)) (mvT hZ (w166 hw)) (by decide) (backOf (W := 0) (rm_w4 l Z a0 hw [] p_ 0 kp [.long x0, .long x1, .long x2, .long x3] x0 x1 x2 x3 h0 n0 Z0 VP (nb rfl) rfl rfl rfl rfl hb0 hb1 hb2 hb3) hZ (w166 hw) (w53 hw) (by decide) (by decide)) (g := (mkF m 153 #[.val (.ref p_), .val (.int (4 : Int32)), .val (.int (4 : Int32)), .val (.int (1 : Int32)), .unset, .unset] [(.int (4 : Int32)), (.int (0 : Int32)), (.ref p_)])) rfl (by rw [hml]; rfl) (argsL := [(.ref p_), (.int (0 : Int32)), (.int (4 : Int32))]) (rest := []) (lenOf pd8 rfl) rfl (wq rfl) (D_ d17_153) (fun _ _ => ⟨rfl, e0, (nb rfl), (nb rfl)⟩)
    dsimp only [Pt.U, Pt.locs, Pt.cells, Pt.slots] at X201 l201 y201 z201 st201 hQ201
    subst l201 y201 z201
    obtain ⟨v_202, rfl, Nq201, eq201, P201_0, P201_1⟩ := hQ201
    have N201 := Fr.app N0 Nq201
    have W203 : ∀ zQ, SS p e below T201 m 198 #[.val (.ref p_), .val (.int (4 : Int32)), .val (.int (4 : Int32)), .val (.int (1 : Int32)), .val (.long v_202), .second] [(.long v_202)] zQ → Steps p.tables e below (s₁.setTop (entryFrame m #[(.ref p_), (.int n_), (.int ct), (.int le)] 6)) zQ := by
      intro tt kt
      refine W0 tt ?_
      rw [show ct = (4 : Int32) from hct]
      show SS p e below s₁ m 0 #[.val (.ref p_), .val (.int n_), .val (.int (4 : Int32)), .val (.int le), .unset, .unset] [] _
      rw [show le = (1 : Int32) from hle]
      show SS p e below s₁ m 0 #[.val (.ref p_), .val (.int n_), .val (.int (4 : Int32)), .val (.int (1 : Int32)), .unset, .unset] [] _
      rw [show n_ = (4 : Int32) from hn]
      refine XS.iloadN X0.here hx rfl (D_ d17_0) rfl ?_
      refine XS.ifYes X0.here hx rfl (pc0 := 1) (pc' := 6) rfl (D_ d17_1) rfl ((if0 _ _).trans (feq (by decide)).2) (by decide) (by decide) ?_
      refine XS.iloadN X0.here hx rfl (D_ d17_6) rfl ?_
      refine XS.iconst X0.here hx rfl (D_ d17_7) ?_
      refine XS.icmpYes X0.here hx rfl (pc0 := 8) (pc' := 55) rfl (D_ d17_8) rfl (feq (by decide)).2 (by decide) (by decide) ?_
      refine XS.iloadN X0.here hx rfl (D_ d17_55) rfl ?_
      refine XS.iconst X0.here hx rfl (D_ d17_56) ?_
      refine XS.icmpYes X0.here hx rfl (pc0 := 57) (pc' := 150) rfl (D_ d17_57) rfl (feq (by decide)).2 (by decide) (by decide) ?_
      refine XS.aloadN X0.here hx rfl (D_ d17_150) rfl rfl ?_
      refine XS.iconst X0.here hx rfl (D_ d17_151) ?_
      refine XS.iloadN X0.here hx rfl (D_ d17_152) rfl ?_
      refine st201 _ ?_
      refine XS.lstore X201.here hx rfl (D_ d17_156) rfl (l' := #[.val (.ref p_), .val (.int (4 : Int32)), .val (.int (4 : Int32)), .val (.int (1 : Int32)), .val (.long v_202), .second]) rfl ?_
      refine XS.iloadN X201.here hx rfl (D_ d17_158) rfl ?_
      refine XS.iconst X201.here hx rfl (D_ d17_159) ?_
      refine XS.icmpYes X201.here hx rfl (pc0 := 160) (pc' := 196) rfl (D_ d17_160) rfl (feq (by decide)).2 (by decide) (by decide) ?_
      refine XS.lload X201.here hx rfl (D_ d17_196) rfl ?_
      exact kt
    have hI204 : IsM v_202.toInt (dpl n_ ct le x0.toInt x1.toInt x2.toInt x3.toInt) := by
      rw [hn, hct, hle, dpl4_41]; exact (own_dp17 P201_0)
    obtain ⟨fs, hr, hrun, hended, hW, hsame⟩ := X201.leave (v := some (.long v_202)) (fun h => by rw [Bd.returns] at h; cases h)
    refine ⟨_, _, W203 _ (own_retJ X201 hx Bd.returns (D_ d17_198) hr), hrun, hended, _, _, rfl, ?_, ⟨_, rfl⟩, hW, hsame.mono (by decide) (by decide)⟩
    show Q_refr Z p_ n_ ct le kp x0 x1 x2 x3 h0 n0 _ T201.heap _
    rw [eq201]
    exact ⟨v_202, rfl, N201, rfl, hI204, (Bn.mono P201_1 (by decide))⟩
def Q_acinit (Z : State) (a : Addr) (h0 : Heap) (n0 : Nat) (vQ_ : Option Value) (hQ_ : Heap) (LQ_ : List Loc) : Prop := vQ_ = none ∧ Fr n0 LQ_ ∧ hQ_ = h0
theorem rm_acinit (l : Launch) (Z : State) (a0 : Array Value) (hw : HW a0 Z) (ws : List Jvm.Cond) (a : Addr) (h0 : Heap) (n0 : Nat) (Z0 : n0 ≤ h0.size)  :
    CT l yn18 (Jvm.Cond.code yn18 jdk_22_method_1_code 1 none :: ws) (⟨1, 0, 0, 12⟩ : Room) #[(.ref a)] Z h0 (Q_acinit Z a h0 n0) := by
  refine MetFree.of_bodySF (plainFor_of_name pn_java_util_AbstractCollection) hisR ?_
  intro p e s m args below meth cO s₁ Bd hml hP hK
  obtain ⟨rfl, hZ, hh⟩ := hP
  have hx := Bd.exec
  have hby := Bd.bytes
  have hown : s.vm.findClass "java/util/AbstractCollection" = some m.cls := findClass_of_methodNamed Bd.named
  have hnm := (name_of_methodNamed Bd.named Bd.method).1
  have X0 : Stand p l e (⟨1, 0, 0, 12⟩ : Room) s m #[(.ref a)] below meth cO s₁ [] 0 0 := Stand.of_body Bd
  have e0 : s₁.heap = h0 := by rw [← hh, Bd.state]; rfl
  have N0 := Fr.nil n0
  have D_ : ∀ {i : Nat} {x}, decode jdk_22_method_1_code i = x → decode cO.code i = x := fun h => hb hby h
  have W0 : ∀ zQ, SS p e below s₁ m 0 #[.val (.ref a)] [] zQ → Steps p.tables e below (s₁.setTop (entryFrame m #[(.ref a)] 1)) zQ := fun tt kt => castTop (ef_acinit m a) kt
  obtain ⟨T101, X101, e101, st101⟩ := initO X0 hx hZ hown (w19 hw) (w20 hw) (w21 hw) e0 (g := (mkF m 1 #[.val (.ref a)] [(.ref a)])) rfl (by rw [hml]; rfl) rfl (D_ d18_1) (by decide) (W := 0) (by show 2 * 0 + _ ≤ _; exact Nat.le_of_eq rfl) (by decide)
  have W102 : ∀ zQ, SS p e below T101 m 4 #[.val (.ref a)] [] zQ → Steps p.tables e below (s₁.setTop (entryFrame m #[(.ref a)] 1)) zQ := by
    intro tt kt
    refine W0 tt ?_
    refine XS.aloadN X0.here hx rfl (D_ d18_0) rfl rfl ?_
    refine st101 _ ?_
    exact kt
  obtain ⟨fs, hr, hrun, hended, hW, hsame⟩ := X101.leave (v := none) (fun _ => rfl)
  refine ⟨_, _, W102 _ (X101.returnOut hx Bd.returns (D_ d18_4) hr), hrun, hended, _, _, rfl, ?_, ⟨_, rfl⟩, hW, hsame.mono (by decide) (by decide)⟩
  show Q_acinit Z a h0 n0 _ T101.heap _
  rw [e101]
  exact ⟨rfl, N0, rfl⟩
def Q_abinit (Z : State) (a : Addr) (h0 : Heap) (n0 : Nat) (vQ_ : Option Value) (hQ_ : Heap) (LQ_ : List Loc) : Prop := vQ_ = none ∧ Fr n0 LQ_ ∧ Keep h0 hQ_ [a] ∧ Exa Z hQ_ a "java/util/ArrayList" ∧ Fld Z hQ_ a "java/util/AbstractList" "modCount" "I" (.int (0 : Int32)) ∧ Fld Z hQ_ a "java/util/ArrayList" "size" "I" (.int (0 : Int32)) ∧ Fld Z hQ_ a "java/util/ArrayList" "elementData" "[Ljava/lang/Object;" .null
theorem rm_abinit (l : Launch) (Z : State) (a0 : Array Value) (hw : HW a0 Z) (ws : List Jvm.Cond) (a : Addr) (h0 : Heap) (n0 : Nat) (Z0 : n0 ≤ h0.size) (E1 : Exa Z h0 a "java/util/ArrayList") (F1 : Fld Z h0 a "java/util/AbstractList" "modCount" "I" (.int (0 : Int32))) (F2 : Fld Z h0 a "java/util/ArrayList" "size" "I" (.int (0 : Int32))) (F3 : Fld Z h0 a "java/util/ArrayList" "elementData" "[Ljava/lang/Object;" .null) (g1 : n0 ≤ a) :
    CT l yn19 (Jvm.Cond.code yn19 jdk_39_method_1_code 1 none :: ws) (⟨2, 0, 0, 24⟩ : Room) #[(.ref a)] Z h0 (Q_abinit Z a h0 n0) := by
  refine MetFree.of_bodySF (plainFor_of_name pn_java_util_AbstractList) hisR ?_
  intro p e s m args below meth cO s₁ Bd hml hP hK
  obtain ⟨rfl, hZ, hh⟩ := hP
  have hx := Bd.exec
  have hby := Bd.bytes
  have hown : s.vm.findClass "java/util/AbstractList" = some m.cls := findClass_of_methodNamed Bd.named
  have hnm := (name_of_methodNamed Bd.named Bd.method).1
  have X0 : Stand p l e (⟨2, 0, 0, 24⟩ : Room) s m #[(.ref a)] below meth cO s₁ [] 0 0 := Stand.of_body Bd
  have e0 : s₁.heap = h0 := by rw [← hh, Bd.state]; rfl
  have N0 := Fr.nil n0
  have D_ : ∀ {i : Nat} {x}, decode jdk_39_method_1_code i = x → decode cO.code i = x := fun h => hb hby h
  have W0 : ∀ zQ, SS p e below s₁ m 0 #[.val (.ref a)] [] zQ → Steps p.tables e below (s₁.setTop (entryFrame m #[(.ref a)] 1)) zQ := fun tt kt => castTop (ef_abinit m a) kt
  obtain ⟨_, _, ⟨T101, L101, k101, n101⟩, -, X101, ⟨Lc101, hQ101, l101, y101, z101⟩, st101⟩ := X0.specialBack hx (y := yn18) rfl hown (mvT hZ (w13 hw)) (mvT hZ (w14 hw)) (mvT hZ (w18 hw)) (by decide) (backOf (W := 0) (rm_acinit l Z a0 hw [] a h0 n0 Z0 ) hZ (w18 hw) (w17 hw) (by decide) (by decide)) (g := (mkF m 1 #[.val (.ref a)] [(.ref a)])) rfl (by rw [hml]; rfl) (Steps.refl _) (a := a) (argsL := []) (rest := []) (lenOf pd0 rfl) rfl (wq rfl) (D_ d19_1) (fun _ _ => ⟨rfl, e0, (nb rfl), (nb rfl)⟩)
  dsimp only [Pt.U, Pt.locs, Pt.cells, Pt.slots] at X101 l101 y101 z101 st101 hQ101
  subst l101 y101 z101
  obtain ⟨rfl, Nq101, eq101⟩ := hQ101
  have N101 := Fr.app N0 Nq101
  obtain ⟨T102, h102, X102, e102, Wr102, st102⟩ := putF X101 hx hZ hown (host := "") (Or.inl (w22 hw)) Via.refl eq101 F1 E1 (Or.inl (w23 hw)) (w2 hw) (ty := .int) (by decide) rfl rfl (g := (mkF m 6 #[.val (.ref a)] [(.int (0 : Int32)), (.ref a)])) rfl rfl (D_ d19_6)
  have K102 := Keep.of_wr Wr102
  have G102 := F1.same Wr102
  have N102 := Fr.snoc X102 N101 g1
  have W103 : ∀ zQ, SS p e below T102 m 9 #[.val (.ref a)] [] zQ → Steps p.tables e below (s₁.setTop (entryFrame m #[(.ref a)] 1)) zQ := by
    intro tt kt
    refine W0 tt ?_
    refine XS.aloadN X0.here hx rfl (D_ d19_0) rfl rfl ?_
    refine st101.trans ?_
    refine XS.aloadN X101.here hx rfl (D_ d19_4) rfl rfl ?_
    refine XS.iconst X101.here hx rfl (D_ d19_5) ?_
    refine st102 _ ?_
    exact kt
  have F104 : Exa Z h102 a "java/util/ArrayList" := (E1.keep K102)
  have F105 : Fld Z h102 a "java/util/ArrayList" "size" "I" (.int (0 : Int32)) := (Fld.other Wr102 F2 (Or.inr (slot_ne (Or.inl (w41 hw)) (Or.inl (w23 hw)) (by decide) (t := .int) (t' := .int) (by decide) (by decide))))
  have F106 : Fld Z h102 a "java/util/ArrayList" "elementData" "[Ljava/lang/Object;" .null := (Fld.other Wr102 F3 (Or.inr (slot_ne (Or.inl (w26 hw)) (Or.inl (w23 hw)) (by decide) (t := (.array (.object "java/lang/Object"))) (t' := .int) (by decide) (by decide))))
  obtain ⟨fs, hr, hrun, hended, hW, hsame⟩ := X102.leave (v := none) (fun _ => rfl)
  refine ⟨_, _, W103 _ (X102.returnOut hx Bd.returns (D_ d19_9) hr), hrun, hended, _, _, rfl, ?_, ⟨_, rfl⟩, hW, hsame.mono (by decide) (by decide)⟩
  show Q_abinit Z a h0 n0 _ T102.heap _
  rw [e102]
  exact ⟨rfl, N102, (Keep.trans (Keep.refl h0 [a]) K102 (allS (Or.inl (List.mem_of_getElem? (i := 0) rfl)) all0)), F104, G102, F105, F106⟩
def Q_alinit (Z : State) (a : Addr) (oD : Addr) (h0 : Heap) (n0 : Nat) (vQ_ : Option Value) (hQ_ : Heap) (LQ_ : List Loc) : Prop := vQ_ = none ∧ Fr n0 LQ_ ∧ Keep h0 hQ_ [a] ∧ Exa Z hQ_ a "java/util/ArrayList" ∧ Fld Z hQ_ a "java/util/AbstractList" "modCount" "I" (.int (0 : Int32)) ∧ Fld Z hQ_ a "java/util/ArrayList" "size" "I" (.int (0 : Int32)) ∧ Fld Z hQ_ a "java/util/ArrayList" "elementData" "[Ljava/lang/Object;" (.ref oD)
theorem rm_alinit (l : Launch) (Z : State) (a0 : Array Value) (hw : HW a0 Z) (ws : List Jvm.Cond) (a : Addr) (oD : Addr) (h0 : Heap) (n0 : Nat) (Z0 : n0 ≤ h0.size) (O0 : Old Z n0 h0) (S_de : Sta Z Z.heap "java/util/ArrayList" "DEFAULTCAPACITY_EMPTY_ELEMENTDATA" "[Ljava/lang/Object;" (.ref oD)) (E1 : Exa Z h0 a "java/util/ArrayList") (F1 : Fld Z h0 a "java/util/AbstractList" "modCount" "I" (.int (0 : Int32))) (F2 : Fld Z h0 a "java/util/ArrayList" "size" "I" (.int (0 : Int32))) (F3 : Fld Z h0 a "java/util/ArrayList" "elementData" "[Ljava/lang/Object;" .null) (g1 : n0 ≤ a) :
    CT l yn20 (Jvm.Cond.code yn20 jdk_38_method_2_code 1 none :: ws) (⟨3, 0, 0, 36⟩ : Room) #[(.ref a)] Z h0 (Q_alinit Z a oD h0 n0) := by
  refine MetFree.of_bodySF (plainFor_of_name pn_java_util_ArrayList) hisR ?_
  intro p e s m args below meth cO s₁ Bd hml hP hK
  obtain ⟨rfl, hZ, hh⟩ := hP
  have hx := Bd.exec
  have hby := Bd.bytes
  have hown : s.vm.findClass "java/util/ArrayList" = some m.cls := findClass_of_methodNamed Bd.named
  have hnm := (name_of_methodNamed Bd.named Bd.method).1
  have X0 : Stand p l e (⟨3, 0, 0, 36⟩ : Room) s m #[(.ref a)] below meth cO s₁ [] 0 0 := Stand.of_body Bd
  have e0 : s₁.heap = h0 := by rw [← hh, Bd.state]; rfl
  have N0 := Fr.nil n0
  have D_ : ∀ {i : Nat} {x}, decode jdk_38_method_2_code i = x → decode cO.code i = x := fun h => hb hby h
  have W0 : ∀ zQ, SS p e below s₁ m 0 #[.val (.ref a)] [] zQ → Steps p.tables e below (s₁.setTop (entryFrame m #[(.ref a)] 1)) zQ := fun tt kt => castTop (ef_alinit m a) kt
  obtain ⟨_, _, ⟨T101, L101, k101, n101⟩, -, X101, ⟨Lc101, hQ101, l101, y101, z101⟩, st101⟩ := X0.specialBack hx (y := yn19) rfl hown (mvT hZ (w7 hw)) (mvT hZ (w8 hw)) (mvT hZ (w12 hw)) (by decide) (backOf (W := 0) (rm_abinit l Z a0 hw [] a h0 n0 Z0 E1 F1 F2 F3 g1) hZ (w12 hw) (w11 hw) (by decide) (by decide)) (g := (mkF m 1 #[.val (.ref a)] [(.ref a)])) rfl (by rw [hml]; rfl) (Steps.refl _) (a := a) (argsL := []) (rest := []) (lenOf pd0 rfl) rfl (wq rfl) (D_ d20_1) (fun _ _ => ⟨rfl, e0, (nb rfl), (nb rfl)⟩)
  dsimp only [Pt.U, Pt.locs, Pt.cells, Pt.slots] at X101 l101 y101 z101 st101 hQ101
  subst l101 y101 z101
  obtain ⟨rfl, Nq101, K101, P101_0, P101_1, P101_2, P101_3⟩ := hQ101
  have N101 := Fr.app N0 Nq101
  have O103 : Old Z n0 T101.heap := (O0.keep K101 (allS g1 all0))
  have F104 : Sta Z T101.heap "java/util/ArrayList" "DEFAULTCAPACITY_EMPTY_ELEMENTDATA" "[Ljava/lang/Object;" (.ref oD) := S_de.ext O103.2
  obtain ⟨T102, X102, e102, st102⟩ := getS2 X101 hx hZ hown (host := "") (Or.inl (w24 hw)) Via.refl rfl F104 (g := (mkF m 5 #[.val (.ref a)] [(.ref a)])) rfl (D_ d20_5)
  obtain ⟨T105, h105, X105, e105, Wr105, st105⟩ := putF X102 hx hZ hown (host := "") (Or.inl (w25 hw)) Via.refl e102 P101_3 P101_0 (Or.inl (w26 hw)) (w2 hw) (ty := (.array (.object "java/lang/Object"))) (by decide) rfl rfl (g := (mkF m 8 #[.val (.ref a)] [(.ref oD), (.ref a)])) rfl rfl (D_ d20_8)
  have K105 := Keep.of_wr Wr105
  have G105 := P101_3.same Wr105
  have N105 := Fr.snoc X105 N101 g1
  have W106 : ∀ zQ, SS p e below T105 m 11 #[.val (.ref a)] [] zQ → Steps p.tables e below (s₁.setTop (entryFrame m #[(.ref a)] 1)) zQ := by
    intro tt kt
    refine W0 tt ?_
    refine XS.aloadN X0.here hx rfl (D_ d20_0) rfl rfl ?_
    refine st101.trans ?_
    refine XS.aloadN X101.here hx rfl (D_ d20_4) rfl rfl ?_
    refine st102 _ ?_
    refine st105 _ ?_
    exact kt
  have F107 : Exa Z h105 a "java/util/ArrayList" := (P101_0.keep K105)
  have F108 : Fld Z h105 a "java/util/AbstractList" "modCount" "I" (.int (0 : Int32)) := (Fld.other Wr105 P101_1 (Or.inr (slot_ne (Or.inl (w23 hw)) (Or.inl (w26 hw)) (by decide) (t := .int) (t' := (.array (.object "java/lang/Object"))) (by decide) (by decide))))
  have F109 : Fld Z h105 a "java/util/ArrayList" "size" "I" (.int (0 : Int32)) := (Fld.other Wr105 P101_2 (Or.inr (slot_ne (Or.inl (w41 hw)) (Or.inl (w26 hw)) (by decide) (t := .int) (t' := (.array (.object "java/lang/Object"))) (by decide) (by decide))))
  obtain ⟨fs, hr, hrun, hended, hW, hsame⟩ := X105.leave (v := none) (fun _ => rfl)
  refine ⟨_, _, W106 _ (X105.returnOut hx Bd.returns (D_ d20_11) hr), hrun, hended, _, _, rfl, ?_, ⟨_, rfl⟩, hW, hsame.mono (by decide) (by decide)⟩
  show Q_alinit Z a oD h0 n0 _ T105.heap _
  rw [e105]
  exact ⟨rfl, N105, (Keep.trans (Keep.trans (Keep.refl h0 [a]) K101 (allS (Or.inl (List.mem_of_getElem? (i := 0) rfl)) all0)) K105 (allS (Or.inl (List.mem_of_getElem? (i := 0) rfl)) all0)), F107, F108, F109, G105⟩
def Q_growI (Z : State) (a : Addr) (mc : Int32) (oD : Addr) (kD : ClassId) (h0 : Heap) (n0 : Nat) (vQ_ : Option Value) (hQ_ : Heap) (LQ_ : List Loc) : Prop := ∃ d : Addr, ∃ kd : ClassId, vQ_ = some (.ref d) ∧ Fr n0 LQ_ ∧ Keep h0 hQ_ [a] ∧ h0.size ≤ d ∧ Exa Z hQ_ a "java/util/ArrayList" ∧ Fld Z hQ_ a "java/util/ArrayList" "elementData" "[Ljava/lang/Object;" (.ref d) ∧ Fld Z hQ_ a "java/util/ArrayList" "size" "I" (.int (0 : Int32)) ∧ Fld Z hQ_ a "java/util/AbstractList" "modCount" "I" (.int mc) ∧ Arv Z hQ_ d kd (.object "java/lang/Object") (10 : Int32) [.null, .null, .null, .null, .null, .null, .null, .null, .null, .null] .null ∧ Ovr Z kd "java/lang/Object"
theorem rm_growI (l : Launch) (Z : State) (a0 : Array Value) (hw : HW a0 Z) (ws : List Jvm.Cond) (a : Addr) (mc : Int32) (oD : Addr) (kD : ClassId) (h0 : Heap) (n0 : Nat) (Z0 : n0 ≤ h0.size) (O0 : Old Z n0 h0) (S_de : Sta Z Z.heap "java/util/ArrayList" "DEFAULTCAPACITY_EMPTY_ELEMENTDATA" "[Ljava/lang/Object;" (.ref oD)) (V_de : Arv Z Z.heap oD kD (.object "java/lang/Object") (0 : Int32) [] .null) (E1 : Exa Z h0 a "java/util/ArrayList") (F1 : Fld Z h0 a "java/util/AbstractList" "modCount" "I" (.int mc)) (F2 : Fld Z h0 a "java/util/ArrayList" "size" "I" (.int (0 : Int32))) (F3 : Fld Z h0 a "java/util/ArrayList" "elementData" "[Ljava/lang/Object;" (.ref oD)) (g1 : n0 ≤ a) :
    CT l yn21 (Jvm.Cond.code yn21 jdk_38_method_6_code 4 (some (.array (.object "java/lang/Object"))) :: ws) (⟨1, 1, 10, 14⟩ : Room) #[(.ref a), (.int (1 : Int32))] Z h0 (Q_growI Z a mc oD kD h0 n0) := by
  refine MetFree.of_bodySF (plainFor_of_name pn_java_util_ArrayList) hisR ?_
  intro p e s m args below meth cO s₁ Bd hml hP hK
  obtain ⟨rfl, hZ, hh⟩ := hP
  have hx := Bd.exec
  have hby := Bd.bytes
  have hown : s.vm.findClass "java/util/ArrayList" = some m.cls := findClass_of_methodNamed Bd.named
  have hnm := (name_of_methodNamed Bd.named Bd.method).1
  have X0 : Stand p l e (⟨1, 1, 10, 14⟩ : Room) s m #[(.ref a), (.int (1 : Int32))] below meth cO s₁ [] 0 0 := Stand.of_body Bd
  have e0 : s₁.heap = h0 := by rw [← hh, Bd.state]; rfl
  have N0 := Fr.nil n0
  have D_ : ∀ {i : Nat} {x}, decode jdk_38_method_6_code i = x → decode cO.code i = x := fun h => hb hby h
  have W0 : ∀ zQ, SS p e below s₁ m 0 #[.val (.ref a), .val (.int (1 : Int32)), .unset, .unset] [] zQ → Steps p.tables e below (s₁.setTop (entryFrame m #[(.ref a), (.int (1 : Int32))] 4)) zQ := fun tt kt => castTop (ef_growI m a (1 : Int32)) kt
  obtain ⟨T101, X101, e101, st101⟩ := getF X0 hx hZ hown (host := "") (Or.inl (w25 hw)) Via.refl e0 F3 (g := (mkF m 1 #[.val (.ref a), .val (.int (1 : Int32)), .unset, .unset] [(.ref a)])) rfl rfl (D_ d21_1)
  have F102 : Arv Z h0 oD kD (.object "java/lang/Object") (0 : Int32) [] .null := V_de.ext O0.2
  obtain ⟨cl103, Ar103, -, S103, M103, -, -⟩ := id F102
  obtain ⟨T104, X104, e104, st104⟩ := getF X101 hx hZ hown (host := "") (Or.inl (w25 hw)) Via.refl e101 F3 (g := (mkF m 11 #[.val (.ref a), .val (.int (1 : Int32)), .val (.int (0 : Int32)), .unset] [(.ref a)])) rfl rfl (D_ d21_11)
  have F106 : Sta Z h0 "java/util/ArrayList" "DEFAULTCAPACITY_EMPTY_ELEMENTDATA" "[Ljava/lang/Object;" (.ref oD) := S_de.ext O0.2
  obtain ⟨T105, X105, e105, st105⟩ := getS2 X104 hx hZ hown (host := "") (Or.inl (w24 hw)) Via.refl e104 F106 (g := (mkF m 14 #[.val (.ref a), .val (.int (1 : Int32)), .val (.int (0 : Int32)), .unset] [(.ref oD)])) rfl (D_ d21_14)
  obtain ⟨_, _, ⟨T107, L107, k107, n107⟩, -, X107, ⟨Lc107, hQ107, l107, y107, z107⟩, st107⟩ := Jvm.LawKit.callS X105 hx (y := yn13) hown (mvT hZ (w91 hw)) (mvT hZ (w92 hw)) (mvT hZ (w93 hw)) (mvT hZ (w94 hw)) (by decide) (backOf (W := 1) (rm_imax l Z a0 hw [] (10 : Int32) (1 : Int32) h0 n0 Z0 ) hZ (w94 hw) (w93 hw) (by decide) (by decide)) (g := (mkF m 49 #[.val (.ref a), .val (.int (1 : Int32)), .val (.int (0 : Int32)), .unset] [(.int (1 : Int32)), (.int (10 : Int32)), (.ref a)])) rfl (by rw [hml]; rfl) (argsL := [(.int (10 : Int32)), (.int (1 : Int32))]) (rest := [(.ref a)]) (lenOf pd11 rfl) rfl (wq rfl) (D_ d21_49) (fun _ _ => ⟨rfl, e105, (nb rfl), (nb rfl)⟩)
  dsimp only [Pt.U, Pt.locs, Pt.cells, Pt.slots] at X107 l107 y107 z107 st107 hQ107
  subst l107 y107 z107
  obtain ⟨rfl, Nq107, eq107⟩ := hQ107
  have N107 := Fr.app N0 Nq107
  obtain ⟨T108, h108, k108, X108, e108, E108, A108, Ov108, st108⟩ := newR X107 hx hZ hown (w95 hw) (w96 hw) eq107 (g := (mkF m 52 #[.val (.ref a), .val (.int (1 : Int32)), .val (.int (0 : Int32)), .unset] [(.int (10 : Int32)), (.ref a)])) rfl (D_ d21_52) rfl (by decide) (cap := 10) (by decide) (by decide) (by decide) (by decide)
  obtain ⟨b108, g108⟩ : ∃ z, z = h0.size := ⟨_, rfl⟩
  rw [← g108] at A108 st108
  have K108 := (Keep.refl h0 []).ext E108
  have G108 : Arv Z h108 b108 k108 (.object "java/lang/Object") (10 : Int32) [.null, .null, .null, .null, .null, .null, .null, .null, .null, .null] .null := (Arv.new A108 (by decide)).pad (pad_rep [] .null 10)
  have F109 : Exa Z h108 a "java/util/ArrayList" := (E1.keep K108)
  have F110 : Fld Z h108 a "java/util/ArrayList" "elementData" "[Ljava/lang/Object;" (.ref oD) := (F3.keep K108 nin0)
  obtain ⟨T111, h111, X111, e111, Wr111, st111⟩ := putF X108 hx hZ hown (host := "") (Or.inl (w25 hw)) Via.refl e108 F110 F109 (Or.inl (w26 hw)) (w2 hw) (ty := (.array (.object "java/lang/Object"))) (by decide) rfl rfl (g := (mkF m 56 #[.val (.ref a), .val (.int (1 : Int32)), .val (.int (0 : Int32)), .unset] [(.ref b108), (.ref a), (.ref b108)])) rfl rfl (D_ d21_56)
  have K111 := Keep.of_wr Wr111
  have G111 := F110.same Wr111
  have N111 := Fr.snoc X111 N107 g1
  have W112 : ∀ zQ, SS p e below T111 m 59 #[.val (.ref a), .val (.int (1 : Int32)), .val (.int (0 : Int32)), .unset] [(.ref b108)] zQ → Steps p.tables e below (s₁.setTop (entryFrame m #[(.ref a), (.int (1 : Int32))] 4)) zQ := by
    intro tt kt
    refine W0 tt ?_
    refine XS.aloadN X0.here hx rfl (D_ d21_0) rfl rfl ?_
    refine st101 _ ?_
    refine X101.arraylength hx (by first | exact Ar103.1 | (rw [e101]; exact Ar103.1)) (State.isArrayOf_alike hZ.alike Ar103.2.1) (g := (mkF m 4 #[.val (.ref a), .val (.int (1 : Int32)), .unset, .unset] [(.ref oD)])) rfl rfl (D_ d21_4) _ ?_
    rw [len_of S103 M103]
    refine XS.istoreN X101.here hx rfl (D_ d21_5) rfl (l' := #[.val (.ref a), .val (.int (1 : Int32)), .val (.int (0 : Int32)), .unset]) rfl ?_
    refine XS.iloadN X101.here hx rfl (D_ d21_6) rfl ?_
    refine XS.ifNo X101.here hx rfl (D_ d21_7) rfl ((if0 _ _).trans (flt (by decide)).2.2.1) ?_
    refine XS.aloadN X101.here hx rfl (D_ d21_10) rfl rfl ?_
    refine st104 _ ?_
    refine st105 _ ?_
    show SS p e below T105 m 17 #[.val (.ref a), .val (.int (1 : Int32)), .val (.int (0 : Int32)), .unset] [(.ref oD), (.ref oD)] _
    refine Jvm.RoadKit.acmp (g := (mkF m 17 #[.val (.ref a), .val (.int (1 : Int32)), .val (.int (0 : Int32)), .unset] [(.ref oD), (.ref oD)])) X105 hx rfl rfl rfl (pc0 := 17) (pc' := 45) (same := true) rfl (D_ d21_17) rfl (decide_eq_true rfl) (by decide) (by decide) ?_
    refine XS.aloadN X105.here hx rfl (D_ d21_45) rfl rfl ?_
    refine XS.bipush X105.here hx rfl (D_ d21_46) ?_
    refine XS.iloadN X105.here hx rfl (D_ d21_48) rfl ?_
    refine st107 _ ?_
    show SS p e below T107 m 52 #[.val (.ref a), .val (.int (1 : Int32)), .val (.int (0 : Int32)), .unset] [(.int (if (10 : Int32) < (1 : Int32) then (1 : Int32) else (10 : Int32))), (.ref a)] _
    rw [show (if (10 : Int32) < (1 : Int32) then (1 : Int32) else (10 : Int32)) = (10 : Int32) from rfl]
    refine st108 _ ?_
    refine XS.dupX1 X108.here hx rfl (D_ d21_55) rfl rfl rfl ?_
    refine st111 _ ?_
    exact kt
  have F113 : Exa Z h111 a "java/util/ArrayList" := (F109.keep K111)
  have F114 : Fld Z h111 a "java/util/ArrayList" "size" "I" (.int (0 : Int32)) := (Fld.other Wr111 (F2.keep K108 nin0) (Or.inr (slot_ne (Or.inl (w41 hw)) (Or.inl (w26 hw)) (by decide) (t := .int) (t' := (.array (.object "java/lang/Object"))) (by decide) (by decide))))
  have F115 : Fld Z h111 a "java/util/AbstractList" "modCount" "I" (.int mc) := (Fld.other Wr111 (F1.keep K108 nin0) (Or.inr (slot_ne (Or.inl (w23 hw)) (Or.inl (w26 hw)) (by decide) (t := .int) (t' := (.array (.object "java/lang/Object"))) (by decide) (by decide))))
  have ne116 : b108 ≠ a := (Ne.symm (Nat.ne_of_lt (Nat.lt_of_lt_of_le E1.lt (Nat.le_of_eq g108.symm))))
  have F117 : Arv Z h111 b108 k108 (.object "java/lang/Object") (10 : Int32) [.null, .null, .null, .null, .null, .null, .null, .null, .null, .null] .null := (G108.keep K111 (ninS ne116 nin0))
  obtain ⟨fs, hr, hrun, hended, hW, hsame⟩ := X111.leave (v := some (.ref b108)) (fun h => by rw [Bd.returns] at h; cases h)
  refine ⟨_, _, W112 _ (own_retR X111 hx Bd.returns rfl rfl (D_ d21_59) hr), hrun, hended, _, _, rfl, ?_, ⟨_, rfl⟩, hW, hsame.mono (by decide) (by decide)⟩
  show Q_growI Z a mc oD kD h0 n0 _ T111.heap _
  rw [e111]
  exact ⟨b108, k108, rfl, N111, (Keep.trans (Keep.trans (Keep.refl h0 [a]) K108 all0) K111 (allS (Or.inl (List.mem_of_getElem? (i := 0) rfl)) all0)), (Nat.le_of_eq g108.symm), F113, G111, F114, F115, F117, Ov108⟩
def Q_grow (Z : State) (a : Addr) (mc : Int32) (oD : Addr) (kD : ClassId) (h0 : Heap) (n0 : Nat) (vQ_ : Option Value) (hQ_ : Heap) (LQ_ : List Loc) : Prop := ∃ d : Addr, ∃ kd : ClassId, vQ_ = some (.ref d) ∧ Fr n0 LQ_ ∧ Keep h0 hQ_ [a] ∧ h0.size ≤ d ∧ Exa Z hQ_ a "java/util/ArrayList" ∧ Fld Z hQ_ a "java/util/ArrayList" "elementData" "[Ljava/lang/Object;" (.ref d) ∧ Fld Z hQ_ a "java/util/ArrayList" "size" "I" (.int (0 : Int32)) ∧ Fld Z hQ_ a "java/util/AbstractList" "modCount" "I" (.int mc) ∧ Arv Z hQ_ d kd (.object "java/lang/Object") (10 : Int32) [.null, .null, .null, .null, .null, .null, .null, .null, .null, .null] .null ∧ Ovr Z kd "java/lang/Object"
theorem rm_grow (l : Launch) (Z : State) (a0 : Array Value) (hw : HW a0 Z) (ws : List Jvm.Cond) (a : Addr) (mc : Int32) (oD : Addr) (kD : ClassId) (h0 : Heap) (n0 : Nat) (Z0 : n0 ≤ h0.size) (O0 : Old Z n0 h0) (S_de : Sta Z Z.heap "java/util/ArrayList" "DEFAULTCAPACITY_EMPTY_ELEMENTDATA" "[Ljava/lang/Object;" (.ref oD)) (V_de : Arv Z Z.heap oD kD (.object "java/lang/Object") (0 : Int32) [] .null) (E1 : Exa Z h0 a "java/util/ArrayList") (F1 : Fld Z h0 a "java/util/AbstractList" "modCount" "I" (.int mc)) (F2 : Fld Z h0 a "java/util/ArrayList" "size" "I" (.int (0 : Int32))) (F3 : Fld Z h0 a "java/util/ArrayList" "elementData" "[Ljava/lang/Object;" (.ref oD)) (g1 : n0 ≤ a) :
    CT l yn22 (Jvm.Cond.code yn22 jdk_38_method_7_code 1 (some (.array (.object "java/lang/Object"))) :: ws) (⟨2, 1, 10, 29⟩ : Room) #[(.ref a)] Z h0 (Q_grow Z a mc oD kD h0 n0) := by
  refine MetFree.of_bodySF (plainFor_of_name pn_java_util_ArrayList) hisR ?_
  intro p e s m args below meth cO s₁ Bd hml hP hK
  obtain ⟨rfl, hZ, hh⟩ := hP
  have hx := Bd.exec
  have hby := Bd.bytes
  have hown : s.vm.findClass "java/util/ArrayList" = some m.cls := findClass_of_methodNamed Bd.named
  have hnm := (name_of_methodNamed Bd.named Bd.method).1
  have X0 : Stand p l e (⟨2, 1, 10, 29⟩ : Room) s m #[(.ref a)] below meth cO s₁ [] 0 0 := Stand.of_body Bd
  have e0 : s₁.heap = h0 := by rw [← hh, Bd.state]; rfl
  have N0 := Fr.nil n0
  have D_ : ∀ {i : Nat} {x}, decode jdk_38_method_7_code i = x → decode cO.code i = x := fun h => hb hby h
  have W0 : ∀ zQ, SS p e below s₁ m 0 #[.val (.ref a)] [] zQ → Steps p.tables e below (s₁.setTop (entryFrame m #[(.ref a)] 1)) zQ := fun tt kt => castTop (ef_grow m a) kt
  obtain ⟨T101, X101, e101, st101⟩ := getF X0 hx hZ hown (host := "") (Or.inl (w40 hw)) Via.refl e0 F2 (g := (mkF m 2 #[.val (.ref a)] [(.ref a), (.ref a)])) rfl rfl (D_ d22_2)
  obtain ⟨cq102, q102, q102'⟩ := E1.cell
  obtain ⟨_, _, ⟨T102, L102, k102, n102⟩, -, X102, ⟨Lc102, hQ102, l102, y102, z102⟩, st102⟩ := X101.privateBack hx (y := yn21) hown (mvT hZ (w86 hw)) (mvT hZ (w87 hw)) (mvT hZ (w89 hw)) (Cond.privateMethod_at (mvP hZ (w88 hw) (args := #[]))) (mvT hZ (w90 hw)) (by decide) (backOf (W := 0) (rm_growI l Z a0 hw [] a mc oD kD h0 n0 Z0 O0 S_de V_de E1 F1 F2 F3 g1) hZ (w90 hw) (w3 hw) (by decide) (by decide)) (g := (mkF m 7 #[.val (.ref a)] [(.int (1 : Int32)), (.ref a)])) rfl (by rw [hml]; rfl) (Steps.refl _) (a := a) (by rw [e101]; exact q102) q102' (argsL := [(.int (1 : Int32))]) (rest := []) (lenOf pd12 rfl) rfl (wq rfl) (D_ d22_7) (fun _ _ => ⟨rfl, e101, (nb rfl), (nb rfl)⟩)
  dsimp only [Pt.U, Pt.locs, Pt.cells, Pt.slots] at X102 l102 y102 z102 st102 hQ102
  subst l102 y102 z102
  obtain ⟨d_103, kd_104, rfl, Nq102, K102, P102_0, P102_1, P102_2, P102_3, P102_4, P102_5, P102_6⟩ := hQ102
  have N102 := Fr.app N0 Nq102
  have W105 : ∀ zQ, SS p e below T102 m 10 #[.val (.ref a)] [(.ref d_103)] zQ → Steps p.tables e below (s₁.setTop (entryFrame m #[(.ref a)] 1)) zQ := by
    intro tt kt
    refine W0 tt ?_
    refine XS.aloadN X0.here hx rfl (D_ d22_0) rfl rfl ?_
    refine XS.aloadN X0.here hx rfl (D_ d22_1) rfl rfl ?_
    refine st101 _ ?_
    refine XS.iconst X101.here hx rfl (D_ d22_5) ?_
    refine XS.iadd X101.here hx rfl (D_ d22_6) rfl ?_
    refine st102.trans ?_
    exact kt
  obtain ⟨fs, hr, hrun, hended, hW, hsame⟩ := X102.leave (v := some (.ref d_103)) (fun h => by rw [Bd.returns] at h; cases h)
  refine ⟨_, _, W105 _ (own_retR X102 hx Bd.returns rfl rfl (D_ d22_10) hr), hrun, hended, _, _, rfl, ?_, ⟨_, rfl⟩, hW, hsame.mono (by decide) (by decide)⟩
  show Q_grow Z a mc oD kD h0 n0 _ T102.heap _
  exact ⟨d_103, kd_104, rfl, N102, (Keep.trans (Keep.refl h0 [a]) K102 (allS (Or.inl (List.mem_of_getElem? (i := 0) rfl)) all0)), P102_0, P102_1, P102_2, P102_3, P102_4, P102_5, P102_6⟩
def Q_addA0 (Z : State) (a : Addr) (pp_ : Addr) (oD : Addr) (mc : Int32) (kD : ClassId) (h0 : Heap) (n0 : Nat) (vQ_ : Option Value) (hQ_ : Heap) (LQ_ : List Loc) : Prop := ∃ d : Addr, ∃ kd : ClassId, vQ_ = none ∧ Fr n0 LQ_ ∧ Keep h0 hQ_ [a] ∧ h0.size ≤ d ∧ Exa Z hQ_ a "java/util/ArrayList" ∧ Fld Z hQ_ a "java/util/ArrayList" "elementData" "[Ljava/lang/Object;" (.ref d) ∧ Fld Z hQ_ a "java/util/ArrayList" "size" "I" (.int (1 : Int32)) ∧ Fld Z hQ_ a "java/util/AbstractList" "modCount" "I" (.int mc) ∧ Arv Z hQ_ d kd (.object "java/lang/Object") (10 : Int32) [(.ref pp_), .null, .null, .null, .null, .null, .null, .null, .null, .null] .null ∧ Ovr Z kd "java/lang/Object"
theorem rm_addA0 (l : Launch) (Z : State) (a0 : Array Value) (hw : HW a0 Z) (ws : List Jvm.Cond) (a : Addr) (pp_ : Addr) (oD : Addr) (mc : Int32) (kD : ClassId) (h0 : Heap) (n0 : Nat) (Z0 : n0 ≤ h0.size) (O0 : Old Z n0 h0) (S_de : Sta Z Z.heap "java/util/ArrayList" "DEFAULTCAPACITY_EMPTY_ELEMENTDATA" "[Ljava/lang/Object;" (.ref oD)) (V_de : Arv Z Z.heap oD kD (.object "java/lang/Object") (0 : Int32) [] .null) (E1 : Exa Z h0 a "java/util/ArrayList") (F1 : Fld Z h0 a "java/util/AbstractList" "modCount" "I" (.int mc)) (F2 : Fld Z h0 a "java/util/ArrayList" "size" "I" (.int (0 : Int32))) (F3 : Fld Z h0 a "java/util/ArrayList" "elementData" "[Ljava/lang/Object;" (.ref oD)) (g1 : n0 ≤ a) (EP : Exa Z h0 pp_ "java/math/BigDecimal") :
    CT l yn23 (Jvm.Cond.code yn23 jdk_38_method_24_code 4 none :: ws) (⟨3, 1, 10, 41⟩ : Room) #[(.ref a), (.ref pp_), (.ref oD), (.int (0 : Int32))] Z h0 (Q_addA0 Z a pp_ oD mc kD h0 n0) := by
  refine MetFree.of_bodySF (plainFor_of_name pn_java_util_ArrayList) hisR ?_
  intro p e s m args below meth cO s₁ Bd hml hP hK
  obtain ⟨rfl, hZ, hh⟩ := hP
  have hx := Bd.exec
  have hby := Bd.bytes
  have hown : s.vm.findClass "java/util/ArrayList" = some m.cls := findClass_of_methodNamed Bd.named
  have hnm := (name_of_methodNamed Bd.named Bd.method).1
  have X0 : Stand p l e (⟨3, 1, 10, 41⟩ : Room) s m #[(.ref a), (.ref pp_), (.ref oD), (.int (0 : Int32))] below meth cO s₁ [] 0 0 := Stand.of_body Bd
  have e0 : s₁.heap = h0 := by rw [← hh, Bd.state]; rfl
  have N0 := Fr.nil n0
  have D_ : ∀ {i : Nat} {x}, decode jdk_38_method_24_code i = x → decode cO.code i = x := fun h => hb hby h
  have W0 : ∀ zQ, SS p e below s₁ m 0 #[.val (.ref a), .val (.ref pp_), .val (.ref oD), .val (.int (0 : Int32))] [] zQ → Steps p.tables e below (s₁.setTop (entryFrame m #[(.ref a), (.ref pp_), (.ref oD), (.int (0 : Int32))] 4)) zQ := fun tt kt => castTop (ef_addA0 m a pp_ oD (0 : Int32)) kt
  have F101 : Arv Z h0 oD kD (.object "java/lang/Object") (0 : Int32) [] .null := V_de.ext O0.2
  obtain ⟨cl102, Ar102, -, S102, M102, -, -⟩ := id F101
  obtain ⟨cq103, q103, q103'⟩ := E1.cell
  obtain ⟨_, _, ⟨T103, L103, k103, n103⟩, -, X103, ⟨Lc103, hQ103, l103, y103, z103⟩, st103⟩ := X0.privateBack hx (y := yn22) hown (mvT hZ (w81 hw)) (mvT hZ (w82 hw)) (mvT hZ (w84 hw)) (Cond.privateMethod_at (mvP hZ (w83 hw) (args := #[]))) (mvT hZ (w85 hw)) (by decide) (backOf (W := 0) (rm_grow l Z a0 hw [] a mc oD kD h0 n0 Z0 O0 S_de V_de E1 F1 F2 F3 g1) hZ (w85 hw) (w3 hw) (by decide) (by decide)) (g := (mkF m 7 #[.val (.ref a), .val (.ref pp_), .val (.ref oD), .val (.int (0 : Int32))] [(.ref a)])) rfl (by rw [hml]; rfl) (Steps.refl _) (a := a) (by rw [e0]; exact q103) q103' (argsL := []) (rest := []) (lenOf pd13 rfl) rfl (wq rfl) (D_ d23_7) (fun _ _ => ⟨rfl, e0, (nb rfl), (nb rfl)⟩)
  dsimp only [Pt.U, Pt.locs, Pt.cells, Pt.slots] at X103 l103 y103 z103 st103 hQ103
  subst l103 y103 z103
  obtain ⟨d_104, kd_105, rfl, Nq103, K103, P103_0, P103_1, P103_2, P103_3, P103_4, P103_5, P103_6⟩ := hQ103
  have N103 := Fr.app N0 Nq103
  obtain ⟨cl106, Ar106, q106, S106, M106, H106, F106g⟩ := id P103_5
  have hin106 : ¬ ((0 : Int32) < 0 ∨ cl106.slots.size ≤ ((0 : Int32)).toNatClampNeg) := inb_of S106 ⟨by decide, by decide⟩
  have F107 : Exa Z T103.heap pp_ "java/math/BigDecimal" := (EP.keep K103)
  obtain ⟨T106, h106, X106, e106, Wr106, st106⟩ := stR X103 hx hZ rfl Ar106 (j := (0 : Int32)) hin106 rfl (Sto.ofV Ar106 q106 P103_6 (Ins.of_exa F107 (w97 hw))) (g := (mkF m 14 #[.val (.ref a), .val (.ref pp_), .val (.ref d_104), .val (.int (0 : Int32))] [(.ref pp_), (.int (0 : Int32)), (.ref d_104)])) rfl rfl (D_ d23_14)
  have G106 : Arv Z h106 d_104 kd_105 (.object "java/lang/Object") (10 : Int32) [(.ref pp_), .null, .null, .null, .null, .null, .null, .null, .null, .null] .null := Arv.set Ar106 q106 S106 M106 H106 F106g rfl Wr106 0 rfl (Nat.le_of_ble_eq_true rfl)
  have K106 := Keep.of_wr Wr106
  have N106 := Fr.snoc X106 N103 (Nat.le_trans Z0 P103_0)
  have F108 : Exa Z h106 a "java/util/ArrayList" := (P103_1.keep K106)
  have F109 : Fld Z h106 a "java/util/ArrayList" "size" "I" (.int (0 : Int32)) := (P103_3.keep K106 (ninS (Nat.ne_of_lt (Nat.lt_of_lt_of_le E1.lt P103_0)) nin0))
  obtain ⟨T110, h110, X110, e110, Wr110, st110⟩ := putF X106 hx hZ hown (host := "") (Or.inl (w40 hw)) Via.refl e106 F109 F108 (Or.inl (w41 hw)) (w2 hw) (ty := .int) (by decide) rfl rfl (g := (mkF m 19 #[.val (.ref a), .val (.ref pp_), .val (.ref d_104), .val (.int (0 : Int32))] [(.int (1 : Int32)), (.ref a)])) rfl rfl (D_ d23_19)
  have K110 := Keep.of_wr Wr110
  have G110 := F109.same Wr110
  have N110 := Fr.snoc X110 N106 g1
  have W111 : ∀ zQ, SS p e below T110 m 22 #[.val (.ref a), .val (.ref pp_), .val (.ref d_104), .val (.int (0 : Int32))] [] zQ → Steps p.tables e below (s₁.setTop (entryFrame m #[(.ref a), (.ref pp_), (.ref oD), (.int (0 : Int32))] 4)) zQ := by
    intro tt kt
    refine W0 tt ?_
    refine XS.iloadN X0.here hx rfl (D_ d23_0) rfl ?_
    refine XS.aloadN X0.here hx rfl (D_ d23_1) rfl rfl ?_
    refine X0.arraylength hx (by first | exact Ar102.1 | (rw [e0]; exact Ar102.1)) (State.isArrayOf_alike hZ.alike Ar102.2.1) (g := (mkF m 2 #[.val (.ref a), .val (.ref pp_), .val (.ref oD), .val (.int (0 : Int32))] [(.ref oD), (.int (0 : Int32))])) rfl rfl (D_ d23_2) _ ?_
    rw [len_of S102 M102]
    refine XS.icmpNo X0.here hx rfl (D_ d23_3) rfl (teq (by decide)).2 ?_
    refine XS.aloadN X0.here hx rfl (D_ d23_6) rfl rfl ?_
    refine st103.trans ?_
    refine XS.astoreN X103.here hx rfl (D_ d23_10) rfl rfl (l' := #[.val (.ref a), .val (.ref pp_), .val (.ref d_104), .val (.int (0 : Int32))]) rfl ?_
    refine XS.aloadN X103.here hx rfl (D_ d23_11) rfl rfl ?_
    refine XS.iloadN X103.here hx rfl (D_ d23_12) rfl ?_
    refine XS.aloadN X103.here hx rfl (D_ d23_13) rfl rfl ?_
    refine st106 _ ?_
    refine XS.aloadN X106.here hx rfl (D_ d23_15) rfl rfl ?_
    refine XS.iloadN X106.here hx rfl (D_ d23_16) rfl ?_
    refine XS.iconst X106.here hx rfl (D_ d23_17) ?_
    refine XS.iadd X106.here hx rfl (D_ d23_18) rfl ?_
    refine st110 _ ?_
    exact kt
  have F112 : Exa Z h110 a "java/util/ArrayList" := (F108.keep K110)
  have F113 : Fld Z h110 a "java/util/ArrayList" "elementData" "[Ljava/lang/Object;" (.ref d_104) := (Fld.other Wr110 (P103_2.keep K106 (ninS (Nat.ne_of_lt (Nat.lt_of_lt_of_le E1.lt P103_0)) nin0)) (Or.inr (slot_ne (Or.inl (w26 hw)) (Or.inl (w41 hw)) (by decide) (t := (.array (.object "java/lang/Object"))) (t' := .int) (by decide) (by decide))))
  have F114 : Fld Z h110 a "java/util/AbstractList" "modCount" "I" (.int mc) := (Fld.other Wr110 (P103_4.keep K106 (ninS (Nat.ne_of_lt (Nat.lt_of_lt_of_le E1.lt P103_0)) nin0)) (Or.inr (slot_ne (Or.inl (w23 hw)) (Or.inl (w41 hw)) (by decide) (t := .int) (t' := .int) (by decide) (by decide))))
  have F115 : Arv Z h110 d_104 kd_105 (.object "java/lang/Object") (10 : Int32) [(.ref pp_), .null, .null, .null, .null, .null, .null, .null, .null, .null] .null := (G106.keep K110 (ninS (Ne.symm (Nat.ne_of_lt (Nat.lt_of_lt_of_le E1.lt P103_0))) nin0))
  obtain ⟨fs, hr, hrun, hended, hW, hsame⟩ := X110.leave (v := none) (fun _ => rfl)
  refine ⟨_, _, W111 _ (X110.returnOut hx Bd.returns (D_ d23_22) hr), hrun, hended, _, _, rfl, ?_, ⟨_, rfl⟩, hW, hsame.mono (by decide) (by decide)⟩
  show Q_addA0 Z a pp_ oD mc kD h0 n0 _ T110.heap _
  rw [e110]
  exact ⟨d_104, kd_105, rfl, N110, (Keep.trans (Keep.trans (Keep.trans (Keep.refl h0 [a]) K103 (allS (Or.inl (List.mem_of_getElem? (i := 0) rfl)) all0)) K106 (allS (Or.inr P103_0) all0)) K110 (allS (Or.inl (List.mem_of_getElem? (i := 0) rfl)) all0)), P103_0, F112, F113, G110, F114, F115, P103_6⟩
def Q_add0 (Z : State) (a : Addr) (pp_ : Addr) (oD : Addr) (kD : ClassId) (h0 : Heap) (n0 : Nat) (vQ_ : Option Value) (hQ_ : Heap) (LQ_ : List Loc) : Prop := ∃ d : Addr, ∃ kd : ClassId, vQ_ = some (.int (1 : Int32)) ∧ Fr n0 LQ_ ∧ Keep h0 hQ_ [a] ∧ h0.size ≤ d ∧ Exa Z hQ_ a "java/util/ArrayList" ∧ Fld Z hQ_ a "java/util/ArrayList" "elementData" "[Ljava/lang/Object;" (.ref d) ∧ Fld Z hQ_ a "java/util/ArrayList" "size" "I" (.int (1 : Int32)) ∧ Fld Z hQ_ a "java/util/AbstractList" "modCount" "I" (.int (1 : Int32)) ∧ Arv Z hQ_ d kd (.object "java/lang/Object") (10 : Int32) [(.ref pp_), .null, .null, .null, .null, .null, .null, .null, .null, .null] .null ∧ Ovr Z kd "java/lang/Object"
theorem rm_add0 (l : Launch) (Z : State) (a0 : Array Value) (hw : HW a0 Z) (ws : List Jvm.Cond) (a : Addr) (pp_ : Addr) (oD : Addr) (kD : ClassId) (h0 : Heap) (n0 : Nat) (Z0 : n0 ≤ h0.size) (O0 : Old Z n0 h0) (S_de : Sta Z Z.heap "java/util/ArrayList" "DEFAULTCAPACITY_EMPTY_ELEMENTDATA" "[Ljava/lang/Object;" (.ref oD)) (V_de : Arv Z Z.heap oD kD (.object "java/lang/Object") (0 : Int32) [] .null) (E1 : Exa Z h0 a "java/util/ArrayList") (F1 : Fld Z h0 a "java/util/AbstractList" "modCount" "I" (.int (0 : Int32))) (F2 : Fld Z h0 a "java/util/ArrayList" "size" "I" (.int (0 : Int32))) (F3 : Fld Z h0 a "java/util/ArrayList" "elementData" "[Ljava/lang/Object;" (.ref oD)) (g1 : n0 ≤ a) (EP : Exa Z h0 pp_ "java/math/BigDecimal") :
    CT l yn24 (Jvm.Cond.code yn24 jdk_38_method_25_code 2 (some .boolean) :: ws) (⟨4, 1, 10, 56⟩ : Room) #[(.ref a), (.ref pp_)] Z h0 (Q_add0 Z a pp_ oD kD h0 n0) := by
  refine MetFree.of_bodySF (plainFor_of_name pn_java_util_ArrayList) hisR ?_
  intro p e s m args below meth cO s₁ Bd hml hP hK
  obtain ⟨rfl, hZ, hh⟩ := hP
  have hx := Bd.exec
  have hby := Bd.bytes
  have hown : s.vm.findClass "java/util/ArrayList" = some m.cls := findClass_of_methodNamed Bd.named
  have hnm := (name_of_methodNamed Bd.named Bd.method).1
  have X0 : Stand p l e (⟨4, 1, 10, 56⟩ : Room) s m #[(.ref a), (.ref pp_)] below meth cO s₁ [] 0 0 := Stand.of_body Bd
  have e0 : s₁.heap = h0 := by rw [← hh, Bd.state]; rfl
  have N0 := Fr.nil n0
  have D_ : ∀ {i : Nat} {x}, decode jdk_38_method_25_code i = x → decode cO.code i = x := fun h => hb hby h
  have W0 : ∀ zQ, SS p e below s₁ m 0 #[.val (.ref a), .val (.ref pp_)] [] zQ → Steps p.tables e below (s₁.setTop (entryFrame m #[(.ref a), (.ref pp_)] 2)) zQ := fun tt kt => castTop (ef_add0 m a pp_) kt
  obtain ⟨T101, X101, e101, st101⟩ := getF X0 hx hZ hown (host := "") (Or.inl (w74 hw)) (Via.of (w75 hw)) e0 F1 (g := (mkF m 2 #[.val (.ref a), .val (.ref pp_)] [(.ref a), (.ref a)])) rfl rfl (D_ d24_2)
  obtain ⟨T102, h102, X102, e102, Wr102, st102⟩ := putF X101 hx hZ hown (host := "") (Or.inl (w74 hw)) (Via.of (w75 hw)) e101 F1 E1 (Or.inl (w23 hw)) (w2 hw) (ty := .int) (by decide) rfl rfl (g := (mkF m 7 #[.val (.ref a), .val (.ref pp_)] [(.int (1 : Int32)), (.ref a)])) rfl rfl (D_ d24_7)
  have K102 := Keep.of_wr Wr102
  have G102 := F1.same Wr102
  have N102 := Fr.snoc X102 N0 g1
  have F103 : Fld Z h102 a "java/util/ArrayList" "elementData" "[Ljava/lang/Object;" (.ref oD) := (Fld.other Wr102 F3 (Or.inr (slot_ne (Or.inl (w26 hw)) (Or.inl (w23 hw)) (by decide) (t := (.array (.object "java/lang/Object"))) (t' := .int) (by decide) (by decide))))
  obtain ⟨T104, X104, e104, st104⟩ := getF X102 hx hZ hown (host := "") (Or.inl (w25 hw)) Via.refl e102 F103 (g := (mkF m 13 #[.val (.ref a), .val (.ref pp_)] [(.ref a), (.ref pp_), (.ref a)])) rfl rfl (D_ d24_13)
  have F105 : Fld Z h102 a "java/util/ArrayList" "size" "I" (.int (0 : Int32)) := (Fld.other Wr102 F2 (Or.inr (slot_ne (Or.inl (w41 hw)) (Or.inl (w23 hw)) (by decide) (t := .int) (t' := .int) (by decide) (by decide))))
  obtain ⟨T106, X106, e106, st106⟩ := getF X104 hx hZ hown (host := "") (Or.inl (w40 hw)) Via.refl e104 F105 (g := (mkF m 17 #[.val (.ref a), .val (.ref pp_)] [(.ref a), (.ref oD), (.ref pp_), (.ref a)])) rfl rfl (D_ d24_17)
  have F107 : Exa Z h102 a "java/util/ArrayList" := (E1.keep K102)
  have F108 : Exa Z h102 pp_ "java/math/BigDecimal" := (EP.keep K102)
  have O109 : Old Z n0 h102 := (O0.keep K102 (allS g1 all0))
  obtain ⟨cq110, q110, q110'⟩ := F107.cell
  obtain ⟨_, _, ⟨T110, L110, k110, n110⟩, -, X110, ⟨Lc110, hQ110, l110, y110, z110⟩, st110⟩ := X106.privateBack hx (y := yn23) hown (mvT hZ (w76 hw)) (mvT hZ (w77 hw)) (mvT hZ (w79 hw)) (Cond.privateMethod_at (mvP hZ (w78 hw) (args := #[]))) (mvT hZ (w80 hw)) (by decide) (backOf (W := 0) (rm_addA0 l Z a0 hw [] a pp_ oD (1 : Int32) kD h102 n0 (Nat.le_trans Z0 K102.1) O109 S_de V_de F107 G102 F105 F103 g1 F108) hZ (w80 hw) (w3 hw) (by decide) (by decide)) (g := (mkF m 20 #[.val (.ref a), .val (.ref pp_)] [(.int (0 : Int32)), (.ref oD), (.ref pp_), (.ref a)])) rfl (by rw [hml]; rfl) (Steps.refl _) (a := a) (by rw [e106]; exact q110) q110' (argsL := [(.ref pp_), (.ref oD), (.int (0 : Int32))]) (rest := []) (lenOf pd14 rfl) rfl (wq rfl) (D_ d24_20) (fun _ _ => ⟨rfl, e106, (nb rfl), (nb rfl)⟩)
  dsimp only [Pt.U, Pt.locs, Pt.cells, Pt.slots] at X110 l110 y110 z110 st110 hQ110
  subst l110 y110 z110
  obtain ⟨d_111, kd_112, rfl, Nq110, K110, P110_0, P110_1, P110_2, P110_3, P110_4, P110_5, P110_6⟩ := hQ110
  have N110 := Fr.app N102 Nq110
  have W113 : ∀ zQ, SS p e below T110 m 24 #[.val (.ref a), .val (.ref pp_)] [(.int (1 : Int32))] zQ → Steps p.tables e below (s₁.setTop (entryFrame m #[(.ref a), (.ref pp_)] 2)) zQ := by
    intro tt kt
    refine W0 tt ?_
    refine XS.aloadN X0.here hx rfl (D_ d24_0) rfl rfl ?_
    refine XS.dup X0.here hx rfl (D_ d24_1) rfl rfl ?_
    refine st101 _ ?_
    refine XS.iconst X101.here hx rfl (D_ d24_5) ?_
    refine XS.iadd X101.here hx rfl (D_ d24_6) rfl ?_
    refine st102 _ ?_
    refine XS.aloadN X102.here hx rfl (D_ d24_10) rfl rfl ?_
    refine XS.aloadN X102.here hx rfl (D_ d24_11) rfl rfl ?_
    refine XS.aloadN X102.here hx rfl (D_ d24_12) rfl rfl ?_
    refine st104 _ ?_
    refine XS.aloadN X104.here hx rfl (D_ d24_16) rfl rfl ?_
    refine st106 _ ?_
    refine st110.trans ?_
    refine XS.iconst X110.here hx rfl (D_ d24_23) ?_
    exact kt
  obtain ⟨fs, hr, hrun, hended, hW, hsame⟩ := X110.leave (v := some (.int (nar .boolean (1 : Int32)))) (fun h => by rw [Bd.returns] at h; cases h)
  refine ⟨_, _, W113 _ (retN X110 hx (t := .boolean) Bd.returns (by simp) (D_ d24_24) hr), hrun, hended, _, _, rfl, ?_, ⟨_, rfl⟩, hW, hsame.mono (by decide) (by decide)⟩
  show Q_add0 Z a pp_ oD kD h0 n0 _ T110.heap _
  exact ⟨d_111, kd_112, rfl, N110, (Keep.trans (Keep.trans (Keep.refl h0 [a]) K102 (allS (Or.inl (List.mem_of_getElem? (i := 0) rfl)) all0)) K110 (allS (Or.inl (List.mem_of_getElem? (i := 0) rfl)) all0)), (Nat.le_trans K102.1 P110_0), P110_1, P110_2, P110_3, P110_4, P110_5, P110_6⟩
def Q_addAk (Z : State) (a : Addr) (pp_ : Addr) (d : Addr) (mc : Int32) (k : Nat) (kd : ClassId) (dl : List Value) (h0 : Heap) (n0 : Nat) (vQ_ : Option Value) (hQ_ : Heap) (LQ_ : List Loc) : Prop := vQ_ = none ∧ Fr n0 LQ_ ∧ Keep h0 hQ_ [a, d] ∧ Exa Z hQ_ a "java/util/ArrayList" ∧ Fld Z hQ_ a "java/util/ArrayList" "elementData" "[Ljava/lang/Object;" (.ref d) ∧ Fld Z hQ_ a "java/util/ArrayList" "size" "I" (.int (Int32.ofNat (k + 1))) ∧ Arv Z hQ_ d kd (.object "java/lang/Object") (10 : Int32) (dl.set k (.ref pp_)) .null ∧ Fld Z hQ_ a "java/util/AbstractList" "modCount" "I" (.int mc)
theorem rm_addAk (l : Launch) (Z : State) (a0 : Array Value) (hw : HW a0 Z) (ws : List Jvm.Cond) (a : Addr) (pp_ : Addr) (d : Addr) (mc : Int32) (k : Nat) (kd : ClassId) (dl : List Value) (h0 : Heap) (n0 : Nat) (Z0 : n0 ≤ h0.size) (E1 : Exa Z h0 a "java/util/ArrayList") (F1 : Fld Z h0 a "java/util/AbstractList" "modCount" "I" (.int mc)) (F2 : Fld Z h0 a "java/util/ArrayList" "size" "I" (.int (Int32.ofNat k))) (F3 : Fld Z h0 a "java/util/ArrayList" "elementData" "[Ljava/lang/Object;" (.ref d)) (V1 : Arv Z h0 d kd (.object "java/lang/Object") (10 : Int32) dl .null) (hk : k < 10) (hdl : dl.length = 10) (hov : Ovr Z kd "java/lang/Object") (g1 : n0 ≤ a) (g2 : n0 ≤ d) (nad : a ≠ d) (EP : Exa Z h0 pp_ "java/math/BigDecimal") :
    CT l yn23 (Jvm.Cond.code yn23 jdk_38_method_24_code 4 none :: ws) (⟨0, 0, 0, 0⟩ : Room) #[(.ref a), (.ref pp_), (.ref d), (.int (Int32.ofNat k))] Z h0 (Q_addAk Z a pp_ d mc k kd dl h0 n0) := by
  refine MetFree.of_bodySF (plainFor_of_name pn_java_util_ArrayList) hisR ?_
  intro p e s m args below meth cO s₁ Bd hml hP hK
  obtain ⟨rfl, hZ, hh⟩ := hP
  have hx := Bd.exec
  have hby := Bd.bytes
  have hown : s.vm.findClass "java/util/ArrayList" = some m.cls := findClass_of_methodNamed Bd.named
  have hnm := (name_of_methodNamed Bd.named Bd.method).1
  have X0 : Stand p l e (⟨0, 0, 0, 0⟩ : Room) s m #[(.ref a), (.ref pp_), (.ref d), (.int (Int32.ofNat k))] below meth cO s₁ [] 0 0 := Stand.of_body Bd
  have e0 : s₁.heap = h0 := by rw [← hh, Bd.state]; rfl
  have N0 := Fr.nil n0
  have D_ : ∀ {i : Nat} {x}, decode jdk_38_method_24_code i = x → decode cO.code i = x := fun h => hb hby h
  have W0 : ∀ zQ, SS p e below s₁ m 0 #[.val (.ref a), .val (.ref pp_), .val (.ref d), .val (.int (Int32.ofNat k))] [] zQ → Steps p.tables e below (s₁.setTop (entryFrame m #[(.ref a), (.ref pp_), (.ref d), (.int (Int32.ofNat k))] 4)) zQ := fun tt kt => castTop (ef_addAk m a pp_ d (Int32.ofNat k)) kt
  obtain ⟨cl101, Ar101, -, S101, M101, -, -⟩ := id V1
  obtain ⟨cl102, Ar102, q102, S102, M102, H102, F102g⟩ := id V1
  have hin102 : ¬ ((Int32.ofNat k) < 0 ∨ cl102.slots.size ≤ ((Int32.ofNat k)).toNatClampNeg) := inb_of S102 ⟨own_nneg (by omega), own_lt (n := 10) hk (by decide)⟩
  obtain ⟨T102, h102, X102, e102, Wr102, st102⟩ := stR X0 hx hZ e0 Ar102 (j := (Int32.ofNat k)) hin102 rfl (Sto.ofV Ar102 q102 hov (Ins.of_exa EP (w97 hw))) (g := (mkF m 14 #[.val (.ref a), .val (.ref pp_), .val (.ref d), .val (.int (Int32.ofNat k))] [(.ref pp_), (.int (Int32.ofNat k)), (.ref d)])) rfl rfl (D_ d23_14)
  have G102 : Arv Z h102 d kd (.object "java/lang/Object") (10 : Int32) (dl.set k (.ref pp_)) .null := Arv.set Ar102 q102 S102 M102 H102 F102g rfl Wr102 k (own_cl (by omega)) (by rw [hdl]; exact hk)
  have K102 := Keep.of_wr Wr102
  have N102 := Fr.snoc X102 N0 g2
  have F103 : Exa Z h102 a "java/util/ArrayList" := (E1.keep K102)
  have F104 : Fld Z h102 a "java/util/ArrayList" "size" "I" (.int (Int32.ofNat k)) := (F2.keep K102 (ninS nad nin0))
  obtain ⟨T105, h105, X105, e105, Wr105, st105⟩ := putF X102 hx hZ hown (host := "") (Or.inl (w40 hw)) Via.refl e102 F104 F103 (Or.inl (w41 hw)) (w2 hw) (ty := .int) (by decide) rfl rfl (g := (mkF m 19 #[.val (.ref a), .val (.ref pp_), .val (.ref d), .val (.int (Int32.ofNat k))] [(.int (Int32.ofNat (k + 1))), (.ref a)])) rfl rfl (D_ d23_19)
  have K105 := Keep.of_wr Wr105
  have G105 := F104.same Wr105
  have N105 := Fr.snoc X105 N102 g1
  have W106 : ∀ zQ, SS p e below T105 m 22 #[.val (.ref a), .val (.ref pp_), .val (.ref d), .val (.int (Int32.ofNat k))] [] zQ → Steps p.tables e below (s₁.setTop (entryFrame m #[(.ref a), (.ref pp_), (.ref d), (.int (Int32.ofNat k))] 4)) zQ := by
    intro tt kt
    refine W0 tt ?_
    refine XS.iloadN X0.here hx rfl (D_ d23_0) rfl ?_
    refine XS.aloadN X0.here hx rfl (D_ d23_1) rfl rfl ?_
    refine X0.arraylength hx (by first | exact Ar101.1 | (rw [e0]; exact Ar101.1)) (State.isArrayOf_alike hZ.alike Ar101.2.1) (g := (mkF m 2 #[.val (.ref a), .val (.ref pp_), .val (.ref d), .val (.int (Int32.ofNat k))] [(.ref d), (.int (Int32.ofNat k))])) rfl rfl (D_ d23_2) _ ?_
    rw [len_of S101 M101]
    refine XS.icmpYes X0.here hx rfl (pc0 := 3) (pc' := 11) rfl (D_ d23_3) rfl (feq (show ¬ (Int32.ofNat k = Int32.ofNat 10) from own_neq (by omega) (by omega) (by decide))).2 (by decide) (by decide) ?_
    refine XS.aloadN X0.here hx rfl (D_ d23_11) rfl rfl ?_
    refine XS.iloadN X0.here hx rfl (D_ d23_12) rfl ?_
    refine XS.aloadN X0.here hx rfl (D_ d23_13) rfl rfl ?_
    refine st102 _ ?_
    refine XS.aloadN X102.here hx rfl (D_ d23_15) rfl rfl ?_
    refine XS.iloadN X102.here hx rfl (D_ d23_16) rfl ?_
    refine XS.iconst X102.here hx rfl (D_ d23_17) ?_
    refine XS.iadd X102.here hx rfl (D_ d23_18) rfl ?_
    show SS p e below T102 m 19 #[.val (.ref a), .val (.ref pp_), .val (.ref d), .val (.int (Int32.ofNat k))] [(.int ((Int32.ofNat k) + (1 : Int32))), (.ref a)] _
    rw [show ((Int32.ofNat k) + (1 : Int32)) = (Int32.ofNat (k + 1)) from own_succ _]
    refine st105 _ ?_
    exact kt
  have F107 : Exa Z h105 a "java/util/ArrayList" := (F103.keep K105)
  have F108 : Fld Z h105 a "java/util/ArrayList" "elementData" "[Ljava/lang/Object;" (.ref d) := (Fld.other Wr105 (F3.keep K102 (ninS nad nin0)) (Or.inr (slot_ne (Or.inl (w26 hw)) (Or.inl (w41 hw)) (by decide) (t := (.array (.object "java/lang/Object"))) (t' := .int) (by decide) (by decide))))
  have F109 : Arv Z h105 d kd (.object "java/lang/Object") (10 : Int32) (dl.set k (.ref pp_)) .null := (G102.keep K105 (ninS (Ne.symm nad) nin0))
  have F110 : Fld Z h105 a "java/util/AbstractList" "modCount" "I" (.int mc) := (Fld.other Wr105 (F1.keep K102 (ninS nad nin0)) (Or.inr (slot_ne (Or.inl (w23 hw)) (Or.inl (w41 hw)) (by decide) (t := .int) (t' := .int) (by decide) (by decide))))
  obtain ⟨fs, hr, hrun, hended, hW, hsame⟩ := X105.leave (v := none) (fun _ => rfl)
  refine ⟨_, _, W106 _ (X105.returnOut hx Bd.returns (D_ d23_22) hr), hrun, hended, _, _, rfl, ?_, ⟨_, rfl⟩, hW, hsame.mono (by decide) (by decide)⟩
  show Q_addAk Z a pp_ d mc k kd dl h0 n0 _ T105.heap _
  rw [e105]
  exact ⟨rfl, N105, (Keep.trans (Keep.trans (Keep.refl h0 [a, d]) K102 (allS (Or.inl (List.mem_of_getElem? (i := 1) rfl)) all0)) K105 (allS (Or.inl (List.mem_of_getElem? (i := 0) rfl)) all0)), F107, F108, G105, F109, F110⟩
def Q_addk (Z : State) (a : Addr) (pp_ : Addr) (d : Addr) (mc : Int32) (k : Nat) (kd : ClassId) (dl : List Value) (h0 : Heap) (n0 : Nat) (vQ_ : Option Value) (hQ_ : Heap) (LQ_ : List Loc) : Prop := vQ_ = some (.int (1 : Int32)) ∧ Fr n0 LQ_ ∧ Keep h0 hQ_ [a, d] ∧ Exa Z hQ_ a "java/util/ArrayList" ∧ Fld Z hQ_ a "java/util/ArrayList" "elementData" "[Ljava/lang/Object;" (.ref d) ∧ Fld Z hQ_ a "java/util/ArrayList" "size" "I" (.int (Int32.ofNat (k + 1))) ∧ Arv Z hQ_ d kd (.object "java/lang/Object") (10 : Int32) (dl.set k (.ref pp_)) .null ∧ Fld Z hQ_ a "java/util/AbstractList" "modCount" "I" (.int (mc + (1 : Int32)))
theorem rm_addk (l : Launch) (Z : State) (a0 : Array Value) (hw : HW a0 Z) (ws : List Jvm.Cond) (a : Addr) (pp_ : Addr) (d : Addr) (mc : Int32) (k : Nat) (kd : ClassId) (dl : List Value) (h0 : Heap) (n0 : Nat) (Z0 : n0 ≤ h0.size) (E1 : Exa Z h0 a "java/util/ArrayList") (F1 : Fld Z h0 a "java/util/AbstractList" "modCount" "I" (.int mc)) (F2 : Fld Z h0 a "java/util/ArrayList" "size" "I" (.int (Int32.ofNat k))) (F3 : Fld Z h0 a "java/util/ArrayList" "elementData" "[Ljava/lang/Object;" (.ref d)) (V1 : Arv Z h0 d kd (.object "java/lang/Object") (10 : Int32) dl .null) (hk : k < 10) (hdl : dl.length = 10) (hov : Ovr Z kd "java/lang/Object") (g1 : n0 ≤ a) (g2 : n0 ≤ d) (nad : a ≠ d) (EP : Exa Z h0 pp_ "java/math/BigDecimal") :
    CT l yn24 (Jvm.Cond.code yn24 jdk_38_method_25_code 2 (some .boolean) :: ws) (⟨1, 0, 0, 15⟩ : Room) #[(.ref a), (.ref pp_)] Z h0 (Q_addk Z a pp_ d mc k kd dl h0 n0) := by
  refine MetFree.of_bodySF (plainFor_of_name pn_java_util_ArrayList) hisR ?_
  intro p e s m args below meth cO s₁ Bd hml hP hK
  obtain ⟨rfl, hZ, hh⟩ := hP
  have hx := Bd.exec
  have hby := Bd.bytes
  have hown : s.vm.findClass "java/util/ArrayList" = some m.cls := findClass_of_methodNamed Bd.named
  have hnm := (name_of_methodNamed Bd.named Bd.method).1
  have X0 : Stand p l e (⟨1, 0, 0, 15⟩ : Room) s m #[(.ref a), (.ref pp_)] below meth cO s₁ [] 0 0 := Stand.of_body Bd
  have e0 : s₁.heap = h0 := by rw [← hh, Bd.state]; rfl
  have N0 := Fr.nil n0
  have D_ : ∀ {i : Nat} {x}, decode jdk_38_method_25_code i = x → decode cO.code i = x := fun h => hb hby h
  have W0 : ∀ zQ, SS p e below s₁ m 0 #[.val (.ref a), .val (.ref pp_)] [] zQ → Steps p.tables e below (s₁.setTop (entryFrame m #[(.ref a), (.ref pp_)] 2)) zQ := fun tt kt => castTop (ef_addk m a pp_) kt
  obtain ⟨T101, X101, e101, st101⟩ := getF X0 hx hZ hown (host := "") (Or.inl (w74 hw)) (Via.of (w75 hw)) e0 F1 (g := (mkF m 2 #[.val (.ref a), .val (.ref pp_)] [(.ref a), (.ref a)])) rfl rfl (D_ d24_2)
  obtain ⟨T102, h102, X102, e102, Wr102, st102⟩ := putF X101 hx hZ hown (host := "") (Or.inl (w74 hw)) (Via.of (w75 hw)) e101 F1 E1 (Or.inl (w23 hw)) (w2 hw) (ty := .int) (by decide) rfl rfl (g := (mkF m 7 #[.val (.ref a), .val (.ref pp_)] [(.int (mc + (1 : Int32))), (.ref a)])) rfl rfl (D_ d24_7)
  have K102 := Keep.of_wr Wr102
  have G102 := F1.same Wr102
  have N102 := Fr.snoc X102 N0 g1
  have F103 : Fld Z h102 a "java/util/ArrayList" "elementData" "[Ljava/lang/Object;" (.ref d) := (Fld.other Wr102 F3 (Or.inr (slot_ne (Or.inl (w26 hw)) (Or.inl (w23 hw)) (by decide) (t := (.array (.object "java/lang/Object"))) (t' := .int) (by decide) (by decide))))
  obtain ⟨T104, X104, e104, st104⟩ := getF X102 hx hZ hown (host := "") (Or.inl (w25 hw)) Via.refl e102 F103 (g := (mkF m 13 #[.val (.ref a), .val (.ref pp_)] [(.ref a), (.ref pp_), (.ref a)])) rfl rfl (D_ d24_13)
  have F105 : Fld Z h102 a "java/util/ArrayList" "size" "I" (.int (Int32.ofNat k)) := (Fld.other Wr102 F2 (Or.inr (slot_ne (Or.inl (w41 hw)) (Or.inl (w23 hw)) (by decide) (t := .int) (t' := .int) (by decide) (by decide))))
  obtain ⟨T106, X106, e106, st106⟩ := getF X104 hx hZ hown (host := "") (Or.inl (w40 hw)) Via.refl e104 F105 (g := (mkF m 17 #[.val (.ref a), .val (.ref pp_)] [(.ref a), (.ref d), (.ref pp_), (.ref a)])) rfl rfl (D_ d24_17)
  have F107 : Exa Z h102 a "java/util/ArrayList" := (E1.keep K102)
  have F108 : Arv Z h102 d kd (.object "java/lang/Object") (10 : Int32) dl .null := (V1.keep K102 (ninS (Ne.symm nad) nin0))
  have F109 : Exa Z h102 pp_ "java/math/BigDecimal" := (EP.keep K102)
  obtain ⟨cq110, q110, q110'⟩ := F107.cell
  obtain ⟨_, _, ⟨T110, L110, k110, n110⟩, -, X110, ⟨Lc110, hQ110, l110, y110, z110⟩, st110⟩ := X106.privateBack hx (y := yn23) hown (mvT hZ (w76 hw)) (mvT hZ (w77 hw)) (mvT hZ (w79 hw)) (Cond.privateMethod_at (mvP hZ (w78 hw) (args := #[]))) (mvT hZ (w80 hw)) (by decide) (backOf (W := 0) (rm_addAk l Z a0 hw [] a pp_ d (mc + (1 : Int32)) k kd dl h102 n0 (Nat.le_trans Z0 K102.1) F107 G102 F105 F103 F108 hk hdl hov g1 g2 nad F109) hZ (w80 hw) (w3 hw) (by decide) (by decide)) (g := (mkF m 20 #[.val (.ref a), .val (.ref pp_)] [(.int (Int32.ofNat k)), (.ref d), (.ref pp_), (.ref a)])) rfl (by rw [hml]; rfl) (Steps.refl _) (a := a) (by rw [e106]; exact q110) q110' (argsL := [(.ref pp_), (.ref d), (.int (Int32.ofNat k))]) (rest := []) (lenOf pd14 rfl) rfl (wq rfl) (D_ d24_20) (fun _ _ => ⟨rfl, e106, (nb rfl), (nb rfl)⟩)
  dsimp only [Pt.U, Pt.locs, Pt.cells, Pt.slots] at X110 l110 y110 z110 st110 hQ110
  subst l110 y110 z110
  obtain ⟨rfl, Nq110, K110, P110_0, P110_1, P110_2, P110_3, P110_4⟩ := hQ110
  have N110 := Fr.app N102 Nq110
  have W111 : ∀ zQ, SS p e below T110 m 24 #[.val (.ref a), .val (.ref pp_)] [(.int (1 : Int32))] zQ → Steps p.tables e below (s₁.setTop (entryFrame m #[(.ref a), (.ref pp_)] 2)) zQ := by
    intro tt kt
    refine W0 tt ?_
    refine XS.aloadN X0.here hx rfl (D_ d24_0) rfl rfl ?_
    refine XS.dup X0.here hx rfl (D_ d24_1) rfl rfl ?_
    refine st101 _ ?_
    refine XS.iconst X101.here hx rfl (D_ d24_5) ?_
    refine XS.iadd X101.here hx rfl (D_ d24_6) rfl ?_
    refine st102 _ ?_
    refine XS.aloadN X102.here hx rfl (D_ d24_10) rfl rfl ?_
    refine XS.aloadN X102.here hx rfl (D_ d24_11) rfl rfl ?_
    refine XS.aloadN X102.here hx rfl (D_ d24_12) rfl rfl ?_
    refine st104 _ ?_
    refine XS.aloadN X104.here hx rfl (D_ d24_16) rfl rfl ?_
    refine st106 _ ?_
    refine st110.trans ?_
    refine XS.iconst X110.here hx rfl (D_ d24_23) ?_
    exact kt
  obtain ⟨fs, hr, hrun, hended, hW, hsame⟩ := X110.leave (v := some (.int (nar .boolean (1 : Int32)))) (fun h => by rw [Bd.returns] at h; cases h)
  refine ⟨_, _, W111 _ (retN X110 hx (t := .boolean) Bd.returns (by simp) (D_ d24_24) hr), hrun, hended, _, _, rfl, ?_, ⟨_, rfl⟩, hW, hsame.mono (by decide) (by decide)⟩
  show Q_addk Z a pp_ d mc k kd dl h0 n0 _ T110.heap _
  exact ⟨rfl, N110, (Keep.trans (Keep.trans (Keep.refl h0 [a, d]) K102 (allS (Or.inl (List.mem_of_getElem? (i := 0) rfl)) all0)) K110 (allS (Or.inl (List.mem_of_getElem? (i := 0) rfl)) (allS (Or.inl (List.mem_of_getElem? (i := 1) rfl)) all0))), P110_0, P110_1, P110_2, P110_3, P110_4⟩
def Q_alsize (Z : State) (a : Addr) (n : Int32) (h0 : Heap) (n0 : Nat) (vQ_ : Option Value) (hQ_ : Heap) (LQ_ : List Loc) : Prop := vQ_ = some (.int n) ∧ Fr n0 LQ_ ∧ hQ_ = h0
theorem rm_alsize (l : Launch) (Z : State) (a0 : Array Value) (hw : HW a0 Z) (ws : List Jvm.Cond) (a : Addr) (n : Int32) (h0 : Heap) (n0 : Nat) (Z0 : n0 ≤ h0.size) (F1 : Fld Z h0 a "java/util/ArrayList" "size" "I" (.int n)) :
    CT l yn25 (Jvm.Cond.code yn25 jdk_38_method_8_code 1 (some .int) :: ws) (⟨0, 0, 0, 0⟩ : Room) #[(.ref a)] Z h0 (Q_alsize Z a n h0 n0) := by
  refine MetFree.of_bodySF (plainFor_of_name pn_java_util_ArrayList) hisR ?_
  intro p e s m args below meth cO s₁ Bd hml hP hK
  obtain ⟨rfl, hZ, hh⟩ := hP
  have hx := Bd.exec
  have hby := Bd.bytes
  have hown : s.vm.findClass "java/util/ArrayList" = some m.cls := findClass_of_methodNamed Bd.named
  have hnm := (name_of_methodNamed Bd.named Bd.method).1
  have X0 : Stand p l e (⟨0, 0, 0, 0⟩ : Room) s m #[(.ref a)] below meth cO s₁ [] 0 0 := Stand.of_body Bd
  have e0 : s₁.heap = h0 := by rw [← hh, Bd.state]; rfl
  have N0 := Fr.nil n0
  have D_ : ∀ {i : Nat} {x}, decode jdk_38_method_8_code i = x → decode cO.code i = x := fun h => hb hby h
  have W0 : ∀ zQ, SS p e below s₁ m 0 #[.val (.ref a)] [] zQ → Steps p.tables e below (s₁.setTop (entryFrame m #[(.ref a)] 1)) zQ := fun tt kt => castTop (ef_alsize m a) kt
  obtain ⟨T101, X101, e101, st101⟩ := getF X0 hx hZ hown (host := "") (Or.inl (w40 hw)) Via.refl e0 F1 (g := (mkF m 1 #[.val (.ref a)] [(.ref a)])) rfl rfl (D_ d25_1)
  have W102 : ∀ zQ, SS p e below T101 m 4 #[.val (.ref a)] [(.int n)] zQ → Steps p.tables e below (s₁.setTop (entryFrame m #[(.ref a)] 1)) zQ := by
    intro tt kt
    refine W0 tt ?_
    refine XS.aloadN X0.here hx rfl (D_ d25_0) rfl rfl ?_
    refine st101 _ ?_
    exact kt
  obtain ⟨fs, hr, hrun, hended, hW, hsame⟩ := X101.leave (v := some (.int n)) (fun h => by rw [Bd.returns] at h; cases h)
  refine ⟨_, _, W102 _ (retI X101 hx Bd.returns (D_ d25_4) hr), hrun, hended, _, _, rfl, ?_, ⟨_, rfl⟩, hW, hsame.mono (by decide) (by decide)⟩
  show Q_alsize Z a n h0 n0 _ T101.heap _
  rw [e101]
  exact ⟨rfl, N0, rfl⟩
def Q_pcheck (Z : State) (j : Int32) (z : Int32) (fm : Value) (h0 : Heap) (n0 : Nat) (vQ_ : Option Value) (hQ_ : Heap) (LQ_ : List Loc) : Prop := vQ_ = some (.int j) ∧ Fr n0 LQ_ ∧ hQ_ = h0
theorem rm_pcheck (l : Launch) (Z : State) (a0 : Array Value) (hw : HW a0 Z) (ws : List Jvm.Cond) (j : Int32) (z : Int32) (fm : Value) (h0 : Heap) (n0 : Nat) (Z0 : n0 ≤ h0.size) (hfm : fm.isRef = true) (hj0 : ¬ (j < (0 : Int32))) (hj1 : j < z) :
    CT l yn26 (Jvm.Cond.code yn26 jdk_41_method_11_code 3 (some .int) :: ws) (⟨0, 0, 0, 0⟩ : Room) #[(.int j), (.int z), fm] Z h0 (Q_pcheck Z j z fm h0 n0) := by
  refine MetFree.of_bodySF (plainFor_of_name pn_jdk_internal_util_Preconditions) hisR ?_
  intro p e s m args below meth cO s₁ Bd hml hP hK
  obtain ⟨rfl, hZ, hh⟩ := hP
  have hx := Bd.exec
  have hby := Bd.bytes
  have hown : s.vm.findClass "jdk/internal/util/Preconditions" = some m.cls := findClass_of_methodNamed Bd.named
  have hnm := (name_of_methodNamed Bd.named Bd.method).1
  have X0 : Stand p l e (⟨0, 0, 0, 0⟩ : Room) s m #[(.int j), (.int z), fm] below meth cO s₁ [] 0 0 := Stand.of_body Bd
  have e0 : s₁.heap = h0 := by rw [← hh, Bd.state]; rfl
  have N0 := Fr.nil n0
  have D_ : ∀ {i : Nat} {x}, decode jdk_41_method_11_code i = x → decode cO.code i = x := fun h => hb hby h
  have W0 : ∀ zQ, SS p e below s₁ m 0 #[.val (.int j), .val (.int z), .val fm] [] zQ → Steps p.tables e below (s₁.setTop (entryFrame m #[(.int j), (.int z), fm] 3)) zQ := fun tt kt => castTop (ef_pcheck m j z fm (XT.cat1 hfm)) kt
  have W101 : ∀ zQ, SS p e below s₁ m 17 #[.val (.int j), .val (.int z), .val fm] [(.int j)] zQ → Steps p.tables e below (s₁.setTop (entryFrame m #[(.int j), (.int z), fm] 3)) zQ := by
    intro tt kt
    refine W0 tt ?_
    refine XS.iloadN X0.here hx rfl (D_ d26_0) rfl ?_
    refine XS.ifNo X0.here hx rfl (D_ d26_1) rfl ((if0 _ _).trans (flt hj0).1) ?_
    refine XS.iloadN X0.here hx rfl (D_ d26_4) rfl ?_
    refine XS.iloadN X0.here hx rfl (D_ d26_5) rfl ?_
    refine XS.icmpYes X0.here hx rfl (pc0 := 6) (pc' := 16) rfl (D_ d26_6) rfl (tlt hj1).1 (by decide) (by decide) ?_
    refine XS.iloadN X0.here hx rfl (D_ d26_16) rfl ?_
    exact kt
  obtain ⟨fs, hr, hrun, hended, hW, hsame⟩ := X0.leave (v := some (.int j)) (fun h => by rw [Bd.returns] at h; cases h)
  refine ⟨_, _, W101 _ (retI X0 hx Bd.returns (D_ d26_17) hr), hrun, hended, _, _, rfl, ?_, ⟨_, rfl⟩, hW, hsame.mono (by decide) (by decide)⟩
  show Q_pcheck Z j z fm h0 n0 _ s₁.heap _
  rw [e0]
  exact ⟨rfl, N0, rfl⟩
def Q_ocheck (Z : State) (j : Int32) (z : Int32) (h0 : Heap) (n0 : Nat) (vQ_ : Option Value) (hQ_ : Heap) (LQ_ : List Loc) : Prop := vQ_ = some (.int j) ∧ Fr n0 LQ_ ∧ hQ_ = h0
theorem rm_ocheck (l : Launch) (Z : State) (a0 : Array Value) (hw : HW a0 Z) (ws : List Jvm.Cond) (j : Int32) (z : Int32) (h0 : Heap) (n0 : Nat) (Z0 : n0 ≤ h0.size) (hj0 : ¬ (j < (0 : Int32))) (hj1 : j < z) :
    CT l yn27 (Jvm.Cond.code yn27 jdk_31_method_17_code 2 (some .int) :: ws) (⟨1, 0, 0, 14⟩ : Room) #[(.int j), (.int z)] Z h0 (Q_ocheck Z j z h0 n0) := by
  refine MetFree.of_bodySF (plainFor_of_name pn_java_util_Objects) hisR ?_
  intro p e s m args below meth cO s₁ Bd hml hP hK
  obtain ⟨rfl, hZ, hh⟩ := hP
  have hx := Bd.exec
  have hby := Bd.bytes
  have hown : s.vm.findClass "java/util/Objects" = some m.cls := findClass_of_methodNamed Bd.named
  have hnm := (name_of_methodNamed Bd.named Bd.method).1
  have X0 : Stand p l e (⟨1, 0, 0, 14⟩ : Room) s m #[(.int j), (.int z)] below meth cO s₁ [] 0 0 := Stand.of_body Bd
  have e0 : s₁.heap = h0 := by rw [← hh, Bd.state]; rfl
  have N0 := Fr.nil n0
  have D_ : ∀ {i : Nat} {x}, decode jdk_31_method_17_code i = x → decode cO.code i = x := fun h => hb hby h
  have W0 : ∀ zQ, SS p e below s₁ m 0 #[.val (.int j), .val (.int z)] [] zQ → Steps p.tables e below (s₁.setTop (entryFrame m #[(.int j), (.int z)] 2)) zQ := fun tt kt => castTop (ef_ocheck m j z) kt
  obtain ⟨_, _, ⟨T101, L101, k101, n101⟩, -, X101, ⟨Lc101, hQ101, l101, y101, z101⟩, st101⟩ := Jvm.LawKit.callS X0 hx (y := yn26) hown (mvT hZ (w110 hw)) (mvT hZ (w111 hw)) (mvT hZ (w112 hw)) (mvT hZ (w113 hw)) (by decide) (backOf (W := 0) (rm_pcheck l Z a0 hw [] j z Value.null h0 n0 Z0 rfl hj0 hj1) hZ (w113 hw) (w112 hw) (by decide) (by decide)) (g := (mkF m 3 #[.val (.int j), .val (.int z)] [.null, (.int z), (.int j)])) rfl (by rw [hml]; rfl) (argsL := [(.int j), (.int z), .null]) (rest := []) (lenOf pd15 rfl) rfl (wq rfl) (D_ d27_3) (fun _ _ => ⟨rfl, e0, (nb rfl), (nb rfl)⟩)
  dsimp only [Pt.U, Pt.locs, Pt.cells, Pt.slots] at X101 l101 y101 z101 st101 hQ101
  subst l101 y101 z101
  obtain ⟨rfl, Nq101, eq101⟩ := hQ101
  have N101 := Fr.app N0 Nq101
  have W102 : ∀ zQ, SS p e below T101 m 6 #[.val (.int j), .val (.int z)] [(.int j)] zQ → Steps p.tables e below (s₁.setTop (entryFrame m #[(.int j), (.int z)] 2)) zQ := by
    intro tt kt
    refine W0 tt ?_
    refine XS.iloadN X0.here hx rfl (D_ d27_0) rfl ?_
    refine XS.iloadN X0.here hx rfl (D_ d27_1) rfl ?_
    refine XS.aconstNull X0.here hx rfl (D_ d27_2) ?_
    refine st101 _ ?_
    exact kt
  obtain ⟨fs, hr, hrun, hended, hW, hsame⟩ := X101.leave (v := some (.int j)) (fun h => by rw [Bd.returns] at h; cases h)
  refine ⟨_, _, W102 _ (retI X101 hx Bd.returns (D_ d27_6) hr), hrun, hended, _, _, rfl, ?_, ⟨_, rfl⟩, hW, hsame.mono (by decide) (by decide)⟩
  show Q_ocheck Z j z h0 n0 _ T101.heap _
  rw [eq101]
  exact ⟨rfl, N101, rfl⟩
def Q_eldG (Z : State) (a : Addr) (i : Nat) (d : Addr) (kd : ClassId) (dl : List Value) (pt : Addr) (h0 : Heap) (n0 : Nat) (vQ_ : Option Value) (hQ_ : Heap) (LQ_ : List Loc) : Prop := vQ_ = some (.ref pt) ∧ Fr n0 LQ_ ∧ hQ_ = h0
theorem rm_eldG (l : Launch) (Z : State) (a0 : Array Value) (hw : HW a0 Z) (ws : List Jvm.Cond) (a : Addr) (i : Nat) (d : Addr) (kd : ClassId) (dl : List Value) (pt : Addr) (h0 : Heap) (n0 : Nat) (Z0 : n0 ≤ h0.size) (F1 : Fld Z h0 a "java/util/ArrayList" "elementData" "[Ljava/lang/Object;" (.ref d)) (V1 : Arv Z h0 d kd (.object "java/lang/Object") (10 : Int32) dl .null) (hi : i < 10) (hg : dl.getD i .null = .ref pt) :
    CT l yn28 (Jvm.Cond.code yn28 jdk_38_method_18_code 2 (some (.object "java/lang/Object")) :: ws) (⟨0, 0, 0, 0⟩ : Room) #[(.ref a), (.int (Int32.ofNat i))] Z h0 (Q_eldG Z a i d kd dl pt h0 n0) := by
  refine MetFree.of_bodySF (plainFor_of_name pn_java_util_ArrayList) hisR ?_
  intro p e s m args below meth cO s₁ Bd hml hP hK
  obtain ⟨rfl, hZ, hh⟩ := hP
  have hx := Bd.exec
  have hby := Bd.bytes
  have hown : s.vm.findClass "java/util/ArrayList" = some m.cls := findClass_of_methodNamed Bd.named
  have hnm := (name_of_methodNamed Bd.named Bd.method).1
  have X0 : Stand p l e (⟨0, 0, 0, 0⟩ : Room) s m #[(.ref a), (.int (Int32.ofNat i))] below meth cO s₁ [] 0 0 := Stand.of_body Bd
  have e0 : s₁.heap = h0 := by rw [← hh, Bd.state]; rfl
  have N0 := Fr.nil n0
  have D_ : ∀ {i : Nat} {x}, decode jdk_38_method_18_code i = x → decode cO.code i = x := fun h => hb hby h
  have W0 : ∀ zQ, SS p e below s₁ m 0 #[.val (.ref a), .val (.int (Int32.ofNat i))] [] zQ → Steps p.tables e below (s₁.setTop (entryFrame m #[(.ref a), (.int (Int32.ofNat i))] 2)) zQ := fun tt kt => castTop (ef_eldG m a (Int32.ofNat i)) kt
  obtain ⟨T101, X101, e101, st101⟩ := getF X0 hx hZ hown (host := "") (Or.inl (w25 hw)) Via.refl e0 F1 (g := (mkF m 1 #[.val (.ref a), .val (.int (Int32.ofNat i))] [(.ref a)])) rfl rfl (D_ d28_1)
  obtain ⟨cl102, Ar102, q102, S102, M102, H102, F102g⟩ := id V1
  have hin102 : ¬ ((Int32.ofNat i) < 0 ∨ cl102.slots.size ≤ ((Int32.ofNat i)).toNatClampNeg) := inb_of S102 ⟨own_nneg (by omega), own_lt (n := 10) hi (by decide)⟩
  have hat102 : cl102.slots[((Int32.ofNat i)).toNatClampNeg]? = some (.ref pt) := Has.at H102 hin102 (by rw [own_cl (by omega)]; exact hg)
  have W103 : ∀ zQ, SS p e below T101 m 6 #[.val (.ref a), .val (.int (Int32.ofNat i))] [(.ref pt)] zQ → Steps p.tables e below (s₁.setTop (entryFrame m #[(.ref a), (.int (Int32.ofNat i))] 2)) zQ := by
    intro tt kt
    refine W0 tt ?_
    refine XS.aloadN X0.here hx rfl (D_ d28_0) rfl rfl ?_
    refine st101 _ ?_
    refine XS.iloadN X101.here hx rfl (D_ d28_4) rfl ?_
    refine X101.aaload hx (j := (Int32.ofNat i)) (v := (.ref pt)) (by first | exact Ar102.1 | (rw [e101]; exact Ar102.1)) (State.isArrayOf_alike hZ.alike Ar102.2.1) rfl Ar102.2.2 hin102 hat102 (g := (mkF m 5 #[.val (.ref a), .val (.int (Int32.ofNat i))] [(.int (Int32.ofNat i)), (.ref d)])) rfl rfl (D_ d28_5) _ ?_
    exact kt
  obtain ⟨fs, hr, hrun, hended, hW, hsame⟩ := X101.leave (v := some (.ref pt)) (fun h => by rw [Bd.returns] at h; cases h)
  refine ⟨_, _, W103 _ (own_retR X101 hx Bd.returns rfl rfl (D_ d28_6) hr), hrun, hended, _, _, rfl, ?_, ⟨_, rfl⟩, hW, hsame.mono (by decide) (by decide)⟩
  show Q_eldG Z a i d kd dl pt h0 n0 _ T101.heap _
  rw [e101]
  exact ⟨rfl, N0, rfl⟩
def Q_getG (Z : State) (a : Addr) (n : Nat) (i : Nat) (d : Addr) (kd : ClassId) (dl : List Value) (pt : Addr) (h0 : Heap) (n0 : Nat) (vQ_ : Option Value) (hQ_ : Heap) (LQ_ : List Loc) : Prop := vQ_ = some (.ref pt) ∧ Fr n0 LQ_ ∧ hQ_ = h0
theorem rm_getG (l : Launch) (Z : State) (a0 : Array Value) (hw : HW a0 Z) (ws : List Jvm.Cond) (a : Addr) (n : Nat) (i : Nat) (d : Addr) (kd : ClassId) (dl : List Value) (pt : Addr) (h0 : Heap) (n0 : Nat) (Z0 : n0 ≤ h0.size) (E1 : Exa Z h0 a "java/util/ArrayList") (F0 : Fld Z h0 a "java/util/ArrayList" "size" "I" (.int (Int32.ofNat n))) (F1 : Fld Z h0 a "java/util/ArrayList" "elementData" "[Ljava/lang/Object;" (.ref d)) (V1 : Arv Z h0 d kd (.object "java/lang/Object") (10 : Int32) dl .null) (hin : i < n) (hn : n ≤ 10) (hg : dl.getD i .null = .ref pt) :
    CT l yn29 (Jvm.Cond.code yn29 jdk_38_method_20_code 2 (some (.object "java/lang/Object")) :: ws) (⟨2, 0, 0, 27⟩ : Room) #[(.ref a), (.int (Int32.ofNat i))] Z h0 (Q_getG Z a n i d kd dl pt h0 n0) := by
  refine MetFree.of_bodySF (plainFor_of_name pn_java_util_ArrayList) hisR ?_
  intro p e s m args below meth cO s₁ Bd hml hP hK
  obtain ⟨rfl, hZ, hh⟩ := hP
  have hx := Bd.exec
  have hby := Bd.bytes
  have hown : s.vm.findClass "java/util/ArrayList" = some m.cls := findClass_of_methodNamed Bd.named
  have hnm := (name_of_methodNamed Bd.named Bd.method).1
  have X0 : Stand p l e (⟨2, 0, 0, 27⟩ : Room) s m #[(.ref a), (.int (Int32.ofNat i))] below meth cO s₁ [] 0 0 := Stand.of_body Bd
  have e0 : s₁.heap = h0 := by rw [← hh, Bd.state]; rfl
  have N0 := Fr.nil n0
  have D_ : ∀ {i : Nat} {x}, decode jdk_38_method_20_code i = x → decode cO.code i = x := fun h => hb hby h
  have W0 : ∀ zQ, SS p e below s₁ m 0 #[.val (.ref a), .val (.int (Int32.ofNat i))] [] zQ → Steps p.tables e below (s₁.setTop (entryFrame m #[(.ref a), (.int (Int32.ofNat i))] 2)) zQ := fun tt kt => castTop (ef_getG m a (Int32.ofNat i)) kt
  obtain ⟨T101, X101, e101, st101⟩ := getF X0 hx hZ hown (host := "") (Or.inl (w40 hw)) Via.refl e0 F0 (g := (mkF m 2 #[.val (.ref a), .val (.int (Int32.ofNat i))] [(.ref a), (.int (Int32.ofNat i))])) rfl rfl (D_ d29_2)
  obtain ⟨_, _, ⟨T102, L102, k102, n102⟩, -, X102, ⟨Lc102, hQ102, l102, y102, z102⟩, st102⟩ := Jvm.LawKit.callS X101 hx (y := yn27) hown (mvT hZ (w106 hw)) (mvT hZ (w107 hw)) (mvT hZ (w108 hw)) (mvT hZ (w109 hw)) (by decide) (backOf (W := 0) (rm_ocheck l Z a0 hw [] (Int32.ofNat i) (Int32.ofNat n) h0 n0 Z0 (own_nneg (by omega)) (own_lt hin (by omega))) hZ (w109 hw) (w108 hw) (by decide) (by decide)) (g := (mkF m 5 #[.val (.ref a), .val (.int (Int32.ofNat i))] [(.int (Int32.ofNat n)), (.int (Int32.ofNat i))])) rfl (by rw [hml]; rfl) (argsL := [(.int (Int32.ofNat i)), (.int (Int32.ofNat n))]) (rest := []) (lenOf pd11 rfl) rfl (wq rfl) (D_ d29_5) (fun _ _ => ⟨rfl, e101, (nb rfl), (nb rfl)⟩)
  dsimp only [Pt.U, Pt.locs, Pt.cells, Pt.slots] at X102 l102 y102 z102 st102 hQ102
  subst l102 y102 z102
  obtain ⟨rfl, Nq102, eq102⟩ := hQ102
  have N102 := Fr.app N0 Nq102
  obtain ⟨cq103, kq103, q103a, q103b, q103c⟩ := isOf hZ eq102 E1
  obtain ⟨_, _, ⟨T103, L103, k103, n103⟩, -, X103, ⟨Lc103, hQ103, l103, y103, z103⟩, st103⟩ := X102.virtualBack hx (y := yn28) (z := yn28) hown (mvT hZ (w114 hw)) (mvT hZ (w115 hw)) (notFace_of_selects (args := #[]) (mvT hZ (w117 hw))) (mvT hZ (w117 hw)) (mvT hZ (w116 hw)) (by decide) (backOf (W := 0) (rm_eldG l Z a0 hw [] a i d kd dl pt h0 n0 Z0 F1 V1 (by omega) hg) hZ (w118 hw) (w3 hw) (by decide) (by decide)) q103a q103c (g := (mkF m 11 #[.val (.ref a), .val (.int (Int32.ofNat i))] [(.int (Int32.ofNat i)), (.ref a)])) rfl (by rw [hml]; rfl) (Steps.refl _) (argsL := [(.int (Int32.ofNat i))]) (rest := []) (lenOf pd16 rfl) rfl (wq rfl) (D_ d29_11) (fun _ _ => ⟨rfl, eq102, (nb rfl), (nb rfl)⟩)
  dsimp only [Pt.U, Pt.locs, Pt.cells, Pt.slots] at X103 l103 y103 z103 st103 hQ103
  subst l103 y103 z103
  obtain ⟨rfl, Nq103, eq103⟩ := hQ103
  have N103 := Fr.app N102 Nq103
  have W104 : ∀ zQ, SS p e below T103 m 14 #[.val (.ref a), .val (.int (Int32.ofNat i))] [(.ref pt)] zQ → Steps p.tables e below (s₁.setTop (entryFrame m #[(.ref a), (.int (Int32.ofNat i))] 2)) zQ := by
    intro tt kt
    refine W0 tt ?_
    refine XS.iloadN X0.here hx rfl (D_ d29_0) rfl ?_
    refine XS.aloadN X0.here hx rfl (D_ d29_1) rfl rfl ?_
    refine st101 _ ?_
    refine st102 _ ?_
    refine XS.pop X102.here hx rfl (D_ d29_8) rfl rfl ?_
    refine XS.aloadN X102.here hx rfl (D_ d29_9) rfl rfl ?_
    refine XS.iloadN X102.here hx rfl (D_ d29_10) rfl ?_
    refine st103.trans ?_
    exact kt
  obtain ⟨fs, hr, hrun, hended, hW, hsame⟩ := X103.leave (v := some (.ref pt)) (fun h => by rw [Bd.returns] at h; cases h)
  refine ⟨_, _, W104 _ (own_retR X103 hx Bd.returns rfl rfl (D_ d29_14) hr), hrun, hended, _, _, rfl, ?_, ⟨_, rfl⟩, hW, hsame.mono (by decide) (by decide)⟩
  show Q_getG Z a n i d kd dl pt h0 n0 _ T103.heap _
  rw [eq103]
  exact ⟨rfl, N103, rfl⟩
theorem lp_fill {p : Program} {l : Launch} {e : Env} {R : Room} {s : State} {m : MethodId} {args : Array Value} {below : List Frame} {meth : Method} {cO : Code} {cells slots : Nat} {Z : State} {a0 : Array Value} (hx : p.tables.exec = Jvm.exec) (hZ : Z.Warmed39 s.vm) (hw : HW a0 Z) (hby : cO.code = jdk_65_method_117_code) (hml : cO.maxLocals = 4) (hown : s.vm.findClass "java/util/Arrays" = some m.cls) (hRf : 0 ≤ R.frames) (hRl : 0 ≤ R.locals) (hRc : cells ≤ R.cells) (hRs : slots ≤ R.slots) (d : Addr) (o : Addr) (kd : ClassId) (N : Nat) (n0 : Nat) (hN : N < 1048576) (hov : Ovr Z kd "java/math/BigDecimal") (g1 : n0 ≤ d) :
    ∀ k : Nat, ∀ (i : Nat) (T0 : State) (L0 : List Loc) (h0 : Heap) (X0 : Stand p l e R s m args below meth cO T0 L0 cells slots) (e0 : T0.heap = h0) (N0 : Fr n0 L0) (Z0 : n0 ≤ h0.size) (V1 : Arv Z h0 d kd (.object "java/math/BigDecimal") (Int32.ofNat N) (List.replicate i (.ref o)) .null) (EP : Exa Z h0 o "java/math/BigDecimal") (hk : i + k = N), ∃ (T' : State) (L' : List Loc) (h' : Heap), Stand p l e R s m args below meth cO T' L' cells slots ∧ T'.heap = h' ∧ Fr n0 L' ∧ Keep h0 h' [d] ∧ Arv Z h' d kd (.object "java/math/BigDecimal") (Int32.ofNat N) (List.replicate N (.ref o)) .null ∧ ∀ zQ, SS p e below T' m 20 #[.val (.ref d), .val (.ref o), .val (.int (Int32.ofNat N)), .val (.int (Int32.ofNat N))] [] zQ → SS p e below T0 m 5 #[.val (.ref d), .val (.ref o), .val (.int (Int32.ofNat i)), .val (.int (Int32.ofNat N))] [] zQ := by
  have D_ : ∀ {i : Nat} {x}, decode jdk_65_method_117_code i = x → decode cO.code i = x := fun h => hb hby h
  intro k
  induction k with
  | zero =>
    intro i T0 L0 h0 X0 e0 N0 Z0 V1 EP hk
    have W0 : ∀ zQ, SS p e below T0 m 5 #[.val (.ref d), .val (.ref o), .val (.int (Int32.ofNat i)), .val (.int (Int32.ofNat N))] [] zQ → Steps p.tables e below (T0.setTop (mkF m 5 #[.val (.ref d), .val (.ref o), .val (.int (Int32.ofNat i)), .val (.int (Int32.ofNat N))] [])) zQ := fun tt kt => kt
    have hiN : i = N := by omega
    have V1' : Arv Z h0 d kd (.object "java/math/BigDecimal") (Int32.ofNat N) (List.replicate N (.ref o)) .null := by rw [hiN] at V1; exact V1
    have W101 : ∀ zQ, SS p e below T0 m 20 #[.val (.ref d), .val (.ref o), .val (.int (Int32.ofNat N)), .val (.int (Int32.ofNat N))] [] zQ → Steps p.tables e below (T0.setTop (mkF m 5 #[.val (.ref d), .val (.ref o), .val (.int (Int32.ofNat i)), .val (.int (Int32.ofNat N))] [])) zQ := by
      intro tt kt
      refine W0 tt ?_
      rw [show (Int32.ofNat i) = (Int32.ofNat N) from (by rw [hiN])]
      refine XS.iloadN X0.here hx rfl (D_ d30_5) rfl ?_
      refine XS.iloadN X0.here hx rfl (D_ d30_6) rfl ?_
      refine XS.icmpYes X0.here hx rfl (pc0 := 7) (pc' := 20) rfl (D_ d30_7) rfl (flt Int32.lt_irrefl).2.1 (by decide) (by decide) ?_
      exact kt
    exact ⟨T0, _, h0, X0, e0, N0, (Keep.refl h0 [d]), V1', fun tt kt => W101 _ kt⟩
  | succ k ih =>
    intro i T0 L0 h0 X0 e0 N0 Z0 V1 EP hk
    have W0 : ∀ zQ, SS p e below T0 m 5 #[.val (.ref d), .val (.ref o), .val (.int (Int32.ofNat i)), .val (.int (Int32.ofNat N))] [] zQ → Steps p.tables e below (T0.setTop (mkF m 5 #[.val (.ref d), .val (.ref o), .val (.int (Int32.ofNat i)), .val (.int (Int32.ofNat N))] [])) zQ := fun tt kt => kt
    obtain ⟨cl102, Ar102, q102, S102, M102, H102, F102g⟩ := id V1
    have hin102 : ¬ ((Int32.ofNat i) < 0 ∨ cl102.slots.size ≤ ((Int32.ofNat i)).toNatClampNeg) := inb_of S102 ⟨own_nneg (by omega), own_lt (by omega) (by omega)⟩
    obtain ⟨T102, h102, X102, e102, Wr102, st102⟩ := stR X0 hx hZ e0 Ar102 (j := (Int32.ofNat i)) hin102 rfl (Sto.ofV Ar102 q102 hov (Ins.self EP)) (g := (mkF m 13 #[.val (.ref d), .val (.ref o), .val (.int (Int32.ofNat i)), .val (.int (Int32.ofNat N))] [(.ref o), (.int (Int32.ofNat i)), (.ref d)])) rfl rfl (D_ d30_13)
    have G102 : Arv Z h102 d kd (.object "java/math/BigDecimal") (Int32.ofNat N) ((List.replicate i (.ref o)) ++ [(.ref o)]) .null := Arv.push Ar102 q102 S102 M102 H102 F102g rfl Wr102 (by rw [own_cl (by omega), List.length_replicate])
    have K102 := Keep.of_wr Wr102
    have N102 := Fr.snoc X102 N0 g1
    have W103 : ∀ zQ, SS p e below T102 m 5 #[.val (.ref d), .val (.ref o), .val (.int (Int32.ofNat (i + 1))), .val (.int (Int32.ofNat N))] [] zQ → Steps p.tables e below (T0.setTop (mkF m 5 #[.val (.ref d), .val (.ref o), .val (.int (Int32.ofNat i)), .val (.int (Int32.ofNat N))] [])) zQ := by
      intro tt kt
      refine W0 tt ?_
      refine XS.iloadN X0.here hx rfl (D_ d30_5) rfl ?_
      refine XS.iloadN X0.here hx rfl (D_ d30_6) rfl ?_
      refine XS.icmpNo X0.here hx rfl (D_ d30_7) rfl (tlt (own_lt (by omega) (by omega))).2.1 ?_
      refine XS.aloadN X0.here hx rfl (D_ d30_10) rfl rfl ?_
      refine XS.iloadN X0.here hx rfl (D_ d30_11) rfl ?_
      refine XS.aloadN X0.here hx rfl (D_ d30_12) rfl rfl ?_
      refine st102 _ ?_
      refine XS.iinc X102.here hx rfl (D_ d30_14) rfl (l' := #[.val (.ref d), .val (.ref o), .val (.int ((Int32.ofNat i) + (1 : Int32))), .val (.int (Int32.ofNat N))]) rfl ?_
      show SS p e below T102 m 17 #[.val (.ref d), .val (.ref o), .val (.int ((Int32.ofNat i) + (1 : Int32))), .val (.int (Int32.ofNat N))] [] _
      rw [show ((Int32.ofNat i) + (1 : Int32)) = (Int32.ofNat (i + 1)) from own_succ _]
      refine XS.goto X102.here hx rfl (pc0 := 17) (pc' := 5) rfl (D_ d30_17) (by decide) (by decide) ?_
      exact kt
    have F105 : Exa Z h102 o "java/math/BigDecimal" := (EP.keep K102)
    obtain ⟨T104, L104, h104, X104, e104, N104, K104, P104_0, st104⟩ := ih (i + 1) T102 _ h102 X102 e102 N102 (Nat.le_trans Z0 K102.1) (by rw [List.replicate_succ']; exact G102) F105 (by omega)
    exact ⟨T104, L104, h104, X104, e104, N104, (Keep.trans (Keep.trans (Keep.refl h0 [d]) K102 (allS (Or.inl (List.mem_of_getElem? (i := 0) rfl)) all0)) K104 (allS (Or.inl (List.mem_of_getElem? (i := 0) rfl)) all0)), P104_0, fun tt kt => W103 _ (st104 _ kt)⟩
def Q_fill (Z : State) (d : Addr) (o : Addr) (kd : ClassId) (N : Nat) (h0 : Heap) (n0 : Nat) (vQ_ : Option Value) (hQ_ : Heap) (LQ_ : List Loc) : Prop := vQ_ = none ∧ Fr n0 LQ_ ∧ Keep h0 hQ_ [d] ∧ Arv Z hQ_ d kd (.object "java/math/BigDecimal") (Int32.ofNat N) (List.replicate N (.ref o)) .null
theorem rm_fill (l : Launch) (Z : State) (a0 : Array Value) (hw : HW a0 Z) (ws : List Jvm.Cond) (d : Addr) (o : Addr) (kd : ClassId) (N : Nat) (h0 : Heap) (n0 : Nat) (Z0 : n0 ≤ h0.size) (V1 : Arv Z h0 d kd (.object "java/math/BigDecimal") (Int32.ofNat N) [] .null) (hov : Ovr Z kd "java/math/BigDecimal") (EP : Exa Z h0 o "java/math/BigDecimal") (g1 : n0 ≤ d) (hN : N < 1048576) :
    CT l yn30 (Jvm.Cond.code yn30 jdk_65_method_117_code 4 none :: ws) (⟨0, 0, 0, 0⟩ : Room) #[(.ref d), (.ref o)] Z h0 (Q_fill Z d o kd N h0 n0) := by
  refine MetFree.of_bodySF (plainFor_of_name pn_java_util_Arrays) hisR ?_
  intro p e s m args below meth cO s₁ Bd hml hP hK
  obtain ⟨rfl, hZ, hh⟩ := hP
  have hx := Bd.exec
  have hby := Bd.bytes
  have hown : s.vm.findClass "java/util/Arrays" = some m.cls := findClass_of_methodNamed Bd.named
  have hnm := (name_of_methodNamed Bd.named Bd.method).1
  have X0 : Stand p l e (⟨0, 0, 0, 0⟩ : Room) s m #[(.ref d), (.ref o)] below meth cO s₁ [] 0 0 := Stand.of_body Bd
  have e0 : s₁.heap = h0 := by rw [← hh, Bd.state]; rfl
  have N0 := Fr.nil n0
  have D_ : ∀ {i : Nat} {x}, decode jdk_65_method_117_code i = x → decode cO.code i = x := fun h => hb hby h
  have W0 : ∀ zQ, SS p e below s₁ m 0 #[.val (.ref d), .val (.ref o), .unset, .unset] [] zQ → Steps p.tables e below (s₁.setTop (entryFrame m #[(.ref d), (.ref o)] 4)) zQ := fun tt kt => castTop (ef_fill m d o) kt
  obtain ⟨cl101, Ar101, -, S101, M101, -, -⟩ := id V1
  obtain ⟨T102, L102, h102, X102, e102, Nl102, K102, P102_0, st102⟩ := lp_fill hx hZ hw hby hml hown (by decide) (by decide) (by decide) (by decide) d o kd N n0 hN hov g1 N 0 s₁ _ h0 X0 e0 N0 Z0 V1 EP (Nat.zero_add N)
  have W103 : ∀ zQ, SS p e below T102 m 20 #[.val (.ref d), .val (.ref o), .val (.int (Int32.ofNat N)), .val (.int (Int32.ofNat N))] [] zQ → Steps p.tables e below (s₁.setTop (entryFrame m #[(.ref d), (.ref o)] 4)) zQ := by
    intro tt kt
    refine W0 tt ?_
    refine XS.iconst X0.here hx rfl (D_ d30_0) ?_
    refine XS.istoreN X0.here hx rfl (D_ d30_1) rfl (l' := #[.val (.ref d), .val (.ref o), .val (.int (0 : Int32)), .unset]) rfl ?_
    refine XS.aloadN X0.here hx rfl (D_ d30_2) rfl rfl ?_
    refine X0.arraylength hx (by first | exact Ar101.1 | (rw [e0]; exact Ar101.1)) (State.isArrayOf_alike hZ.alike Ar101.2.1) (g := (mkF m 3 #[.val (.ref d), .val (.ref o), .val (.int (0 : Int32)), .unset] [(.ref d)])) rfl rfl (D_ d30_3) _ ?_
    rw [len_of S101 M101]
    refine XS.istoreN X0.here hx rfl (D_ d30_4) rfl (l' := #[.val (.ref d), .val (.ref o), .val (.int (0 : Int32)), .val (.int (Int32.ofNat N))]) rfl ?_
    refine st102 _ ?_
    exact kt
  obtain ⟨fs, hr, hrun, hended, hW, hsame⟩ := X102.leave (v := none) (fun _ => rfl)
  refine ⟨_, _, W103 _ (X102.returnOut hx Bd.returns (D_ d30_20) hr), hrun, hended, _, _, rfl, ?_, ⟨_, rfl⟩, hW, hsame.mono (by decide) (by decide)⟩
  show Q_fill Z d o kd N h0 n0 _ T102.heap _
  rw [e102]
  exact ⟨rfl, Nl102, (Keep.trans (Keep.refl h0 [d]) K102 (allS (Or.inl (List.mem_of_getElem? (i := 0) rfl)) all0)), P102_0⟩
theorem own_pred {i : Nat} (h : 1 ≤ i) (hi : i < 2147483648) : Int32.ofNat i - (1 : Int32) = Int32.ofNat (i - 1) := own_sub h hi
theorem rm_sg1 {p : Program} {l : Launch} {e : Env} {R : Room} {s : State} {m : MethodId} {args : Array Value} {below : List Frame} {meth : Method} {cO : Code} {cells slots : Nat} {Z : State} {a0 : Array Value} (hx : p.tables.exec = Jvm.exec) (hZ : Z.Warmed39 s.vm) (hw : HW a0 Z) (hby : cO.code = prog_2_method_2_code) (hml : cO.maxLocals = 10) (hown : s.vm.findClass "com/example/vestline/vestline/finalaveragepay/BestPeriods" = some m.cls) (hRf : 8 ≤ R.frames) (hRl : 125 ≤ R.locals) (hRc : cells + 1 ≤ R.cells) (hRs : slots + 5 ≤ R.slots) (ll : Addr) (ct : Int32) (le : Int32) (n : Nat) (sa : Addr) (i : Nat) (d : Addr) (kd : ClassId) (dl : List Value) (pt : Addr) (ks : ClassId) (sl : List Value) (s0 : Addr) (x : Int64) (y : Int64) (zt : Addr) (kz : ClassId) (zl : List Addr) (n0 : Nat) (S_zt : Sta Z Z.heap "java/math/BigDecimal" "ZERO_THROUGH_TEN" "[Ljava/math/BigDecimal;" (.ref zt)) (V_zt : Arv Z Z.heap zt kz (.object "java/math/BigDecimal") (11 : Int32) (zl.map Value.ref) .null) (hzl : zl.length = 11) (hz : ∀ i, i < 11 → BD Z Z.heap (zl.getD i 0) (Int64.ofNat i)) (hin : i < n) (hn : n ≤ 10) (hg : dl.getD i .null = .ref pt) (hs : sl.getD i .null = .ref s0) (hsl : sl.length = n + 1) (hx_ : Bn 100 x) (hy_ : Bn 100 y) (gs : n0 ≤ sa) (hov : Ovr Z ks "java/math/BigDecimal") (T0 : State) (L0 : List Loc) (h0 : Heap) (X0 : Stand p l e R s m args below meth cO T0 L0 cells slots) (e0 : T0.heap = h0) (N0 : Fr n0 L0) (Z0 : n0 ≤ h0.size) (O0 : Old Z n0 h0) (EL : Exa Z h0 ll "java/util/ArrayList") (FZ : Fld Z h0 ll "java/util/ArrayList" "size" "I" (.int (Int32.ofNat n))) (FE : Fld Z h0 ll "java/util/ArrayList" "elementData" "[Ljava/lang/Object;" (.ref d)) (VD : Arv Z h0 d kd (.object "java/lang/Object") (10 : Int32) dl .null) (VS : Arv Z h0 sa ks (.object "java/math/BigDecimal") (Int32.ofNat (n + 1)) sl .null) (B0 : BD Z h0 s0 x) (B1 : BD Z h0 pt y) :
    ∃ (T' : State) (L' : List Loc) (h' : Heap), Stand p l e R s m args below meth cO T' L' (cells + 1) (slots + 5) ∧ T'.heap = h' ∧ ∃ r : Addr, ∃ v : Int64, Fr n0 L' ∧ Keep h0 h' [sa] ∧ Arv Z h' sa ks (.object "java/math/BigDecimal") (Int32.ofNat (n + 1)) (sl.set (i + 1) (.ref r)) .null ∧ BD Z h' r v ∧ v.toInt = x.toInt + y.toInt ∧ ∀ zQ, SS p e below T' m 25 #[.val (.ref ll), .val (.int ct), .val (.int le), .val (.int (Int32.ofNat n)), .val (.ref sa), .val (.int (Int32.ofNat (i + 1))), .unset, .unset, .unset, .unset] [] zQ → SS p e below T0 m 25 #[.val (.ref ll), .val (.int ct), .val (.int le), .val (.int (Int32.ofNat n)), .val (.ref sa), .val (.int (Int32.ofNat i)), .unset, .unset, .unset, .unset] [] zQ := by
  have D_ : ∀ {i : Nat} {x}, decode prog_2_method_2_code i = x → decode cO.code i = x := fun h => hb hby h
  have W0 : ∀ zQ, SS p e below T0 m 25 #[.val (.ref ll), .val (.int ct), .val (.int le), .val (.int (Int32.ofNat n)), .val (.ref sa), .val (.int (Int32.ofNat i)), .unset, .unset, .unset, .unset] [] zQ → Steps p.tables e below (T0.setTop (mkF m 25 #[.val (.ref ll), .val (.int ct), .val (.int le), .val (.int (Int32.ofNat n)), .val (.ref sa), .val (.int (Int32.ofNat i)), .unset, .unset, .unset, .unset] [])) zQ := fun tt kt => kt
  obtain ⟨cl101, Ar101, q101, S101, M101, H101, F101g⟩ := id VS
  have hin101 : ¬ ((Int32.ofNat i) < 0 ∨ cl101.slots.size ≤ ((Int32.ofNat i)).toNatClampNeg) := inb_of S101 ⟨own_nneg (by omega), own_lt (by omega) (by omega)⟩
  have hat101 : cl101.slots[((Int32.ofNat i)).toNatClampNeg]? = some (.ref s0) := Has.at H101 hin101 (by rw [own_cl (by omega)]; exact hs)
  obtain ⟨cq102, kq102, q102a, q102b, q102c⟩ := isOf hZ e0 EL
  obtain ⟨_, _, ⟨T102, L102, k102, n102⟩, -, X102, ⟨Lc102, hQ102, l102, y102, z102⟩, st102⟩ := X0.interfaceBack hx (xi := yn31) (y := yn29) hown (mvT hZ (w98 hw)) (mvT hZ (w99 hw)) (mvT hZ (w100 hw)) (mvT hZ (w101 hw)) (mvT hZ (w102 hw)) (mvT hZ (w103 hw)) (mvT hZ (w104 hw)) (mvT hZ (w38 hw)) (by decide) (backOf (W := 3) (rm_getG l Z a0 hw [] ll n i d kd dl pt h0 n0 Z0 EL FZ FE VD hin hn hg) hZ (w105 hw) (w3 hw) (Nat.le_trans (by decide) hRf) (Nat.le_trans (by decide) hRl)) q102a q102b q102c (g := (mkF m 45 #[.val (.ref ll), .val (.int ct), .val (.int le), .val (.int (Int32.ofNat n)), .val (.ref sa), .val (.int (Int32.ofNat i)), .unset, .unset, .unset, .unset] [(.int (Int32.ofNat i)), (.ref ll), (.ref s0), (.int (Int32.ofNat (i + 1))), (.ref sa)])) rfl (by rw [hml]; rfl) (Steps.refl _) (argsL := [(.int (Int32.ofNat i))]) (rest := [(.ref s0), (.int (Int32.ofNat (i + 1))), (.ref sa)]) (lenOf pd16 rfl) rfl (wq rfl) (D_ d31_45) (fun _ _ => ⟨rfl, e0, (by first | omega | (dsimp only [Pt.cells, Pt.slots]; omega)), (by first | omega | (dsimp only [Pt.cells, Pt.slots]; omega))⟩)
  dsimp only [Pt.U, Pt.locs, Pt.cells, Pt.slots] at X102 l102 y102 z102 st102 hQ102
  subst l102 y102 z102
  obtain ⟨rfl, Nq102, eq102⟩ := hQ102
  have N102 := Fr.app N0 Nq102
  obtain ⟨T103, X103, e103, st103⟩ := castY X102 hx hZ hown (w42 hw) eq102 (Ins.self B1.1) (g := (mkF m 50 #[.val (.ref ll), .val (.int ct), .val (.int le), .val (.int (Int32.ofNat n)), .val (.ref sa), .val (.int (Int32.ofNat i)), .unset, .unset, .unset, .unset] [(.ref pt), (.ref s0), (.int (Int32.ofNat (i + 1))), (.ref sa)])) rfl rfl (D_ d31_50)
  obtain ⟨cq104, kq104, q104a, q104b, q104c⟩ := isOf hZ e103 B0.1
  obtain ⟨_, _, ⟨T104, L104, k104, n104⟩, -, X104, ⟨Lc104, hQ104, l104, y104, z104⟩, st104⟩ := X103.virtualBack hx (y := yn7) (z := yn7) hown (mvT hZ (w119 hw)) (mvT hZ (w120 hw)) (notFace_of_selects (args := #[]) (mvT hZ (w122 hw))) (mvT hZ (w122 hw)) (mvT hZ (w121 hw)) (by decide) (backOf (W := 2) (rm_bdadd l Z a0 hw [] s0 pt x y zt kz zl h0 n0 Z0 O0 S_zt V_zt hzl hz B0 B1 hx_ hy_) hZ (w123 hw) (w45 hw) (Nat.le_trans (by decide) hRf) (Nat.le_trans (by decide) hRl)) q104a q104c (g := (mkF m 53 #[.val (.ref ll), .val (.int ct), .val (.int le), .val (.int (Int32.ofNat n)), .val (.ref sa), .val (.int (Int32.ofNat i)), .unset, .unset, .unset, .unset] [(.ref pt), (.ref s0), (.int (Int32.ofNat (i + 1))), (.ref sa)])) rfl (by rw [hml]; rfl) (Steps.refl _) (argsL := [(.ref pt)]) (rest := [(.int (Int32.ofNat (i + 1))), (.ref sa)]) (lenOf pd17 rfl) rfl (wq rfl) (D_ d31_53) (fun _ _ => ⟨rfl, e103, (by first | omega | (dsimp only [Pt.cells, Pt.slots]; omega)), (by first | omega | (dsimp only [Pt.cells, Pt.slots]; omega))⟩)
  dsimp only [Pt.U, Pt.locs, Pt.cells, Pt.slots] at X104 l104 y104 z104 st104 hQ104
  subst l104 y104 z104
  obtain ⟨r_105, v_106, rfl, Nq104, K104, P104_0, P104_1⟩ := hQ104
  have N104 := Fr.app N102 Nq104
  have F107 : Arv Z T104.heap sa ks (.object "java/math/BigDecimal") (Int32.ofNat (n + 1)) sl .null := (VS.keep K104 nin0)
  obtain ⟨cl108, Ar108, q108, S108, M108, H108, F108g⟩ := id F107
  have hin108 : ¬ ((Int32.ofNat (i + 1)) < 0 ∨ cl108.slots.size ≤ ((Int32.ofNat (i + 1))).toNatClampNeg) := inb_of S108 ⟨own_nneg (by omega), own_lt (by omega) (by omega)⟩
  obtain ⟨T108, h108, X108, e108, Wr108, st108⟩ := stR X104 hx hZ rfl Ar108 (j := (Int32.ofNat (i + 1))) hin108 rfl (Sto.ofV Ar108 q108 hov (Ins.self P104_0.1)) (g := (mkF m 56 #[.val (.ref ll), .val (.int ct), .val (.int le), .val (.int (Int32.ofNat n)), .val (.ref sa), .val (.int (Int32.ofNat i)), .unset, .unset, .unset, .unset] [(.ref r_105), (.int (Int32.ofNat (i + 1))), (.ref sa)])) rfl rfl (D_ d31_56)
  have G108 : Arv Z h108 sa ks (.object "java/math/BigDecimal") (Int32.ofNat (n + 1)) (sl.set (i + 1) (.ref r_105)) .null := Arv.set Ar108 q108 S108 M108 H108 F108g rfl Wr108 (i + 1) (own_cl (by omega)) (by rw [hsl]; omega)
  have K108 := Keep.of_wr Wr108
  have N108 := Fr.snoc X108 N104 gs
  have W109 : ∀ zQ, SS p e below T108 m 25 #[.val (.ref ll), .val (.int ct), .val (.int le), .val (.int (Int32.ofNat n)), .val (.ref sa), .val (.int (Int32.ofNat (i + 1))), .unset, .unset, .unset, .unset] [] zQ → Steps p.tables e below (T0.setTop (mkF m 25 #[.val (.ref ll), .val (.int ct), .val (.int le), .val (.int (Int32.ofNat n)), .val (.ref sa), .val (.int (Int32.ofNat i)), .unset, .unset, .unset, .unset] [])) zQ := by
    intro tt kt
    refine W0 tt ?_
    refine XS.iload X0.here hx rfl (D_ d31_25) rfl ?_
    refine XS.iloadN X0.here hx rfl (D_ d31_27) rfl ?_
    refine XS.icmpNo X0.here hx rfl (D_ d31_28) rfl (tlt (own_lt hin (by omega))).2.1 ?_
    refine XS.aload X0.here hx rfl (D_ d31_31) rfl rfl ?_
    refine XS.iload X0.here hx rfl (D_ d31_33) rfl ?_
    refine XS.iconst X0.here hx rfl (D_ d31_35) ?_
    refine XS.iadd X0.here hx rfl (D_ d31_36) rfl ?_
    show SS p e below T0 m 37 #[.val (.ref ll), .val (.int ct), .val (.int le), .val (.int (Int32.ofNat n)), .val (.ref sa), .val (.int (Int32.ofNat i)), .unset, .unset, .unset, .unset] [(.int ((Int32.ofNat i) + (1 : Int32))), (.ref sa)] _
    rw [show ((Int32.ofNat i) + (1 : Int32)) = (Int32.ofNat (i + 1)) from own_succ _]
    refine XS.aload X0.here hx rfl (D_ d31_37) rfl rfl ?_
    refine XS.iload X0.here hx rfl (D_ d31_39) rfl ?_
    refine X0.aaload hx (j := (Int32.ofNat i)) (v := (.ref s0)) (by first | exact Ar101.1 | (rw [e0]; exact Ar101.1)) (State.isArrayOf_alike hZ.alike Ar101.2.1) rfl Ar101.2.2 hin101 hat101 (g := (mkF m 41 #[.val (.ref ll), .val (.int ct), .val (.int le), .val (.int (Int32.ofNat n)), .val (.ref sa), .val (.int (Int32.ofNat i)), .unset, .unset, .unset, .unset] [(.int (Int32.ofNat i)), (.ref sa), (.int (Int32.ofNat (i + 1))), (.ref sa)])) rfl rfl (D_ d31_41) _ ?_
    refine XS.aloadN X0.here hx rfl (D_ d31_42) rfl rfl ?_
    refine XS.iload X0.here hx rfl (D_ d31_43) rfl ?_
    refine st102.trans ?_
    refine st103 _ ?_
    refine st104.trans ?_
    refine st108 _ ?_
    refine XS.iinc X108.here hx rfl (D_ d31_57) rfl (l' := #[.val (.ref ll), .val (.int ct), .val (.int le), .val (.int (Int32.ofNat n)), .val (.ref sa), .val (.int ((Int32.ofNat i) + (1 : Int32))), .unset, .unset, .unset, .unset]) rfl ?_
    show SS p e below T108 m 60 #[.val (.ref ll), .val (.int ct), .val (.int le), .val (.int (Int32.ofNat n)), .val (.ref sa), .val (.int ((Int32.ofNat i) + (1 : Int32))), .unset, .unset, .unset, .unset] [] _
    rw [show ((Int32.ofNat i) + (1 : Int32)) = (Int32.ofNat (i + 1)) from own_succ _]
    refine XS.goto X108.here hx rfl (pc0 := 60) (pc' := 25) rfl (D_ d31_60) (by decide) (by decide) ?_
    exact kt
  have F110 : BD Z h108 r_105 v_106 := (P104_0.keep K108 (ninS (Exa.neArv (P104_0.1.keep K108) G108 (w138 hw)) nin0))
  exact ⟨T108, _, h108, (X108.more (by first | omega | (dsimp only [Pt.cells, Pt.slots]; omega)) (by first | omega | (dsimp only [Pt.cells, Pt.slots]; omega))), e108, r_105, v_106, N108, (Keep.trans (Keep.trans (Keep.refl h0 [sa]) K104 all0) K108 (allS (Or.inl (List.mem_of_getElem? (i := 0) rfl)) all0)), G108, F110, P104_1, fun tt kt => W109 _ kt⟩
theorem rm_sg2A {p : Program} {l : Launch} {e : Env} {R : Room} {s : State} {m : MethodId} {args : Array Value} {below : List Frame} {meth : Method} {cO : Code} {cells slots : Nat} {Z : State} {a0 : Array Value} (hx : p.tables.exec = Jvm.exec) (hZ : Z.Warmed39 s.vm) (hw : HW a0 Z) (hby : cO.code = prog_2_method_2_code) (hml : cO.maxLocals = 10) (hown : s.vm.findClass "com/example/vestline/vestline/finalaveragepay/BestPeriods" = some m.cls) (hRf : 8 ≤ R.frames) (hRl : 124 ≤ R.locals) (hRc : cells + 2 ≤ R.cells) (hRs : slots + 10 ≤ R.slots) (ll : Addr) (ct : Int32) (w : Nat) (n : Nat) (sa : Addr) (ba : Addr) (pd : Int32) (ma : Addr) (i : Nat) (s9 : Slot) (ks : ClassId) (kb : ClassId) (km : ClassId) (sl : List Value) (bl : List Value) (ml : List Value) (s1 : Addr) (s0 : Addr) (bb : Addr) (x1 : Int64) (x0 : Int64) (bv : Int64) (zt : Addr) (kz : ClassId) (zl : List Addr) (n0 : Nat) (S_zt : Sta Z Z.heap "java/math/BigDecimal" "ZERO_THROUGH_TEN" "[Ljava/math/BigDecimal;" (.ref zt)) (V_zt : Arv Z Z.heap zt kz (.object "java/math/BigDecimal") (11 : Int32) (zl.map Value.ref) .null) (hzl : zl.length = 11) (hz : ∀ i, i < 11 → BD Z Z.heap (zl.getD i 0) (Int64.ofNat i)) (hwi : w ≤ i) (hin : i ≤ n) (hi1 : 1 ≤ i) (hn : n ≤ 10) (gs1 : sl.getD i .null = .ref s1) (gs0 : sl.getD (i - w) .null = .ref s0) (gb : bl.getD (i - w) .null = .ref bb) (gm : ml.getD (i - 1) .null = Value.null) (hml_ : ml.length = n + 1) (h1s : Bn 40 x1) (h0s : Bn 40 x0) (hv_ : Bn 100 bv) (gma : n0 ≤ ma) (hov : Ovr Z km "java/math/BigDecimal") (h9 : One s9) (nmb : ma ≠ ba) (nms : ma ≠ sa) (T0 : State) (L0 : List Loc) (h0 : Heap) (X0 : Stand p l e R s m args below meth cO T0 L0 cells slots) (e0 : T0.heap = h0) (N0 : Fr n0 L0) (Z0 : n0 ≤ h0.size) (O0 : Old Z n0 h0) (VS : Arv Z h0 sa ks (.object "java/math/BigDecimal") (Int32.ofNat (n + 1)) sl .null) (VB_ : Arv Z h0 ba kb (.object "java/math/BigDecimal") (Int32.ofNat (n + 1)) bl .null) (VM : Arv Z h0 ma km (.object "java/math/BigDecimal") (Int32.ofNat (n + 1)) ml .null) (B1 : BD Z h0 s1 x1) (B0 : BD Z h0 s0 x0) (Bb : BD Z h0 bb bv) :
    ∃ (T' : State) (L' : List Loc) (h' : Heap), Stand p l e R s m args below meth cO T' L' (cells + 2) (slots + 10) ∧ T'.heap = h' ∧ ∃ r : Addr, ∃ v : Int64, ∃ s8 : Slot, Fr n0 L' ∧ Keep h0 h' [ma] ∧ Arv Z h' ma km (.object "java/math/BigDecimal") (Int32.ofNat (n + 1)) (ml.set i (.ref r)) .null ∧ BD Z h' r v ∧ v.toInt = bv.toInt + (x1.toInt - x0.toInt) ∧ One s8 ∧ ∀ zQ, SS p e below T' m 102 #[.val (.ref ll), .val (.int ct), .val (.int (Int32.ofNat w)), .val (.int (Int32.ofNat n)), .val (.ref sa), .val (.ref ba), .val (.int pd), .val (.ref ma), .val (.int (Int32.ofNat (i + 1))), s8] [] zQ → SS p e below T0 m 102 #[.val (.ref ll), .val (.int ct), .val (.int (Int32.ofNat w)), .val (.int (Int32.ofNat n)), .val (.ref sa), .val (.ref ba), .val (.int pd), .val (.ref ma), .val (.int (Int32.ofNat i)), s9] [] zQ := by
  have D_ : ∀ {i : Nat} {x}, decode prog_2_method_2_code i = x → decode cO.code i = x := fun h => hb hby h
  have W0 : ∀ zQ, SS p e below T0 m 102 #[.val (.ref ll), .val (.int ct), .val (.int (Int32.ofNat w)), .val (.int (Int32.ofNat n)), .val (.ref sa), .val (.ref ba), .val (.int pd), .val (.ref ma), .val (.int (Int32.ofNat i)), s9] [] zQ → Steps p.tables e below (T0.setTop (mkF m 102 #[.val (.ref ll), .val (.int ct), .val (.int (Int32.ofNat w)), .val (.int (Int32.ofNat n)), .val (.ref sa), .val (.ref ba), .val (.int pd), .val (.ref ma), .val (.int (Int32.ofNat i)), s9] [])) zQ := fun tt kt => kt
  have h1_ : Bn 100 x1 := h1s.mono (by decide)
  have h0_ : Bn 100 x0 := h0s.mono (by decide)
  obtain ⟨cl101, Ar101, q101, S101, M101, H101, F101g⟩ := id VB_
  have hin101 : ¬ ((Int32.ofNat (i - w)) < 0 ∨ cl101.slots.size ≤ ((Int32.ofNat (i - w))).toNatClampNeg) := inb_of S101 ⟨own_nneg (by omega), own_lt (by omega) (by omega)⟩
  have hat101 : cl101.slots[((Int32.ofNat (i - w))).toNatClampNeg]? = some (.ref bb) := Has.at H101 hin101 (by rw [own_cl (by omega)]; exact gb)
  obtain ⟨cl102, Ar102, q102, S102, M102, H102, F102g⟩ := id VS
  have hin102 : ¬ ((Int32.ofNat i) < 0 ∨ cl102.slots.size ≤ ((Int32.ofNat i)).toNatClampNeg) := inb_of S102 ⟨own_nneg (by omega), own_lt (by omega) (by omega)⟩
  have hat102 : cl102.slots[((Int32.ofNat i)).toNatClampNeg]? = some (.ref s1) := Has.at H102 hin102 (by rw [own_cl (by omega)]; exact gs1)
  obtain ⟨cl103, Ar103, q103, S103, M103, H103, F103g⟩ := id VS
  have hin103 : ¬ ((Int32.ofNat (i - w)) < 0 ∨ cl103.slots.size ≤ ((Int32.ofNat (i - w))).toNatClampNeg) := inb_of S103 ⟨own_nneg (by omega), own_lt (by omega) (by omega)⟩
  have hat103 : cl103.slots[((Int32.ofNat (i - w))).toNatClampNeg]? = some (.ref s0) := Has.at H103 hin103 (by rw [own_cl (by omega)]; exact gs0)
  obtain ⟨cq104, kq104, q104a, q104b, q104c⟩ := isOf hZ e0 B1.1
  obtain ⟨_, _, ⟨T104, L104, k104, n104⟩, -, X104, ⟨Lc104, hQ104, l104, y104, z104⟩, st104⟩ := X0.virtualBack hx (y := yn8) (z := yn8) hown (mvT hZ (w153 hw)) (mvT hZ (w154 hw)) (notFace_of_selects (args := #[]) (mvT hZ (w156 hw))) (mvT hZ (w156 hw)) (mvT hZ (w155 hw)) (by decide) (backOf (W := 1) (rm_bdsub l Z a0 hw [] s1 s0 x1 x0 zt kz zl h0 n0 Z0 O0 S_zt V_zt hzl hz B1 B0 h1_ h0_) hZ (w157 hw) (w45 hw) (Nat.le_trans (by decide) hRf) (Nat.le_trans (by decide) hRl)) q104a q104c (g := (mkF m 127 #[.val (.ref ll), .val (.int ct), .val (.int (Int32.ofNat w)), .val (.int (Int32.ofNat n)), .val (.ref sa), .val (.ref ba), .val (.int pd), .val (.ref ma), .val (.int (Int32.ofNat i)), s9] [(.ref s0), (.ref s1), (.ref bb)])) rfl (by rw [hml]; rfl) (Steps.refl _) (argsL := [(.ref s0)]) (rest := [(.ref bb)]) (lenOf pd17 rfl) rfl (wq rfl) (D_ d31_127) (fun _ _ => ⟨rfl, e0, (by first | omega | (dsimp only [Pt.cells, Pt.slots]; omega)), (by first | omega | (dsimp only [Pt.cells, Pt.slots]; omega))⟩)
  dsimp only [Pt.U, Pt.locs, Pt.cells, Pt.slots] at X104 l104 y104 z104 st104 hQ104
  subst l104 y104 z104
  obtain ⟨r_105, v_106, rfl, Nq104, K104, P104_0, P104_1⟩ := hQ104
  have N104 := Fr.app N0 Nq104
  have F107 : BD Z T104.heap bb bv := (Bb.keep K104 nin0)
  have O108 : Old Z n0 T104.heap := (O0.keep K104 all0)
  obtain ⟨cq109, kq109, q109a, q109b, q109c⟩ := isOf hZ rfl F107.1
  obtain ⟨_, _, ⟨T109, L109, k109, n109⟩, -, X109, ⟨Lc109, hQ109, l109, y109, z109⟩, st109⟩ := X104.virtualBack hx (y := yn7) (z := yn7) hown (mvT hZ (w119 hw)) (mvT hZ (w120 hw)) (notFace_of_selects (args := #[]) (mvT hZ (w122 hw))) (mvT hZ (w122 hw)) (mvT hZ (w121 hw)) (by decide) (backOf (W := 0) (rm_bdadd l Z a0 hw [] bb r_105 bv v_106 zt kz zl T104.heap n0 (Nat.le_trans Z0 K104.1) O108 S_zt V_zt hzl hz F107 P104_0 hv_ (Bn.mono (Bn.sub h1s h0s P104_1) (by decide))) hZ (w123 hw) (w45 hw) (Nat.le_trans (by decide) hRf) (Nat.le_trans (by decide) hRl)) q109a q109c (g := (mkF m 130 #[.val (.ref ll), .val (.int ct), .val (.int (Int32.ofNat w)), .val (.int (Int32.ofNat n)), .val (.ref sa), .val (.ref ba), .val (.int pd), .val (.ref ma), .val (.int (Int32.ofNat i)), s9] [(.ref r_105), (.ref bb)])) rfl (by rw [hml]; rfl) (Steps.refl _) (argsL := [(.ref r_105)]) (rest := []) (lenOf pd17 rfl) rfl (wq rfl) (D_ d31_130) (fun _ _ => ⟨rfl, rfl, (by first | omega | (dsimp only [Pt.cells, Pt.slots]; omega)), (by first | omega | (dsimp only [Pt.cells, Pt.slots]; omega))⟩)
  dsimp only [Pt.U, Pt.locs, Pt.cells, Pt.slots] at X109 l109 y109 z109 st109 hQ109
  subst l109 y109 z109
  obtain ⟨r_110, v_111, rfl, Nq109, K109, P109_0, P109_1⟩ := hQ109
  have N109 := Fr.app N104 Nq109
  have F112 : Arv Z T109.heap ma km (.object "java/math/BigDecimal") (Int32.ofNat (n + 1)) ml .null := ((VM.keep K104 nin0).keep K109 nin0)
  obtain ⟨cl113, Ar113, q113, S113, M113, H113, F113g⟩ := id F112
  have hin113 : ¬ ((Int32.ofNat (i - 1)) < 0 ∨ cl113.slots.size ≤ ((Int32.ofNat (i - 1))).toNatClampNeg) := inb_of S113 ⟨own_nneg (by omega), own_lt (by omega) (by omega)⟩
  have hat113 : cl113.slots[((Int32.ofNat (i - 1))).toNatClampNeg]? = some .null := Has.at H113 hin113 (by rw [own_cl (by omega)]; exact gm)
  obtain ⟨cl114, Ar114, q114, S114, M114, H114, F114g⟩ := id F112
  have hin114 : ¬ ((Int32.ofNat i) < 0 ∨ cl114.slots.size ≤ ((Int32.ofNat i)).toNatClampNeg) := inb_of S114 ⟨own_nneg (by omega), own_lt (by omega) (by omega)⟩
  obtain ⟨T114, h114, X114, e114, Wr114, st114⟩ := stR X109 hx hZ rfl Ar114 (j := (Int32.ofNat i)) hin114 rfl (Sto.ofV Ar114 q114 hov (Ins.self P109_0.1)) (g := (mkF m 166 #[.val (.ref ll), .val (.int ct), .val (.int (Int32.ofNat w)), .val (.int (Int32.ofNat n)), .val (.ref sa), .val (.ref ba), .val (.int pd), .val (.ref ma), .val (.int (Int32.ofNat i)), .val (.ref r_110)] [(.ref r_110), (.int (Int32.ofNat i)), (.ref ma)])) rfl rfl (D_ d31_166)
  have G114 : Arv Z h114 ma km (.object "java/math/BigDecimal") (Int32.ofNat (n + 1)) (ml.set i (.ref r_110)) .null := Arv.set Ar114 q114 S114 M114 H114 F114g rfl Wr114 i (own_cl (by omega)) (by rw [hml_]; omega)
  have K114 := Keep.of_wr Wr114
  have N114 := Fr.snoc X114 N109 gma
  have W115 : ∀ zQ, SS p e below T114 m 102 #[.val (.ref ll), .val (.int ct), .val (.int (Int32.ofNat w)), .val (.int (Int32.ofNat n)), .val (.ref sa), .val (.ref ba), .val (.int pd), .val (.ref ma), .val (.int (Int32.ofNat (i + 1))), .val (.ref r_110)] [] zQ → Steps p.tables e below (T0.setTop (mkF m 102 #[.val (.ref ll), .val (.int ct), .val (.int (Int32.ofNat w)), .val (.int (Int32.ofNat n)), .val (.ref sa), .val (.ref ba), .val (.int pd), .val (.ref ma), .val (.int (Int32.ofNat i)), s9] [])) zQ := by
    intro tt kt
    refine W0 tt ?_
    refine XS.iload X0.here hx rfl (D_ d31_102) rfl ?_
    refine XS.iloadN X0.here hx rfl (D_ d31_104) rfl ?_
    refine XS.icmpNo X0.here hx rfl (D_ d31_105) rfl (flt (own_nlt hin (by omega))).2.2.1 ?_
    refine XS.aload X0.here hx rfl (D_ d31_108) rfl rfl ?_
    refine XS.iload X0.here hx rfl (D_ d31_110) rfl ?_
    refine XS.iloadN X0.here hx rfl (D_ d31_112) rfl ?_
    refine XS.isub X0.here hx rfl (D_ d31_113) rfl ?_
    show SS p e below T0 m 114 #[.val (.ref ll), .val (.int ct), .val (.int (Int32.ofNat w)), .val (.int (Int32.ofNat n)), .val (.ref sa), .val (.ref ba), .val (.int pd), .val (.ref ma), .val (.int (Int32.ofNat i)), s9] [(.int ((Int32.ofNat i) - (Int32.ofNat w))), (.ref ba)] _
    rw [show ((Int32.ofNat i) - (Int32.ofNat w)) = (Int32.ofNat (i - w)) from own_sub hwi (by omega)]
    refine X0.aaload hx (j := (Int32.ofNat (i - w))) (v := (.ref bb)) (by first | exact Ar101.1 | (rw [e0]; exact Ar101.1)) (State.isArrayOf_alike hZ.alike Ar101.2.1) rfl Ar101.2.2 hin101 hat101 (g := (mkF m 114 #[.val (.ref ll), .val (.int ct), .val (.int (Int32.ofNat w)), .val (.int (Int32.ofNat n)), .val (.ref sa), .val (.ref ba), .val (.int pd), .val (.ref ma), .val (.int (Int32.ofNat i)), s9] [(.int (Int32.ofNat (i - w))), (.ref ba)])) rfl rfl (D_ d31_114) _ ?_
    refine XS.aload X0.here hx rfl (D_ d31_115) rfl rfl ?_
    refine XS.iload X0.here hx rfl (D_ d31_117) rfl ?_
    refine X0.aaload hx (j := (Int32.ofNat i)) (v := (.ref s1)) (by first | exact Ar102.1 | (rw [e0]; exact Ar102.1)) (State.isArrayOf_alike hZ.alike Ar102.2.1) rfl Ar102.2.2 hin102 hat102 (g := (mkF m 119 #[.val (.ref ll), .val (.int ct), .val (.int (Int32.ofNat w)), .val (.int (Int32.ofNat n)), .val (.ref sa), .val (.ref ba), .val (.int pd), .val (.ref ma), .val (.int (Int32.ofNat i)), s9] [(.int (Int32.ofNat i)), (.ref sa), (.ref bb)])) rfl rfl (D_ d31_119) _ ?_
    refine XS.aload X0.here hx rfl (D_ d31_120) rfl rfl ?_
    refine XS.iload X0.here hx rfl (D_ d31_122) rfl ?_
    refine XS.iloadN X0.here hx rfl (D_ d31_124) rfl ?_
    refine XS.isub X0.here hx rfl (D_ d31_125) rfl ?_
    show SS p e below T0 m 126 #[.val (.ref ll), .val (.int ct), .val (.int (Int32.ofNat w)), .val (.int (Int32.ofNat n)), .val (.ref sa), .val (.ref ba), .val (.int pd), .val (.ref ma), .val (.int (Int32.ofNat i)), s9] [(.int ((Int32.ofNat i) - (Int32.ofNat w))), (.ref sa), (.ref s1), (.ref bb)] _
    rw [show ((Int32.ofNat i) - (Int32.ofNat w)) = (Int32.ofNat (i - w)) from own_sub hwi (by omega)]
    refine X0.aaload hx (j := (Int32.ofNat (i - w))) (v := (.ref s0)) (by first | exact Ar103.1 | (rw [e0]; exact Ar103.1)) (State.isArrayOf_alike hZ.alike Ar103.2.1) rfl Ar103.2.2 hin103 hat103 (g := (mkF m 126 #[.val (.ref ll), .val (.int ct), .val (.int (Int32.ofNat w)), .val (.int (Int32.ofNat n)), .val (.ref sa), .val (.ref ba), .val (.int pd), .val (.ref ma), .val (.int (Int32.ofNat i)), s9] [(.int (Int32.ofNat (i - w))), (.ref sa), (.ref s1), (.ref bb)])) rfl rfl (D_ d31_126) _ ?_
    refine st104.trans ?_
    refine st109.trans ?_
    refine XS.astore X109.here hx rfl (D_ d31_133) rfl rfl (l' := #[.val (.ref ll), .val (.int ct), .val (.int (Int32.ofNat w)), .val (.int (Int32.ofNat n)), .val (.ref sa), .val (.ref ba), .val (.int pd), .val (.ref ma), .val (.int (Int32.ofNat i)), .val (.ref r_110)]) (XS.store1 (o := s9) rfl h9 rfl) ?_
    refine XS.aload X109.here hx rfl (D_ d31_135) rfl rfl ?_
    refine XS.iload X109.here hx rfl (D_ d31_137) rfl ?_
    refine XS.aload X109.here hx rfl (D_ d31_139) rfl rfl ?_
    refine XS.iload X109.here hx rfl (D_ d31_141) rfl ?_
    refine XS.iconst X109.here hx rfl (D_ d31_143) ?_
    refine XS.isub X109.here hx rfl (D_ d31_144) rfl ?_
    show SS p e below T109 m 145 #[.val (.ref ll), .val (.int ct), .val (.int (Int32.ofNat w)), .val (.int (Int32.ofNat n)), .val (.ref sa), .val (.ref ba), .val (.int pd), .val (.ref ma), .val (.int (Int32.ofNat i)), .val (.ref r_110)] [(.int ((Int32.ofNat i) - (1 : Int32))), (.ref ma), (.int (Int32.ofNat i)), (.ref ma)] _
    rw [show ((Int32.ofNat i) - (1 : Int32)) = (Int32.ofNat (i - 1)) from own_pred hi1 (by omega)]
    refine X109.aaload hx (j := (Int32.ofNat (i - 1))) (v := .null) (by first | exact Ar113.1 | (rw [rfl]; exact Ar113.1)) (State.isArrayOf_alike hZ.alike Ar113.2.1) rfl Ar113.2.2 hin113 hat113 (g := (mkF m 145 #[.val (.ref ll), .val (.int ct), .val (.int (Int32.ofNat w)), .val (.int (Int32.ofNat n)), .val (.ref sa), .val (.ref ba), .val (.int pd), .val (.ref ma), .val (.int (Int32.ofNat i)), .val (.ref r_110)] [(.int (Int32.ofNat (i - 1))), (.ref ma), (.int (Int32.ofNat i)), (.ref ma)])) rfl rfl (D_ d31_145) _ ?_
    refine XS.ifnonnullNo X109.here hx rfl (D_ d31_146) rfl ?_
    refine XS.aload X109.here hx rfl (D_ d31_149) rfl rfl ?_
    refine XS.goto X109.here hx rfl (pc0 := 151) (pc' := 166) rfl (D_ d31_151) (by decide) (by decide) ?_
    refine st114 _ ?_
    refine XS.iinc X114.here hx rfl (D_ d31_167) rfl (l' := #[.val (.ref ll), .val (.int ct), .val (.int (Int32.ofNat w)), .val (.int (Int32.ofNat n)), .val (.ref sa), .val (.ref ba), .val (.int pd), .val (.ref ma), .val (.int ((Int32.ofNat i) + (1 : Int32))), .val (.ref r_110)]) rfl ?_
    show SS p e below T114 m 170 #[.val (.ref ll), .val (.int ct), .val (.int (Int32.ofNat w)), .val (.int (Int32.ofNat n)), .val (.ref sa), .val (.ref ba), .val (.int pd), .val (.ref ma), .val (.int ((Int32.ofNat i) + (1 : Int32))), .val (.ref r_110)] [] _
    rw [show ((Int32.ofNat i) + (1 : Int32)) = (Int32.ofNat (i + 1)) from own_succ _]
    refine XS.goto X114.here hx rfl (pc0 := 170) (pc' := 102) rfl (D_ d31_170) (by decide) (by decide) ?_
    exact kt
  have hE116 : v_111.toInt = bv.toInt + (x1.toInt - x0.toInt) := by rw [P109_1, P104_1]
  have F117 : BD Z h114 r_110 v_111 := (P109_0.keep K114 (ninS (Exa.neArv (P109_0.1.keep K114) G114 (w138 hw)) nin0))
  exact ⟨T114, _, h114, (X114.more (by first | omega | (dsimp only [Pt.cells, Pt.slots]; omega)) (by first | omega | (dsimp only [Pt.cells, Pt.slots]; omega))), e114, r_110, v_111, (.val (.ref r_110)), N114, (Keep.trans (Keep.trans (Keep.trans (Keep.refl h0 [ma]) K104 all0) K109 all0) K114 (allS (Or.inl (List.mem_of_getElem? (i := 0) rfl)) all0)), G114, F117, hE116, (One.val rfl), fun tt kt => W115 _ kt⟩
theorem rm_sg2B {p : Program} {l : Launch} {e : Env} {R : Room} {s : State} {m : MethodId} {args : Array Value} {below : List Frame} {meth : Method} {cO : Code} {cells slots : Nat} {Z : State} {a0 : Array Value} (hx : p.tables.exec = Jvm.exec) (hZ : Z.Warmed39 s.vm) (hw : HW a0 Z) (hby : cO.code = prog_2_method_2_code) (hml : cO.maxLocals = 10) (hown : s.vm.findClass "com/example/vestline/vestline/finalaveragepay/BestPeriods" = some m.cls) (hRf : 8 ≤ R.frames) (hRl : 124 ≤ R.locals) (hRc : cells + 2 ≤ R.cells) (hRs : slots + 10 ≤ R.slots) (ll : Addr) (ct : Int32) (w : Nat) (n : Nat) (sa : Addr) (ba : Addr) (pd : Int32) (ma : Addr) (i : Nat) (s9 : Slot) (ks : ClassId) (kb : ClassId) (km : ClassId) (sl : List Value) (bl : List Value) (ml : List Value) (s1 : Addr) (s0 : Addr) (bb : Addr) (x1 : Int64) (x0 : Int64) (bv : Int64) (mp : Addr) (mv : Int64) (zt : Addr) (kz : ClassId) (zl : List Addr) (n0 : Nat) (S_zt : Sta Z Z.heap "java/math/BigDecimal" "ZERO_THROUGH_TEN" "[Ljava/math/BigDecimal;" (.ref zt)) (V_zt : Arv Z Z.heap zt kz (.object "java/math/BigDecimal") (11 : Int32) (zl.map Value.ref) .null) (hzl : zl.length = 11) (hz : ∀ i, i < 11 → BD Z Z.heap (zl.getD i 0) (Int64.ofNat i)) (hwi : w ≤ i) (hin : i ≤ n) (hi1 : 1 ≤ i) (hn : n ≤ 10) (gs1 : sl.getD i .null = .ref s1) (gs0 : sl.getD (i - w) .null = .ref s0) (gb : bl.getD (i - w) .null = .ref bb) (gm : ml.getD (i - 1) .null = Value.ref mp) (hml_ : ml.length = n + 1) (h1s : Bn 40 x1) (h0s : Bn 40 x0) (hv_ : Bn 100 bv) (hm_ : Bn 100 mv) (gma : n0 ≤ ma) (hov : Ovr Z km "java/math/BigDecimal") (h9 : One s9) (nmb : ma ≠ ba) (nms : ma ≠ sa) (T0 : State) (L0 : List Loc) (h0 : Heap) (X0 : Stand p l e R s m args below meth cO T0 L0 cells slots) (e0 : T0.heap = h0) (N0 : Fr n0 L0) (Z0 : n0 ≤ h0.size) (O0 : Old Z n0 h0) (VS : Arv Z h0 sa ks (.object "java/math/BigDecimal") (Int32.ofNat (n + 1)) sl .null) (VB_ : Arv Z h0 ba kb (.object "java/math/BigDecimal") (Int32.ofNat (n + 1)) bl .null) (VM : Arv Z h0 ma km (.object "java/math/BigDecimal") (Int32.ofNat (n + 1)) ml .null) (B1 : BD Z h0 s1 x1) (B0 : BD Z h0 s0 x0) (Bb : BD Z h0 bb bv) (Bm : BD Z h0 mp mv) :
    ∃ (T' : State) (L' : List Loc) (h' : Heap), Stand p l e R s m args below meth cO T' L' (cells + 2) (slots + 10) ∧ T'.heap = h' ∧ ∃ r : Addr, ∃ v : Int64, ∃ s8 : Slot, Fr n0 L' ∧ Keep h0 h' [ma] ∧ Arv Z h' ma km (.object "java/math/BigDecimal") (Int32.ofNat (n + 1)) (ml.set i (.ref r)) .null ∧ BD Z h' r v ∧ (v.toInt = mv.toInt ∨ v.toInt = bv.toInt + (x1.toInt - x0.toInt)) ∧ mv.toInt ≤ v.toInt ∧ bv.toInt + (x1.toInt - x0.toInt) ≤ v.toInt ∧ One s8 ∧ ∀ zQ, SS p e below T' m 102 #[.val (.ref ll), .val (.int ct), .val (.int (Int32.ofNat w)), .val (.int (Int32.ofNat n)), .val (.ref sa), .val (.ref ba), .val (.int pd), .val (.ref ma), .val (.int (Int32.ofNat (i + 1))), s8] [] zQ → SS p e below T0 m 102 #[.val (.ref ll), .val (.int ct), .val (.int (Int32.ofNat w)), .val (.int (Int32.ofNat n)), .val (.ref sa), .val (.ref ba), .val (.int pd), .val (.ref ma), .val (.int (Int32.ofNat i)), s9] [] zQ := by
  have D_ : ∀ {i : Nat} {x}, decode prog_2_method_2_code i = x → decode cO.code i = x := fun h => hb hby h
  have W0 : ∀ zQ, SS p e below T0 m 102 #[.val (.ref ll), .val (.int ct), .val (.int (Int32.ofNat w)), .val (.int (Int32.ofNat n)), .val (.ref sa), .val (.ref ba), .val (.int pd), .val (.ref ma), .val (.int (Int32.ofNat i)), s9] [] zQ → Steps p.tables e below (T0.setTop (mkF m 102 #[.val (.ref ll), .val (.int ct), .val (.int (Int32.ofNat w)), .val (.int (Int32.ofNat n)), .val (.ref sa), .val (.ref ba), .val (.int pd), .val (.ref ma), .val (.int (Int32.ofNat i)), s9] [])) zQ := fun tt kt => kt
  have h1_ : Bn 100 x1 := h1s.mono (by decide)
  have h0_ : Bn 100 x0 := h0s.mono (by decide)
  obtain ⟨cl101, Ar101, q101, S101, M101, H101, F101g⟩ := id VB_
  have hin101 : ¬ ((Int32.ofNat (i - w)) < 0 ∨ cl101.slots.size ≤ ((Int32.ofNat (i - w))).toNatClampNeg) := inb_of S101 ⟨own_nneg (by omega), own_lt (by omega) (by omega)⟩
  have hat101 : cl101.slots[((Int32.ofNat (i - w))).toNatClampNeg]? = some (.ref bb) := Has.at H101 hin101 (by rw [own_cl (by omega)]; exact gb)
  obtain ⟨cl102, Ar102, q102, S102, M102, H102, F102g⟩ := id VS
  have hin102 : ¬ ((Int32.ofNat i) < 0 ∨ cl102.slots.size ≤ ((Int32.ofNat i)).toNatClampNeg) := inb_of S102 ⟨own_nneg (by omega), own_lt (by omega) (by omega)⟩
  have hat102 : cl102.slots[((Int32.ofNat i)).toNatClampNeg]? = some (.ref s1) := Has.at H102 hin102 (by rw [own_cl (by omega)]; exact gs1)
  obtain ⟨cl103, Ar103, q103, S103, M103, H103, F103g⟩ := id VS
  have hin103 : ¬ ((Int32.ofNat (i - w)) < 0 ∨ cl103.slots.size ≤ ((Int32.ofNat (i - w))).toNatClampNeg) := inb_of S103 ⟨own_nneg (by omega), own_lt (by omega) (by omega)⟩
  have hat103 : cl103.slots[((Int32.ofNat (i - w))).toNatClampNeg]? = some (.ref s0) := Has.at H103 hin103 (by rw [own_cl (by omega)]; exact gs0)
  obtain ⟨cq104, kq104, q104a, q104b, q104c⟩ := isOf hZ e0 B1.1
  obtain ⟨_, _, ⟨T104, L104, k104, n104⟩, -, X104, ⟨Lc104, hQ104, l104, y104, z104⟩, st104⟩ := X0.virtualBack hx (y := yn8) (z := yn8) hown (mvT hZ (w153 hw)) (mvT hZ (w154 hw)) (notFace_of_selects (args := #[]) (mvT hZ (w156 hw))) (mvT hZ (w156 hw)) (mvT hZ (w155 hw)) (by decide) (backOf (W := 1) (rm_bdsub l Z a0 hw [] s1 s0 x1 x0 zt kz zl h0 n0 Z0 O0 S_zt V_zt hzl hz B1 B0 h1_ h0_) hZ (w157 hw) (w45 hw) (Nat.le_trans (by decide) hRf) (Nat.le_trans (by decide) hRl)) q104a q104c (g := (mkF m 127 #[.val (.ref ll), .val (.int ct), .val (.int (Int32.ofNat w)), .val (.int (Int32.ofNat n)), .val (.ref sa), .val (.ref ba), .val (.int pd), .val (.ref ma), .val (.int (Int32.ofNat i)), s9] [(.ref s0), (.ref s1), (.ref bb)])) rfl (by rw [hml]; rfl) (Steps.refl _) (argsL := [(.ref s0)]) (rest := [(.ref bb)]) (lenOf pd17 rfl) rfl (wq rfl) (D_ d31_127) (fun _ _ => ⟨rfl, e0, (by first | omega | (dsimp only [Pt.cells, Pt.slots]; omega)), (by first | omega | (dsimp only [Pt.cells, Pt.slots]; omega))⟩)
  dsimp only [Pt.U, Pt.locs, Pt.cells, Pt.slots] at X104 l104 y104 z104 st104 hQ104
  subst l104 y104 z104
  obtain ⟨r_105, v_106, rfl, Nq104, K104, P104_0, P104_1⟩ := hQ104
  have N104 := Fr.app N0 Nq104
  have F107 : BD Z T104.heap bb bv := (Bb.keep K104 nin0)
  have O108 : Old Z n0 T104.heap := (O0.keep K104 all0)
  obtain ⟨cq109, kq109, q109a, q109b, q109c⟩ := isOf hZ rfl F107.1
  obtain ⟨_, _, ⟨T109, L109, k109, n109⟩, -, X109, ⟨Lc109, hQ109, l109, y109, z109⟩, st109⟩ := X104.virtualBack hx (y := yn7) (z := yn7) hown (mvT hZ (w119 hw)) (mvT hZ (w120 hw)) (notFace_of_selects (args := #[]) (mvT hZ (w122 hw))) (mvT hZ (w122 hw)) (mvT hZ (w121 hw)) (by decide) (backOf (W := 0) (rm_bdadd l Z a0 hw [] bb r_105 bv v_106 zt kz zl T104.heap n0 (Nat.le_trans Z0 K104.1) O108 S_zt V_zt hzl hz F107 P104_0 hv_ (Bn.mono (Bn.sub h1s h0s P104_1) (by decide))) hZ (w123 hw) (w45 hw) (Nat.le_trans (by decide) hRf) (Nat.le_trans (by decide) hRl)) q109a q109c (g := (mkF m 130 #[.val (.ref ll), .val (.int ct), .val (.int (Int32.ofNat w)), .val (.int (Int32.ofNat n)), .val (.ref sa), .val (.ref ba), .val (.int pd), .val (.ref ma), .val (.int (Int32.ofNat i)), s9] [(.ref r_105), (.ref bb)])) rfl (by rw [hml]; rfl) (Steps.refl _) (argsL := [(.ref r_105)]) (rest := []) (lenOf pd17 rfl) rfl (wq rfl) (D_ d31_130) (fun _ _ => ⟨rfl, rfl, (by first | omega | (dsimp only [Pt.cells, Pt.slots]; omega)), (by first | omega | (dsimp only [Pt.cells, Pt.slots]; omega))⟩)
  dsimp only [Pt.U, Pt.locs, Pt.cells, Pt.slots] at X109 l109 y109 z109 st109 hQ109
  subst l109 y109 z109
  obtain ⟨r_110, v_111, rfl, Nq109, K109, P109_0, P109_1⟩ := hQ109
  have N109 := Fr.app N104 Nq109
  have F112 : Arv Z T109.heap ma km (.object "java/math/BigDecimal") (Int32.ofNat (n + 1)) ml .null := ((VM.keep K104 nin0).keep K109 nin0)
  obtain ⟨cl113, Ar113, q113, S113, M113, H113, F113g⟩ := id F112
  have hin113 : ¬ ((Int32.ofNat (i - 1)) < 0 ∨ cl113.slots.size ≤ ((Int32.ofNat (i - 1))).toNatClampNeg) := inb_of S113 ⟨own_nneg (by omega), own_lt (by omega) (by omega)⟩
  have hat113 : cl113.slots[((Int32.ofNat (i - 1))).toNatClampNeg]? = some (.ref mp) := Has.at H113 hin113 (by rw [own_cl (by omega)]; exact gm)
  obtain ⟨cl114, Ar114, q114, S114, M114, H114, F114g⟩ := id F112
  have hin114 : ¬ ((Int32.ofNat (i - 1)) < 0 ∨ cl114.slots.size ≤ ((Int32.ofNat (i - 1))).toNatClampNeg) := inb_of S114 ⟨own_nneg (by omega), own_lt (by omega) (by omega)⟩
  have hat114 : cl114.slots[((Int32.ofNat (i - 1))).toNatClampNeg]? = some (.ref mp) := Has.at H114 hin114 (by rw [own_cl (by omega)]; exact gm)
  have F115 : BD Z T109.heap mp mv := ((Bm.keep K104 nin0).keep K109 nin0)
  have z117 : n0 ≤ T109.heap.size := (Nat.le_trans Z0 (Nat.le_trans K104.1 K109.1))
  obtain ⟨cq116, kq116, q116a, q116b, q116c⟩ := isOf hZ rfl F115.1
  obtain ⟨_, _, ⟨T116, L116, k116, n116⟩, -, X116, ⟨Lc116, hQ116, l116, y116, z116⟩, st116⟩ := X109.virtualBack hx (y := yn10) (z := yn10) hown (mvT hZ (w158 hw)) (mvT hZ (w159 hw)) (notFace_of_selects (args := #[]) (mvT hZ (w161 hw))) (mvT hZ (w161 hw)) (mvT hZ (w160 hw)) (by decide) (backOf (W := 2) (rm_bdmax l Z a0 hw [] mp r_110 mv v_111 T109.heap n0 z117 F115 P109_0 (own_nmin hm_ (by decide)) (own_nmin (Bn.add hv_ (Bn.mono (Bn.sub h1s h0s P104_1) (by decide) : Bn 100 _) P109_1) (by decide))) hZ (w162 hw) (w45 hw) (Nat.le_trans (by decide) hRf) (Nat.le_trans (by decide) hRl)) q116a q116c (g := (mkF m 163 #[.val (.ref ll), .val (.int ct), .val (.int (Int32.ofNat w)), .val (.int (Int32.ofNat n)), .val (.ref sa), .val (.ref ba), .val (.int pd), .val (.ref ma), .val (.int (Int32.ofNat i)), .val (.ref r_110)] [(.ref r_110), (.ref mp), (.int (Int32.ofNat i)), (.ref ma)])) rfl (by rw [hml]; rfl) (Steps.refl _) (argsL := [(.ref r_110)]) (rest := [(.int (Int32.ofNat i)), (.ref ma)]) (lenOf pd17 rfl) rfl (wq rfl) (D_ d31_163) (fun _ _ => ⟨rfl, rfl, (by first | omega | (dsimp only [Pt.cells, Pt.slots]; omega)), (by first | omega | (dsimp only [Pt.cells, Pt.slots]; omega))⟩)
  dsimp only [Pt.U, Pt.locs, Pt.cells, Pt.slots] at X116 l116 y116 z116 st116 hQ116
  subst l116 y116 z116
  obtain ⟨r_118, v_119, rfl, Nq116, K116, P116_0, P116_1, P116_2, P116_3⟩ := hQ116
  have N116 := Fr.app N109 Nq116
  have F120 : Arv Z T116.heap ma km (.object "java/math/BigDecimal") (Int32.ofNat (n + 1)) ml .null := (F112.keep K116 nin0)
  obtain ⟨cl121, Ar121, q121, S121, M121, H121, F121g⟩ := id F120
  have hin121 : ¬ ((Int32.ofNat i) < 0 ∨ cl121.slots.size ≤ ((Int32.ofNat i)).toNatClampNeg) := inb_of S121 ⟨own_nneg (by omega), own_lt (by omega) (by omega)⟩
  obtain ⟨T121, h121, X121, e121, Wr121, st121⟩ := stR X116 hx hZ rfl Ar121 (j := (Int32.ofNat i)) hin121 rfl (Sto.ofV Ar121 q121 hov (Ins.self P116_0.1)) (g := (mkF m 166 #[.val (.ref ll), .val (.int ct), .val (.int (Int32.ofNat w)), .val (.int (Int32.ofNat n)), .val (.ref sa), .val (.ref ba), .val (.int pd), .val (.ref ma), .val (.int (Int32.ofNat i)), .val (.ref r_110)] [(.ref r_118), (.int (Int32.ofNat i)), (.ref ma)])) rfl rfl (D_ d31_166)
  have G121 : Arv Z h121 ma km (.object "java/math/BigDecimal") (Int32.ofNat (n + 1)) (ml.set i (.ref r_118)) .null := Arv.set Ar121 q121 S121 M121 H121 F121g rfl Wr121 i (own_cl (by omega)) (by rw [hml_]; omega)
  have K121 := Keep.of_wr Wr121
  have N121 := Fr.snoc X121 N116 gma
  have W122 : ∀ zQ, SS p e below T121 m 102 #[.val (.ref ll), .val (.int ct), .val (.int (Int32.ofNat w)), .val (.int (Int32.ofNat n)), .val (.ref sa), .val (.ref ba), .val (.int pd), .val (.ref ma), .val (.int (Int32.ofNat (i + 1))), .val (.ref r_110)] [] zQ → Steps p.tables e below (T0.setTop (mkF m 102 #[.val (.ref ll), .val (.int ct), .val (.int (Int32.ofNat w)), .val (.int (Int32.ofNat n)), .val (.ref sa), .val (.ref ba), .val (.int pd), .val (.ref ma), .val (.int (Int32.ofNat i)), s9] [])) zQ := by
    intro tt kt
    refine W0 tt ?_
    refine XS.iload X0.here hx rfl (D_ d31_102) rfl ?_
    refine XS.iloadN X0.here hx rfl (D_ d31_104) rfl ?_
    refine XS.icmpNo X0.here hx rfl (D_ d31_105) rfl (flt (own_nlt hin (by omega))).2.2.1 ?_
    refine XS.aload X0.here hx rfl (D_ d31_108) rfl rfl ?_
    refine XS.iload X0.here hx rfl (D_ d31_110) rfl ?_
    refine XS.iloadN X0.here hx rfl (D_ d31_112) rfl ?_
    refine XS.isub X0.here hx rfl (D_ d31_113) rfl ?_
    show SS p e below T0 m 114 #[.val (.ref ll), .val (.int ct), .val (.int (Int32.ofNat w)), .val (.int (Int32.ofNat n)), .val (.ref sa), .val (.ref ba), .val (.int pd), .val (.ref ma), .val (.int (Int32.ofNat i)), s9] [(.int ((Int32.ofNat i) - (Int32.ofNat w))), (.ref ba)] _
    rw [show ((Int32.ofNat i) - (Int32.ofNat w)) = (Int32.ofNat (i - w)) from own_sub hwi (by omega)]
    refine X0.aaload hx (j := (Int32.ofNat (i - w))) (v := (.ref bb)) (by first | exact Ar101.1 | (rw [e0]; exact Ar101.1)) (State.isArrayOf_alike hZ.alike Ar101.2.1) rfl Ar101.2.2 hin101 hat101 (g := (mkF m 114 #[.val (.ref ll), .val (.int ct), .val (.int (Int32.ofNat w)), .val (.int (Int32.ofNat n)), .val (.ref sa), .val (.ref ba), .val (.int pd), .val (.ref ma), .val (.int (Int32.ofNat i)), s9] [(.int (Int32.ofNat (i - w))), (.ref ba)])) rfl rfl (D_ d31_114) _ ?_
    refine XS.aload X0.here hx rfl (D_ d31_115) rfl rfl ?_
    refine XS.iload X0.here hx rfl (D_ d31_117) rfl ?_
    refine X0.aaload hx (j := (Int32.ofNat i)) (v := (.ref s1)) (by first | exact Ar102.1 | (rw [e0]; exact Ar102.1)) (State.isArrayOf_alike hZ.alike Ar102.2.1) rfl Ar102.2.2 hin102 hat102 (g := (mkF m 119 #[.val (.ref ll), .val (.int ct), .val (.int (Int32.ofNat w)), .val (.int (Int32.ofNat n)), .val (.ref sa), .val (.ref ba), .val (.int pd), .val (.ref ma), .val (.int (Int32.ofNat i)), s9] [(.int (Int32.ofNat i)), (.ref sa), (.ref bb)])) rfl rfl (D_ d31_119) _ ?_
    refine XS.aload X0.here hx rfl (D_ d31_120) rfl rfl ?_
    refine XS.iload X0.here hx rfl (D_ d31_122) rfl ?_
    refine XS.iloadN X0.here hx rfl (D_ d31_124) rfl ?_
    refine XS.isub X0.here hx rfl (D_ d31_125) rfl ?_
    show SS p e below T0 m 126 #[.val (.ref ll), .val (.int ct), .val (.int (Int32.ofNat w)), .val (.int (Int32.ofNat n)), .val (.ref sa), .val (.ref ba), .val (.int pd), .val (.ref ma), .val (.int (Int32.ofNat i)), s9] [(.int ((Int32.ofNat i) - (Int32.ofNat w))), (.ref sa), (.ref s1), (.ref bb)] _
    rw [show ((Int32.ofNat i) - (Int32.ofNat w)) = (Int32.ofNat (i - w)) from own_sub hwi (by omega)]
    refine X0.aaload hx (j := (Int32.ofNat (i - w))) (v := (.ref s0)) (by first | exact Ar103.1 | (rw [e0]; exact Ar103.1)) (State.isArrayOf_alike hZ.alike Ar103.2.1) rfl Ar103.2.2 hin103 hat103 (g := (mkF m 126 #[.val (.ref ll), .val (.int ct), .val (.int (Int32.ofNat w)), .val (.int (Int32.ofNat n)), .val (.ref sa), .val (.ref ba), .val (.int pd), .val (.ref ma), .val (.int (Int32.ofNat i)), s9] [(.int (Int32.ofNat (i - w))), (.ref sa), (.ref s1), (.ref bb)])) rfl rfl (D_ d31_126) _ ?_
    refine st104.trans ?_
    refine st109.trans ?_
    refine XS.astore X109.here hx rfl (D_ d31_133) rfl rfl (l' := #[.val (.ref ll), .val (.int ct), .val (.int (Int32.ofNat w)), .val (.int (Int32.ofNat n)), .val (.ref sa), .val (.ref ba), .val (.int pd), .val (.ref ma), .val (.int (Int32.ofNat i)), .val (.ref r_110)]) (XS.store1 (o := s9) rfl h9 rfl) ?_
    refine XS.aload X109.here hx rfl (D_ d31_135) rfl rfl ?_
    refine XS.iload X109.here hx rfl (D_ d31_137) rfl ?_
    refine XS.aload X109.here hx rfl (D_ d31_139) rfl rfl ?_
    refine XS.iload X109.here hx rfl (D_ d31_141) rfl ?_
    refine XS.iconst X109.here hx rfl (D_ d31_143) ?_
    refine XS.isub X109.here hx rfl (D_ d31_144) rfl ?_
    show SS p e below T109 m 145 #[.val (.ref ll), .val (.int ct), .val (.int (Int32.ofNat w)), .val (.int (Int32.ofNat n)), .val (.ref sa), .val (.ref ba), .val (.int pd), .val (.ref ma), .val (.int (Int32.ofNat i)), .val (.ref r_110)] [(.int ((Int32.ofNat i) - (1 : Int32))), (.ref ma), (.int (Int32.ofNat i)), (.ref ma)] _
    rw [show ((Int32.ofNat i) - (1 : Int32)) = (Int32.ofNat (i - 1)) from own_pred hi1 (by omega)]
    refine X109.aaload hx (j := (Int32.ofNat (i - 1))) (v := (.ref mp)) (by first | exact Ar113.1 | (rw [rfl]; exact Ar113.1)) (State.isArrayOf_alike hZ.alike Ar113.2.1) rfl Ar113.2.2 hin113 hat113 (g := (mkF m 145 #[.val (.ref ll), .val (.int ct), .val (.int (Int32.ofNat w)), .val (.int (Int32.ofNat n)), .val (.ref sa), .val (.ref ba), .val (.int pd), .val (.ref ma), .val (.int (Int32.ofNat i)), .val (.ref r_110)] [(.int (Int32.ofNat (i - 1))), (.ref ma), (.int (Int32.ofNat i)), (.ref ma)])) rfl rfl (D_ d31_145) _ ?_
    refine XS.ifnonnullYes X109.here hx rfl (pc0 := 146) (pc' := 154) rfl (D_ d31_146) rfl (by decide) (by decide) ?_
    refine XS.aload X109.here hx rfl (D_ d31_154) rfl rfl ?_
    refine XS.iload X109.here hx rfl (D_ d31_156) rfl ?_
    refine XS.iconst X109.here hx rfl (D_ d31_158) ?_
    refine XS.isub X109.here hx rfl (D_ d31_159) rfl ?_
    show SS p e below T109 m 160 #[.val (.ref ll), .val (.int ct), .val (.int (Int32.ofNat w)), .val (.int (Int32.ofNat n)), .val (.ref sa), .val (.ref ba), .val (.int pd), .val (.ref ma), .val (.int (Int32.ofNat i)), .val (.ref r_110)] [(.int ((Int32.ofNat i) - (1 : Int32))), (.ref ma), (.int (Int32.ofNat i)), (.ref ma)] _
    rw [show ((Int32.ofNat i) - (1 : Int32)) = (Int32.ofNat (i - 1)) from own_pred hi1 (by omega)]
    refine X109.aaload hx (j := (Int32.ofNat (i - 1))) (v := (.ref mp)) (by first | exact Ar114.1 | (rw [rfl]; exact Ar114.1)) (State.isArrayOf_alike hZ.alike Ar114.2.1) rfl Ar114.2.2 hin114 hat114 (g := (mkF m 160 #[.val (.ref ll), .val (.int ct), .val (.int (Int32.ofNat w)), .val (.int (Int32.ofNat n)), .val (.ref sa), .val (.ref ba), .val (.int pd), .val (.ref ma), .val (.int (Int32.ofNat i)), .val (.ref r_110)] [(.int (Int32.ofNat (i - 1))), (.ref ma), (.int (Int32.ofNat i)), (.ref ma)])) rfl rfl (D_ d31_160) _ ?_
    refine XS.aload X109.here hx rfl (D_ d31_161) rfl rfl ?_
    refine st116.trans ?_
    refine st121 _ ?_
    refine XS.iinc X121.here hx rfl (D_ d31_167) rfl (l' := #[.val (.ref ll), .val (.int ct), .val (.int (Int32.ofNat w)), .val (.int (Int32.ofNat n)), .val (.ref sa), .val (.ref ba), .val (.int pd), .val (.ref ma), .val (.int ((Int32.ofNat i) + (1 : Int32))), .val (.ref r_110)]) rfl ?_
    show SS p e below T121 m 170 #[.val (.ref ll), .val (.int ct), .val (.int (Int32.ofNat w)), .val (.int (Int32.ofNat n)), .val (.ref sa), .val (.ref ba), .val (.int pd), .val (.ref ma), .val (.int ((Int32.ofNat i) + (1 : Int32))), .val (.ref r_110)] [] _
    rw [show ((Int32.ofNat i) + (1 : Int32)) = (Int32.ofNat (i + 1)) from own_succ _]
    refine XS.goto X121.here hx rfl (pc0 := 170) (pc' := 102) rfl (D_ d31_170) (by decide) (by decide) ?_
    exact kt
  have hE123 : v_111.toInt = bv.toInt + (x1.toInt - x0.toInt) := by rw [P109_1, P104_1]
  have F124 : BD Z h121 r_118 v_119 := (P116_0.keep K121 (ninS (Exa.neArv (P116_0.1.keep K121) G121 (w138 hw)) nin0))
  exact ⟨T121, _, h121, (X121.more (by first | omega | (dsimp only [Pt.cells, Pt.slots]; omega)) (by first | omega | (dsimp only [Pt.cells, Pt.slots]; omega))), e121, r_118, v_119, (.val (.ref r_110)), N121, (Keep.trans (Keep.trans (Keep.trans (Keep.trans (Keep.refl h0 [ma]) K104 all0) K109 all0) K116 all0) K121 (allS (Or.inl (List.mem_of_getElem? (i := 0) rfl)) all0)), G121, F124, (by have q := P116_1; rw [hE123] at q; exact q), P116_2, (by have q := P116_3; rw [hE123] at q; exact q), (One.val rfl), fun tt kt => W122 _ kt⟩
theorem rm_sg0 {p : Program} {l : Launch} {e : Env} {R : Room} {s : State} {m : MethodId} {args : Array Value} {below : List Frame} {meth : Method} {cO : Code} {cells slots : Nat} {Z : State} {a0 : Array Value} (hx : p.tables.exec = Jvm.exec) (hZ : Z.Warmed39 s.vm) (hw : HW a0 Z) (hby : cO.code = prog_2_method_2_code) (hml : cO.maxLocals = 10) (hown : s.vm.findClass "com/example/vestline/vestline/finalaveragepay/BestPeriods" = some m.cls) (hRf : 0 ≤ R.frames) (hRl : 0 ≤ R.locals) (hRc : cells + 1 ≤ R.cells) (hRs : slots + 5 ≤ R.slots) (ll : Addr) (ct : Int32) (w : Nat) (n : Nat) (sa : Addr) (ba : Addr) (t : Nat) (s7 : Slot) (s8 : Slot) (s9 : Slot) (n0 : Nat) (hct_ : ¬ (ct < (Int32.ofNat t))) (hn : n ≤ 4) (htw : t * w ≤ n) (h7 : One s7) (h8 : One s8) (T0 : State) (L0 : List Loc) (h0 : Heap) (X0 : Stand p l e R s m args below meth cO T0 L0 cells slots) (e0 : T0.heap = h0) (N0 : Fr n0 L0) (Z0 : n0 ≤ h0.size)  :
    ∃ (T' : State) (L' : List Loc) (h' : Heap), Stand p l e R s m args below meth cO T' L' (cells + 1) (slots + 5) ∧ T'.heap = h' ∧ ∃ ma : Addr, ∃ km : ClassId, Fr n0 L' ∧ Keep h0 h' [] ∧ h0.size ≤ ma ∧ Arv Z h' ma km (.object "java/math/BigDecimal") (Int32.ofNat (n + 1)) [] .null ∧ Ovr Z km "java/math/BigDecimal" ∧ ∀ zQ, SS p e below T' m 102 #[.val (.ref ll), .val (.int ct), .val (.int (Int32.ofNat w)), .val (.int (Int32.ofNat n)), .val (.ref sa), .val (.ref ba), .val (.int (Int32.ofNat t)), .val (.ref ma), .val (.int (Int32.ofNat (t * w))), s9] [] zQ → SS p e below T0 m 82 #[.val (.ref ll), .val (.int ct), .val (.int (Int32.ofNat w)), .val (.int (Int32.ofNat n)), .val (.ref sa), .val (.ref ba), .val (.int (Int32.ofNat t)), s7, s8, s9] [] zQ := by
  have D_ : ∀ {i : Nat} {x}, decode prog_2_method_2_code i = x → decode cO.code i = x := fun h => hb hby h
  have W0 : ∀ zQ, SS p e below T0 m 82 #[.val (.ref ll), .val (.int ct), .val (.int (Int32.ofNat w)), .val (.int (Int32.ofNat n)), .val (.ref sa), .val (.ref ba), .val (.int (Int32.ofNat t)), s7, s8, s9] [] zQ → Steps p.tables e below (T0.setTop (mkF m 82 #[.val (.ref ll), .val (.int ct), .val (.int (Int32.ofNat w)), .val (.int (Int32.ofNat n)), .val (.ref sa), .val (.ref ba), .val (.int (Int32.ofNat t)), s7, s8, s9] [])) zQ := fun tt kt => kt
  obtain ⟨T101, h101, k101, X101, e101, E101, A101, Ov101, st101⟩ := newR X0 hx hZ hown (w42 hw) (w43 hw) e0 (g := (mkF m 91 #[.val (.ref ll), .val (.int ct), .val (.int (Int32.ofNat w)), .val (.int (Int32.ofNat n)), .val (.ref sa), .val (.ref ba), .val (.int (Int32.ofNat t)), s7, s8, s9] [(.int (Int32.ofNat (n + 1)))])) rfl (D_ d31_91) rfl (own_nneg (by omega)) (cap := 5) (by rw [own_cl (by omega)]; omega) (by decide) (by omega) (by omega)
  obtain ⟨b101, g101⟩ : ∃ z, z = h0.size := ⟨_, rfl⟩
  rw [← g101] at A101 st101
  have K101 := (Keep.refl h0 []).ext E101
  have G101 : Arv Z h101 b101 k101 (.object "java/math/BigDecimal") (Int32.ofNat (n + 1)) [] .null := Arv.new A101 (own_nneg (by omega))
  have W102 : ∀ zQ, SS p e below T101 m 102 #[.val (.ref ll), .val (.int ct), .val (.int (Int32.ofNat w)), .val (.int (Int32.ofNat n)), .val (.ref sa), .val (.ref ba), .val (.int (Int32.ofNat t)), .val (.ref b101), .val (.int (Int32.ofNat (t * w))), s9] [] zQ → Steps p.tables e below (T0.setTop (mkF m 82 #[.val (.ref ll), .val (.int ct), .val (.int (Int32.ofNat w)), .val (.int (Int32.ofNat n)), .val (.ref sa), .val (.ref ba), .val (.int (Int32.ofNat t)), s7, s8, s9] [])) zQ := by
    intro tt kt
    refine W0 tt ?_
    refine XS.iload X0.here hx rfl (D_ d31_82) rfl ?_
    refine XS.iloadN X0.here hx rfl (D_ d31_84) rfl ?_
    refine XS.icmpNo X0.here hx rfl (D_ d31_85) rfl (flt hct_).2.2.1 ?_
    refine XS.iloadN X0.here hx rfl (D_ d31_88) rfl ?_
    refine XS.iconst X0.here hx rfl (D_ d31_89) ?_
    refine XS.iadd X0.here hx rfl (D_ d31_90) rfl ?_
    show SS p e below T0 m 91 #[.val (.ref ll), .val (.int ct), .val (.int (Int32.ofNat w)), .val (.int (Int32.ofNat n)), .val (.ref sa), .val (.ref ba), .val (.int (Int32.ofNat t)), s7, s8, s9] [(.int ((Int32.ofNat n) + (1 : Int32)))] _
    rw [show ((Int32.ofNat n) + (1 : Int32)) = (Int32.ofNat (n + 1)) from own_succ _]
    refine st101 _ ?_
    refine XS.astore X101.here hx rfl (D_ d31_94) rfl rfl (l' := #[.val (.ref ll), .val (.int ct), .val (.int (Int32.ofNat w)), .val (.int (Int32.ofNat n)), .val (.ref sa), .val (.ref ba), .val (.int (Int32.ofNat t)), .val (.ref b101), s8, s9]) (XS.store1 (o := s7) rfl h7 rfl) ?_
    refine XS.iload X101.here hx rfl (D_ d31_96) rfl ?_
    refine XS.iloadN X101.here hx rfl (D_ d31_98) rfl ?_
    refine XS.imul X101.here hx rfl (D_ d31_99) rfl ?_
    show SS p e below T101 m 100 #[.val (.ref ll), .val (.int ct), .val (.int (Int32.ofNat w)), .val (.int (Int32.ofNat n)), .val (.ref sa), .val (.ref ba), .val (.int (Int32.ofNat t)), .val (.ref b101), s8, s9] [(.int ((Int32.ofNat t) * (Int32.ofNat w)))] _
    rw [show ((Int32.ofNat t) * (Int32.ofNat w)) = (Int32.ofNat (t * w)) from (Int32.ofNat_mul t w).symm]
    refine XS.istore X101.here hx rfl (D_ d31_100) rfl (l' := #[.val (.ref ll), .val (.int ct), .val (.int (Int32.ofNat w)), .val (.int (Int32.ofNat n)), .val (.ref sa), .val (.ref ba), .val (.int (Int32.ofNat t)), .val (.ref b101), .val (.int (Int32.ofNat (t * w))), s9]) (XS.store1 (o := s8) rfl h8 rfl) ?_
    exact kt
  exact ⟨T101, _, h101, (X101.more (by first | omega | (dsimp only [Pt.cells, Pt.slots]; omega)) (by first | omega | (dsimp only [Pt.cells, Pt.slots]; omega))), e101, b101, k101, N0, (Keep.trans (Keep.refl h0 []) K101 all0), (Nat.le_of_eq g101.symm), G101, Ov101, fun tt kt => W102 _ kt⟩
theorem own_bA {k1 k2 k3 K : Nat} {b x y v : Int64} (hb : Bn k1 b) (hX : Bn k2 x) (hY : Bn k3 y) (e : v.toInt = b.toInt + (x.toInt - y.toInt)) (hK : k1 + k2 + k3 ≤ K) : Bn K v := by unfold Bn at *; omega
theorem own_bE {k0 k1 k2 k3 K : Nat} {a b x y v : Int64} (ha : Bn k0 a) (hb : Bn k1 b) (hX : Bn k2 x) (hY : Bn k3 y) (e : v.toInt = a.toInt ∨ v.toInt = b.toInt + (x.toInt - y.toInt)) (hK : k1 + k2 + k3 ≤ K) (h0 : k0 ≤ K) : Bn K v := by unfold Bn at *; omega
def Q_tot0 (Z : State) (ll : Addr) (ct : Int32) (le : Int32) (x0 : Int64) (x1 : Int64) (x2 : Int64) (x3 : Int64) (zt : Addr) (kz : ClassId) (zl : List Addr) (zr : Addr) (h0 : Heap) (n0 : Nat) (vQ_ : Option Value) (hQ_ : Heap) (LQ_ : List Loc) : Prop := ∃ r : Addr, ∃ v : Int64, vQ_ = some (.ref r) ∧ Fr n0 LQ_ ∧ Keep h0 hQ_ [] ∧ BD Z hQ_ r v ∧ IsM v.toInt (dpl (0 : Int32) ct le x0.toInt x1.toInt x2.toInt x3.toInt) ∧ Bn 100 v
theorem rm_tot0 (l : Launch) (Z : State) (a0 : Array Value) (hw : HW a0 Z) (ws : List Jvm.Cond) (ll : Addr) (ct : Int32) (le : Int32) (x0 : Int64) (x1 : Int64) (x2 : Int64) (x3 : Int64) (zt : Addr) (kz : ClassId) (zl : List Addr) (zr : Addr) (h0 : Heap) (n0 : Nat) (Z0 : n0 ≤ h0.size) (O0 : Old Z n0 h0) (S_zt : Sta Z Z.heap "java/math/BigDecimal" "ZERO_THROUGH_TEN" "[Ljava/math/BigDecimal;" (.ref zt)) (V_zt : Arv Z Z.heap zt kz (.object "java/math/BigDecimal") (11 : Int32) (zl.map Value.ref) .null) (hzl : zl.length = 11) (hz : ∀ i, i < 11 → BD Z Z.heap (zl.getD i 0) (Int64.ofNat i)) (S_z0 : Sta Z Z.heap "java/math/BigDecimal" "ZERO" "Ljava/math/BigDecimal;" (.ref zr)) (hz0 : BD Z Z.heap zr (0 : Int64)) (EL : Exa Z h0 ll "java/util/ArrayList") (FZ : Fld Z h0 ll "java/util/ArrayList" "size" "I" (.int (0 : Int32))) (hb0 : Bn 1 x0) (hb1 : Bn 1 x1) (hb2 : Bn 1 x2) (hb3 : Bn 1 x3) (hcl : ct = (0 : Int32)) :
    CT l yn33 (Jvm.Cond.code yn33 prog_2_method_2_code 10 (some (.object "java/math/BigDecimal")) :: ws) (⟨1, 2, 2, 15⟩ : Room) #[(.ref ll), (.int ct), (.int le)] Z h0 (Q_tot0 Z ll ct le x0 x1 x2 x3 zt kz zl zr h0 n0) := by
  refine MetFree.of_bodySF (plainFor_of_name pn_com_example_vestline_vestline_finalaveragepay_BestPeriods) hisR ?_
  intro p e s m args below meth cO s₁ Bd hml hP hK
  obtain ⟨rfl, hZ, hh⟩ := hP
  have hx := Bd.exec
  have hby := Bd.bytes
  have hown : s.vm.findClass "com/example/vestline/vestline/finalaveragepay/BestPeriods" = some m.cls := findClass_of_methodNamed Bd.named
  have hnm := (name_of_methodNamed Bd.named Bd.method).1
  have X0 : Stand p l e (⟨1, 2, 2, 15⟩ : Room) s m #[(.ref ll), (.int ct), (.int le)] below meth cO s₁ [] 0 0 := Stand.of_body Bd
  have e0 : s₁.heap = h0 := by rw [← hh, Bd.state]; rfl
  have N0 := Fr.nil n0
  have D_ : ∀ {i : Nat} {x}, decode prog_2_method_2_code i = x → decode cO.code i = x := fun h => hb hby h
  have W0 : ∀ zQ, SS p e below s₁ m 0 #[.val (.ref ll), .val (.int ct), .val (.int le), .unset, .unset, .unset, .unset, .unset, .unset, .unset] [] zQ → Steps p.tables e below (s₁.setTop (entryFrame m #[(.ref ll), (.int ct), (.int le)] 10)) zQ := fun tt kt => castTop (ef_tot0 m ll ct le) kt
  obtain ⟨cq101, kq101, q101a, q101b, q101c⟩ := isOf hZ e0 EL
  obtain ⟨_, _, ⟨T101, L101, k101, n101⟩, -, X101, ⟨Lc101, hQ101, l101, y101, z101⟩, st101⟩ := X0.interfaceBack hx (xi := yn32) (y := yn25) hown (mvT hZ (w31 hw)) (mvT hZ (w32 hw)) (mvT hZ (w33 hw)) (mvT hZ (w34 hw)) (mvT hZ (w35 hw)) (mvT hZ (w36 hw)) (mvT hZ (w37 hw)) (mvT hZ (w38 hw)) (by decide) (backOf (W := 0) (rm_alsize l Z a0 hw [] ll (0 : Int32) h0 n0 Z0 FZ) hZ (w39 hw) (w3 hw) (by decide) (by decide)) q101a q101b q101c (g := (mkF m 1 #[.val (.ref ll), .val (.int ct), .val (.int le), .unset, .unset, .unset, .unset, .unset, .unset, .unset] [(.ref ll)])) rfl (by rw [hml]; rfl) (Steps.refl _) (argsL := []) (rest := []) (lenOf pd18 rfl) rfl (wq rfl) (D_ d31_1) (fun _ _ => ⟨rfl, e0, (nb rfl), (nb rfl)⟩)
  dsimp only [Pt.U, Pt.locs, Pt.cells, Pt.slots] at X101 l101 y101 z101 st101 hQ101
  subst l101 y101 z101
  obtain ⟨rfl, Nq101, eq101⟩ := hQ101
  have N101 := Fr.app N0 Nq101
  obtain ⟨T102, h102, k102, X102, e102, E102, A102, Ov102, st102⟩ := newR X101 hx hZ hown (w42 hw) (w43 hw) eq101 (g := (mkF m 10 #[.val (.ref ll), .val (.int ct), .val (.int le), .val (.int (0 : Int32)), .unset, .unset, .unset, .unset, .unset, .unset] [(.int (1 : Int32))])) rfl (D_ d31_10) rfl (by decide) (cap := 1) (by decide) (by decide) (by decide) (by decide)
  obtain ⟨b102, g102⟩ : ∃ z, z = h0.size := ⟨_, rfl⟩
  rw [← g102] at A102 st102
  have K102 := (Keep.refl h0 []).ext E102
  have G102 : Arv Z h102 b102 k102 (.object "java/math/BigDecimal") (1 : Int32) [.null] .null := (Arv.new A102 (by decide)).pad (pad_rep [] .null 1)
  have O104 : Old Z n0 h102 := (O0.keep K102 all0)
  have F105 : Sta Z h102 "java/math/BigDecimal" "ZERO" "Ljava/math/BigDecimal;" (.ref zr) := S_z0.ext O104.2
  obtain ⟨T103, X103, e103, st103⟩ := getS2 X102 hx hZ hown (host := "") (Or.inl (w44 hw)) Via.refl e102 F105 (g := (mkF m 18 #[.val (.ref ll), .val (.int ct), .val (.int le), .val (.int (0 : Int32)), .val (.ref b102), .unset, .unset, .unset, .unset, .unset] [(.int (0 : Int32)), (.ref b102)])) rfl (D_ d31_18)
  have B0106 : BD Z h102 zr (0 : Int64) := hz0.ext O104.2
  obtain ⟨cl107, Ar107, q107, S107, M107, H107, F107g⟩ := id G102
  have hin107 : ¬ ((0 : Int32) < 0 ∨ cl107.slots.size ≤ ((0 : Int32)).toNatClampNeg) := inb_of S107 ⟨by decide, by decide⟩
  obtain ⟨T107, h107, X107, e107, Wr107, st107⟩ := stR X103 hx hZ e103 Ar107 (j := (0 : Int32)) hin107 rfl (Sto.ofV Ar107 q107 Ov102 (Ins.self B0106.1)) (g := (mkF m 21 #[.val (.ref ll), .val (.int ct), .val (.int le), .val (.int (0 : Int32)), .val (.ref b102), .unset, .unset, .unset, .unset, .unset] [(.ref zr), (.int (0 : Int32)), (.ref b102)])) rfl rfl (D_ d31_21)
  have G107 : Arv Z h107 b102 k102 (.object "java/math/BigDecimal") (1 : Int32) [(.ref zr)] .null := Arv.set Ar107 q107 S107 M107 H107 F107g rfl Wr107 0 rfl (Nat.le_of_ble_eq_true rfl)
  have K107 := Keep.of_wr Wr107
  have N107 := Fr.snoc X107 N101 (Nat.le_trans Z0 (Nat.le_of_eq g102.symm))
  obtain ⟨T108, h108, k108, X108, e108, E108, A108, Ov108, st108⟩ := newR X107 hx hZ hown (w42 hw) (w43 hw) e107 (g := (mkF m 66 #[.val (.ref ll), .val (.int ct), .val (.int le), .val (.int (0 : Int32)), .val (.ref b102), .val (.int (0 : Int32)), .unset, .unset, .unset, .unset] [(.int (1 : Int32))])) rfl (D_ d31_66) rfl (by decide) (cap := 1) (by decide) (by decide) (by decide) (by decide)
  obtain ⟨b108, g108⟩ : ∃ z, z = h107.size := ⟨_, rfl⟩
  rw [← g108] at A108 st108
  have K108 := (Keep.refl h107 []).ext E108
  have G108 : Arv Z h108 b108 k108 (.object "java/math/BigDecimal") (1 : Int32) [.null] .null := (Arv.new A108 (by decide)).pad (pad_rep [] .null 1)
  have O110 : Old Z n0 h108 := ((O104.keep K107 (allS (Nat.le_trans Z0 (Nat.le_of_eq g102.symm)) all0)).keep K108 all0)
  have F111 : Sta Z h108 "java/math/BigDecimal" "ZERO" "Ljava/math/BigDecimal;" (.ref zr) := S_z0.ext O110.2
  obtain ⟨T109, X109, e109, st109⟩ := getS2 X108 hx hZ hown (host := "") (Or.inl (w44 hw)) Via.refl e108 F111 (g := (mkF m 73 #[.val (.ref ll), .val (.int ct), .val (.int le), .val (.int (0 : Int32)), .val (.ref b102), .val (.ref b108), .unset, .unset, .unset, .unset] [(.ref b108)])) rfl (D_ d31_73)
  have F112 : BD Z h108 zr (0 : Int64) := ((B0106.keep K107 (ninS (Exa.neArv (B0106.1.keep K107) G107 (w138 hw)) nin0)).keep K108 nin0)
  have z114 : n0 ≤ h108.size := (Nat.le_trans Z0 (Nat.le_trans (Nat.le_trans K102.1 K107.1) K108.1))
  obtain ⟨_, _, ⟨T113, L113, k113, n113⟩, -, X113, ⟨Lc113, hQ113, l113, y113, z113⟩, st113⟩ := Jvm.LawKit.callS X109 hx (y := yn30) hown (mvT hZ (w47 hw)) (mvT hZ (w48 hw)) (mvT hZ (w49 hw)) (mvT hZ (w50 hw)) (by decide) (backOf (W := 0) (rm_fill l Z a0 hw [] b108 zr k108 1 h108 n0 z114 (Arv.pad G108 (fun i => (pad_rep [] .null 1 i).symm)) Ov108 F112.1 (Nat.le_trans Z0 (Nat.le_trans (Nat.le_trans K102.1 K107.1) (Nat.le_of_eq g108.symm))) (nb rfl)) hZ (w50 hw) (w49 hw) (by decide) (by decide)) (g := (mkF m 76 #[.val (.ref ll), .val (.int ct), .val (.int le), .val (.int (0 : Int32)), .val (.ref b102), .val (.ref b108), .unset, .unset, .unset, .unset] [(.ref zr), (.ref b108)])) rfl (by rw [hml]; rfl) (argsL := [(.ref b108), (.ref zr)]) (rest := []) (lenOf pd19 rfl) rfl (wq rfl) (D_ d31_76) (fun _ _ => ⟨rfl, e109, (nb rfl), (nb rfl)⟩)
  dsimp only [Pt.U, Pt.locs, Pt.cells, Pt.slots] at X113 l113 y113 z113 st113 hQ113
  subst l113 y113 z113
  obtain ⟨rfl, Nq113, K113, P113_0⟩ := hQ113
  have N113 := Fr.app N107 Nq113
  have J115 : Arv Z T113.heap b108 k108 (.object "java/math/BigDecimal") (1 : Int32) [(.ref zr)] .null := P113_0
  have W116 : ∀ zQ, SS p e below T113 m 79 #[.val (.ref ll), .val (.int ct), .val (.int le), .val (.int (0 : Int32)), .val (.ref b102), .val (.ref b108), .unset, .unset, .unset, .unset] [] zQ → Steps p.tables e below (s₁.setTop (entryFrame m #[(.ref ll), (.int ct), (.int le)] 10)) zQ := by
    intro tt kt
    refine W0 tt ?_
    refine XS.aloadN X0.here hx rfl (D_ d31_0) rfl rfl ?_
    refine st101.trans ?_
    refine XS.istoreN X101.here hx rfl (D_ d31_6) rfl (l' := #[.val (.ref ll), .val (.int ct), .val (.int le), .val (.int (0 : Int32)), .unset, .unset, .unset, .unset, .unset, .unset]) rfl ?_
    refine XS.iloadN X101.here hx rfl (D_ d31_7) rfl ?_
    refine XS.iconst X101.here hx rfl (D_ d31_8) ?_
    refine XS.iadd X101.here hx rfl (D_ d31_9) rfl ?_
    refine st102 _ ?_
    refine XS.astore X102.here hx rfl (D_ d31_13) rfl rfl (l' := #[.val (.ref ll), .val (.int ct), .val (.int le), .val (.int (0 : Int32)), .val (.ref b102), .unset, .unset, .unset, .unset, .unset]) rfl ?_
    refine XS.aload X102.here hx rfl (D_ d31_15) rfl rfl ?_
    refine XS.iconst X102.here hx rfl (D_ d31_17) ?_
    refine st103 _ ?_
    refine st107 _ ?_
    refine XS.iconst X107.here hx rfl (D_ d31_22) ?_
    refine XS.istore X107.here hx rfl (D_ d31_23) rfl (l' := #[.val (.ref ll), .val (.int ct), .val (.int le), .val (.int (0 : Int32)), .val (.ref b102), .val (.int (0 : Int32)), .unset, .unset, .unset, .unset]) rfl ?_
    refine XS.iload X107.here hx rfl (D_ d31_25) rfl ?_
    refine XS.iloadN X107.here hx rfl (D_ d31_27) rfl ?_
    refine XS.icmpYes X107.here hx rfl (pc0 := 28) (pc' := 63) rfl (D_ d31_28) rfl (flt (by decide)).2.1 (by decide) (by decide) ?_
    refine XS.iloadN X107.here hx rfl (D_ d31_63) rfl ?_
    refine XS.iconst X107.here hx rfl (D_ d31_64) ?_
    refine XS.iadd X107.here hx rfl (D_ d31_65) rfl ?_
    refine st108 _ ?_
    refine XS.astore X108.here hx rfl (D_ d31_69) rfl rfl (l' := #[.val (.ref ll), .val (.int ct), .val (.int le), .val (.int (0 : Int32)), .val (.ref b102), .val (.ref b108), .unset, .unset, .unset, .unset]) rfl ?_
    refine XS.aload X108.here hx rfl (D_ d31_71) rfl rfl ?_
    refine st109 _ ?_
    refine st113 _ ?_
    exact kt
  have KA117 : Keep h0 T113.heap [] := (Keep.trans (Keep.trans (Keep.trans (Keep.trans (Keep.refl h0 []) K102 all0) K107 (allS (Or.inr (Nat.le_of_eq g102.symm)) all0)) K108 all0) K113 (allS (Or.inr (Nat.le_trans (Nat.le_trans K102.1 K107.1) (Nat.le_of_eq g108.symm))) all0))
  have hct := hcl
  obtain ⟨cl118, Ar118, q118, S118, M118, H118, F118g⟩ := id J115
  have hin118 : ¬ ((0 : Int32) < 0 ∨ cl118.slots.size ≤ ((0 : Int32)).toNatClampNeg) := inb_of S118 ⟨by decide, by decide⟩
  have hat118 : cl118.slots[((0 : Int32)).toNatClampNeg]? = some (.ref zr) := Has.at H118 hin118 rfl
  have W119 : ∀ zQ, SS p e below T113 m 187 #[.val (.ref ll), .val (.int (0 : Int32)), .val (.int le), .val (.int (0 : Int32)), .val (.ref b102), .val (.ref b108), .val (.int (1 : Int32)), .unset, .unset, .unset] [(.ref zr)] zQ → Steps p.tables e below (s₁.setTop (entryFrame m #[(.ref ll), (.int ct), (.int le)] 10)) zQ := by
    intro tt kt
    refine W116 tt ?_
    rw [show ct = (0 : Int32) from hct]
    refine XS.iconst X113.here hx rfl (D_ d31_79) ?_
    refine XS.istore X113.here hx rfl (D_ d31_80) rfl (l' := #[.val (.ref ll), .val (.int (0 : Int32)), .val (.int le), .val (.int (0 : Int32)), .val (.ref b102), .val (.ref b108), .val (.int (1 : Int32)), .unset, .unset, .unset]) rfl ?_
    refine XS.iload X113.here hx rfl (D_ d31_82) rfl ?_
    refine XS.iloadN X113.here hx rfl (D_ d31_84) rfl ?_
    refine XS.icmpYes X113.here hx rfl (pc0 := 85) (pc' := 183) rfl (D_ d31_85) rfl (tlt (by decide)).2.2.1 (by decide) (by decide) ?_
    refine XS.aload X113.here hx rfl (D_ d31_183) rfl rfl ?_
    refine XS.iloadN X113.here hx rfl (D_ d31_185) rfl ?_
    refine X113.aaload hx (j := (0 : Int32)) (v := (.ref zr)) (by first | exact Ar118.1 | (rw [rfl]; exact Ar118.1)) (State.isArrayOf_alike hZ.alike Ar118.2.1) rfl Ar118.2.2 hin118 hat118 (g := (mkF m 186 #[.val (.ref ll), .val (.int (0 : Int32)), .val (.int le), .val (.int (0 : Int32)), .val (.ref b102), .val (.ref b108), .val (.int (1 : Int32)), .unset, .unset, .unset] [(.int (0 : Int32)), (.ref b108)])) rfl rfl (D_ d31_186) _ ?_
    exact kt
  have ne120 : zr ≠ b108 := (Nat.ne_of_lt (Nat.lt_of_lt_of_le (Nat.lt_of_lt_of_le B0106.lt K107.1) (Nat.le_of_eq g108.symm)))
  have F121 : BD Z T113.heap zr (0 : Int64) := (F112.keep K113 (ninS ne120 nin0))
  obtain ⟨fs, hr, hrun, hended, hW, hsame⟩ := X113.leave (v := some (.ref zr)) (fun h => by rw [Bd.returns] at h; cases h)
  refine ⟨_, _, W119 _ (own_retR X113 hx Bd.returns rfl rfl (D_ d31_187) hr), hrun, hended, _, _, rfl, ?_, ⟨_, rfl⟩, hW, hsame.mono (by decide) (by decide)⟩
  show Q_tot0 Z ll ct le x0 x1 x2 x3 zt kz zl zr h0 n0 _ T113.heap _
  exact ⟨zr, (0 : Int64), rfl, N113, KA117, F121, (by rw [hct]; rw [dpl_0]; exact ⟨List.mem_singleton.mpr rfl, fun m hm => by rw [List.mem_singleton.mp hm]; exact Int.le_refl _⟩), (Bn.mono own_bd0 (by decide))⟩
theorem own_dp18 {A v0 v1 : Int} (e0 : v0 = 0 + A) (e1 : v1 = 0 + (v0 - 0)) : IsM v1 [A] := isM1 (by omega)
def Q_tot1 (Z : State) (ll : Addr) (ct : Int32) (le : Int32) (d : Addr) (kd : ClassId) (p1 : Addr) (x0 : Int64) (x1 : Int64) (x2 : Int64) (x3 : Int64) (zt : Addr) (kz : ClassId) (zl : List Addr) (zr : Addr) (h0 : Heap) (n0 : Nat) (vQ_ : Option Value) (hQ_ : Heap) (LQ_ : List Loc) : Prop := ∃ r : Addr, ∃ v : Int64, vQ_ = some (.ref r) ∧ Fr n0 LQ_ ∧ Keep h0 hQ_ [] ∧ BD Z hQ_ r v ∧ IsM v.toInt (dpl (1 : Int32) ct le x0.toInt x1.toInt x2.toInt x3.toInt) ∧ Bn 100 v
theorem rm_tot1 (l : Launch) (Z : State) (a0 : Array Value) (hw : HW a0 Z) (ws : List Jvm.Cond) (ll : Addr) (ct : Int32) (le : Int32) (d : Addr) (kd : ClassId) (p1 : Addr) (x0 : Int64) (x1 : Int64) (x2 : Int64) (x3 : Int64) (zt : Addr) (kz : ClassId) (zl : List Addr) (zr : Addr) (h0 : Heap) (n0 : Nat) (Z0 : n0 ≤ h0.size) (O0 : Old Z n0 h0) (S_zt : Sta Z Z.heap "java/math/BigDecimal" "ZERO_THROUGH_TEN" "[Ljava/math/BigDecimal;" (.ref zt)) (V_zt : Arv Z Z.heap zt kz (.object "java/math/BigDecimal") (11 : Int32) (zl.map Value.ref) .null) (hzl : zl.length = 11) (hz : ∀ i, i < 11 → BD Z Z.heap (zl.getD i 0) (Int64.ofNat i)) (S_z0 : Sta Z Z.heap "java/math/BigDecimal" "ZERO" "Ljava/math/BigDecimal;" (.ref zr)) (hz0 : BD Z Z.heap zr (0 : Int64)) (EL : Exa Z h0 ll "java/util/ArrayList") (FZ : Fld Z h0 ll "java/util/ArrayList" "size" "I" (.int (1 : Int32))) (FE : Fld Z h0 ll "java/util/ArrayList" "elementData" "[Ljava/lang/Object;" (.ref d)) (VD : Arv Z h0 d kd (.object "java/lang/Object") (10 : Int32) [(.ref p1), .null, .null, .null, .null, .null, .null, .null, .null, .null] .null) (hP1 : BD Z h0 p1 x0) (hb0 : Bn 1 x0) (hb1 : Bn 1 x1) (hb2 : Bn 1 x2) (hb3 : Bn 1 x3) (hcl : ct = (0 : Int32) ∨ (le = (1 : Int32) ∧ (ct = (1 : Int32)))) :
    CT l yn33 (Jvm.Cond.code yn33 prog_2_method_2_code 10 (some (.object "java/math/BigDecimal")) :: ws) (⟨8, 6, 24, 125⟩ : Room) #[(.ref ll), (.int ct), (.int le)] Z h0 (Q_tot1 Z ll ct le d kd p1 x0 x1 x2 x3 zt kz zl zr h0 n0) := by
  refine MetFree.of_bodySF (plainFor_of_name pn_com_example_vestline_vestline_finalaveragepay_BestPeriods) hisR ?_
  intro p e s m args below meth cO s₁ Bd hml hP hK
  obtain ⟨rfl, hZ, hh⟩ := hP
  have hx := Bd.exec
  have hby := Bd.bytes
  have hown : s.vm.findClass "com/example/vestline/vestline/finalaveragepay/BestPeriods" = some m.cls := findClass_of_methodNamed Bd.named
  have hnm := (name_of_methodNamed Bd.named Bd.method).1
  have X0 : Stand p l e (⟨8, 6, 24, 125⟩ : Room) s m #[(.ref ll), (.int ct), (.int le)] below meth cO s₁ [] 0 0 := Stand.of_body Bd
  have e0 : s₁.heap = h0 := by rw [← hh, Bd.state]; rfl
  have N0 := Fr.nil n0
  have D_ : ∀ {i : Nat} {x}, decode prog_2_method_2_code i = x → decode cO.code i = x := fun h => hb hby h
  have W0 : ∀ zQ, SS p e below s₁ m 0 #[.val (.ref ll), .val (.int ct), .val (.int le), .unset, .unset, .unset, .unset, .unset, .unset, .unset] [] zQ → Steps p.tables e below (s₁.setTop (entryFrame m #[(.ref ll), (.int ct), (.int le)] 10)) zQ := fun tt kt => castTop (ef_tot1 m ll ct le) kt
  obtain ⟨cq101, kq101, q101a, q101b, q101c⟩ := isOf hZ e0 EL
  obtain ⟨_, _, ⟨T101, L101, k101, n101⟩, -, X101, ⟨Lc101, hQ101, l101, y101, z101⟩, st101⟩ := X0.interfaceBack hx (xi := yn32) (y := yn25) hown (mvT hZ (w31 hw)) (mvT hZ (w32 hw)) (mvT hZ (w33 hw)) (mvT hZ (w34 hw)) (mvT hZ (w35 hw)) (mvT hZ (w36 hw)) (mvT hZ (w37 hw)) (mvT hZ (w38 hw)) (by decide) (backOf (W := 0) (rm_alsize l Z a0 hw [] ll (1 : Int32) h0 n0 Z0 FZ) hZ (w39 hw) (w3 hw) (by decide) (by decide)) q101a q101b q101c (g := (mkF m 1 #[.val (.ref ll), .val (.int ct), .val (.int le), .unset, .unset, .unset, .unset, .unset, .unset, .unset] [(.ref ll)])) rfl (by rw [hml]; rfl) (Steps.refl _) (argsL := []) (rest := []) (lenOf pd18 rfl) rfl (wq rfl) (D_ d31_1) (fun _ _ => ⟨rfl, e0, (nb rfl), (nb rfl)⟩)
  dsimp only [Pt.U, Pt.locs, Pt.cells, Pt.slots] at X101 l101 y101 z101 st101 hQ101
  subst l101 y101 z101
  obtain ⟨rfl, Nq101, eq101⟩ := hQ101
  have N101 := Fr.app N0 Nq101
  obtain ⟨T102, h102, k102, X102, e102, E102, A102, Ov102, st102⟩ := newR X101 hx hZ hown (w42 hw) (w43 hw) eq101 (g := (mkF m 10 #[.val (.ref ll), .val (.int ct), .val (.int le), .val (.int (1 : Int32)), .unset, .unset, .unset, .unset, .unset, .unset] [(.int (2 : Int32))])) rfl (D_ d31_10) rfl (by decide) (cap := 2) (by decide) (by decide) (by decide) (by decide)
  obtain ⟨b102, g102⟩ : ∃ z, z = h0.size := ⟨_, rfl⟩
  rw [← g102] at A102 st102
  have K102 := (Keep.refl h0 []).ext E102
  have G102 : Arv Z h102 b102 k102 (.object "java/math/BigDecimal") (2 : Int32) [.null, .null] .null := (Arv.new A102 (by decide)).pad (pad_rep [] .null 2)
  have O104 : Old Z n0 h102 := (O0.keep K102 all0)
  have F105 : Sta Z h102 "java/math/BigDecimal" "ZERO" "Ljava/math/BigDecimal;" (.ref zr) := S_z0.ext O104.2
  obtain ⟨T103, X103, e103, st103⟩ := getS2 X102 hx hZ hown (host := "") (Or.inl (w44 hw)) Via.refl e102 F105 (g := (mkF m 18 #[.val (.ref ll), .val (.int ct), .val (.int le), .val (.int (1 : Int32)), .val (.ref b102), .unset, .unset, .unset, .unset, .unset] [(.int (0 : Int32)), (.ref b102)])) rfl (D_ d31_18)
  have B0106 : BD Z h102 zr (0 : Int64) := hz0.ext O104.2
  obtain ⟨cl107, Ar107, q107, S107, M107, H107, F107g⟩ := id G102
  have hin107 : ¬ ((0 : Int32) < 0 ∨ cl107.slots.size ≤ ((0 : Int32)).toNatClampNeg) := inb_of S107 ⟨by decide, by decide⟩
  obtain ⟨T107, h107, X107, e107, Wr107, st107⟩ := stR X103 hx hZ e103 Ar107 (j := (0 : Int32)) hin107 rfl (Sto.ofV Ar107 q107 Ov102 (Ins.self B0106.1)) (g := (mkF m 21 #[.val (.ref ll), .val (.int ct), .val (.int le), .val (.int (1 : Int32)), .val (.ref b102), .unset, .unset, .unset, .unset, .unset] [(.ref zr), (.int (0 : Int32)), (.ref b102)])) rfl rfl (D_ d31_21)
  have G107 : Arv Z h107 b102 k102 (.object "java/math/BigDecimal") (2 : Int32) [(.ref zr), .null] .null := Arv.set Ar107 q107 S107 M107 H107 F107g rfl Wr107 0 rfl (Nat.le_of_ble_eq_true rfl)
  have K107 := Keep.of_wr Wr107
  have N107 := Fr.snoc X107 N101 (Nat.le_trans Z0 (Nat.le_of_eq g102.symm))
  have F108 : Fld Z h107 ll "java/util/ArrayList" "size" "I" (.int (1 : Int32)) := ((FZ.keep K102 nin0).keep K107 (ninS (Nat.ne_of_lt (Nat.lt_of_lt_of_le EL.lt (Nat.le_of_eq g102.symm))) nin0))
  have F109 : Arv Z h107 d kd (.object "java/lang/Object") (10 : Int32) [(.ref p1), .null, .null, .null, .null, .null, .null, .null, .null, .null] .null := ((VD.keep K102 nin0).keep K107 (ninS (Nat.ne_of_lt (Nat.lt_of_lt_of_le VD.lt (Nat.le_of_eq g102.symm))) nin0))
  have O111 : Old Z n0 h107 := (O104.keep K107 (allS (Nat.le_trans Z0 (Nat.le_of_eq g102.symm)) all0))
  have F112 : Exa Z h107 ll "java/util/ArrayList" := ((EL.keep K102).keep K107)
  have F113 : Fld Z h107 ll "java/util/ArrayList" "elementData" "[Ljava/lang/Object;" (.ref d) := ((FE.keep K102 nin0).keep K107 (ninS (Nat.ne_of_lt (Nat.lt_of_lt_of_le EL.lt (Nat.le_of_eq g102.symm))) nin0))
  have F114 : BD Z h107 zr (0 : Int64) := (B0106.keep K107 (ninS (Exa.neArv (B0106.1.keep K107) G107 (w138 hw)) nin0))
  have F115 : BD Z h107 p1 x0 := ((hP1.keep K102 nin0).keep K107 (ninS (Nat.ne_of_lt (Nat.lt_of_lt_of_le hP1.lt (Nat.le_of_eq g102.symm))) nin0))
  have z118 : n0 ≤ h107.size := (Nat.le_trans Z0 (Nat.le_trans K102.1 K107.1))
  obtain ⟨T110, L110, h110, X110, e110, r_116, v_117, Nl110, K110, P110_0, P110_1, P110_2, st110⟩ := rm_sg1 hx hZ hw hby hml hown (by decide) (by decide) (by decide) (by decide) ll ct le 1 b102 0 d kd [(.ref p1), .null, .null, .null, .null, .null, .null, .null, .null, .null] p1 k102 [(.ref zr), .null] zr (0 : Int64) x0 zt kz zl n0 S_zt V_zt hzl hz (nb rfl) (nb rfl) rfl rfl rfl (Bn.mono own_bd0 (by decide)) (Bn.mono hb0 (by decide)) (Nat.le_trans Z0 (Nat.le_of_eq g102.symm)) Ov102 T107 _ h107 X107 e107 N107 z118 O111 F112 F108 F113 F109 G107 F114 F115
  have hbd119 : Bn 1 v_117 := Bn.mono (Bn.add own_bd0 hb0 P110_2) (nb rfl)
  have J120 : Arv Z h110 b102 k102 (.object "java/math/BigDecimal") (2 : Int32) [(.ref zr), (.ref r_116)] .null := P110_0
  obtain ⟨T121, h121, k121, X121, e121, E121, A121, Ov121, st121⟩ := newR X110 hx hZ hown (w42 hw) (w43 hw) e110 (g := (mkF m 66 #[.val (.ref ll), .val (.int ct), .val (.int le), .val (.int (1 : Int32)), .val (.ref b102), .val (.int (1 : Int32)), .unset, .unset, .unset, .unset] [(.int (2 : Int32))])) rfl (D_ d31_66) rfl (by decide) (cap := 2) (by decide) (by decide) (by decide) (by decide)
  obtain ⟨b121, g121⟩ : ∃ z, z = h110.size := ⟨_, rfl⟩
  rw [← g121] at A121 st121
  have K121 := (Keep.refl h110 []).ext E121
  have G121 : Arv Z h121 b121 k121 (.object "java/math/BigDecimal") (2 : Int32) [.null, .null] .null := (Arv.new A121 (by decide)).pad (pad_rep [] .null 2)
  have O123 : Old Z n0 h121 := ((O111.keep K110 (allS (Nat.le_trans Z0 (Nat.le_of_eq g102.symm)) all0)).keep K121 all0)
  have F124 : Sta Z h121 "java/math/BigDecimal" "ZERO" "Ljava/math/BigDecimal;" (.ref zr) := S_z0.ext O123.2
  obtain ⟨T122, X122, e122, st122⟩ := getS2 X121 hx hZ hown (host := "") (Or.inl (w44 hw)) Via.refl e121 F124 (g := (mkF m 73 #[.val (.ref ll), .val (.int ct), .val (.int le), .val (.int (1 : Int32)), .val (.ref b102), .val (.ref b121), .unset, .unset, .unset, .unset] [(.ref b121)])) rfl (D_ d31_73)
  have F125 : BD Z h121 zr (0 : Int64) := ((F114.keep K110 (ninS (Exa.neArv (F114.1.keep K110) J120 (w138 hw)) nin0)).keep K121 nin0)
  have gn126 : n0 ≤ b121 := Nat.le_trans Z0 (Nat.le_trans (Nat.le_trans (Nat.le_trans K102.1 K107.1) K110.1) (Nat.le_of_eq g121.symm))
  have z128 : n0 ≤ h121.size := (Nat.le_trans z118 (Nat.le_trans K110.1 K121.1))
  obtain ⟨_, _, ⟨T127, L127, k127, n127⟩, -, X127, ⟨Lc127, hQ127, l127, y127, z127⟩, st127⟩ := Jvm.LawKit.callS X122 hx (y := yn30) hown (mvT hZ (w47 hw)) (mvT hZ (w48 hw)) (mvT hZ (w49 hw)) (mvT hZ (w50 hw)) (by decide) (backOf (W := 0) (rm_fill l Z a0 hw [] b121 zr k121 2 h121 n0 z128 (Arv.pad G121 (fun i => (pad_rep [] .null 2 i).symm)) Ov121 F125.1 gn126 (nb rfl)) hZ (w50 hw) (w49 hw) (by decide) (by decide)) (g := (mkF m 76 #[.val (.ref ll), .val (.int ct), .val (.int le), .val (.int (1 : Int32)), .val (.ref b102), .val (.ref b121), .unset, .unset, .unset, .unset] [(.ref zr), (.ref b121)])) rfl (by rw [hml]; rfl) (argsL := [(.ref b121), (.ref zr)]) (rest := []) (lenOf pd19 rfl) rfl (wq rfl) (D_ d31_76) (fun _ _ => ⟨rfl, e122, (nb rfl), (nb rfl)⟩)
  dsimp only [Pt.U, Pt.locs, Pt.cells, Pt.slots] at X127 l127 y127 z127 st127 hQ127
  subst l127 y127 z127
  obtain ⟨rfl, Nq127, K127, P127_0⟩ := hQ127
  have N127 := Fr.app Nl110 Nq127
  have J129 : Arv Z T127.heap b121 k121 (.object "java/math/BigDecimal") (2 : Int32) [(.ref zr), (.ref zr)] .null := P127_0
  have W130 : ∀ zQ, SS p e below T127 m 79 #[.val (.ref ll), .val (.int ct), .val (.int le), .val (.int (1 : Int32)), .val (.ref b102), .val (.ref b121), .unset, .unset, .unset, .unset] [] zQ → Steps p.tables e below (s₁.setTop (entryFrame m #[(.ref ll), (.int ct), (.int le)] 10)) zQ := by
    intro tt kt
    refine W0 tt ?_
    refine XS.aloadN X0.here hx rfl (D_ d31_0) rfl rfl ?_
    refine st101.trans ?_
    refine XS.istoreN X101.here hx rfl (D_ d31_6) rfl (l' := #[.val (.ref ll), .val (.int ct), .val (.int le), .val (.int (1 : Int32)), .unset, .unset, .unset, .unset, .unset, .unset]) rfl ?_
    refine XS.iloadN X101.here hx rfl (D_ d31_7) rfl ?_
    refine XS.iconst X101.here hx rfl (D_ d31_8) ?_
    refine XS.iadd X101.here hx rfl (D_ d31_9) rfl ?_
    refine st102 _ ?_
    refine XS.astore X102.here hx rfl (D_ d31_13) rfl rfl (l' := #[.val (.ref ll), .val (.int ct), .val (.int le), .val (.int (1 : Int32)), .val (.ref b102), .unset, .unset, .unset, .unset, .unset]) rfl ?_
    refine XS.aload X102.here hx rfl (D_ d31_15) rfl rfl ?_
    refine XS.iconst X102.here hx rfl (D_ d31_17) ?_
    refine st103 _ ?_
    refine st107 _ ?_
    refine XS.iconst X107.here hx rfl (D_ d31_22) ?_
    refine XS.istore X107.here hx rfl (D_ d31_23) rfl (l' := #[.val (.ref ll), .val (.int ct), .val (.int le), .val (.int (1 : Int32)), .val (.ref b102), .val (.int (0 : Int32)), .unset, .unset, .unset, .unset]) rfl ?_
    refine st110 _ ?_
    show SS p e below T110 m 25 #[.val (.ref ll), .val (.int ct), .val (.int le), .val (.int (Int32.ofNat 1)), .val (.ref b102), .val (.int (Int32.ofNat (0 + 1))), .unset, .unset, .unset, .unset] [] _
    refine XS.iload X110.here hx rfl (D_ d31_25) rfl ?_
    refine XS.iloadN X110.here hx rfl (D_ d31_27) rfl ?_
    refine XS.icmpYes X110.here hx rfl (pc0 := 28) (pc' := 63) rfl (D_ d31_28) rfl (flt (by decide)).2.1 (by decide) (by decide) ?_
    refine XS.iloadN X110.here hx rfl (D_ d31_63) rfl ?_
    refine XS.iconst X110.here hx rfl (D_ d31_64) ?_
    refine XS.iadd X110.here hx rfl (D_ d31_65) rfl ?_
    refine st121 _ ?_
    refine XS.astore X121.here hx rfl (D_ d31_69) rfl rfl (l' := #[.val (.ref ll), .val (.int ct), .val (.int le), .val (.int (1 : Int32)), .val (.ref b102), .val (.ref b121), .unset, .unset, .unset, .unset]) rfl ?_
    refine XS.aload X121.here hx rfl (D_ d31_71) rfl rfl ?_
    refine st122 _ ?_
    refine st127 _ ?_
    exact kt
  have KA131 : Keep h0 T127.heap [] := (Keep.trans (Keep.trans (Keep.trans (Keep.trans (Keep.trans (Keep.refl h0 []) K102 all0) K107 (allS (Or.inr (Nat.le_of_eq g102.symm)) all0)) K110 (allS (Or.inr (Nat.le_of_eq g102.symm)) all0)) K121 all0) K127 (allS (Or.inr (Nat.le_trans (Nat.le_trans (Nat.le_trans K102.1 K107.1) K110.1) (Nat.le_of_eq g121.symm))) all0))
  rcases hcl with hct | ⟨hle, hc⟩
  ·
    obtain ⟨cl132, Ar132, q132, S132, M132, H132, F132g⟩ := id J129
    have hin132 : ¬ ((1 : Int32) < 0 ∨ cl132.slots.size ≤ ((1 : Int32)).toNatClampNeg) := inb_of S132 ⟨by decide, by decide⟩
    have hat132 : cl132.slots[((1 : Int32)).toNatClampNeg]? = some (.ref zr) := Has.at H132 hin132 rfl
    have W133 : ∀ zQ, SS p e below T127 m 187 #[.val (.ref ll), .val (.int (0 : Int32)), .val (.int le), .val (.int (1 : Int32)), .val (.ref b102), .val (.ref b121), .val (.int (1 : Int32)), .unset, .unset, .unset] [(.ref zr)] zQ → Steps p.tables e below (s₁.setTop (entryFrame m #[(.ref ll), (.int ct), (.int le)] 10)) zQ := by
      intro tt kt
      refine W130 tt ?_
      rw [show ct = (0 : Int32) from hct]
      refine XS.iconst X127.here hx rfl (D_ d31_79) ?_
      refine XS.istore X127.here hx rfl (D_ d31_80) rfl (l' := #[.val (.ref ll), .val (.int (0 : Int32)), .val (.int le), .val (.int (1 : Int32)), .val (.ref b102), .val (.ref b121), .val (.int (1 : Int32)), .unset, .unset, .unset]) rfl ?_
      refine XS.iload X127.here hx rfl (D_ d31_82) rfl ?_
      refine XS.iloadN X127.here hx rfl (D_ d31_84) rfl ?_
      refine XS.icmpYes X127.here hx rfl (pc0 := 85) (pc' := 183) rfl (D_ d31_85) rfl (tlt (by decide)).2.2.1 (by decide) (by decide) ?_
      refine XS.aload X127.here hx rfl (D_ d31_183) rfl rfl ?_
      refine XS.iloadN X127.here hx rfl (D_ d31_185) rfl ?_
      refine X127.aaload hx (j := (1 : Int32)) (v := (.ref zr)) (by first | exact Ar132.1 | (rw [rfl]; exact Ar132.1)) (State.isArrayOf_alike hZ.alike Ar132.2.1) rfl Ar132.2.2 hin132 hat132 (g := (mkF m 186 #[.val (.ref ll), .val (.int (0 : Int32)), .val (.int le), .val (.int (1 : Int32)), .val (.ref b102), .val (.ref b121), .val (.int (1 : Int32)), .unset, .unset, .unset] [(.int (1 : Int32)), (.ref b121)])) rfl rfl (D_ d31_186) _ ?_
      exact kt
    have ne134 : zr ≠ b121 := (Nat.ne_of_lt (Nat.lt_of_lt_of_le (Nat.lt_of_lt_of_le B0106.lt (Nat.le_trans K107.1 K110.1)) (Nat.le_of_eq g121.symm)))
    have F135 : BD Z T127.heap zr (0 : Int64) := (F125.keep K127 (ninS ne134 nin0))
    obtain ⟨fs, hr, hrun, hended, hW, hsame⟩ := X127.leave (v := some (.ref zr)) (fun h => by rw [Bd.returns] at h; cases h)
    refine ⟨_, _, W133 _ (own_retR X127 hx Bd.returns rfl rfl (D_ d31_187) hr), hrun, hended, _, _, rfl, ?_, ⟨_, rfl⟩, hW, hsame.mono (by decide) (by decide)⟩
    show Q_tot1 Z ll ct le d kd p1 x0 x1 x2 x3 zt kz zl zr h0 n0 _ T127.heap _
    exact ⟨zr, (0 : Int64), rfl, N127, KA131, F135, (by rw [hct]; rw [dpl_0]; exact ⟨List.mem_singleton.mpr rfl, fun m hm => by rw [List.mem_singleton.mp hm]; exact Int.le_refl _⟩), (Bn.mono own_bd0 (by decide))⟩
  ·
    obtain ⟨T136, L136, h136, X136, e136, ma_137, km_138, Nl136, K136, P136_0, P136_1, P136_2, st136⟩ := rm_sg0 hx hZ hw hby hml hown (by decide) (by decide) (by decide) (by decide) ll ct 1 1 b102 b121 1 (.unset) (.unset) (.unset) n0 (by rw [hc]; decide) (nb rfl) (nb rfl) One.u One.u T127 _ T127.heap X127 rfl N127 (Nat.le_trans z128 K127.1) 
    have J139 : Arv Z h136 ma_137 km_138 (.object "java/math/BigDecimal") (2 : Int32) [.null, .null] .null := Arv.pad P136_1 (pad_rep [] .null 2)
    have ne140 : b102 ≠ b121 := (Nat.ne_of_lt (Nat.lt_of_lt_of_le (Nat.lt_of_lt_of_le G102.lt (Nat.le_trans K107.1 K110.1)) (Nat.le_of_eq g121.symm)))
    have F141 : Arv Z h136 b102 k102 (.object "java/math/BigDecimal") (2 : Int32) [(.ref zr), (.ref r_116)] .null := (((J120.keep K121 nin0).keep K127 (ninS ne140 nin0)).keep K136 nin0)
    have F142 : Arv Z h136 b121 k121 (.object "java/math/BigDecimal") (2 : Int32) [(.ref zr), (.ref zr)] .null := (J129.keep K136 nin0)
    have gn144 : n0 ≤ ma_137 := Nat.le_trans Z0 (Nat.le_trans (Nat.le_trans (Nat.le_trans (Nat.le_trans (Nat.le_trans K102.1 K107.1) K110.1) K121.1) K127.1) P136_0)
    have ne145 : ma_137 ≠ b121 := (Ne.symm (Nat.ne_of_lt (Nat.lt_of_lt_of_le (Nat.lt_of_lt_of_le G121.lt K127.1) P136_0)))
    have ne146 : ma_137 ≠ b102 := (Ne.symm (Nat.ne_of_lt (Nat.lt_of_lt_of_le (Nat.lt_of_lt_of_le G102.lt (Nat.le_trans (Nat.le_trans (Nat.le_trans K107.1 K110.1) K121.1) K127.1)) P136_0)))
    have O147 : Old Z n0 h136 := ((O123.keep K127 (allS gn126 all0)).keep K136 all0)
    have F148 : BD Z h136 r_116 v_117 := (((P110_1.keep K121 nin0).keep K127 (ninS (Nat.ne_of_lt (Nat.lt_of_lt_of_le P110_1.lt (Nat.le_of_eq g121.symm))) nin0)).keep K136 nin0)
    have ne149 : zr ≠ b121 := (Nat.ne_of_lt (Nat.lt_of_lt_of_le (Nat.lt_of_lt_of_le B0106.lt (Nat.le_trans K107.1 K110.1)) (Nat.le_of_eq g121.symm)))
    have F150 : BD Z h136 zr (0 : Int64) := ((F125.keep K127 (ninS ne149 nin0)).keep K136 nin0)
    have z154 : n0 ≤ h136.size := (Nat.le_trans z128 (Nat.le_trans K127.1 K136.1))
    obtain ⟨T143, L143, h143, X143, e143, r_151, v_152, s8_153, Nl143, K143, P143_0, P143_1, P143_2, P143_3, st143⟩ := rm_sg2A hx hZ hw hby hml hown (by decide) (by decide) (by decide) (by decide) ll ct 1 1 b102 b121 (1 : Int32) ma_137 1 (.unset) k102 k121 km_138 [(.ref zr), (.ref r_116)] [(.ref zr), (.ref zr)] [.null, .null] r_116 zr zr v_117 (0 : Int64) (0 : Int64) zt kz zl n0 S_zt V_zt hzl hz (nb rfl) (nb rfl) (nb rfl) (nb rfl) rfl rfl rfl rfl rfl (Bn.mono hbd119 (by decide)) (Bn.mono own_bd0 (by decide)) (Bn.mono own_bd0 (by decide)) gn144 P136_2 One.u ne145 ne146 T136 _ h136 X136 e136 Nl136 z154 O147 F141 F142 J139 F148 F150 F150
    have hbd155 : Bn 1 v_152 := own_bA own_bd0 hbd119 own_bd0 P143_2 (Nat.le_of_ble_eq_true rfl)
    have J156 : Arv Z h143 ma_137 km_138 (.object "java/math/BigDecimal") (2 : Int32) [.null, (.ref r_151)] .null := P143_0
    have KA157 : Keep h0 h143 [] := (Keep.trans (Keep.trans KA131 K136 all0) K143 (allS (Or.inr (Nat.le_trans (Nat.le_trans (Nat.le_trans (Nat.le_trans (Nat.le_trans K102.1 K107.1) K110.1) K121.1) K127.1) P136_0)) all0))
    have hct := hc
    obtain ⟨cl158, Ar158, q158, S158, M158, H158, F158g⟩ := id J156
    have hin158 : ¬ ((1 : Int32) < 0 ∨ cl158.slots.size ≤ ((1 : Int32)).toNatClampNeg) := inb_of S158 ⟨by decide, by decide⟩
    have hat158 : cl158.slots[((1 : Int32)).toNatClampNeg]? = some (.ref r_151) := Has.at H158 hin158 rfl
    have W159 : ∀ zQ, SS p e below T143 m 187 #[.val (.ref ll), .val (.int (1 : Int32)), .val (.int (1 : Int32)), .val (.int (1 : Int32)), .val (.ref b102), .val (.ref ma_137), .val (.int (2 : Int32)), .val (.ref ma_137), .val (.int (2 : Int32)), s8_153] [(.ref r_151)] zQ → Steps p.tables e below (s₁.setTop (entryFrame m #[(.ref ll), (.int ct), (.int le)] 10)) zQ := by
      intro tt kt
      refine W130 tt ?_
      rw [show le = (1 : Int32) from hle]
      refine XS.iconst X127.here hx rfl (D_ d31_79) ?_
      refine XS.istore X127.here hx rfl (D_ d31_80) rfl (l' := #[.val (.ref ll), .val (.int ct), .val (.int (1 : Int32)), .val (.int (1 : Int32)), .val (.ref b102), .val (.ref b121), .val (.int (1 : Int32)), .unset, .unset, .unset]) rfl ?_
      refine st136 _ ?_
      show SS p e below T136 m 102 #[.val (.ref ll), .val (.int ct), .val (.int (Int32.ofNat 1)), .val (.int (Int32.ofNat 1)), .val (.ref b102), .val (.ref b121), .val (.int (Int32.ofNat 1)), .val (.ref ma_137), .val (.int (Int32.ofNat (1 * 1))), (.unset)] [] _
      refine st143 _ ?_
      show SS p e below T143 m 102 #[.val (.ref ll), .val (.int ct), .val (.int (Int32.ofNat 1)), .val (.int (Int32.ofNat 1)), .val (.ref b102), .val (.ref b121), .val (.int (1 : Int32)), .val (.ref ma_137), .val (.int (Int32.ofNat (1 + 1))), s8_153] [] _
      refine XS.iload X143.here hx rfl (D_ d31_102) rfl ?_
      refine XS.iloadN X143.here hx rfl (D_ d31_104) rfl ?_
      refine XS.icmpYes X143.here hx rfl (pc0 := 105) (pc' := 173) rfl (D_ d31_105) rfl (tlt (by decide)).2.2.1 (by decide) (by decide) ?_
      refine XS.aload X143.here hx rfl (D_ d31_173) rfl rfl ?_
      refine XS.astore X143.here hx rfl (D_ d31_175) rfl rfl (l' := #[.val (.ref ll), .val (.int ct), .val (.int (1 : Int32)), .val (.int (1 : Int32)), .val (.ref b102), .val (.ref ma_137), .val (.int (1 : Int32)), .val (.ref ma_137), .val (.int (2 : Int32)), s8_153]) rfl ?_
      refine XS.iinc X143.here hx rfl (D_ d31_177) rfl (l' := #[.val (.ref ll), .val (.int ct), .val (.int (1 : Int32)), .val (.int (1 : Int32)), .val (.ref b102), .val (.ref ma_137), .val (.int (2 : Int32)), .val (.ref ma_137), .val (.int (2 : Int32)), s8_153]) rfl ?_
      refine XS.goto X143.here hx rfl (pc0 := 180) (pc' := 82) rfl (D_ d31_180) (by decide) (by decide) ?_
      show SS p e below T143 m 82 #[.val (.ref ll), .val (.int ct), .val (.int (1 : Int32)), .val (.int (1 : Int32)), .val (.ref b102), .val (.ref ma_137), .val (.int (2 : Int32)), .val (.ref ma_137), .val (.int (2 : Int32)), s8_153] [] _
      rw [show ct = (1 : Int32) from hct]
      refine XS.iload X143.here hx rfl (D_ d31_82) rfl ?_
      refine XS.iloadN X143.here hx rfl (D_ d31_84) rfl ?_
      refine XS.icmpYes X143.here hx rfl (pc0 := 85) (pc' := 183) rfl (D_ d31_85) rfl (tlt (by decide)).2.2.1 (by decide) (by decide) ?_
      refine XS.aload X143.here hx rfl (D_ d31_183) rfl rfl ?_
      refine XS.iloadN X143.here hx rfl (D_ d31_185) rfl ?_
      refine X143.aaload hx (j := (1 : Int32)) (v := (.ref r_151)) (by first | exact Ar158.1 | (rw [e143]; exact Ar158.1)) (State.isArrayOf_alike hZ.alike Ar158.2.1) rfl Ar158.2.2 hin158 hat158 (g := (mkF m 186 #[.val (.ref ll), .val (.int (1 : Int32)), .val (.int (1 : Int32)), .val (.int (1 : Int32)), .val (.ref b102), .val (.ref ma_137), .val (.int (2 : Int32)), .val (.ref ma_137), .val (.int (2 : Int32)), s8_153] [(.int (1 : Int32)), (.ref ma_137)])) rfl rfl (D_ d31_186) _ ?_
      exact kt
    obtain ⟨fs, hr, hrun, hended, hW, hsame⟩ := X143.leave (v := some (.ref r_151)) (fun h => by rw [Bd.returns] at h; cases h)
    refine ⟨_, _, W159 _ (own_retR X143 hx Bd.returns rfl rfl (D_ d31_187) hr), hrun, hended, _, _, rfl, ?_, ⟨_, rfl⟩, hW, hsame.mono (by decide) (by decide)⟩
    show Q_tot1 Z ll ct le d kd p1 x0 x1 x2 x3 zt kz zl zr h0 n0 _ T143.heap _
    rw [e143]
    exact ⟨r_151, v_152, rfl, Nl143, KA157, P143_1, (by rw [hct, hle]; rw [dpl1_11]; exact (own_dp18 P110_2 P143_2)), (Bn.mono hbd155 (by decide))⟩
theorem own_dp19 {A B v0 v1 v2 v3 : Int} (e0 : v0 = 0 + A) (e1 : v1 = v0 + B) (e2 : v2 = 0 + (v0 - 0)) (d3 : v3 = v2 ∨ v3 = 0 + (v1 - v0)) (l3 : v2 ≤ v3) (r3 : 0 + (v1 - v0) ≤ v3) : IsM v3 [A, B] := isM2 (by rcases d3 with d | d <;> first | (left; omega) | (right; omega)) (by omega) (by omega)
theorem own_dp20 {A B v0 v1 v2 v3 : Int} (e0 : v0 = 0 + A) (e1 : v1 = v0 + B) (e2 : v2 = 0 + (v0 - 0)) (e3 : v3 = v2 + (v1 - v0)) : IsM v3 [A + B] := isM1 (by omega)
theorem own_dp21 {A B v0 v1 v2 : Int} (e0 : v0 = 0 + A) (e1 : v1 = v0 + B) (e2 : v2 = 0 + (v1 - 0)) : IsM v2 [A + B] := isM1 (by omega)
def Q_tot2 (Z : State) (ll : Addr) (ct : Int32) (le : Int32) (d : Addr) (kd : ClassId) (p1 : Addr) (p2 : Addr) (x0 : Int64) (x1 : Int64) (x2 : Int64) (x3 : Int64) (zt : Addr) (kz : ClassId) (zl : List Addr) (zr : Addr) (h0 : Heap) (n0 : Nat) (vQ_ : Option Value) (hQ_ : Heap) (LQ_ : List Loc) : Prop := ∃ r : Addr, ∃ v : Int64, vQ_ = some (.ref r) ∧ Fr n0 LQ_ ∧ Keep h0 hQ_ [] ∧ BD Z hQ_ r v ∧ IsM v.toInt (dpl (2 : Int32) ct le x0.toInt x1.toInt x2.toInt x3.toInt) ∧ Bn 100 v
theorem rm_tot2 (l : Launch) (Z : State) (a0 : Array Value) (hw : HW a0 Z) (ws : List Jvm.Cond) (ll : Addr) (ct : Int32) (le : Int32) (d : Addr) (kd : ClassId) (p1 : Addr) (p2 : Addr) (x0 : Int64) (x1 : Int64) (x2 : Int64) (x3 : Int64) (zt : Addr) (kz : ClassId) (zl : List Addr) (zr : Addr) (h0 : Heap) (n0 : Nat) (Z0 : n0 ≤ h0.size) (O0 : Old Z n0 h0) (S_zt : Sta Z Z.heap "java/math/BigDecimal" "ZERO_THROUGH_TEN" "[Ljava/math/BigDecimal;" (.ref zt)) (V_zt : Arv Z Z.heap zt kz (.object "java/math/BigDecimal") (11 : Int32) (zl.map Value.ref) .null) (hzl : zl.length = 11) (hz : ∀ i, i < 11 → BD Z Z.heap (zl.getD i 0) (Int64.ofNat i)) (S_z0 : Sta Z Z.heap "java/math/BigDecimal" "ZERO" "Ljava/math/BigDecimal;" (.ref zr)) (hz0 : BD Z Z.heap zr (0 : Int64)) (EL : Exa Z h0 ll "java/util/ArrayList") (FZ : Fld Z h0 ll "java/util/ArrayList" "size" "I" (.int (2 : Int32))) (FE : Fld Z h0 ll "java/util/ArrayList" "elementData" "[Ljava/lang/Object;" (.ref d)) (VD : Arv Z h0 d kd (.object "java/lang/Object") (10 : Int32) [(.ref p1), (.ref p2), .null, .null, .null, .null, .null, .null, .null, .null] .null) (hP1 : BD Z h0 p1 x0) (hP2 : BD Z h0 p2 x1) (hb0 : Bn 1 x0) (hb1 : Bn 1 x1) (hb2 : Bn 1 x2) (hb3 : Bn 1 x3) (hcl : ct = (0 : Int32) ∨ (le = (1 : Int32) ∧ (ct = (1 : Int32) ∨ ct = (2 : Int32))) ∨ (le = (2 : Int32) ∧ (ct = (1 : Int32)))) :
    CT l yn33 (Jvm.Cond.code yn33 prog_2_method_2_code 10 (some (.object "java/math/BigDecimal")) :: ws) (⟨8, 12, 56, 125⟩ : Room) #[(.ref ll), (.int ct), (.int le)] Z h0 (Q_tot2 Z ll ct le d kd p1 p2 x0 x1 x2 x3 zt kz zl zr h0 n0) := by
  refine MetFree.of_bodySF (plainFor_of_name pn_com_example_vestline_vestline_finalaveragepay_BestPeriods) hisR ?_
  intro p e s m args below meth cO s₁ Bd hml hP hK
  obtain ⟨rfl, hZ, hh⟩ := hP
  have hx := Bd.exec
  have hby := Bd.bytes
  have hown : s.vm.findClass "com/example/vestline/vestline/finalaveragepay/BestPeriods" = some m.cls := findClass_of_methodNamed Bd.named
  have hnm := (name_of_methodNamed Bd.named Bd.method).1
  have X0 : Stand p l e (⟨8, 12, 56, 125⟩ : Room) s m #[(.ref ll), (.int ct), (.int le)] below meth cO s₁ [] 0 0 := Stand.of_body Bd
  have e0 : s₁.heap = h0 := by rw [← hh, Bd.state]; rfl
  have N0 := Fr.nil n0
  have D_ : ∀ {i : Nat} {x}, decode prog_2_method_2_code i = x → decode cO.code i = x := fun h => hb hby h
  have W0 : ∀ zQ, SS p e below s₁ m 0 #[.val (.ref ll), .val (.int ct), .val (.int le), .unset, .unset, .unset, .unset, .unset, .unset, .unset] [] zQ → Steps p.tables e below (s₁.setTop (entryFrame m #[(.ref ll), (.int ct), (.int le)] 10)) zQ := fun tt kt => castTop (ef_tot2 m ll ct le) kt
  obtain ⟨cq101, kq101, q101a, q101b, q101c⟩ := isOf hZ e0 EL
  obtain ⟨_, _, ⟨T101, L101, k101, n101⟩, -, X101, ⟨Lc101, hQ101, l101, y101, z101⟩, st101⟩ := X0.interfaceBack hx (xi := yn32) (y := yn25) hown (mvT hZ (w31 hw)) (mvT hZ (w32 hw)) (mvT hZ (w33 hw)) (mvT hZ (w34 hw)) (mvT hZ (w35 hw)) (mvT hZ (w36 hw)) (mvT hZ (w37 hw)) (mvT hZ (w38 hw)) (by decide) (backOf (W := 0) (rm_alsize l Z a0 hw [] ll (2 : Int32) h0 n0 Z0 FZ) hZ (w39 hw) (w3 hw) (by decide) (by decide)) q101a q101b q101c (g := (mkF m 1 #[.val (.ref ll), .val (.int ct), .val (.int le), .unset, .unset, .unset, .unset, .unset, .unset, .unset] [(.ref ll)])) rfl (by rw [hml]; rfl) (Steps.refl _) (argsL := []) (rest := []) (lenOf pd18 rfl) rfl (wq rfl) (D_ d31_1) (fun _ _ => ⟨rfl, e0, (nb rfl), (nb rfl)⟩)
  dsimp only [Pt.U, Pt.locs, Pt.cells, Pt.slots] at X101 l101 y101 z101 st101 hQ101
  subst l101 y101 z101
  obtain ⟨rfl, Nq101, eq101⟩ := hQ101
  have N101 := Fr.app N0 Nq101
  obtain ⟨T102, h102, k102, X102, e102, E102, A102, Ov102, st102⟩ := newR X101 hx hZ hown (w42 hw) (w43 hw) eq101 (g := (mkF m 10 #[.val (.ref ll), .val (.int ct), .val (.int le), .val (.int (2 : Int32)), .unset, .unset, .unset, .unset, .unset, .unset] [(.int (3 : Int32))])) rfl (D_ d31_10) rfl (by decide) (cap := 3) (by decide) (by decide) (by decide) (by decide)
  obtain ⟨b102, g102⟩ : ∃ z, z = h0.size := ⟨_, rfl⟩
  rw [← g102] at A102 st102
  have K102 := (Keep.refl h0 []).ext E102
  have G102 : Arv Z h102 b102 k102 (.object "java/math/BigDecimal") (3 : Int32) [.null, .null, .null] .null := (Arv.new A102 (by decide)).pad (pad_rep [] .null 3)
  have O104 : Old Z n0 h102 := (O0.keep K102 all0)
  have F105 : Sta Z h102 "java/math/BigDecimal" "ZERO" "Ljava/math/BigDecimal;" (.ref zr) := S_z0.ext O104.2
  obtain ⟨T103, X103, e103, st103⟩ := getS2 X102 hx hZ hown (host := "") (Or.inl (w44 hw)) Via.refl e102 F105 (g := (mkF m 18 #[.val (.ref ll), .val (.int ct), .val (.int le), .val (.int (2 : Int32)), .val (.ref b102), .unset, .unset, .unset, .unset, .unset] [(.int (0 : Int32)), (.ref b102)])) rfl (D_ d31_18)
  have B0106 : BD Z h102 zr (0 : Int64) := hz0.ext O104.2
  obtain ⟨cl107, Ar107, q107, S107, M107, H107, F107g⟩ := id G102
  have hin107 : ¬ ((0 : Int32) < 0 ∨ cl107.slots.size ≤ ((0 : Int32)).toNatClampNeg) := inb_of S107 ⟨by decide, by decide⟩
  obtain ⟨T107, h107, X107, e107, Wr107, st107⟩ := stR X103 hx hZ e103 Ar107 (j := (0 : Int32)) hin107 rfl (Sto.ofV Ar107 q107 Ov102 (Ins.self B0106.1)) (g := (mkF m 21 #[.val (.ref ll), .val (.int ct), .val (.int le), .val (.int (2 : Int32)), .val (.ref b102), .unset, .unset, .unset, .unset, .unset] [(.ref zr), (.int (0 : Int32)), (.ref b102)])) rfl rfl (D_ d31_21)
  have G107 : Arv Z h107 b102 k102 (.object "java/math/BigDecimal") (3 : Int32) [(.ref zr), .null, .null] .null := Arv.set Ar107 q107 S107 M107 H107 F107g rfl Wr107 0 rfl (Nat.le_of_ble_eq_true rfl)
  have K107 := Keep.of_wr Wr107
  have N107 := Fr.snoc X107 N101 (Nat.le_trans Z0 (Nat.le_of_eq g102.symm))
  have F108 : Fld Z h107 ll "java/util/ArrayList" "size" "I" (.int (2 : Int32)) := ((FZ.keep K102 nin0).keep K107 (ninS (Nat.ne_of_lt (Nat.lt_of_lt_of_le EL.lt (Nat.le_of_eq g102.symm))) nin0))
  have F109 : Arv Z h107 d kd (.object "java/lang/Object") (10 : Int32) [(.ref p1), (.ref p2), .null, .null, .null, .null, .null, .null, .null, .null] .null := ((VD.keep K102 nin0).keep K107 (ninS (Nat.ne_of_lt (Nat.lt_of_lt_of_le VD.lt (Nat.le_of_eq g102.symm))) nin0))
  have O111 : Old Z n0 h107 := (O104.keep K107 (allS (Nat.le_trans Z0 (Nat.le_of_eq g102.symm)) all0))
  have F112 : Exa Z h107 ll "java/util/ArrayList" := ((EL.keep K102).keep K107)
  have F113 : Fld Z h107 ll "java/util/ArrayList" "elementData" "[Ljava/lang/Object;" (.ref d) := ((FE.keep K102 nin0).keep K107 (ninS (Nat.ne_of_lt (Nat.lt_of_lt_of_le EL.lt (Nat.le_of_eq g102.symm))) nin0))
  have F114 : BD Z h107 zr (0 : Int64) := (B0106.keep K107 (ninS (Exa.neArv (B0106.1.keep K107) G107 (w138 hw)) nin0))
  have F115 : BD Z h107 p1 x0 := ((hP1.keep K102 nin0).keep K107 (ninS (Nat.ne_of_lt (Nat.lt_of_lt_of_le hP1.lt (Nat.le_of_eq g102.symm))) nin0))
  have z118 : n0 ≤ h107.size := (Nat.le_trans Z0 (Nat.le_trans K102.1 K107.1))
  obtain ⟨T110, L110, h110, X110, e110, r_116, v_117, Nl110, K110, P110_0, P110_1, P110_2, st110⟩ := rm_sg1 hx hZ hw hby hml hown (by decide) (by decide) (by decide) (by decide) ll ct le 2 b102 0 d kd [(.ref p1), (.ref p2), .null, .null, .null, .null, .null, .null, .null, .null] p1 k102 [(.ref zr), .null, .null] zr (0 : Int64) x0 zt kz zl n0 S_zt V_zt hzl hz (nb rfl) (nb rfl) rfl rfl rfl (Bn.mono own_bd0 (by decide)) (Bn.mono hb0 (by decide)) (Nat.le_trans Z0 (Nat.le_of_eq g102.symm)) Ov102 T107 _ h107 X107 e107 N107 z118 O111 F112 F108 F113 F109 G107 F114 F115
  have hbd119 : Bn 1 v_117 := Bn.mono (Bn.add own_bd0 hb0 P110_2) (nb rfl)
  have J120 : Arv Z h110 b102 k102 (.object "java/math/BigDecimal") (3 : Int32) [(.ref zr), (.ref r_116), .null] .null := P110_0
  have F121 : Fld Z h110 ll "java/util/ArrayList" "size" "I" (.int (2 : Int32)) := (F108.keep K110 (ninS (Nat.ne_of_lt (Nat.lt_of_lt_of_le EL.lt (Nat.le_of_eq g102.symm))) nin0))
  have F122 : Arv Z h110 d kd (.object "java/lang/Object") (10 : Int32) [(.ref p1), (.ref p2), .null, .null, .null, .null, .null, .null, .null, .null] .null := (F109.keep K110 (ninS (Nat.ne_of_lt (Nat.lt_of_lt_of_le VD.lt (Nat.le_of_eq g102.symm))) nin0))
  have O124 : Old Z n0 h110 := (O111.keep K110 (allS (Nat.le_trans Z0 (Nat.le_of_eq g102.symm)) all0))
  have F125 : Exa Z h110 ll "java/util/ArrayList" := (F112.keep K110)
  have F126 : Fld Z h110 ll "java/util/ArrayList" "elementData" "[Ljava/lang/Object;" (.ref d) := (F113.keep K110 (ninS (Nat.ne_of_lt (Nat.lt_of_lt_of_le EL.lt (Nat.le_of_eq g102.symm))) nin0))
  have F127 : BD Z h110 p2 x1 := (((hP2.keep K102 nin0).keep K107 (ninS (Nat.ne_of_lt (Nat.lt_of_lt_of_le hP2.lt (Nat.le_of_eq g102.symm))) nin0)).keep K110 (ninS (Nat.ne_of_lt (Nat.lt_of_lt_of_le hP2.lt (Nat.le_of_eq g102.symm))) nin0))
  obtain ⟨T123, L123, h123, X123, e123, r_128, v_129, Nl123, K123, P123_0, P123_1, P123_2, st123⟩ := rm_sg1 hx hZ hw hby hml hown (by decide) (by decide) (by decide) (by decide) ll ct le 2 b102 1 d kd [(.ref p1), (.ref p2), .null, .null, .null, .null, .null, .null, .null, .null] p2 k102 [(.ref zr), (.ref r_116), .null] r_116 v_117 x1 zt kz zl n0 S_zt V_zt hzl hz (nb rfl) (nb rfl) rfl rfl rfl (Bn.mono hbd119 (by decide)) (Bn.mono hb1 (by decide)) (Nat.le_trans Z0 (Nat.le_of_eq g102.symm)) Ov102 T110 _ h110 X110 e110 Nl110 (Nat.le_trans z118 K110.1) O124 F125 F121 F126 F122 J120 P110_1 F127
  have hbd130 : Bn 2 v_129 := Bn.mono (Bn.add hbd119 hb1 P123_2) (nb rfl)
  have J131 : Arv Z h123 b102 k102 (.object "java/math/BigDecimal") (3 : Int32) [(.ref zr), (.ref r_116), (.ref r_128)] .null := P123_0
  obtain ⟨T132, h132, k132, X132, e132, E132, A132, Ov132, st132⟩ := newR X123 hx hZ hown (w42 hw) (w43 hw) e123 (g := (mkF m 66 #[.val (.ref ll), .val (.int ct), .val (.int le), .val (.int (2 : Int32)), .val (.ref b102), .val (.int (2 : Int32)), .unset, .unset, .unset, .unset] [(.int (3 : Int32))])) rfl (D_ d31_66) rfl (by decide) (cap := 3) (by decide) (by decide) (by decide) (by decide)
  obtain ⟨b132, g132⟩ : ∃ z, z = h123.size := ⟨_, rfl⟩
  rw [← g132] at A132 st132
  have K132 := (Keep.refl h123 []).ext E132
  have G132 : Arv Z h132 b132 k132 (.object "java/math/BigDecimal") (3 : Int32) [.null, .null, .null] .null := (Arv.new A132 (by decide)).pad (pad_rep [] .null 3)
  have O134 : Old Z n0 h132 := ((O124.keep K123 (allS (Nat.le_trans Z0 (Nat.le_of_eq g102.symm)) all0)).keep K132 all0)
  have F135 : Sta Z h132 "java/math/BigDecimal" "ZERO" "Ljava/math/BigDecimal;" (.ref zr) := S_z0.ext O134.2
  obtain ⟨T133, X133, e133, st133⟩ := getS2 X132 hx hZ hown (host := "") (Or.inl (w44 hw)) Via.refl e132 F135 (g := (mkF m 73 #[.val (.ref ll), .val (.int ct), .val (.int le), .val (.int (2 : Int32)), .val (.ref b102), .val (.ref b132), .unset, .unset, .unset, .unset] [(.ref b132)])) rfl (D_ d31_73)
  have F136 : BD Z h132 zr (0 : Int64) := (((F114.keep K110 (ninS (Exa.neArv ((F114.1.keep K110).keep K123) J131 (w138 hw)) nin0)).keep K123 (ninS (Exa.neArv ((F114.1.keep K110).keep K123) J131 (w138 hw)) nin0)).keep K132 nin0)
  have gn137 : n0 ≤ b132 := Nat.le_trans Z0 (Nat.le_trans (Nat.le_trans (Nat.le_trans (Nat.le_trans K102.1 K107.1) K110.1) K123.1) (Nat.le_of_eq g132.symm))
  have z139 : n0 ≤ h132.size := (Nat.le_trans z118 (Nat.le_trans (Nat.le_trans K110.1 K123.1) K132.1))
  obtain ⟨_, _, ⟨T138, L138, k138, n138⟩, -, X138, ⟨Lc138, hQ138, l138, y138, z138⟩, st138⟩ := Jvm.LawKit.callS X133 hx (y := yn30) hown (mvT hZ (w47 hw)) (mvT hZ (w48 hw)) (mvT hZ (w49 hw)) (mvT hZ (w50 hw)) (by decide) (backOf (W := 0) (rm_fill l Z a0 hw [] b132 zr k132 3 h132 n0 z139 (Arv.pad G132 (fun i => (pad_rep [] .null 3 i).symm)) Ov132 F136.1 gn137 (nb rfl)) hZ (w50 hw) (w49 hw) (by decide) (by decide)) (g := (mkF m 76 #[.val (.ref ll), .val (.int ct), .val (.int le), .val (.int (2 : Int32)), .val (.ref b102), .val (.ref b132), .unset, .unset, .unset, .unset] [(.ref zr), (.ref b132)])) rfl (by rw [hml]; rfl) (argsL := [(.ref b132), (.ref zr)]) (rest := []) (lenOf pd19 rfl) rfl (wq rfl) (D_ d31_76) (fun _ _ => ⟨rfl, e133, (nb rfl), (nb rfl)⟩)
  dsimp only [Pt.U, Pt.locs, Pt.cells, Pt.slots] at X138 l138 y138 z138 st138 hQ138
  subst l138 y138 z138
  obtain ⟨rfl, Nq138, K138, P138_0⟩ := hQ138
  have N138 := Fr.app Nl123 Nq138
  have J140 : Arv Z T138.heap b132 k132 (.object "java/math/BigDecimal") (3 : Int32) [(.ref zr), (.ref zr), (.ref zr)] .null := P138_0
  have W141 : ∀ zQ, SS p e below T138 m 79 #[.val (.ref ll), .val (.int ct), .val (.int le), .val (.int (2 : Int32)), .val (.ref b102), .val (.ref b132), .unset, .unset, .unset, .unset] [] zQ → Steps p.tables e below (s₁.setTop (entryFrame m #[(.ref ll), (.int ct), (.int le)] 10)) zQ := by
    intro tt kt
    refine W0 tt ?_
    refine XS.aloadN X0.here hx rfl (D_ d31_0) rfl rfl ?_
    refine st101.trans ?_
    refine XS.istoreN X101.here hx rfl (D_ d31_6) rfl (l' := #[.val (.ref ll), .val (.int ct), .val (.int le), .val (.int (2 : Int32)), .unset, .unset, .unset, .unset, .unset, .unset]) rfl ?_
    refine XS.iloadN X101.here hx rfl (D_ d31_7) rfl ?_
    refine XS.iconst X101.here hx rfl (D_ d31_8) ?_
    refine XS.iadd X101.here hx rfl (D_ d31_9) rfl ?_
    refine st102 _ ?_
    refine XS.astore X102.here hx rfl (D_ d31_13) rfl rfl (l' := #[.val (.ref ll), .val (.int ct), .val (.int le), .val (.int (2 : Int32)), .val (.ref b102), .unset, .unset, .unset, .unset, .unset]) rfl ?_
    refine XS.aload X102.here hx rfl (D_ d31_15) rfl rfl ?_
    refine XS.iconst X102.here hx rfl (D_ d31_17) ?_
    refine st103 _ ?_
    refine st107 _ ?_
    refine XS.iconst X107.here hx rfl (D_ d31_22) ?_
    refine XS.istore X107.here hx rfl (D_ d31_23) rfl (l' := #[.val (.ref ll), .val (.int ct), .val (.int le), .val (.int (2 : Int32)), .val (.ref b102), .val (.int (0 : Int32)), .unset, .unset, .unset, .unset]) rfl ?_
    refine st110 _ ?_
    show SS p e below T110 m 25 #[.val (.ref ll), .val (.int ct), .val (.int le), .val (.int (Int32.ofNat 2)), .val (.ref b102), .val (.int (Int32.ofNat (0 + 1))), .unset, .unset, .unset, .unset] [] _
    refine st123 _ ?_
    show SS p e below T123 m 25 #[.val (.ref ll), .val (.int ct), .val (.int le), .val (.int (Int32.ofNat 2)), .val (.ref b102), .val (.int (Int32.ofNat (1 + 1))), .unset, .unset, .unset, .unset] [] _
    refine XS.iload X123.here hx rfl (D_ d31_25) rfl ?_
    refine XS.iloadN X123.here hx rfl (D_ d31_27) rfl ?_
    refine XS.icmpYes X123.here hx rfl (pc0 := 28) (pc' := 63) rfl (D_ d31_28) rfl (flt (by decide)).2.1 (by decide) (by decide) ?_
    refine XS.iloadN X123.here hx rfl (D_ d31_63) rfl ?_
    refine XS.iconst X123.here hx rfl (D_ d31_64) ?_
    refine XS.iadd X123.here hx rfl (D_ d31_65) rfl ?_
    refine st132 _ ?_
    refine XS.astore X132.here hx rfl (D_ d31_69) rfl rfl (l' := #[.val (.ref ll), .val (.int ct), .val (.int le), .val (.int (2 : Int32)), .val (.ref b102), .val (.ref b132), .unset, .unset, .unset, .unset]) rfl ?_
    refine XS.aload X132.here hx rfl (D_ d31_71) rfl rfl ?_
    refine st133 _ ?_
    refine st138 _ ?_
    exact kt
  have KA142 : Keep h0 T138.heap [] := (Keep.trans (Keep.trans (Keep.trans (Keep.trans (Keep.trans (Keep.trans (Keep.refl h0 []) K102 all0) K107 (allS (Or.inr (Nat.le_of_eq g102.symm)) all0)) K110 (allS (Or.inr (Nat.le_of_eq g102.symm)) all0)) K123 (allS (Or.inr (Nat.le_of_eq g102.symm)) all0)) K132 all0) K138 (allS (Or.inr (Nat.le_trans (Nat.le_trans (Nat.le_trans (Nat.le_trans K102.1 K107.1) K110.1) K123.1) (Nat.le_of_eq g132.symm))) all0))
  rcases hcl with hct | ⟨hle, hc⟩ | ⟨hle, hc⟩
  ·
    obtain ⟨cl143, Ar143, q143, S143, M143, H143, F143g⟩ := id J140
    have hin143 : ¬ ((2 : Int32) < 0 ∨ cl143.slots.size ≤ ((2 : Int32)).toNatClampNeg) := inb_of S143 ⟨by decide, by decide⟩
    have hat143 : cl143.slots[((2 : Int32)).toNatClampNeg]? = some (.ref zr) := Has.at H143 hin143 rfl
    have W144 : ∀ zQ, SS p e below T138 m 187 #[.val (.ref ll), .val (.int (0 : Int32)), .val (.int le), .val (.int (2 : Int32)), .val (.ref b102), .val (.ref b132), .val (.int (1 : Int32)), .unset, .unset, .unset] [(.ref zr)] zQ → Steps p.tables e below (s₁.setTop (entryFrame m #[(.ref ll), (.int ct), (.int le)] 10)) zQ := by
      intro tt kt
      refine W141 tt ?_
      rw [show ct = (0 : Int32) from hct]
      refine XS.iconst X138.here hx rfl (D_ d31_79) ?_
      refine XS.istore X138.here hx rfl (D_ d31_80) rfl (l' := #[.val (.ref ll), .val (.int (0 : Int32)), .val (.int le), .val (.int (2 : Int32)), .val (.ref b102), .val (.ref b132), .val (.int (1 : Int32)), .unset, .unset, .unset]) rfl ?_
      refine XS.iload X138.here hx rfl (D_ d31_82) rfl ?_
      refine XS.iloadN X138.here hx rfl (D_ d31_84) rfl ?_
      refine XS.icmpYes X138.here hx rfl (pc0 := 85) (pc' := 183) rfl (D_ d31_85) rfl (tlt (by decide)).2.2.1 (by decide) (by decide) ?_
      refine XS.aload X138.here hx rfl (D_ d31_183) rfl rfl ?_
      refine XS.iloadN X138.here hx rfl (D_ d31_185) rfl ?_
      refine X138.aaload hx (j := (2 : Int32)) (v := (.ref zr)) (by first | exact Ar143.1 | (rw [rfl]; exact Ar143.1)) (State.isArrayOf_alike hZ.alike Ar143.2.1) rfl Ar143.2.2 hin143 hat143 (g := (mkF m 186 #[.val (.ref ll), .val (.int (0 : Int32)), .val (.int le), .val (.int (2 : Int32)), .val (.ref b102), .val (.ref b132), .val (.int (1 : Int32)), .unset, .unset, .unset] [(.int (2 : Int32)), (.ref b132)])) rfl rfl (D_ d31_186) _ ?_
      exact kt
    have ne145 : zr ≠ b132 := (Nat.ne_of_lt (Nat.lt_of_lt_of_le (Nat.lt_of_lt_of_le B0106.lt (Nat.le_trans (Nat.le_trans K107.1 K110.1) K123.1)) (Nat.le_of_eq g132.symm)))
    have F146 : BD Z T138.heap zr (0 : Int64) := (F136.keep K138 (ninS ne145 nin0))
    obtain ⟨fs, hr, hrun, hended, hW, hsame⟩ := X138.leave (v := some (.ref zr)) (fun h => by rw [Bd.returns] at h; cases h)
    refine ⟨_, _, W144 _ (own_retR X138 hx Bd.returns rfl rfl (D_ d31_187) hr), hrun, hended, _, _, rfl, ?_, ⟨_, rfl⟩, hW, hsame.mono (by decide) (by decide)⟩
    show Q_tot2 Z ll ct le d kd p1 p2 x0 x1 x2 x3 zt kz zl zr h0 n0 _ T138.heap _
    exact ⟨zr, (0 : Int64), rfl, N138, KA142, F146, (by rw [hct]; rw [dpl_0]; exact ⟨List.mem_singleton.mpr rfl, fun m hm => by rw [List.mem_singleton.mp hm]; exact Int.le_refl _⟩), (Bn.mono own_bd0 (by decide))⟩
  ·
    obtain ⟨T147, L147, h147, X147, e147, ma_148, km_149, Nl147, K147, P147_0, P147_1, P147_2, st147⟩ := rm_sg0 hx hZ hw hby hml hown (by decide) (by decide) (by decide) (by decide) ll ct 1 2 b102 b132 1 (.unset) (.unset) (.unset) n0 (by rcases hc with h | h <;> rw [h] <;> decide) (nb rfl) (nb rfl) One.u One.u T138 _ T138.heap X138 rfl N138 (Nat.le_trans z139 K138.1) 
    have J150 : Arv Z h147 ma_148 km_149 (.object "java/math/BigDecimal") (3 : Int32) [.null, .null, .null] .null := Arv.pad P147_1 (pad_rep [] .null 3)
    have ne151 : b102 ≠ b132 := (Nat.ne_of_lt (Nat.lt_of_lt_of_le (Nat.lt_of_lt_of_le G102.lt (Nat.le_trans (Nat.le_trans K107.1 K110.1) K123.1)) (Nat.le_of_eq g132.symm)))
    have F152 : Arv Z h147 b102 k102 (.object "java/math/BigDecimal") (3 : Int32) [(.ref zr), (.ref r_116), (.ref r_128)] .null := (((J131.keep K132 nin0).keep K138 (ninS ne151 nin0)).keep K147 nin0)
    have F153 : Arv Z h147 b132 k132 (.object "java/math/BigDecimal") (3 : Int32) [(.ref zr), (.ref zr), (.ref zr)] .null := (J140.keep K147 nin0)
    have gn155 : n0 ≤ ma_148 := Nat.le_trans Z0 (Nat.le_trans (Nat.le_trans (Nat.le_trans (Nat.le_trans (Nat.le_trans (Nat.le_trans K102.1 K107.1) K110.1) K123.1) K132.1) K138.1) P147_0)
    have ne156 : ma_148 ≠ b132 := (Ne.symm (Nat.ne_of_lt (Nat.lt_of_lt_of_le (Nat.lt_of_lt_of_le G132.lt K138.1) P147_0)))
    have ne157 : ma_148 ≠ b102 := (Ne.symm (Nat.ne_of_lt (Nat.lt_of_lt_of_le (Nat.lt_of_lt_of_le G102.lt (Nat.le_trans (Nat.le_trans (Nat.le_trans (Nat.le_trans K107.1 K110.1) K123.1) K132.1) K138.1)) P147_0)))
    have O158 : Old Z n0 h147 := ((O134.keep K138 (allS gn137 all0)).keep K147 all0)
    have ne159 : r_116 ≠ b102 := (Exa.neArv ((((P110_1.1.keep K123).keep K132).keep K138).keep K147) F152 (w138 hw))
    have ne160 : r_116 ≠ b132 := (Nat.ne_of_lt (Nat.lt_of_lt_of_le (Nat.lt_of_lt_of_le P110_1.lt K123.1) (Nat.le_of_eq g132.symm)))
    have F161 : BD Z h147 r_116 v_117 := ((((P110_1.keep K123 (ninS ne159 nin0)).keep K132 nin0).keep K138 (ninS ne160 nin0)).keep K147 nin0)
    have ne162 : zr ≠ b132 := (Nat.ne_of_lt (Nat.lt_of_lt_of_le (Nat.lt_of_lt_of_le B0106.lt (Nat.le_trans (Nat.le_trans K107.1 K110.1) K123.1)) (Nat.le_of_eq g132.symm)))
    have F163 : BD Z h147 zr (0 : Int64) := ((F136.keep K138 (ninS ne162 nin0)).keep K147 nin0)
    have z167 : n0 ≤ h147.size := (Nat.le_trans z139 (Nat.le_trans K138.1 K147.1))
    obtain ⟨T154, L154, h154, X154, e154, r_164, v_165, s8_166, Nl154, K154, P154_0, P154_1, P154_2, P154_3, st154⟩ := rm_sg2A hx hZ hw hby hml hown (by decide) (by decide) (by decide) (by decide) ll ct 1 2 b102 b132 (1 : Int32) ma_148 1 (.unset) k102 k132 km_149 [(.ref zr), (.ref r_116), (.ref r_128)] [(.ref zr), (.ref zr), (.ref zr)] [.null, .null, .null] r_116 zr zr v_117 (0 : Int64) (0 : Int64) zt kz zl n0 S_zt V_zt hzl hz (nb rfl) (nb rfl) (nb rfl) (nb rfl) rfl rfl rfl rfl rfl (Bn.mono hbd119 (by decide)) (Bn.mono own_bd0 (by decide)) (Bn.mono own_bd0 (by decide)) gn155 P147_2 One.u ne156 ne157 T147 _ h147 X147 e147 Nl147 z167 O158 F152 F153 J150 F161 F163 F163
    have hbd168 : Bn 1 v_165 := own_bA own_bd0 hbd119 own_bd0 P154_2 (Nat.le_of_ble_eq_true rfl)
    have J169 : Arv Z h154 ma_148 km_149 (.object "java/math/BigDecimal") (3 : Int32) [.null, (.ref r_164), .null] .null := P154_0
    have F170 : Arv Z h154 b102 k102 (.object "java/math/BigDecimal") (3 : Int32) [(.ref zr), (.ref r_116), (.ref r_128)] .null := (F152.keep K154 (ninS (Ne.symm ne157) nin0))
    have F171 : Arv Z h154 b132 k132 (.object "java/math/BigDecimal") (3 : Int32) [(.ref zr), (.ref zr), (.ref zr)] .null := (F153.keep K154 (ninS (Ne.symm ne156) nin0))
    have O173 : Old Z n0 h154 := (O158.keep K154 (allS gn155 all0))
    have ne174 : r_128 ≠ ma_148 := (Nat.ne_of_lt (Nat.lt_of_lt_of_le (Nat.lt_of_lt_of_le P123_1.lt (Nat.le_trans K132.1 K138.1)) P147_0))
    have F175 : BD Z h154 r_128 v_129 := ((((P123_1.keep K132 nin0).keep K138 (ninS (Nat.ne_of_lt (Nat.lt_of_lt_of_le P123_1.lt (Nat.le_of_eq g132.symm))) nin0)).keep K147 nin0).keep K154 (ninS ne174 nin0))
    have ne176 : r_116 ≠ ma_148 := (Nat.ne_of_lt (Nat.lt_of_lt_of_le (Nat.lt_of_lt_of_le P110_1.lt (Nat.le_trans (Nat.le_trans K123.1 K132.1) K138.1)) P147_0))
    have F177 : BD Z h154 r_116 v_117 := (F161.keep K154 (ninS ne176 nin0))
    have ne178 : zr ≠ ma_148 := (Nat.ne_of_lt (Nat.lt_of_lt_of_le (Nat.lt_of_lt_of_le B0106.lt (Nat.le_trans (Nat.le_trans (Nat.le_trans (Nat.le_trans K107.1 K110.1) K123.1) K132.1) K138.1)) P147_0))
    have F179 : BD Z h154 zr (0 : Int64) := (F163.keep K154 (ninS ne178 nin0))
    obtain ⟨T172, L172, h172, X172, e172, r_180, v_181, s8_182, Nl172, K172, P172_0, P172_1, P172_2, P172_3, P172_4, P172_5, st172⟩ := rm_sg2B hx hZ hw hby hml hown (by decide) (by decide) (by decide) (by decide) ll ct 1 2 b102 b132 (1 : Int32) ma_148 2 s8_166 k102 k132 km_149 [(.ref zr), (.ref r_116), (.ref r_128)] [(.ref zr), (.ref zr), (.ref zr)] [.null, (.ref r_164), .null] r_128 r_116 zr v_129 v_117 (0 : Int64) r_164 v_165 zt kz zl n0 S_zt V_zt hzl hz (nb rfl) (nb rfl) (nb rfl) (nb rfl) rfl rfl rfl rfl rfl (Bn.mono hbd130 (by decide)) (Bn.mono hbd119 (by decide)) (Bn.mono own_bd0 (by decide)) (Bn.mono hbd168 (by decide)) gn155 P147_2 P154_3 ne156 ne157 T154 _ h154 X154 e154 Nl154 (Nat.le_trans z167 K154.1) O173 F170 F171 J169 F175 F177 F179 P154_1
    have hbd183 : Bn 3 v_181 := own_bE hbd168 own_bd0 hbd130 hbd119 P172_2 (Nat.le_of_ble_eq_true rfl) (nb rfl)
    have J184 : Arv Z h172 ma_148 km_149 (.object "java/math/BigDecimal") (3 : Int32) [.null, (.ref r_164), (.ref r_180)] .null := P172_0
    have KA185 : Keep h0 h172 [] := (Keep.trans (Keep.trans (Keep.trans KA142 K147 all0) K154 (allS (Or.inr (Nat.le_trans (Nat.le_trans (Nat.le_trans (Nat.le_trans (Nat.le_trans (Nat.le_trans K102.1 K107.1) K110.1) K123.1) K132.1) K138.1) P147_0)) all0)) K172 (allS (Or.inr (Nat.le_trans (Nat.le_trans (Nat.le_trans (Nat.le_trans (Nat.le_trans (Nat.le_trans K102.1 K107.1) K110.1) K123.1) K132.1) K138.1) P147_0)) all0))
    have W186 : ∀ zQ, SS p e below T172 m 82 #[.val (.ref ll), .val (.int ct), .val (.int (1 : Int32)), .val (.int (2 : Int32)), .val (.ref b102), .val (.ref ma_148), .val (.int (2 : Int32)), .val (.ref ma_148), .val (.int (3 : Int32)), s8_182] [] zQ → Steps p.tables e below (s₁.setTop (entryFrame m #[(.ref ll), (.int ct), (.int le)] 10)) zQ := by
      intro tt kt
      refine W141 tt ?_
      rw [show le = (1 : Int32) from hle]
      refine XS.iconst X138.here hx rfl (D_ d31_79) ?_
      refine XS.istore X138.here hx rfl (D_ d31_80) rfl (l' := #[.val (.ref ll), .val (.int ct), .val (.int (1 : Int32)), .val (.int (2 : Int32)), .val (.ref b102), .val (.ref b132), .val (.int (1 : Int32)), .unset, .unset, .unset]) rfl ?_
      refine st147 _ ?_
      show SS p e below T147 m 102 #[.val (.ref ll), .val (.int ct), .val (.int (Int32.ofNat 1)), .val (.int (Int32.ofNat 2)), .val (.ref b102), .val (.ref b132), .val (.int (Int32.ofNat 1)), .val (.ref ma_148), .val (.int (Int32.ofNat (1 * 1))), (.unset)] [] _
      refine st154 _ ?_
      show SS p e below T154 m 102 #[.val (.ref ll), .val (.int ct), .val (.int (Int32.ofNat 1)), .val (.int (Int32.ofNat 2)), .val (.ref b102), .val (.ref b132), .val (.int (1 : Int32)), .val (.ref ma_148), .val (.int (Int32.ofNat (1 + 1))), s8_166] [] _
      refine st172 _ ?_
      show SS p e below T172 m 102 #[.val (.ref ll), .val (.int ct), .val (.int (Int32.ofNat 1)), .val (.int (Int32.ofNat 2)), .val (.ref b102), .val (.ref b132), .val (.int (1 : Int32)), .val (.ref ma_148), .val (.int (Int32.ofNat (2 + 1))), s8_182] [] _
      refine XS.iload X172.here hx rfl (D_ d31_102) rfl ?_
      refine XS.iloadN X172.here hx rfl (D_ d31_104) rfl ?_
      refine XS.icmpYes X172.here hx rfl (pc0 := 105) (pc' := 173) rfl (D_ d31_105) rfl (tlt (by decide)).2.2.1 (by decide) (by decide) ?_
      refine XS.aload X172.here hx rfl (D_ d31_173) rfl rfl ?_
      refine XS.astore X172.here hx rfl (D_ d31_175) rfl rfl (l' := #[.val (.ref ll), .val (.int ct), .val (.int (1 : Int32)), .val (.int (2 : Int32)), .val (.ref b102), .val (.ref ma_148), .val (.int (1 : Int32)), .val (.ref ma_148), .val (.int (3 : Int32)), s8_182]) rfl ?_
      refine XS.iinc X172.here hx rfl (D_ d31_177) rfl (l' := #[.val (.ref ll), .val (.int ct), .val (.int (1 : Int32)), .val (.int (2 : Int32)), .val (.ref b102), .val (.ref ma_148), .val (.int (2 : Int32)), .val (.ref ma_148), .val (.int (3 : Int32)), s8_182]) rfl ?_
      refine XS.goto X172.here hx rfl (pc0 := 180) (pc' := 82) rfl (D_ d31_180) (by decide) (by decide) ?_
      exact kt
    rcases hc with hct | hc
    ·
      obtain ⟨cl187, Ar187, q187, S187, M187, H187, F187g⟩ := id J184
      have hin187 : ¬ ((2 : Int32) < 0 ∨ cl187.slots.size ≤ ((2 : Int32)).toNatClampNeg) := inb_of S187 ⟨by decide, by decide⟩
      have hat187 : cl187.slots[((2 : Int32)).toNatClampNeg]? = some (.ref r_180) := Has.at H187 hin187 rfl
      have W188 : ∀ zQ, SS p e below T172 m 187 #[.val (.ref ll), .val (.int (1 : Int32)), .val (.int (1 : Int32)), .val (.int (2 : Int32)), .val (.ref b102), .val (.ref ma_148), .val (.int (2 : Int32)), .val (.ref ma_148), .val (.int (3 : Int32)), s8_182] [(.ref r_180)] zQ → Steps p.tables e below (s₁.setTop (entryFrame m #[(.ref ll), (.int ct), (.int le)] 10)) zQ := by
        intro tt kt
        refine W186 tt ?_
        rw [show ct = (1 : Int32) from hct]
        refine XS.iload X172.here hx rfl (D_ d31_82) rfl ?_
        refine XS.iloadN X172.here hx rfl (D_ d31_84) rfl ?_
        refine XS.icmpYes X172.here hx rfl (pc0 := 85) (pc' := 183) rfl (D_ d31_85) rfl (tlt (by decide)).2.2.1 (by decide) (by decide) ?_
        refine XS.aload X172.here hx rfl (D_ d31_183) rfl rfl ?_
        refine XS.iloadN X172.here hx rfl (D_ d31_185) rfl ?_
        refine X172.aaload hx (j := (2 : Int32)) (v := (.ref r_180)) (by first | exact Ar187.1 | (rw [e172]; exact Ar187.1)) (State.isArrayOf_alike hZ.alike Ar187.2.1) rfl Ar187.2.2 hin187 hat187 (g := (mkF m 186 #[.val (.ref ll), .val (.int (1 : Int32)), .val (.int (1 : Int32)), .val (.int (2 : Int32)), .val (.ref b102), .val (.ref ma_148), .val (.int (2 : Int32)), .val (.ref ma_148), .val (.int (3 : Int32)), s8_182] [(.int (2 : Int32)), (.ref ma_148)])) rfl rfl (D_ d31_186) _ ?_
        exact kt
      obtain ⟨fs, hr, hrun, hended, hW, hsame⟩ := X172.leave (v := some (.ref r_180)) (fun h => by rw [Bd.returns] at h; cases h)
      refine ⟨_, _, W188 _ (own_retR X172 hx Bd.returns rfl rfl (D_ d31_187) hr), hrun, hended, _, _, rfl, ?_, ⟨_, rfl⟩, hW, hsame.mono (by decide) (by decide)⟩
      show Q_tot2 Z ll ct le d kd p1 p2 x0 x1 x2 x3 zt kz zl zr h0 n0 _ T172.heap _
      rw [e172]
      exact ⟨r_180, v_181, rfl, Nl172, KA185, P172_1, (by rw [hct, hle]; rw [dpl2_11]; exact (own_dp19 P110_2 P123_2 P154_2 P172_2 P172_3 P172_4)), (Bn.mono hbd183 (by decide))⟩
    ·
      have z192 : n0 ≤ h172.size := (Nat.le_trans z167 (Nat.le_trans K154.1 K172.1))
      obtain ⟨T189, L189, h189, X189, e189, ma_190, km_191, Nl189, K189, P189_0, P189_1, P189_2, st189⟩ := rm_sg0 hx hZ hw hby hml hown (by decide) (by decide) (by decide) (by decide) ll ct 1 2 b102 ma_148 2 (.val (.ref ma_148)) (.val (.int (3 : Int32))) s8_182 n0 (by rw [hc]; decide) (nb rfl) (nb rfl) (One.val rfl) (One.val rfl) T172 _ h172 X172 e172 Nl172 z192 
      have J193 : Arv Z h189 ma_190 km_191 (.object "java/math/BigDecimal") (3 : Int32) [.null, .null, .null] .null := Arv.pad P189_1 (pad_rep [] .null 3)
      have F194 : Arv Z h189 b102 k102 (.object "java/math/BigDecimal") (3 : Int32) [(.ref zr), (.ref r_116), (.ref r_128)] .null := ((F170.keep K172 (ninS (Ne.symm ne157) nin0)).keep K189 nin0)
      have F195 : Arv Z h189 ma_148 km_149 (.object "java/math/BigDecimal") (3 : Int32) [.null, (.ref r_164), (.ref r_180)] .null := (J184.keep K189 nin0)
      have gn197 : n0 ≤ ma_190 := Nat.le_trans Z0 (Nat.le_trans (Nat.le_trans (Nat.le_trans (Nat.le_trans (Nat.le_trans (Nat.le_trans (Nat.le_trans (Nat.le_trans (Nat.le_trans K102.1 K107.1) K110.1) K123.1) K132.1) K138.1) K147.1) K154.1) K172.1) P189_0)
      have ne198 : ma_190 ≠ ma_148 := (Ne.symm (Nat.ne_of_lt (Nat.lt_of_lt_of_le (Nat.lt_of_lt_of_le P147_1.lt (Nat.le_trans K154.1 K172.1)) P189_0)))
      have ne199 : ma_190 ≠ b102 := (Ne.symm (Nat.ne_of_lt (Nat.lt_of_lt_of_le (Nat.lt_of_lt_of_le G102.lt (Nat.le_trans (Nat.le_trans (Nat.le_trans (Nat.le_trans (Nat.le_trans (Nat.le_trans (Nat.le_trans K107.1 K110.1) K123.1) K132.1) K138.1) K147.1) K154.1) K172.1)) P189_0)))
      have O200 : Old Z n0 h189 := ((O173.keep K172 (allS gn155 all0)).keep K189 all0)
      have F201 : BD Z h189 r_128 v_129 := ((F175.keep K172 (ninS ne174 nin0)).keep K189 nin0)
      have F202 : BD Z h189 r_116 v_117 := ((F177.keep K172 (ninS ne176 nin0)).keep K189 nin0)
      have F203 : BD Z h189 r_164 v_165 := ((P154_1.keep K172 (ninS (Exa.neArv ((P154_1.1.keep K172).keep K189) F195 (w138 hw)) nin0)).keep K189 nin0)
      obtain ⟨T196, L196, h196, X196, e196, r_204, v_205, s8_206, Nl196, K196, P196_0, P196_1, P196_2, P196_3, st196⟩ := rm_sg2A hx hZ hw hby hml hown (by decide) (by decide) (by decide) (by decide) ll ct 1 2 b102 ma_148 (2 : Int32) ma_190 2 s8_182 k102 km_149 km_191 [(.ref zr), (.ref r_116), (.ref r_128)] [.null, (.ref r_164), (.ref r_180)] [.null, .null, .null] r_128 r_116 r_164 v_129 v_117 v_165 zt kz zl n0 S_zt V_zt hzl hz (nb rfl) (nb rfl) (nb rfl) (nb rfl) rfl rfl rfl rfl rfl (Bn.mono hbd130 (by decide)) (Bn.mono hbd119 (by decide)) (Bn.mono hbd168 (by decide)) gn197 P189_2 P172_5 ne198 ne199 T189 _ h189 X189 e189 Nl189 (Nat.le_trans z192 K189.1) O200 F194 F195 J193 F201 F202 F203
      have hbd207 : Bn 4 v_205 := own_bA hbd168 hbd130 hbd119 P196_2 (Nat.le_of_ble_eq_true rfl)
      have J208 : Arv Z h196 ma_190 km_191 (.object "java/math/BigDecimal") (3 : Int32) [.null, .null, (.ref r_204)] .null := P196_0
      have KA209 : Keep h0 h196 [] := (Keep.trans (Keep.trans KA185 K189 all0) K196 (allS (Or.inr (Nat.le_trans (Nat.le_trans (Nat.le_trans (Nat.le_trans (Nat.le_trans (Nat.le_trans (Nat.le_trans (Nat.le_trans (Nat.le_trans K102.1 K107.1) K110.1) K123.1) K132.1) K138.1) K147.1) K154.1) K172.1) P189_0)) all0))
      have hct := hc
      obtain ⟨cl210, Ar210, q210, S210, M210, H210, F210g⟩ := id J208
      have hin210 : ¬ ((2 : Int32) < 0 ∨ cl210.slots.size ≤ ((2 : Int32)).toNatClampNeg) := inb_of S210 ⟨by decide, by decide⟩
      have hat210 : cl210.slots[((2 : Int32)).toNatClampNeg]? = some (.ref r_204) := Has.at H210 hin210 rfl
      have W211 : ∀ zQ, SS p e below T196 m 187 #[.val (.ref ll), .val (.int (2 : Int32)), .val (.int (1 : Int32)), .val (.int (2 : Int32)), .val (.ref b102), .val (.ref ma_190), .val (.int (3 : Int32)), .val (.ref ma_190), .val (.int (3 : Int32)), s8_206] [(.ref r_204)] zQ → Steps p.tables e below (s₁.setTop (entryFrame m #[(.ref ll), (.int ct), (.int le)] 10)) zQ := by
        intro tt kt
        refine W186 tt ?_
        refine st189 _ ?_
        show SS p e below T189 m 102 #[.val (.ref ll), .val (.int ct), .val (.int (Int32.ofNat 1)), .val (.int (Int32.ofNat 2)), .val (.ref b102), .val (.ref ma_148), .val (.int (Int32.ofNat 2)), .val (.ref ma_190), .val (.int (Int32.ofNat (2 * 1))), s8_182] [] _
        refine st196 _ ?_
        show SS p e below T196 m 102 #[.val (.ref ll), .val (.int ct), .val (.int (Int32.ofNat 1)), .val (.int (Int32.ofNat 2)), .val (.ref b102), .val (.ref ma_148), .val (.int (2 : Int32)), .val (.ref ma_190), .val (.int (Int32.ofNat (2 + 1))), s8_206] [] _
        refine XS.iload X196.here hx rfl (D_ d31_102) rfl ?_
        refine XS.iloadN X196.here hx rfl (D_ d31_104) rfl ?_
        refine XS.icmpYes X196.here hx rfl (pc0 := 105) (pc' := 173) rfl (D_ d31_105) rfl (tlt (by decide)).2.2.1 (by decide) (by decide) ?_
        refine XS.aload X196.here hx rfl (D_ d31_173) rfl rfl ?_
        refine XS.astore X196.here hx rfl (D_ d31_175) rfl rfl (l' := #[.val (.ref ll), .val (.int ct), .val (.int (1 : Int32)), .val (.int (2 : Int32)), .val (.ref b102), .val (.ref ma_190), .val (.int (2 : Int32)), .val (.ref ma_190), .val (.int (3 : Int32)), s8_206]) rfl ?_
        refine XS.iinc X196.here hx rfl (D_ d31_177) rfl (l' := #[.val (.ref ll), .val (.int ct), .val (.int (1 : Int32)), .val (.int (2 : Int32)), .val (.ref b102), .val (.ref ma_190), .val (.int (3 : Int32)), .val (.ref ma_190), .val (.int (3 : Int32)), s8_206]) rfl ?_
        refine XS.goto X196.here hx rfl (pc0 := 180) (pc' := 82) rfl (D_ d31_180) (by decide) (by decide) ?_
        show SS p e below T196 m 82 #[.val (.ref ll), .val (.int ct), .val (.int (1 : Int32)), .val (.int (2 : Int32)), .val (.ref b102), .val (.ref ma_190), .val (.int (3 : Int32)), .val (.ref ma_190), .val (.int (3 : Int32)), s8_206] [] _
        rw [show ct = (2 : Int32) from hct]
        refine XS.iload X196.here hx rfl (D_ d31_82) rfl ?_
        refine XS.iloadN X196.here hx rfl (D_ d31_84) rfl ?_
        refine XS.icmpYes X196.here hx rfl (pc0 := 85) (pc' := 183) rfl (D_ d31_85) rfl (tlt (by decide)).2.2.1 (by decide) (by decide) ?_
        refine XS.aload X196.here hx rfl (D_ d31_183) rfl rfl ?_
        refine XS.iloadN X196.here hx rfl (D_ d31_185) rfl ?_
        refine X196.aaload hx (j := (2 : Int32)) (v := (.ref r_204)) (by first | exact Ar210.1 | (rw [e196]; exact Ar210.1)) (State.isArrayOf_alike hZ.alike Ar210.2.1) rfl Ar210.2.2 hin210 hat210 (g := (mkF m 186 #[.val (.ref ll), .val (.int (2 : Int32)), .val (.int (1 : Int32)), .val (.int (2 : Int32)), .val (.ref b102), .val (.ref ma_190), .val (.int (3 : Int32)), .val (.ref ma_190), .val (.int (3 : Int32)), s8_206] [(.int (2 : Int32)), (.ref ma_190)])) rfl rfl (D_ d31_186) _ ?_
        exact kt
      obtain ⟨fs, hr, hrun, hended, hW, hsame⟩ := X196.leave (v := some (.ref r_204)) (fun h => by rw [Bd.returns] at h; cases h)
      refine ⟨_, _, W211 _ (own_retR X196 hx Bd.returns rfl rfl (D_ d31_187) hr), hrun, hended, _, _, rfl, ?_, ⟨_, rfl⟩, hW, hsame.mono (by decide) (by decide)⟩
      show Q_tot2 Z ll ct le d kd p1 p2 x0 x1 x2 x3 zt kz zl zr h0 n0 _ T196.heap _
      rw [e196]
      exact ⟨r_204, v_205, rfl, Nl196, KA209, P196_1, (by rw [hct, hle]; rw [dpl2_21]; exact (own_dp20 P110_2 P123_2 P154_2 P196_2)), (Bn.mono hbd207 (by decide))⟩
  ·
    obtain ⟨T212, L212, h212, X212, e212, ma_213, km_214, Nl212, K212, P212_0, P212_1, P212_2, st212⟩ := rm_sg0 hx hZ hw hby hml hown (by decide) (by decide) (by decide) (by decide) ll ct 2 2 b102 b132 1 (.unset) (.unset) (.unset) n0 (by rw [hc]; decide) (nb rfl) (nb rfl) One.u One.u T138 _ T138.heap X138 rfl N138 (Nat.le_trans z139 K138.1) 
    have J215 : Arv Z h212 ma_213 km_214 (.object "java/math/BigDecimal") (3 : Int32) [.null, .null, .null] .null := Arv.pad P212_1 (pad_rep [] .null 3)
    have ne216 : b102 ≠ b132 := (Nat.ne_of_lt (Nat.lt_of_lt_of_le (Nat.lt_of_lt_of_le G102.lt (Nat.le_trans (Nat.le_trans K107.1 K110.1) K123.1)) (Nat.le_of_eq g132.symm)))
    have F217 : Arv Z h212 b102 k102 (.object "java/math/BigDecimal") (3 : Int32) [(.ref zr), (.ref r_116), (.ref r_128)] .null := (((J131.keep K132 nin0).keep K138 (ninS ne216 nin0)).keep K212 nin0)
    have F218 : Arv Z h212 b132 k132 (.object "java/math/BigDecimal") (3 : Int32) [(.ref zr), (.ref zr), (.ref zr)] .null := (J140.keep K212 nin0)
    have gn220 : n0 ≤ ma_213 := Nat.le_trans Z0 (Nat.le_trans (Nat.le_trans (Nat.le_trans (Nat.le_trans (Nat.le_trans (Nat.le_trans K102.1 K107.1) K110.1) K123.1) K132.1) K138.1) P212_0)
    have ne221 : ma_213 ≠ b132 := (Ne.symm (Nat.ne_of_lt (Nat.lt_of_lt_of_le (Nat.lt_of_lt_of_le G132.lt K138.1) P212_0)))
    have ne222 : ma_213 ≠ b102 := (Ne.symm (Nat.ne_of_lt (Nat.lt_of_lt_of_le (Nat.lt_of_lt_of_le G102.lt (Nat.le_trans (Nat.le_trans (Nat.le_trans (Nat.le_trans K107.1 K110.1) K123.1) K132.1) K138.1)) P212_0)))
    have O223 : Old Z n0 h212 := ((O134.keep K138 (allS gn137 all0)).keep K212 all0)
    have F224 : BD Z h212 r_128 v_129 := (((P123_1.keep K132 nin0).keep K138 (ninS (Nat.ne_of_lt (Nat.lt_of_lt_of_le P123_1.lt (Nat.le_of_eq g132.symm))) nin0)).keep K212 nin0)
    have ne225 : zr ≠ b132 := (Nat.ne_of_lt (Nat.lt_of_lt_of_le (Nat.lt_of_lt_of_le B0106.lt (Nat.le_trans (Nat.le_trans K107.1 K110.1) K123.1)) (Nat.le_of_eq g132.symm)))
    have F226 : BD Z h212 zr (0 : Int64) := ((F136.keep K138 (ninS ne225 nin0)).keep K212 nin0)
    have z230 : n0 ≤ h212.size := (Nat.le_trans z139 (Nat.le_trans K138.1 K212.1))
    obtain ⟨T219, L219, h219, X219, e219, r_227, v_228, s8_229, Nl219, K219, P219_0, P219_1, P219_2, P219_3, st219⟩ := rm_sg2A hx hZ hw hby hml hown (by decide) (by decide) (by decide) (by decide) ll ct 2 2 b102 b132 (1 : Int32) ma_213 2 (.unset) k102 k132 km_214 [(.ref zr), (.ref r_116), (.ref r_128)] [(.ref zr), (.ref zr), (.ref zr)] [.null, .null, .null] r_128 zr zr v_129 (0 : Int64) (0 : Int64) zt kz zl n0 S_zt V_zt hzl hz (nb rfl) (nb rfl) (nb rfl) (nb rfl) rfl rfl rfl rfl rfl (Bn.mono hbd130 (by decide)) (Bn.mono own_bd0 (by decide)) (Bn.mono own_bd0 (by decide)) gn220 P212_2 One.u ne221 ne222 T212 _ h212 X212 e212 Nl212 z230 O223 F217 F218 J215 F224 F226 F226
    have hbd231 : Bn 2 v_228 := own_bA own_bd0 hbd130 own_bd0 P219_2 (Nat.le_of_ble_eq_true rfl)
    have J232 : Arv Z h219 ma_213 km_214 (.object "java/math/BigDecimal") (3 : Int32) [.null, .null, (.ref r_227)] .null := P219_0
    have KA233 : Keep h0 h219 [] := (Keep.trans (Keep.trans KA142 K212 all0) K219 (allS (Or.inr (Nat.le_trans (Nat.le_trans (Nat.le_trans (Nat.le_trans (Nat.le_trans (Nat.le_trans K102.1 K107.1) K110.1) K123.1) K132.1) K138.1) P212_0)) all0))
    have hct := hc
    obtain ⟨cl234, Ar234, q234, S234, M234, H234, F234g⟩ := id J232
    have hin234 : ¬ ((2 : Int32) < 0 ∨ cl234.slots.size ≤ ((2 : Int32)).toNatClampNeg) := inb_of S234 ⟨by decide, by decide⟩
    have hat234 : cl234.slots[((2 : Int32)).toNatClampNeg]? = some (.ref r_227) := Has.at H234 hin234 rfl
    have W235 : ∀ zQ, SS p e below T219 m 187 #[.val (.ref ll), .val (.int (1 : Int32)), .val (.int (2 : Int32)), .val (.int (2 : Int32)), .val (.ref b102), .val (.ref ma_213), .val (.int (2 : Int32)), .val (.ref ma_213), .val (.int (3 : Int32)), s8_229] [(.ref r_227)] zQ → Steps p.tables e below (s₁.setTop (entryFrame m #[(.ref ll), (.int ct), (.int le)] 10)) zQ := by
      intro tt kt
      refine W141 tt ?_
      rw [show le = (2 : Int32) from hle]
      refine XS.iconst X138.here hx rfl (D_ d31_79) ?_
      refine XS.istore X138.here hx rfl (D_ d31_80) rfl (l' := #[.val (.ref ll), .val (.int ct), .val (.int (2 : Int32)), .val (.int (2 : Int32)), .val (.ref b102), .val (.ref b132), .val (.int (1 : Int32)), .unset, .unset, .unset]) rfl ?_
      refine st212 _ ?_
      show SS p e below T212 m 102 #[.val (.ref ll), .val (.int ct), .val (.int (Int32.ofNat 2)), .val (.int (Int32.ofNat 2)), .val (.ref b102), .val (.ref b132), .val (.int (Int32.ofNat 1)), .val (.ref ma_213), .val (.int (Int32.ofNat (1 * 2))), (.unset)] [] _
      refine st219 _ ?_
      show SS p e below T219 m 102 #[.val (.ref ll), .val (.int ct), .val (.int (Int32.ofNat 2)), .val (.int (Int32.ofNat 2)), .val (.ref b102), .val (.ref b132), .val (.int (1 : Int32)), .val (.ref ma_213), .val (.int (Int32.ofNat (2 + 1))), s8_229] [] _
      refine XS.iload X219.here hx rfl (D_ d31_102) rfl ?_
      refine XS.iloadN X219.here hx rfl (D_ d31_104) rfl ?_
      refine XS.icmpYes X219.here hx rfl (pc0 := 105) (pc' := 173) rfl (D_ d31_105) rfl (tlt (by decide)).2.2.1 (by decide) (by decide) ?_
      refine XS.aload X219.here hx rfl (D_ d31_173) rfl rfl ?_
      refine XS.astore X219.here hx rfl (D_ d31_175) rfl rfl (l' := #[.val (.ref ll), .val (.int ct), .val (.int (2 : Int32)), .val (.int (2 : Int32)), .val (.ref b102), .val (.ref ma_213), .val (.int (1 : Int32)), .val (.ref ma_213), .val (.int (3 : Int32)), s8_229]) rfl ?_
      refine XS.iinc X219.here hx rfl (D_ d31_177) rfl (l' := #[.val (.ref ll), .val (.int ct), .val (.int (2 : Int32)), .val (.int (2 : Int32)), .val (.ref b102), .val (.ref ma_213), .val (.int (2 : Int32)), .val (.ref ma_213), .val (.int (3 : Int32)), s8_229]) rfl ?_
      refine XS.goto X219.here hx rfl (pc0 := 180) (pc' := 82) rfl (D_ d31_180) (by decide) (by decide) ?_
      show SS p e below T219 m 82 #[.val (.ref ll), .val (.int ct), .val (.int (2 : Int32)), .val (.int (2 : Int32)), .val (.ref b102), .val (.ref ma_213), .val (.int (2 : Int32)), .val (.ref ma_213), .val (.int (3 : Int32)), s8_229] [] _
      rw [show ct = (1 : Int32) from hct]
      refine XS.iload X219.here hx rfl (D_ d31_82) rfl ?_
      refine XS.iloadN X219.here hx rfl (D_ d31_84) rfl ?_
      refine XS.icmpYes X219.here hx rfl (pc0 := 85) (pc' := 183) rfl (D_ d31_85) rfl (tlt (by decide)).2.2.1 (by decide) (by decide) ?_
      refine XS.aload X219.here hx rfl (D_ d31_183) rfl rfl ?_
      refine XS.iloadN X219.here hx rfl (D_ d31_185) rfl ?_
      refine X219.aaload hx (j := (2 : Int32)) (v := (.ref r_227)) (by first | exact Ar234.1 | (rw [e219]; exact Ar234.1)) (State.isArrayOf_alike hZ.alike Ar234.2.1) rfl Ar234.2.2 hin234 hat234 (g := (mkF m 186 #[.val (.ref ll), .val (.int (1 : Int32)), .val (.int (2 : Int32)), .val (.int (2 : Int32)), .val (.ref b102), .val (.ref ma_213), .val (.int (2 : Int32)), .val (.ref ma_213), .val (.int (3 : Int32)), s8_229] [(.int (2 : Int32)), (.ref ma_213)])) rfl rfl (D_ d31_186) _ ?_
      exact kt
    obtain ⟨fs, hr, hrun, hended, hW, hsame⟩ := X219.leave (v := some (.ref r_227)) (fun h => by rw [Bd.returns] at h; cases h)
    refine ⟨_, _, W235 _ (own_retR X219 hx Bd.returns rfl rfl (D_ d31_187) hr), hrun, hended, _, _, rfl, ?_, ⟨_, rfl⟩, hW, hsame.mono (by decide) (by decide)⟩
    show Q_tot2 Z ll ct le d kd p1 p2 x0 x1 x2 x3 zt kz zl zr h0 n0 _ T219.heap _
    rw [e219]
    exact ⟨r_227, v_228, rfl, Nl219, KA233, P219_1, (by rw [hct, hle]; rw [dpl2_12]; exact (own_dp21 P110_2 P123_2 P219_2)), (Bn.mono hbd231 (by decide))⟩
theorem own_dp22 {A B C v0 v1 v2 v3 v4 v5 : Int} (e0 : v0 = 0 + A) (e1 : v1 = v0 + B) (e2 : v2 = v1 + C) (e3 : v3 = 0 + (v0 - 0)) (d4 : v4 = v3 ∨ v4 = 0 + (v1 - v0)) (l4 : v3 ≤ v4) (r4 : 0 + (v1 - v0) ≤ v4) (d5 : v5 = v4 ∨ v5 = 0 + (v2 - v1)) (l5 : v4 ≤ v5) (r5 : 0 + (v2 - v1) ≤ v5) : IsM v5 [A, B, C] := isM3 (by rcases d4 with d | d <;> rcases d5 with d | d <;> first | (left; omega) | (right; left; omega) | (right; right; omega)) (by omega) (by omega) (by omega)
theorem own_dp23 {A B C v0 v1 v2 v3 v4 v5 v6 : Int} (e0 : v0 = 0 + A) (e1 : v1 = v0 + B) (e2 : v2 = v1 + C) (e3 : v3 = 0 + (v0 - 0)) (d4 : v4 = v3 ∨ v4 = 0 + (v1 - v0)) (l4 : v3 ≤ v4) (r4 : 0 + (v1 - v0) ≤ v4) (e5 : v5 = v3 + (v1 - v0)) (d6 : v6 = v5 ∨ v6 = v4 + (v2 - v1)) (l6 : v5 ≤ v6) (r6 : v4 + (v2 - v1) ≤ v6) : IsM v6 [A + B, A + C, B + C] := isM3 (by rcases d4 with d | d <;> rcases d6 with d | d <;> first | (left; omega) | (right; left; omega) | (right; right; omega)) (by omega) (by omega) (by omega)
theorem own_dp24 {A B C v0 v1 v2 v3 v4 v5 : Int} (e0 : v0 = 0 + A) (e1 : v1 = v0 + B) (e2 : v2 = v1 + C) (e3 : v3 = 0 + (v0 - 0)) (e4 : v4 = v3 + (v1 - v0)) (e5 : v5 = v4 + (v2 - v1)) : IsM v5 [A + B + C] := isM1 (by omega)
theorem own_dp25 {A B C v0 v1 v2 v3 v4 : Int} (e0 : v0 = 0 + A) (e1 : v1 = v0 + B) (e2 : v2 = v1 + C) (e3 : v3 = 0 + (v1 - 0)) (d4 : v4 = v3 ∨ v4 = 0 + (v2 - v0)) (l4 : v3 ≤ v4) (r4 : 0 + (v2 - v0) ≤ v4) : IsM v4 [A + B, B + C] := isM2 (by rcases d4 with d | d <;> first | (left; omega) | (right; omega)) (by omega) (by omega)
theorem own_dp26 {A B C v0 v1 v2 v3 : Int} (e0 : v0 = 0 + A) (e1 : v1 = v0 + B) (e2 : v2 = v1 + C) (e3 : v3 = 0 + (v2 - 0)) : IsM v3 [A + B + C] := isM1 (by omega)
def Q_tot3 (Z : State) (ll : Addr) (ct : Int32) (le : Int32) (d : Addr) (kd : ClassId) (p1 : Addr) (p2 : Addr) (p3 : Addr) (x0 : Int64) (x1 : Int64) (x2 : Int64) (x3 : Int64) (zt : Addr) (kz : ClassId) (zl : List Addr) (zr : Addr) (h0 : Heap) (n0 : Nat) (vQ_ : Option Value) (hQ_ : Heap) (LQ_ : List Loc) : Prop := ∃ r : Addr, ∃ v : Int64, vQ_ = some (.ref r) ∧ Fr n0 LQ_ ∧ Keep h0 hQ_ [] ∧ BD Z hQ_ r v ∧ IsM v.toInt (dpl (3 : Int32) ct le x0.toInt x1.toInt x2.toInt x3.toInt) ∧ Bn 100 v
theorem rm_tot3 (l : Launch) (Z : State) (a0 : Array Value) (hw : HW a0 Z) (ws : List Jvm.Cond) (ll : Addr) (ct : Int32) (le : Int32) (d : Addr) (kd : ClassId) (p1 : Addr) (p2 : Addr) (p3 : Addr) (x0 : Int64) (x1 : Int64) (x2 : Int64) (x3 : Int64) (zt : Addr) (kz : ClassId) (zl : List Addr) (zr : Addr) (h0 : Heap) (n0 : Nat) (Z0 : n0 ≤ h0.size) (O0 : Old Z n0 h0) (S_zt : Sta Z Z.heap "java/math/BigDecimal" "ZERO_THROUGH_TEN" "[Ljava/math/BigDecimal;" (.ref zt)) (V_zt : Arv Z Z.heap zt kz (.object "java/math/BigDecimal") (11 : Int32) (zl.map Value.ref) .null) (hzl : zl.length = 11) (hz : ∀ i, i < 11 → BD Z Z.heap (zl.getD i 0) (Int64.ofNat i)) (S_z0 : Sta Z Z.heap "java/math/BigDecimal" "ZERO" "Ljava/math/BigDecimal;" (.ref zr)) (hz0 : BD Z Z.heap zr (0 : Int64)) (EL : Exa Z h0 ll "java/util/ArrayList") (FZ : Fld Z h0 ll "java/util/ArrayList" "size" "I" (.int (3 : Int32))) (FE : Fld Z h0 ll "java/util/ArrayList" "elementData" "[Ljava/lang/Object;" (.ref d)) (VD : Arv Z h0 d kd (.object "java/lang/Object") (10 : Int32) [(.ref p1), (.ref p2), (.ref p3), .null, .null, .null, .null, .null, .null, .null] .null) (hP1 : BD Z h0 p1 x0) (hP2 : BD Z h0 p2 x1) (hP3 : BD Z h0 p3 x2) (hb0 : Bn 1 x0) (hb1 : Bn 1 x1) (hb2 : Bn 1 x2) (hb3 : Bn 1 x3) (hcl : ct = (0 : Int32) ∨ (le = (1 : Int32) ∧ (ct = (1 : Int32) ∨ ct = (2 : Int32) ∨ ct = (3 : Int32))) ∨ (le = (2 : Int32) ∧ (ct = (1 : Int32))) ∨ (le = (3 : Int32) ∧ (ct = (1 : Int32)))) :
    CT l yn33 (Jvm.Cond.code yn33 prog_2_method_2_code 10 (some (.object "java/math/BigDecimal")) :: ws) (⟨8, 20, 98, 125⟩ : Room) #[(.ref ll), (.int ct), (.int le)] Z h0 (Q_tot3 Z ll ct le d kd p1 p2 p3 x0 x1 x2 x3 zt kz zl zr h0 n0) := by
  refine MetFree.of_bodySF (plainFor_of_name pn_com_example_vestline_vestline_finalaveragepay_BestPeriods) hisR ?_
  intro p e s m args below meth cO s₁ Bd hml hP hK
  obtain ⟨rfl, hZ, hh⟩ := hP
  have hx := Bd.exec
  have hby := Bd.bytes
  have hown : s.vm.findClass "com/example/vestline/vestline/finalaveragepay/BestPeriods" = some m.cls := findClass_of_methodNamed Bd.named
  have hnm := (name_of_methodNamed Bd.named Bd.method).1
  have X0 : Stand p l e (⟨8, 20, 98, 125⟩ : Room) s m #[(.ref ll), (.int ct), (.int le)] below meth cO s₁ [] 0 0 := Stand.of_body Bd
  have e0 : s₁.heap = h0 := by rw [← hh, Bd.state]; rfl
  have N0 := Fr.nil n0
  have D_ : ∀ {i : Nat} {x}, decode prog_2_method_2_code i = x → decode cO.code i = x := fun h => hb hby h
  have W0 : ∀ zQ, SS p e below s₁ m 0 #[.val (.ref ll), .val (.int ct), .val (.int le), .unset, .unset, .unset, .unset, .unset, .unset, .unset] [] zQ → Steps p.tables e below (s₁.setTop (entryFrame m #[(.ref ll), (.int ct), (.int le)] 10)) zQ := fun tt kt => castTop (ef_tot3 m ll ct le) kt
  obtain ⟨cq101, kq101, q101a, q101b, q101c⟩ := isOf hZ e0 EL
  obtain ⟨_, _, ⟨T101, L101, k101, n101⟩, -, X101, ⟨Lc101, hQ101, l101, y101, z101⟩, st101⟩ := X0.interfaceBack hx (xi := yn32) (y := yn25) hown (mvT hZ (w31 hw)) (mvT hZ (w32 hw)) (mvT hZ (w33 hw)) (mvT hZ (w34 hw)) (mvT hZ (w35 hw)) (mvT hZ (w36 hw)) (mvT hZ (w37 hw)) (mvT hZ (w38 hw)) (by decide) (backOf (W := 0) (rm_alsize l Z a0 hw [] ll (3 : Int32) h0 n0 Z0 FZ) hZ (w39 hw) (w3 hw) (by decide) (by decide)) q101a q101b q101c (g := (mkF m 1 #[.val (.ref ll), .val (.int ct), .val (.int le), .unset, .unset, .unset, .unset, .unset, .unset, .unset] [(.ref ll)])) rfl (by rw [hml]; rfl) (Steps.refl _) (argsL := []) (rest := []) (lenOf pd18 rfl) rfl (wq rfl) (D_ d31_1) (fun _ _ => ⟨rfl, e0, (nb rfl), (nb rfl)⟩)
  dsimp only [Pt.U, Pt.locs, Pt.cells, Pt.slots] at X101 l101 y101 z101 st101 hQ101
  subst l101 y101 z101
  obtain ⟨rfl, Nq101, eq101⟩ := hQ101
  have N101 := Fr.app N0 Nq101
  obtain ⟨T102, h102, k102, X102, e102, E102, A102, Ov102, st102⟩ := newR X101 hx hZ hown (w42 hw) (w43 hw) eq101 (g := (mkF m 10 #[.val (.ref ll), .val (.int ct), .val (.int le), .val (.int (3 : Int32)), .unset, .unset, .unset, .unset, .unset, .unset] [(.int (4 : Int32))])) rfl (D_ d31_10) rfl (by decide) (cap := 4) (by decide) (by decide) (by decide) (by decide)
  obtain ⟨b102, g102⟩ : ∃ z, z = h0.size := ⟨_, rfl⟩
  rw [← g102] at A102 st102
  have K102 := (Keep.refl h0 []).ext E102
  have G102 : Arv Z h102 b102 k102 (.object "java/math/BigDecimal") (4 : Int32) [.null, .null, .null, .null] .null := (Arv.new A102 (by decide)).pad (pad_rep [] .null 4)
  have O104 : Old Z n0 h102 := (O0.keep K102 all0)
  have F105 : Sta Z h102 "java/math/BigDecimal" "ZERO" "Ljava/math/BigDecimal;" (.ref zr) := S_z0.ext O104.2
  obtain ⟨T103, X103, e103, st103⟩ := getS2 X102 hx hZ hown (host := "") (Or.inl (w44 hw)) Via.refl e102 F105 (g := (mkF m 18 #[.val (.ref ll), .val (.int ct), .val (.int le), .val (.int (3 : Int32)), .val (.ref b102), .unset, .unset, .unset, .unset, .unset] [(.int (0 : Int32)), (.ref b102)])) rfl (D_ d31_18)
  have B0106 : BD Z h102 zr (0 : Int64) := hz0.ext O104.2
  obtain ⟨cl107, Ar107, q107, S107, M107, H107, F107g⟩ := id G102
  have hin107 : ¬ ((0 : Int32) < 0 ∨ cl107.slots.size ≤ ((0 : Int32)).toNatClampNeg) := inb_of S107 ⟨by decide, by decide⟩
  obtain ⟨T107, h107, X107, e107, Wr107, st107⟩ := stR X103 hx hZ e103 Ar107 (j := (0 : Int32)) hin107 rfl (Sto.ofV Ar107 q107 Ov102 (Ins.self B0106.1)) (g := (mkF m 21 #[.val (.ref ll), .val (.int ct), .val (.int le), .val (.int (3 : Int32)), .val (.ref b102), .unset, .unset, .unset, .unset, .unset] [(.ref zr), (.int (0 : Int32)), (.ref b102)])) rfl rfl (D_ d31_21)
  have G107 : Arv Z h107 b102 k102 (.object "java/math/BigDecimal") (4 : Int32) [(.ref zr), .null, .null, .null] .null := Arv.set Ar107 q107 S107 M107 H107 F107g rfl Wr107 0 rfl (Nat.le_of_ble_eq_true rfl)
  have K107 := Keep.of_wr Wr107
  have N107 := Fr.snoc X107 N101 (Nat.le_trans Z0 (Nat.le_of_eq g102.symm))
  have F108 : Fld Z h107 ll "java/util/ArrayList" "size" "I" (.int (3 : Int32)) := ((FZ.keep K102 nin0).keep K107 (ninS (Nat.ne_of_lt (Nat.lt_of_lt_of_le EL.lt (Nat.le_of_eq g102.symm))) nin0))
  have F109 : Arv Z h107 d kd (.object "java/lang/Object") (10 : Int32) [(.ref p1), (.ref p2), (.ref p3), .null, .null, .null, .null, .null, .null, .null] .null := ((VD.keep K102 nin0).keep K107 (ninS (Nat.ne_of_lt (Nat.lt_of_lt_of_le VD.lt (Nat.le_of_eq g102.symm))) nin0))
  have O111 : Old Z n0 h107 := (O104.keep K107 (allS (Nat.le_trans Z0 (Nat.le_of_eq g102.symm)) all0))
  have F112 : Exa Z h107 ll "java/util/ArrayList" := ((EL.keep K102).keep K107)
  have F113 : Fld Z h107 ll "java/util/ArrayList" "elementData" "[Ljava/lang/Object;" (.ref d) := ((FE.keep K102 nin0).keep K107 (ninS (Nat.ne_of_lt (Nat.lt_of_lt_of_le EL.lt (Nat.le_of_eq g102.symm))) nin0))
  have F114 : BD Z h107 zr (0 : Int64) := (B0106.keep K107 (ninS (Exa.neArv (B0106.1.keep K107) G107 (w138 hw)) nin0))
  have F115 : BD Z h107 p1 x0 := ((hP1.keep K102 nin0).keep K107 (ninS (Nat.ne_of_lt (Nat.lt_of_lt_of_le hP1.lt (Nat.le_of_eq g102.symm))) nin0))
  have z118 : n0 ≤ h107.size := (Nat.le_trans Z0 (Nat.le_trans K102.1 K107.1))
  obtain ⟨T110, L110, h110, X110, e110, r_116, v_117, Nl110, K110, P110_0, P110_1, P110_2, st110⟩ := rm_sg1 hx hZ hw hby hml hown (by decide) (by decide) (by decide) (by decide) ll ct le 3 b102 0 d kd [(.ref p1), (.ref p2), (.ref p3), .null, .null, .null, .null, .null, .null, .null] p1 k102 [(.ref zr), .null, .null, .null] zr (0 : Int64) x0 zt kz zl n0 S_zt V_zt hzl hz (nb rfl) (nb rfl) rfl rfl rfl (Bn.mono own_bd0 (by decide)) (Bn.mono hb0 (by decide)) (Nat.le_trans Z0 (Nat.le_of_eq g102.symm)) Ov102 T107 _ h107 X107 e107 N107 z118 O111 F112 F108 F113 F109 G107 F114 F115
  have hbd119 : Bn 1 v_117 := Bn.mono (Bn.add own_bd0 hb0 P110_2) (nb rfl)
  have J120 : Arv Z h110 b102 k102 (.object "java/math/BigDecimal") (4 : Int32) [(.ref zr), (.ref r_116), .null, .null] .null := P110_0
  have F121 : Fld Z h110 ll "java/util/ArrayList" "size" "I" (.int (3 : Int32)) := (F108.keep K110 (ninS (Nat.ne_of_lt (Nat.lt_of_lt_of_le EL.lt (Nat.le_of_eq g102.symm))) nin0))
  have F122 : Arv Z h110 d kd (.object "java/lang/Object") (10 : Int32) [(.ref p1), (.ref p2), (.ref p3), .null, .null, .null, .null, .null, .null, .null] .null := (F109.keep K110 (ninS (Nat.ne_of_lt (Nat.lt_of_lt_of_le VD.lt (Nat.le_of_eq g102.symm))) nin0))
  have O124 : Old Z n0 h110 := (O111.keep K110 (allS (Nat.le_trans Z0 (Nat.le_of_eq g102.symm)) all0))
  have F125 : Exa Z h110 ll "java/util/ArrayList" := (F112.keep K110)
  have F126 : Fld Z h110 ll "java/util/ArrayList" "elementData" "[Ljava/lang/Object;" (.ref d) := (F113.keep K110 (ninS (Nat.ne_of_lt (Nat.lt_of_lt_of_le EL.lt (Nat.le_of_eq g102.symm))) nin0))
  have F127 : BD Z h110 p2 x1 := (((hP2.keep K102 nin0).keep K107 (ninS (Nat.ne_of_lt (Nat.lt_of_lt_of_le hP2.lt (Nat.le_of_eq g102.symm))) nin0)).keep K110 (ninS (Nat.ne_of_lt (Nat.lt_of_lt_of_le hP2.lt (Nat.le_of_eq g102.symm))) nin0))
  obtain ⟨T123, L123, h123, X123, e123, r_128, v_129, Nl123, K123, P123_0, P123_1, P123_2, st123⟩ := rm_sg1 hx hZ hw hby hml hown (by decide) (by decide) (by decide) (by decide) ll ct le 3 b102 1 d kd [(.ref p1), (.ref p2), (.ref p3), .null, .null, .null, .null, .null, .null, .null] p2 k102 [(.ref zr), (.ref r_116), .null, .null] r_116 v_117 x1 zt kz zl n0 S_zt V_zt hzl hz (nb rfl) (nb rfl) rfl rfl rfl (Bn.mono hbd119 (by decide)) (Bn.mono hb1 (by decide)) (Nat.le_trans Z0 (Nat.le_of_eq g102.symm)) Ov102 T110 _ h110 X110 e110 Nl110 (Nat.le_trans z118 K110.1) O124 F125 F121 F126 F122 J120 P110_1 F127
  have hbd130 : Bn 2 v_129 := Bn.mono (Bn.add hbd119 hb1 P123_2) (nb rfl)
  have J131 : Arv Z h123 b102 k102 (.object "java/math/BigDecimal") (4 : Int32) [(.ref zr), (.ref r_116), (.ref r_128), .null] .null := P123_0
  have F132 : Fld Z h123 ll "java/util/ArrayList" "size" "I" (.int (3 : Int32)) := (F121.keep K123 (ninS (Nat.ne_of_lt (Nat.lt_of_lt_of_le EL.lt (Nat.le_of_eq g102.symm))) nin0))
  have F133 : Arv Z h123 d kd (.object "java/lang/Object") (10 : Int32) [(.ref p1), (.ref p2), (.ref p3), .null, .null, .null, .null, .null, .null, .null] .null := (F122.keep K123 (ninS (Nat.ne_of_lt (Nat.lt_of_lt_of_le VD.lt (Nat.le_of_eq g102.symm))) nin0))
  have O135 : Old Z n0 h123 := (O124.keep K123 (allS (Nat.le_trans Z0 (Nat.le_of_eq g102.symm)) all0))
  have F136 : Exa Z h123 ll "java/util/ArrayList" := (F125.keep K123)
  have F137 : Fld Z h123 ll "java/util/ArrayList" "elementData" "[Ljava/lang/Object;" (.ref d) := (F126.keep K123 (ninS (Nat.ne_of_lt (Nat.lt_of_lt_of_le EL.lt (Nat.le_of_eq g102.symm))) nin0))
  have F138 : BD Z h123 p3 x2 := ((((hP3.keep K102 nin0).keep K107 (ninS (Nat.ne_of_lt (Nat.lt_of_lt_of_le hP3.lt (Nat.le_of_eq g102.symm))) nin0)).keep K110 (ninS (Nat.ne_of_lt (Nat.lt_of_lt_of_le hP3.lt (Nat.le_of_eq g102.symm))) nin0)).keep K123 (ninS (Nat.ne_of_lt (Nat.lt_of_lt_of_le hP3.lt (Nat.le_of_eq g102.symm))) nin0))
  have z141 : n0 ≤ h123.size := (Nat.le_trans z118 (Nat.le_trans K110.1 K123.1))
  obtain ⟨T134, L134, h134, X134, e134, r_139, v_140, Nl134, K134, P134_0, P134_1, P134_2, st134⟩ := rm_sg1 hx hZ hw hby hml hown (by decide) (by decide) (by decide) (by decide) ll ct le 3 b102 2 d kd [(.ref p1), (.ref p2), (.ref p3), .null, .null, .null, .null, .null, .null, .null] p3 k102 [(.ref zr), (.ref r_116), (.ref r_128), .null] r_128 v_129 x2 zt kz zl n0 S_zt V_zt hzl hz (nb rfl) (nb rfl) rfl rfl rfl (Bn.mono hbd130 (by decide)) (Bn.mono hb2 (by decide)) (Nat.le_trans Z0 (Nat.le_of_eq g102.symm)) Ov102 T123 _ h123 X123 e123 Nl123 z141 O135 F136 F132 F137 F133 J131 P123_1 F138
  have hbd142 : Bn 3 v_140 := Bn.mono (Bn.add hbd130 hb2 P134_2) (nb rfl)
  have J143 : Arv Z h134 b102 k102 (.object "java/math/BigDecimal") (4 : Int32) [(.ref zr), (.ref r_116), (.ref r_128), (.ref r_139)] .null := P134_0
  obtain ⟨T144, h144, k144, X144, e144, E144, A144, Ov144, st144⟩ := newR X134 hx hZ hown (w42 hw) (w43 hw) e134 (g := (mkF m 66 #[.val (.ref ll), .val (.int ct), .val (.int le), .val (.int (3 : Int32)), .val (.ref b102), .val (.int (3 : Int32)), .unset, .unset, .unset, .unset] [(.int (4 : Int32))])) rfl (D_ d31_66) rfl (by decide) (cap := 4) (by decide) (by decide) (by decide) (by decide)
  obtain ⟨b144, g144⟩ : ∃ z, z = h134.size := ⟨_, rfl⟩
  rw [← g144] at A144 st144
  have K144 := (Keep.refl h134 []).ext E144
  have G144 : Arv Z h144 b144 k144 (.object "java/math/BigDecimal") (4 : Int32) [.null, .null, .null, .null] .null := (Arv.new A144 (by decide)).pad (pad_rep [] .null 4)
  have O146 : Old Z n0 h144 := ((O135.keep K134 (allS (Nat.le_trans Z0 (Nat.le_of_eq g102.symm)) all0)).keep K144 all0)
  have F147 : Sta Z h144 "java/math/BigDecimal" "ZERO" "Ljava/math/BigDecimal;" (.ref zr) := S_z0.ext O146.2
  obtain ⟨T145, X145, e145, st145⟩ := getS2 X144 hx hZ hown (host := "") (Or.inl (w44 hw)) Via.refl e144 F147 (g := (mkF m 73 #[.val (.ref ll), .val (.int ct), .val (.int le), .val (.int (3 : Int32)), .val (.ref b102), .val (.ref b144), .unset, .unset, .unset, .unset] [(.ref b144)])) rfl (D_ d31_73)
  have F148 : BD Z h144 zr (0 : Int64) := ((((F114.keep K110 (ninS (Exa.neArv (((F114.1.keep K110).keep K123).keep K134) J143 (w138 hw)) nin0)).keep K123 (ninS (Exa.neArv (((F114.1.keep K110).keep K123).keep K134) J143 (w138 hw)) nin0)).keep K134 (ninS (Exa.neArv (((F114.1.keep K110).keep K123).keep K134) J143 (w138 hw)) nin0)).keep K144 nin0)
  have gn149 : n0 ≤ b144 := Nat.le_trans Z0 (Nat.le_trans (Nat.le_trans (Nat.le_trans (Nat.le_trans (Nat.le_trans K102.1 K107.1) K110.1) K123.1) K134.1) (Nat.le_of_eq g144.symm))
  have z151 : n0 ≤ h144.size := (Nat.le_trans z141 (Nat.le_trans K134.1 K144.1))
  obtain ⟨_, _, ⟨T150, L150, k150, n150⟩, -, X150, ⟨Lc150, hQ150, l150, y150, z150⟩, st150⟩ := Jvm.LawKit.callS X145 hx (y := yn30) hown (mvT hZ (w47 hw)) (mvT hZ (w48 hw)) (mvT hZ (w49 hw)) (mvT hZ (w50 hw)) (by decide) (backOf (W := 0) (rm_fill l Z a0 hw [] b144 zr k144 4 h144 n0 z151 (Arv.pad G144 (fun i => (pad_rep [] .null 4 i).symm)) Ov144 F148.1 gn149 (nb rfl)) hZ (w50 hw) (w49 hw) (by decide) (by decide)) (g := (mkF m 76 #[.val (.ref ll), .val (.int ct), .val (.int le), .val (.int (3 : Int32)), .val (.ref b102), .val (.ref b144), .unset, .unset, .unset, .unset] [(.ref zr), (.ref b144)])) rfl (by rw [hml]; rfl) (argsL := [(.ref b144), (.ref zr)]) (rest := []) (lenOf pd19 rfl) rfl (wq rfl) (D_ d31_76) (fun _ _ => ⟨rfl, e145, (nb rfl), (nb rfl)⟩)
  dsimp only [Pt.U, Pt.locs, Pt.cells, Pt.slots] at X150 l150 y150 z150 st150 hQ150
  subst l150 y150 z150
  obtain ⟨rfl, Nq150, K150, P150_0⟩ := hQ150
  have N150 := Fr.app Nl134 Nq150
  have J152 : Arv Z T150.heap b144 k144 (.object "java/math/BigDecimal") (4 : Int32) [(.ref zr), (.ref zr), (.ref zr), (.ref zr)] .null := P150_0
  have W153 : ∀ zQ, SS p e below T150 m 79 #[.val (.ref ll), .val (.int ct), .val (.int le), .val (.int (3 : Int32)), .val (.ref b102), .val (.ref b144), .unset, .unset, .unset, .unset] [] zQ → Steps p.tables e below (s₁.setTop (entryFrame m #[(.ref ll), (.int ct), (.int le)] 10)) zQ := by
    intro tt kt
    refine W0 tt ?_
    refine XS.aloadN X0.here hx rfl (D_ d31_0) rfl rfl ?_
    refine st101.trans ?_
    refine XS.istoreN X101.here hx rfl (D_ d31_6) rfl (l' := #[.val (.ref ll), .val (.int ct), .val (.int le), .val (.int (3 : Int32)), .unset, .unset, .unset, .unset, .unset, .unset]) rfl ?_
    refine XS.iloadN X101.here hx rfl (D_ d31_7) rfl ?_
    refine XS.iconst X101.here hx rfl (D_ d31_8) ?_
    refine XS.iadd X101.here hx rfl (D_ d31_9) rfl ?_
    refine st102 _ ?_
    refine XS.astore X102.here hx rfl (D_ d31_13) rfl rfl (l' := #[.val (.ref ll), .val (.int ct), .val (.int le), .val (.int (3 : Int32)), .val (.ref b102), .unset, .unset, .unset, .unset, .unset]) rfl ?_
    refine XS.aload X102.here hx rfl (D_ d31_15) rfl rfl ?_
    refine XS.iconst X102.here hx rfl (D_ d31_17) ?_
    refine st103 _ ?_
    refine st107 _ ?_
    refine XS.iconst X107.here hx rfl (D_ d31_22) ?_
    refine XS.istore X107.here hx rfl (D_ d31_23) rfl (l' := #[.val (.ref ll), .val (.int ct), .val (.int le), .val (.int (3 : Int32)), .val (.ref b102), .val (.int (0 : Int32)), .unset, .unset, .unset, .unset]) rfl ?_
    refine st110 _ ?_
    show SS p e below T110 m 25 #[.val (.ref ll), .val (.int ct), .val (.int le), .val (.int (Int32.ofNat 3)), .val (.ref b102), .val (.int (Int32.ofNat (0 + 1))), .unset, .unset, .unset, .unset] [] _
    refine st123 _ ?_
    show SS p e below T123 m 25 #[.val (.ref ll), .val (.int ct), .val (.int le), .val (.int (Int32.ofNat 3)), .val (.ref b102), .val (.int (Int32.ofNat (1 + 1))), .unset, .unset, .unset, .unset] [] _
    refine st134 _ ?_
    show SS p e below T134 m 25 #[.val (.ref ll), .val (.int ct), .val (.int le), .val (.int (Int32.ofNat 3)), .val (.ref b102), .val (.int (Int32.ofNat (2 + 1))), .unset, .unset, .unset, .unset] [] _
    refine XS.iload X134.here hx rfl (D_ d31_25) rfl ?_
    refine XS.iloadN X134.here hx rfl (D_ d31_27) rfl ?_
    refine XS.icmpYes X134.here hx rfl (pc0 := 28) (pc' := 63) rfl (D_ d31_28) rfl (flt (by decide)).2.1 (by decide) (by decide) ?_
    refine XS.iloadN X134.here hx rfl (D_ d31_63) rfl ?_
    refine XS.iconst X134.here hx rfl (D_ d31_64) ?_
    refine XS.iadd X134.here hx rfl (D_ d31_65) rfl ?_
    refine st144 _ ?_
    refine XS.astore X144.here hx rfl (D_ d31_69) rfl rfl (l' := #[.val (.ref ll), .val (.int ct), .val (.int le), .val (.int (3 : Int32)), .val (.ref b102), .val (.ref b144), .unset, .unset, .unset, .unset]) rfl ?_
    refine XS.aload X144.here hx rfl (D_ d31_71) rfl rfl ?_
    refine st145 _ ?_
    refine st150 _ ?_
    exact kt
  have KA154 : Keep h0 T150.heap [] := (Keep.trans (Keep.trans (Keep.trans (Keep.trans (Keep.trans (Keep.trans (Keep.trans (Keep.refl h0 []) K102 all0) K107 (allS (Or.inr (Nat.le_of_eq g102.symm)) all0)) K110 (allS (Or.inr (Nat.le_of_eq g102.symm)) all0)) K123 (allS (Or.inr (Nat.le_of_eq g102.symm)) all0)) K134 (allS (Or.inr (Nat.le_of_eq g102.symm)) all0)) K144 all0) K150 (allS (Or.inr (Nat.le_trans (Nat.le_trans (Nat.le_trans (Nat.le_trans (Nat.le_trans K102.1 K107.1) K110.1) K123.1) K134.1) (Nat.le_of_eq g144.symm))) all0))
  rcases hcl with hct | ⟨hle, hc⟩ | ⟨hle, hc⟩ | ⟨hle, hc⟩
  ·
    obtain ⟨cl155, Ar155, q155, S155, M155, H155, F155g⟩ := id J152
    have hin155 : ¬ ((3 : Int32) < 0 ∨ cl155.slots.size ≤ ((3 : Int32)).toNatClampNeg) := inb_of S155 ⟨by decide, by decide⟩
    have hat155 : cl155.slots[((3 : Int32)).toNatClampNeg]? = some (.ref zr) := Has.at H155 hin155 rfl
    have W156 : ∀ zQ, SS p e below T150 m 187 #[.val (.ref ll), .val (.int (0 : Int32)), .val (.int le), .val (.int (3 : Int32)), .val (.ref b102), .val (.ref b144), .val (.int (1 : Int32)), .unset, .unset, .unset] [(.ref zr)] zQ → Steps p.tables e below (s₁.setTop (entryFrame m #[(.ref ll), (.int ct), (.int le)] 10)) zQ := by
      intro tt kt
      refine W153 tt ?_
      rw [show ct = (0 : Int32) from hct]
      refine XS.iconst X150.here hx rfl (D_ d31_79) ?_
      refine XS.istore X150.here hx rfl (D_ d31_80) rfl (l' := #[.val (.ref ll), .val (.int (0 : Int32)), .val (.int le), .val (.int (3 : Int32)), .val (.ref b102), .val (.ref b144), .val (.int (1 : Int32)), .unset, .unset, .unset]) rfl ?_
      refine XS.iload X150.here hx rfl (D_ d31_82) rfl ?_
      refine XS.iloadN X150.here hx rfl (D_ d31_84) rfl ?_
      refine XS.icmpYes X150.here hx rfl (pc0 := 85) (pc' := 183) rfl (D_ d31_85) rfl (tlt (by decide)).2.2.1 (by decide) (by decide) ?_
      refine XS.aload X150.here hx rfl (D_ d31_183) rfl rfl ?_
      refine XS.iloadN X150.here hx rfl (D_ d31_185) rfl ?_
      refine X150.aaload hx (j := (3 : Int32)) (v := (.ref zr)) (by first | exact Ar155.1 | (rw [rfl]; exact Ar155.1)) (State.isArrayOf_alike hZ.alike Ar155.2.1) rfl Ar155.2.2 hin155 hat155 (g := (mkF m 186 #[.val (.ref ll), .val (.int (0 : Int32)), .val (.int le), .val (.int (3 : Int32)), .val (.ref b102), .val (.ref b144), .val (.int (1 : Int32)), .unset, .unset, .unset] [(.int (3 : Int32)), (.ref b144)])) rfl rfl (D_ d31_186) _ ?_
      exact kt
    have ne157 : zr ≠ b144 := (Nat.ne_of_lt (Nat.lt_of_lt_of_le (Nat.lt_of_lt_of_le B0106.lt (Nat.le_trans (Nat.le_trans (Nat.le_trans K107.1 K110.1) K123.1) K134.1)) (Nat.le_of_eq g144.symm)))
    have F158 : BD Z T150.heap zr (0 : Int64) := (F148.keep K150 (ninS ne157 nin0))
    obtain ⟨fs, hr, hrun, hended, hW, hsame⟩ := X150.leave (v := some (.ref zr)) (fun h => by rw [Bd.returns] at h; cases h)
    refine ⟨_, _, W156 _ (own_retR X150 hx Bd.returns rfl rfl (D_ d31_187) hr), hrun, hended, _, _, rfl, ?_, ⟨_, rfl⟩, hW, hsame.mono (by decide) (by decide)⟩
    show Q_tot3 Z ll ct le d kd p1 p2 p3 x0 x1 x2 x3 zt kz zl zr h0 n0 _ T150.heap _
    exact ⟨zr, (0 : Int64), rfl, N150, KA154, F158, (by rw [hct]; rw [dpl_0]; exact ⟨List.mem_singleton.mpr rfl, fun m hm => by rw [List.mem_singleton.mp hm]; exact Int.le_refl _⟩), (Bn.mono own_bd0 (by decide))⟩
  ·
    obtain ⟨T159, L159, h159, X159, e159, ma_160, km_161, Nl159, K159, P159_0, P159_1, P159_2, st159⟩ := rm_sg0 hx hZ hw hby hml hown (by decide) (by decide) (by decide) (by decide) ll ct 1 3 b102 b144 1 (.unset) (.unset) (.unset) n0 (by rcases hc with h | h | h <;> rw [h] <;> decide) (nb rfl) (nb rfl) One.u One.u T150 _ T150.heap X150 rfl N150 (Nat.le_trans z151 K150.1) 
    have J162 : Arv Z h159 ma_160 km_161 (.object "java/math/BigDecimal") (4 : Int32) [.null, .null, .null, .null] .null := Arv.pad P159_1 (pad_rep [] .null 4)
    have ne163 : b102 ≠ b144 := (Nat.ne_of_lt (Nat.lt_of_lt_of_le (Nat.lt_of_lt_of_le G102.lt (Nat.le_trans (Nat.le_trans (Nat.le_trans K107.1 K110.1) K123.1) K134.1)) (Nat.le_of_eq g144.symm)))
    have F164 : Arv Z h159 b102 k102 (.object "java/math/BigDecimal") (4 : Int32) [(.ref zr), (.ref r_116), (.ref r_128), (.ref r_139)] .null := (((J143.keep K144 nin0).keep K150 (ninS ne163 nin0)).keep K159 nin0)
    have F165 : Arv Z h159 b144 k144 (.object "java/math/BigDecimal") (4 : Int32) [(.ref zr), (.ref zr), (.ref zr), (.ref zr)] .null := (J152.keep K159 nin0)
    have gn167 : n0 ≤ ma_160 := Nat.le_trans Z0 (Nat.le_trans (Nat.le_trans (Nat.le_trans (Nat.le_trans (Nat.le_trans (Nat.le_trans (Nat.le_trans K102.1 K107.1) K110.1) K123.1) K134.1) K144.1) K150.1) P159_0)
    have ne168 : ma_160 ≠ b144 := (Ne.symm (Nat.ne_of_lt (Nat.lt_of_lt_of_le (Nat.lt_of_lt_of_le G144.lt K150.1) P159_0)))
    have ne169 : ma_160 ≠ b102 := (Ne.symm (Nat.ne_of_lt (Nat.lt_of_lt_of_le (Nat.lt_of_lt_of_le G102.lt (Nat.le_trans (Nat.le_trans (Nat.le_trans (Nat.le_trans (Nat.le_trans K107.1 K110.1) K123.1) K134.1) K144.1) K150.1)) P159_0)))
    have O170 : Old Z n0 h159 := ((O146.keep K150 (allS gn149 all0)).keep K159 all0)
    have ne171 : r_116 ≠ b102 := (Exa.neArv (((((P110_1.1.keep K123).keep K134).keep K144).keep K150).keep K159) F164 (w138 hw))
    have ne172 : r_116 ≠ b144 := (Nat.ne_of_lt (Nat.lt_of_lt_of_le (Nat.lt_of_lt_of_le P110_1.lt (Nat.le_trans K123.1 K134.1)) (Nat.le_of_eq g144.symm)))
    have F173 : BD Z h159 r_116 v_117 := (((((P110_1.keep K123 (ninS ne171 nin0)).keep K134 (ninS ne171 nin0)).keep K144 nin0).keep K150 (ninS ne172 nin0)).keep K159 nin0)
    have ne174 : zr ≠ b144 := (Nat.ne_of_lt (Nat.lt_of_lt_of_le (Nat.lt_of_lt_of_le B0106.lt (Nat.le_trans (Nat.le_trans (Nat.le_trans K107.1 K110.1) K123.1) K134.1)) (Nat.le_of_eq g144.symm)))
    have F175 : BD Z h159 zr (0 : Int64) := ((F148.keep K150 (ninS ne174 nin0)).keep K159 nin0)
    have z179 : n0 ≤ h159.size := (Nat.le_trans z151 (Nat.le_trans K150.1 K159.1))
    obtain ⟨T166, L166, h166, X166, e166, r_176, v_177, s8_178, Nl166, K166, P166_0, P166_1, P166_2, P166_3, st166⟩ := rm_sg2A hx hZ hw hby hml hown (by decide) (by decide) (by decide) (by decide) ll ct 1 3 b102 b144 (1 : Int32) ma_160 1 (.unset) k102 k144 km_161 [(.ref zr), (.ref r_116), (.ref r_128), (.ref r_139)] [(.ref zr), (.ref zr), (.ref zr), (.ref zr)] [.null, .null, .null, .null] r_116 zr zr v_117 (0 : Int64) (0 : Int64) zt kz zl n0 S_zt V_zt hzl hz (nb rfl) (nb rfl) (nb rfl) (nb rfl) rfl rfl rfl rfl rfl (Bn.mono hbd119 (by decide)) (Bn.mono own_bd0 (by decide)) (Bn.mono own_bd0 (by decide)) gn167 P159_2 One.u ne168 ne169 T159 _ h159 X159 e159 Nl159 z179 O170 F164 F165 J162 F173 F175 F175
    have hbd180 : Bn 1 v_177 := own_bA own_bd0 hbd119 own_bd0 P166_2 (Nat.le_of_ble_eq_true rfl)
    have J181 : Arv Z h166 ma_160 km_161 (.object "java/math/BigDecimal") (4 : Int32) [.null, (.ref r_176), .null, .null] .null := P166_0
    have F182 : Arv Z h166 b102 k102 (.object "java/math/BigDecimal") (4 : Int32) [(.ref zr), (.ref r_116), (.ref r_128), (.ref r_139)] .null := (F164.keep K166 (ninS (Ne.symm ne169) nin0))
    have F183 : Arv Z h166 b144 k144 (.object "java/math/BigDecimal") (4 : Int32) [(.ref zr), (.ref zr), (.ref zr), (.ref zr)] .null := (F165.keep K166 (ninS (Ne.symm ne168) nin0))
    have O185 : Old Z n0 h166 := (O170.keep K166 (allS gn167 all0))
    have ne186 : r_128 ≠ b102 := (Exa.neArv (((((P123_1.1.keep K134).keep K144).keep K150).keep K159).keep K166) F182 (w138 hw))
    have ne187 : r_128 ≠ b144 := (Nat.ne_of_lt (Nat.lt_of_lt_of_le (Nat.lt_of_lt_of_le P123_1.lt K134.1) (Nat.le_of_eq g144.symm)))
    have ne188 : r_128 ≠ ma_160 := (Nat.ne_of_lt (Nat.lt_of_lt_of_le (Nat.lt_of_lt_of_le P123_1.lt (Nat.le_trans (Nat.le_trans K134.1 K144.1) K150.1)) P159_0))
    have F189 : BD Z h166 r_128 v_129 := (((((P123_1.keep K134 (ninS ne186 nin0)).keep K144 nin0).keep K150 (ninS ne187 nin0)).keep K159 nin0).keep K166 (ninS ne188 nin0))
    have ne190 : r_116 ≠ ma_160 := (Nat.ne_of_lt (Nat.lt_of_lt_of_le (Nat.lt_of_lt_of_le P110_1.lt (Nat.le_trans (Nat.le_trans (Nat.le_trans K123.1 K134.1) K144.1) K150.1)) P159_0))
    have F191 : BD Z h166 r_116 v_117 := (F173.keep K166 (ninS ne190 nin0))
    have ne192 : zr ≠ ma_160 := (Nat.ne_of_lt (Nat.lt_of_lt_of_le (Nat.lt_of_lt_of_le B0106.lt (Nat.le_trans (Nat.le_trans (Nat.le_trans (Nat.le_trans (Nat.le_trans K107.1 K110.1) K123.1) K134.1) K144.1) K150.1)) P159_0))
    have F193 : BD Z h166 zr (0 : Int64) := (F175.keep K166 (ninS ne192 nin0))
    obtain ⟨T184, L184, h184, X184, e184, r_194, v_195, s8_196, Nl184, K184, P184_0, P184_1, P184_2, P184_3, P184_4, P184_5, st184⟩ := rm_sg2B hx hZ hw hby hml hown (by decide) (by decide) (by decide) (by decide) ll ct 1 3 b102 b144 (1 : Int32) ma_160 2 s8_178 k102 k144 km_161 [(.ref zr), (.ref r_116), (.ref r_128), (.ref r_139)] [(.ref zr), (.ref zr), (.ref zr), (.ref zr)] [.null, (.ref r_176), .null, .null] r_128 r_116 zr v_129 v_117 (0 : Int64) r_176 v_177 zt kz zl n0 S_zt V_zt hzl hz (nb rfl) (nb rfl) (nb rfl) (nb rfl) rfl rfl rfl rfl rfl (Bn.mono hbd130 (by decide)) (Bn.mono hbd119 (by decide)) (Bn.mono own_bd0 (by decide)) (Bn.mono hbd180 (by decide)) gn167 P159_2 P166_3 ne168 ne169 T166 _ h166 X166 e166 Nl166 (Nat.le_trans z179 K166.1) O185 F182 F183 J181 F189 F191 F193 P166_1
    have hbd197 : Bn 3 v_195 := own_bE hbd180 own_bd0 hbd130 hbd119 P184_2 (Nat.le_of_ble_eq_true rfl) (nb rfl)
    have J198 : Arv Z h184 ma_160 km_161 (.object "java/math/BigDecimal") (4 : Int32) [.null, (.ref r_176), (.ref r_194), .null] .null := P184_0
    have F199 : Arv Z h184 b102 k102 (.object "java/math/BigDecimal") (4 : Int32) [(.ref zr), (.ref r_116), (.ref r_128), (.ref r_139)] .null := (F182.keep K184 (ninS (Ne.symm ne169) nin0))
    have F200 : Arv Z h184 b144 k144 (.object "java/math/BigDecimal") (4 : Int32) [(.ref zr), (.ref zr), (.ref zr), (.ref zr)] .null := (F183.keep K184 (ninS (Ne.symm ne168) nin0))
    have O202 : Old Z n0 h184 := (O185.keep K184 (allS gn167 all0))
    have ne203 : r_139 ≠ ma_160 := (Nat.ne_of_lt (Nat.lt_of_lt_of_le (Nat.lt_of_lt_of_le P134_1.lt (Nat.le_trans K144.1 K150.1)) P159_0))
    have F204 : BD Z h184 r_139 v_140 := (((((P134_1.keep K144 nin0).keep K150 (ninS (Nat.ne_of_lt (Nat.lt_of_lt_of_le P134_1.lt (Nat.le_of_eq g144.symm))) nin0)).keep K159 nin0).keep K166 (ninS ne203 nin0)).keep K184 (ninS ne203 nin0))
    have F205 : BD Z h184 r_128 v_129 := (F189.keep K184 (ninS ne188 nin0))
    have F206 : BD Z h184 zr (0 : Int64) := (F193.keep K184 (ninS ne192 nin0))
    have z210 : n0 ≤ h184.size := (Nat.le_trans z179 (Nat.le_trans K166.1 K184.1))
    obtain ⟨T201, L201, h201, X201, e201, r_207, v_208, s8_209, Nl201, K201, P201_0, P201_1, P201_2, P201_3, P201_4, P201_5, st201⟩ := rm_sg2B hx hZ hw hby hml hown (by decide) (by decide) (by decide) (by decide) ll ct 1 3 b102 b144 (1 : Int32) ma_160 3 s8_196 k102 k144 km_161 [(.ref zr), (.ref r_116), (.ref r_128), (.ref r_139)] [(.ref zr), (.ref zr), (.ref zr), (.ref zr)] [.null, (.ref r_176), (.ref r_194), .null] r_139 r_128 zr v_140 v_129 (0 : Int64) r_194 v_195 zt kz zl n0 S_zt V_zt hzl hz (nb rfl) (nb rfl) (nb rfl) (nb rfl) rfl rfl rfl rfl rfl (Bn.mono hbd142 (by decide)) (Bn.mono hbd130 (by decide)) (Bn.mono own_bd0 (by decide)) (Bn.mono hbd197 (by decide)) gn167 P159_2 P184_5 ne168 ne169 T184 _ h184 X184 e184 Nl184 z210 O202 F199 F200 J198 F204 F205 F206 P184_1
    have hbd211 : Bn 5 v_208 := own_bE hbd197 own_bd0 hbd142 hbd130 P201_2 (Nat.le_of_ble_eq_true rfl) (nb rfl)
    have J212 : Arv Z h201 ma_160 km_161 (.object "java/math/BigDecimal") (4 : Int32) [.null, (.ref r_176), (.ref r_194), (.ref r_207)] .null := P201_0
    have KA213 : Keep h0 h201 [] := (Keep.trans (Keep.trans (Keep.trans (Keep.trans KA154 K159 all0) K166 (allS (Or.inr (Nat.le_trans (Nat.le_trans (Nat.le_trans (Nat.le_trans (Nat.le_trans (Nat.le_trans (Nat.le_trans K102.1 K107.1) K110.1) K123.1) K134.1) K144.1) K150.1) P159_0)) all0)) K184 (allS (Or.inr (Nat.le_trans (Nat.le_trans (Nat.le_trans (Nat.le_trans (Nat.le_trans (Nat.le_trans (Nat.le_trans K102.1 K107.1) K110.1) K123.1) K134.1) K144.1) K150.1) P159_0)) all0)) K201 (allS (Or.inr (Nat.le_trans (Nat.le_trans (Nat.le_trans (Nat.le_trans (Nat.le_trans (Nat.le_trans (Nat.le_trans K102.1 K107.1) K110.1) K123.1) K134.1) K144.1) K150.1) P159_0)) all0))
    have W214 : ∀ zQ, SS p e below T201 m 82 #[.val (.ref ll), .val (.int ct), .val (.int (1 : Int32)), .val (.int (3 : Int32)), .val (.ref b102), .val (.ref ma_160), .val (.int (2 : Int32)), .val (.ref ma_160), .val (.int (4 : Int32)), s8_209] [] zQ → Steps p.tables e below (s₁.setTop (entryFrame m #[(.ref ll), (.int ct), (.int le)] 10)) zQ := by
      intro tt kt
      refine W153 tt ?_
      rw [show le = (1 : Int32) from hle]
      refine XS.iconst X150.here hx rfl (D_ d31_79) ?_
      refine XS.istore X150.here hx rfl (D_ d31_80) rfl (l' := #[.val (.ref ll), .val (.int ct), .val (.int (1 : Int32)), .val (.int (3 : Int32)), .val (.ref b102), .val (.ref b144), .val (.int (1 : Int32)), .unset, .unset, .unset]) rfl ?_
      refine st159 _ ?_
      show SS p e below T159 m 102 #[.val (.ref ll), .val (.int ct), .val (.int (Int32.ofNat 1)), .val (.int (Int32.ofNat 3)), .val (.ref b102), .val (.ref b144), .val (.int (Int32.ofNat 1)), .val (.ref ma_160), .val (.int (Int32.ofNat (1 * 1))), (.unset)] [] _
      refine st166 _ ?_
      show SS p e below T166 m 102 #[.val (.ref ll), .val (.int ct), .val (.int (Int32.ofNat 1)), .val (.int (Int32.ofNat 3)), .val (.ref b102), .val (.ref b144), .val (.int (1 : Int32)), .val (.ref ma_160), .val (.int (Int32.ofNat (1 + 1))), s8_178] [] _
      refine st184 _ ?_
      show SS p e below T184 m 102 #[.val (.ref ll), .val (.int ct), .val (.int (Int32.ofNat 1)), .val (.int (Int32.ofNat 3)), .val (.ref b102), .val (.ref b144), .val (.int (1 : Int32)), .val (.ref ma_160), .val (.int (Int32.ofNat (2 + 1))), s8_196] [] _
      refine st201 _ ?_
      show SS p e below T201 m 102 #[.val (.ref ll), .val (.int ct), .val (.int (Int32.ofNat 1)), .val (.int (Int32.ofNat 3)), .val (.ref b102), .val (.ref b144), .val (.int (1 : Int32)), .val (.ref ma_160), .val (.int (Int32.ofNat (3 + 1))), s8_209] [] _
      refine XS.iload X201.here hx rfl (D_ d31_102) rfl ?_
      refine XS.iloadN X201.here hx rfl (D_ d31_104) rfl ?_
      refine XS.icmpYes X201.here hx rfl (pc0 := 105) (pc' := 173) rfl (D_ d31_105) rfl (tlt (by decide)).2.2.1 (by decide) (by decide) ?_
      refine XS.aload X201.here hx rfl (D_ d31_173) rfl rfl ?_
      refine XS.astore X201.here hx rfl (D_ d31_175) rfl rfl (l' := #[.val (.ref ll), .val (.int ct), .val (.int (1 : Int32)), .val (.int (3 : Int32)), .val (.ref b102), .val (.ref ma_160), .val (.int (1 : Int32)), .val (.ref ma_160), .val (.int (4 : Int32)), s8_209]) rfl ?_
      refine XS.iinc X201.here hx rfl (D_ d31_177) rfl (l' := #[.val (.ref ll), .val (.int ct), .val (.int (1 : Int32)), .val (.int (3 : Int32)), .val (.ref b102), .val (.ref ma_160), .val (.int (2 : Int32)), .val (.ref ma_160), .val (.int (4 : Int32)), s8_209]) rfl ?_
      refine XS.goto X201.here hx rfl (pc0 := 180) (pc' := 82) rfl (D_ d31_180) (by decide) (by decide) ?_
      exact kt
    rcases hc with hct | hc
    ·
      obtain ⟨cl215, Ar215, q215, S215, M215, H215, F215g⟩ := id J212
      have hin215 : ¬ ((3 : Int32) < 0 ∨ cl215.slots.size ≤ ((3 : Int32)).toNatClampNeg) := inb_of S215 ⟨by decide, by decide⟩
      have hat215 : cl215.slots[((3 : Int32)).toNatClampNeg]? = some (.ref r_207) := Has.at H215 hin215 rfl
      have W216 : ∀ zQ, SS p e below T201 m 187 #[.val (.ref ll), .val (.int (1 : Int32)), .val (.int (1 : Int32)), .val (.int (3 : Int32)), .val (.ref b102), .val (.ref ma_160), .val (.int (2 : Int32)), .val (.ref ma_160), .val (.int (4 : Int32)), s8_209] [(.ref r_207)] zQ → Steps p.tables e below (s₁.setTop (entryFrame m #[(.ref ll), (.int ct), (.int le)] 10)) zQ := by
        intro tt kt
        refine W214 tt ?_
        rw [show ct = (1 : Int32) from hct]
        refine XS.iload X201.here hx rfl (D_ d31_82) rfl ?_
        refine XS.iloadN X201.here hx rfl (D_ d31_84) rfl ?_
        refine XS.icmpYes X201.here hx rfl (pc0 := 85) (pc' := 183) rfl (D_ d31_85) rfl (tlt (by decide)).2.2.1 (by decide) (by decide) ?_
        refine XS.aload X201.here hx rfl (D_ d31_183) rfl rfl ?_
        refine XS.iloadN X201.here hx rfl (D_ d31_185) rfl ?_
        refine X201.aaload hx (j := (3 : Int32)) (v := (.ref r_207)) (by first | exact Ar215.1 | (rw [e201]; exact Ar215.1)) (State.isArrayOf_alike hZ.alike Ar215.2.1) rfl Ar215.2.2 hin215 hat215 (g := (mkF m 186 #[.val (.ref ll), .val (.int (1 : Int32)), .val (.int (1 : Int32)), .val (.int (3 : Int32)), .val (.ref b102), .val (.ref ma_160), .val (.int (2 : Int32)), .val (.ref ma_160), .val (.int (4 : Int32)), s8_209] [(.int (3 : Int32)), (.ref ma_160)])) rfl rfl (D_ d31_186) _ ?_
        exact kt
      obtain ⟨fs, hr, hrun, hended, hW, hsame⟩ := X201.leave (v := some (.ref r_207)) (fun h => by rw [Bd.returns] at h; cases h)
      refine ⟨_, _, W216 _ (own_retR X201 hx Bd.returns rfl rfl (D_ d31_187) hr), hrun, hended, _, _, rfl, ?_, ⟨_, rfl⟩, hW, hsame.mono (by decide) (by decide)⟩
      show Q_tot3 Z ll ct le d kd p1 p2 p3 x0 x1 x2 x3 zt kz zl zr h0 n0 _ T201.heap _
      rw [e201]
      exact ⟨r_207, v_208, rfl, Nl201, KA213, P201_1, (by rw [hct, hle]; rw [dpl3_11]; exact (own_dp22 P110_2 P123_2 P134_2 P166_2 P184_2 P184_3 P184_4 P201_2 P201_3 P201_4)), (Bn.mono hbd211 (by decide))⟩
    ·
      obtain ⟨T217, L217, h217, X217, e217, ma_218, km_219, Nl217, K217, P217_0, P217_1, P217_2, st217⟩ := rm_sg0 hx hZ hw hby hml hown (by decide) (by decide) (by decide) (by decide) ll ct 1 3 b102 ma_160 2 (.val (.ref ma_160)) (.val (.int (4 : Int32))) s8_209 n0 (by rcases hc with h | h <;> rw [h] <;> decide) (nb rfl) (nb rfl) (One.val rfl) (One.val rfl) T201 _ h201 X201 e201 Nl201 (Nat.le_trans z210 K201.1) 
      have J220 : Arv Z h217 ma_218 km_219 (.object "java/math/BigDecimal") (4 : Int32) [.null, .null, .null, .null] .null := Arv.pad P217_1 (pad_rep [] .null 4)
      have F221 : Arv Z h217 b102 k102 (.object "java/math/BigDecimal") (4 : Int32) [(.ref zr), (.ref r_116), (.ref r_128), (.ref r_139)] .null := ((F199.keep K201 (ninS (Ne.symm ne169) nin0)).keep K217 nin0)
      have F222 : Arv Z h217 ma_160 km_161 (.object "java/math/BigDecimal") (4 : Int32) [.null, (.ref r_176), (.ref r_194), (.ref r_207)] .null := (J212.keep K217 nin0)
      have gn224 : n0 ≤ ma_218 := Nat.le_trans Z0 (Nat.le_trans (Nat.le_trans (Nat.le_trans (Nat.le_trans (Nat.le_trans (Nat.le_trans (Nat.le_trans (Nat.le_trans (Nat.le_trans (Nat.le_trans (Nat.le_trans K102.1 K107.1) K110.1) K123.1) K134.1) K144.1) K150.1) K159.1) K166.1) K184.1) K201.1) P217_0)
      have ne225 : ma_218 ≠ ma_160 := (Ne.symm (Nat.ne_of_lt (Nat.lt_of_lt_of_le (Nat.lt_of_lt_of_le P159_1.lt (Nat.le_trans (Nat.le_trans K166.1 K184.1) K201.1)) P217_0)))
      have ne226 : ma_218 ≠ b102 := (Ne.symm (Nat.ne_of_lt (Nat.lt_of_lt_of_le (Nat.lt_of_lt_of_le G102.lt (Nat.le_trans (Nat.le_trans (Nat.le_trans (Nat.le_trans (Nat.le_trans (Nat.le_trans (Nat.le_trans (Nat.le_trans (Nat.le_trans K107.1 K110.1) K123.1) K134.1) K144.1) K150.1) K159.1) K166.1) K184.1) K201.1)) P217_0)))
      have O227 : Old Z n0 h217 := ((O202.keep K201 (allS gn167 all0)).keep K217 all0)
      have F228 : BD Z h217 r_128 v_129 := ((F205.keep K201 (ninS ne188 nin0)).keep K217 nin0)
      have F229 : BD Z h217 r_116 v_117 := (((F191.keep K184 (ninS ne190 nin0)).keep K201 (ninS ne190 nin0)).keep K217 nin0)
      have ne230 : r_176 ≠ ma_160 := (Exa.neArv (((P166_1.1.keep K184).keep K201).keep K217) F222 (w138 hw))
      have F231 : BD Z h217 r_176 v_177 := (((P166_1.keep K184 (ninS ne230 nin0)).keep K201 (ninS ne230 nin0)).keep K217 nin0)
      have z235 : n0 ≤ h217.size := (Nat.le_trans z210 (Nat.le_trans K201.1 K217.1))
      obtain ⟨T223, L223, h223, X223, e223, r_232, v_233, s8_234, Nl223, K223, P223_0, P223_1, P223_2, P223_3, st223⟩ := rm_sg2A hx hZ hw hby hml hown (by decide) (by decide) (by decide) (by decide) ll ct 1 3 b102 ma_160 (2 : Int32) ma_218 2 s8_209 k102 km_161 km_219 [(.ref zr), (.ref r_116), (.ref r_128), (.ref r_139)] [.null, (.ref r_176), (.ref r_194), (.ref r_207)] [.null, .null, .null, .null] r_128 r_116 r_176 v_129 v_117 v_177 zt kz zl n0 S_zt V_zt hzl hz (nb rfl) (nb rfl) (nb rfl) (nb rfl) rfl rfl rfl rfl rfl (Bn.mono hbd130 (by decide)) (Bn.mono hbd119 (by decide)) (Bn.mono hbd180 (by decide)) gn224 P217_2 P201_5 ne225 ne226 T217 _ h217 X217 e217 Nl217 z235 O227 F221 F222 J220 F228 F229 F231
      have hbd236 : Bn 4 v_233 := own_bA hbd180 hbd130 hbd119 P223_2 (Nat.le_of_ble_eq_true rfl)
      have J237 : Arv Z h223 ma_218 km_219 (.object "java/math/BigDecimal") (4 : Int32) [.null, .null, (.ref r_232), .null] .null := P223_0
      have F238 : Arv Z h223 b102 k102 (.object "java/math/BigDecimal") (4 : Int32) [(.ref zr), (.ref r_116), (.ref r_128), (.ref r_139)] .null := (F221.keep K223 (ninS (Ne.symm ne226) nin0))
      have F239 : Arv Z h223 ma_160 km_161 (.object "java/math/BigDecimal") (4 : Int32) [.null, (.ref r_176), (.ref r_194), (.ref r_207)] .null := (F222.keep K223 (ninS (Ne.symm ne225) nin0))
      have O241 : Old Z n0 h223 := (O227.keep K223 (allS gn224 all0))
      have ne242 : r_139 ≠ ma_218 := (Nat.ne_of_lt (Nat.lt_of_lt_of_le (Nat.lt_of_lt_of_le P134_1.lt (Nat.le_trans (Nat.le_trans (Nat.le_trans (Nat.le_trans (Nat.le_trans K144.1 K150.1) K159.1) K166.1) K184.1) K201.1)) P217_0))
      have F243 : BD Z h223 r_139 v_140 := (((F204.keep K201 (ninS ne203 nin0)).keep K217 nin0).keep K223 (ninS ne242 nin0))
      have ne244 : r_128 ≠ ma_218 := (Nat.ne_of_lt (Nat.lt_of_lt_of_le (Nat.lt_of_lt_of_le P123_1.lt (Nat.le_trans (Nat.le_trans (Nat.le_trans (Nat.le_trans (Nat.le_trans (Nat.le_trans K134.1 K144.1) K150.1) K159.1) K166.1) K184.1) K201.1)) P217_0))
      have F245 : BD Z h223 r_128 v_129 := (F228.keep K223 (ninS ne244 nin0))
      have ne246 : r_194 ≠ ma_160 := (Exa.neArv (((P184_1.1.keep K201).keep K217).keep K223) F239 (w138 hw))
      have ne247 : r_194 ≠ ma_218 := (Nat.ne_of_lt (Nat.lt_of_lt_of_le (Nat.lt_of_lt_of_le P184_1.lt K201.1) P217_0))
      have F248 : BD Z h223 r_194 v_195 := (((P184_1.keep K201 (ninS ne246 nin0)).keep K217 nin0).keep K223 (ninS ne247 nin0))
      obtain ⟨T240, L240, h240, X240, e240, r_249, v_250, s8_251, Nl240, K240, P240_0, P240_1, P240_2, P240_3, P240_4, P240_5, st240⟩ := rm_sg2B hx hZ hw hby hml hown (by decide) (by decide) (by decide) (by decide) ll ct 1 3 b102 ma_160 (2 : Int32) ma_218 3 s8_234 k102 km_161 km_219 [(.ref zr), (.ref r_116), (.ref r_128), (.ref r_139)] [.null, (.ref r_176), (.ref r_194), (.ref r_207)] [.null, .null, (.ref r_232), .null] r_139 r_128 r_194 v_140 v_129 v_195 r_232 v_233 zt kz zl n0 S_zt V_zt hzl hz (nb rfl) (nb rfl) (nb rfl) (nb rfl) rfl rfl rfl rfl rfl (Bn.mono hbd142 (by decide)) (Bn.mono hbd130 (by decide)) (Bn.mono hbd197 (by decide)) (Bn.mono hbd236 (by decide)) gn224 P217_2 P223_3 ne225 ne226 T223 _ h223 X223 e223 Nl223 (Nat.le_trans z235 K223.1) O241 F238 F239 J237 F243 F245 F248 P223_1
      have hbd252 : Bn 8 v_250 := own_bE hbd236 hbd197 hbd142 hbd130 P240_2 (Nat.le_of_ble_eq_true rfl) (nb rfl)
      have J253 : Arv Z h240 ma_218 km_219 (.object "java/math/BigDecimal") (4 : Int32) [.null, .null, (.ref r_232), (.ref r_249)] .null := P240_0
      have KA254 : Keep h0 h240 [] := (Keep.trans (Keep.trans (Keep.trans KA213 K217 all0) K223 (allS (Or.inr (Nat.le_trans (Nat.le_trans (Nat.le_trans (Nat.le_trans (Nat.le_trans (Nat.le_trans (Nat.le_trans (Nat.le_trans (Nat.le_trans (Nat.le_trans (Nat.le_trans K102.1 K107.1) K110.1) K123.1) K134.1) K144.1) K150.1) K159.1) K166.1) K184.1) K201.1) P217_0)) all0)) K240 (allS (Or.inr (Nat.le_trans (Nat.le_trans (Nat.le_trans (Nat.le_trans (Nat.le_trans (Nat.le_trans (Nat.le_trans (Nat.le_trans (Nat.le_trans (Nat.le_trans (Nat.le_trans K102.1 K107.1) K110.1) K123.1) K134.1) K144.1) K150.1) K159.1) K166.1) K184.1) K201.1) P217_0)) all0))
      have W255 : ∀ zQ, SS p e below T240 m 82 #[.val (.ref ll), .val (.int ct), .val (.int (1 : Int32)), .val (.int (3 : Int32)), .val (.ref b102), .val (.ref ma_218), .val (.int (3 : Int32)), .val (.ref ma_218), .val (.int (4 : Int32)), s8_251] [] zQ → Steps p.tables e below (s₁.setTop (entryFrame m #[(.ref ll), (.int ct), (.int le)] 10)) zQ := by
        intro tt kt
        refine W214 tt ?_
        refine st217 _ ?_
        show SS p e below T217 m 102 #[.val (.ref ll), .val (.int ct), .val (.int (Int32.ofNat 1)), .val (.int (Int32.ofNat 3)), .val (.ref b102), .val (.ref ma_160), .val (.int (Int32.ofNat 2)), .val (.ref ma_218), .val (.int (Int32.ofNat (2 * 1))), s8_209] [] _
        refine st223 _ ?_
        show SS p e below T223 m 102 #[.val (.ref ll), .val (.int ct), .val (.int (Int32.ofNat 1)), .val (.int (Int32.ofNat 3)), .val (.ref b102), .val (.ref ma_160), .val (.int (2 : Int32)), .val (.ref ma_218), .val (.int (Int32.ofNat (2 + 1))), s8_234] [] _
        refine st240 _ ?_
        show SS p e below T240 m 102 #[.val (.ref ll), .val (.int ct), .val (.int (Int32.ofNat 1)), .val (.int (Int32.ofNat 3)), .val (.ref b102), .val (.ref ma_160), .val (.int (2 : Int32)), .val (.ref ma_218), .val (.int (Int32.ofNat (3 + 1))), s8_251] [] _
        refine XS.iload X240.here hx rfl (D_ d31_102) rfl ?_
        refine XS.iloadN X240.here hx rfl (D_ d31_104) rfl ?_
        refine XS.icmpYes X240.here hx rfl (pc0 := 105) (pc' := 173) rfl (D_ d31_105) rfl (tlt (by decide)).2.2.1 (by decide) (by decide) ?_
        refine XS.aload X240.here hx rfl (D_ d31_173) rfl rfl ?_
        refine XS.astore X240.here hx rfl (D_ d31_175) rfl rfl (l' := #[.val (.ref ll), .val (.int ct), .val (.int (1 : Int32)), .val (.int (3 : Int32)), .val (.ref b102), .val (.ref ma_218), .val (.int (2 : Int32)), .val (.ref ma_218), .val (.int (4 : Int32)), s8_251]) rfl ?_
        refine XS.iinc X240.here hx rfl (D_ d31_177) rfl (l' := #[.val (.ref ll), .val (.int ct), .val (.int (1 : Int32)), .val (.int (3 : Int32)), .val (.ref b102), .val (.ref ma_218), .val (.int (3 : Int32)), .val (.ref ma_218), .val (.int (4 : Int32)), s8_251]) rfl ?_
        refine XS.goto X240.here hx rfl (pc0 := 180) (pc' := 82) rfl (D_ d31_180) (by decide) (by decide) ?_
        exact kt
      rcases hc with hct | hc
      ·
        obtain ⟨cl256, Ar256, q256, S256, M256, H256, F256g⟩ := id J253
        have hin256 : ¬ ((3 : Int32) < 0 ∨ cl256.slots.size ≤ ((3 : Int32)).toNatClampNeg) := inb_of S256 ⟨by decide, by decide⟩
        have hat256 : cl256.slots[((3 : Int32)).toNatClampNeg]? = some (.ref r_249) := Has.at H256 hin256 rfl
        have W257 : ∀ zQ, SS p e below T240 m 187 #[.val (.ref ll), .val (.int (2 : Int32)), .val (.int (1 : Int32)), .val (.int (3 : Int32)), .val (.ref b102), .val (.ref ma_218), .val (.int (3 : Int32)), .val (.ref ma_218), .val (.int (4 : Int32)), s8_251] [(.ref r_249)] zQ → Steps p.tables e below (s₁.setTop (entryFrame m #[(.ref ll), (.int ct), (.int le)] 10)) zQ := by
          intro tt kt
          refine W255 tt ?_
          rw [show ct = (2 : Int32) from hct]
          refine XS.iload X240.here hx rfl (D_ d31_82) rfl ?_
          refine XS.iloadN X240.here hx rfl (D_ d31_84) rfl ?_
          refine XS.icmpYes X240.here hx rfl (pc0 := 85) (pc' := 183) rfl (D_ d31_85) rfl (tlt (by decide)).2.2.1 (by decide) (by decide) ?_
          refine XS.aload X240.here hx rfl (D_ d31_183) rfl rfl ?_
          refine XS.iloadN X240.here hx rfl (D_ d31_185) rfl ?_
          refine X240.aaload hx (j := (3 : Int32)) (v := (.ref r_249)) (by first | exact Ar256.1 | (rw [e240]; exact Ar256.1)) (State.isArrayOf_alike hZ.alike Ar256.2.1) rfl Ar256.2.2 hin256 hat256 (g := (mkF m 186 #[.val (.ref ll), .val (.int (2 : Int32)), .val (.int (1 : Int32)), .val (.int (3 : Int32)), .val (.ref b102), .val (.ref ma_218), .val (.int (3 : Int32)), .val (.ref ma_218), .val (.int (4 : Int32)), s8_251] [(.int (3 : Int32)), (.ref ma_218)])) rfl rfl (D_ d31_186) _ ?_
          exact kt
        obtain ⟨fs, hr, hrun, hended, hW, hsame⟩ := X240.leave (v := some (.ref r_249)) (fun h => by rw [Bd.returns] at h; cases h)
        refine ⟨_, _, W257 _ (own_retR X240 hx Bd.returns rfl rfl (D_ d31_187) hr), hrun, hended, _, _, rfl, ?_, ⟨_, rfl⟩, hW, hsame.mono (by decide) (by decide)⟩
        show Q_tot3 Z ll ct le d kd p1 p2 p3 x0 x1 x2 x3 zt kz zl zr h0 n0 _ T240.heap _
        rw [e240]
        exact ⟨r_249, v_250, rfl, Nl240, KA254, P240_1, (by rw [hct, hle]; rw [dpl3_21]; exact (own_dp23 P110_2 P123_2 P134_2 P166_2 P184_2 P184_3 P184_4 P223_2 P240_2 P240_3 P240_4)), (Bn.mono hbd252 (by decide))⟩
      ·
        have z261 : n0 ≤ h240.size := (Nat.le_trans z235 (Nat.le_trans K223.1 K240.1))
        obtain ⟨T258, L258, h258, X258, e258, ma_259, km_260, Nl258, K258, P258_0, P258_1, P258_2, st258⟩ := rm_sg0 hx hZ hw hby hml hown (by decide) (by decide) (by decide) (by decide) ll ct 1 3 b102 ma_218 3 (.val (.ref ma_218)) (.val (.int (4 : Int32))) s8_251 n0 (by rw [hc]; decide) (nb rfl) (nb rfl) (One.val rfl) (One.val rfl) T240 _ h240 X240 e240 Nl240 z261 
        have J262 : Arv Z h258 ma_259 km_260 (.object "java/math/BigDecimal") (4 : Int32) [.null, .null, .null, .null] .null := Arv.pad P258_1 (pad_rep [] .null 4)
        have F263 : Arv Z h258 b102 k102 (.object "java/math/BigDecimal") (4 : Int32) [(.ref zr), (.ref r_116), (.ref r_128), (.ref r_139)] .null := ((F238.keep K240 (ninS (Ne.symm ne226) nin0)).keep K258 nin0)
        have F264 : Arv Z h258 ma_218 km_219 (.object "java/math/BigDecimal") (4 : Int32) [.null, .null, (.ref r_232), (.ref r_249)] .null := (J253.keep K258 nin0)
        have gn266 : n0 ≤ ma_259 := Nat.le_trans Z0 (Nat.le_trans (Nat.le_trans (Nat.le_trans (Nat.le_trans (Nat.le_trans (Nat.le_trans (Nat.le_trans (Nat.le_trans (Nat.le_trans (Nat.le_trans (Nat.le_trans (Nat.le_trans (Nat.le_trans (Nat.le_trans K102.1 K107.1) K110.1) K123.1) K134.1) K144.1) K150.1) K159.1) K166.1) K184.1) K201.1) K217.1) K223.1) K240.1) P258_0)
        have ne267 : ma_259 ≠ ma_218 := (Ne.symm (Nat.ne_of_lt (Nat.lt_of_lt_of_le (Nat.lt_of_lt_of_le P217_1.lt (Nat.le_trans K223.1 K240.1)) P258_0)))
        have ne268 : ma_259 ≠ b102 := (Ne.symm (Nat.ne_of_lt (Nat.lt_of_lt_of_le (Nat.lt_of_lt_of_le G102.lt (Nat.le_trans (Nat.le_trans (Nat.le_trans (Nat.le_trans (Nat.le_trans (Nat.le_trans (Nat.le_trans (Nat.le_trans (Nat.le_trans (Nat.le_trans (Nat.le_trans (Nat.le_trans K107.1 K110.1) K123.1) K134.1) K144.1) K150.1) K159.1) K166.1) K184.1) K201.1) K217.1) K223.1) K240.1)) P258_0)))
        have O269 : Old Z n0 h258 := ((O241.keep K240 (allS gn224 all0)).keep K258 all0)
        have F270 : BD Z h258 r_139 v_140 := ((F243.keep K240 (ninS ne242 nin0)).keep K258 nin0)
        have F271 : BD Z h258 r_128 v_129 := ((F245.keep K240 (ninS ne244 nin0)).keep K258 nin0)
        have F272 : BD Z h258 r_232 v_233 := ((P223_1.keep K240 (ninS (Exa.neArv ((P223_1.1.keep K240).keep K258) F264 (w138 hw)) nin0)).keep K258 nin0)
        obtain ⟨T265, L265, h265, X265, e265, r_273, v_274, s8_275, Nl265, K265, P265_0, P265_1, P265_2, P265_3, st265⟩ := rm_sg2A hx hZ hw hby hml hown (by decide) (by decide) (by decide) (by decide) ll ct 1 3 b102 ma_218 (3 : Int32) ma_259 3 s8_251 k102 km_219 km_260 [(.ref zr), (.ref r_116), (.ref r_128), (.ref r_139)] [.null, .null, (.ref r_232), (.ref r_249)] [.null, .null, .null, .null] r_139 r_128 r_232 v_140 v_129 v_233 zt kz zl n0 S_zt V_zt hzl hz (nb rfl) (nb rfl) (nb rfl) (nb rfl) rfl rfl rfl rfl rfl (Bn.mono hbd142 (by decide)) (Bn.mono hbd130 (by decide)) (Bn.mono hbd236 (by decide)) gn266 P258_2 P240_5 ne267 ne268 T258 _ h258 X258 e258 Nl258 (Nat.le_trans z261 K258.1) O269 F263 F264 J262 F270 F271 F272
        have hbd276 : Bn 9 v_274 := own_bA hbd236 hbd142 hbd130 P265_2 (Nat.le_of_ble_eq_true rfl)
        have J277 : Arv Z h265 ma_259 km_260 (.object "java/math/BigDecimal") (4 : Int32) [.null, .null, .null, (.ref r_273)] .null := P265_0
        have KA278 : Keep h0 h265 [] := (Keep.trans (Keep.trans KA254 K258 all0) K265 (allS (Or.inr (Nat.le_trans (Nat.le_trans (Nat.le_trans (Nat.le_trans (Nat.le_trans (Nat.le_trans (Nat.le_trans (Nat.le_trans (Nat.le_trans (Nat.le_trans (Nat.le_trans (Nat.le_trans (Nat.le_trans (Nat.le_trans K102.1 K107.1) K110.1) K123.1) K134.1) K144.1) K150.1) K159.1) K166.1) K184.1) K201.1) K217.1) K223.1) K240.1) P258_0)) all0))
        have hct := hc
        obtain ⟨cl279, Ar279, q279, S279, M279, H279, F279g⟩ := id J277
        have hin279 : ¬ ((3 : Int32) < 0 ∨ cl279.slots.size ≤ ((3 : Int32)).toNatClampNeg) := inb_of S279 ⟨by decide, by decide⟩
        have hat279 : cl279.slots[((3 : Int32)).toNatClampNeg]? = some (.ref r_273) := Has.at H279 hin279 rfl
        have W280 : ∀ zQ, SS p e below T265 m 187 #[.val (.ref ll), .val (.int (3 : Int32)), .val (.int (1 : Int32)), .val (.int (3 : Int32)), .val (.ref b102), .val (.ref ma_259), .val (.int (4 : Int32)), .val (.ref ma_259), .val (.int (4 : Int32)), s8_275] [(.ref r_273)] zQ → Steps p.tables e below (s₁.setTop (entryFrame m #[(.ref ll), (.int ct), (.int le)] 10)) zQ := by
          intro tt kt
          refine W255 tt ?_
          refine st258 _ ?_
          show SS p e below T258 m 102 #[.val (.ref ll), .val (.int ct), .val (.int (Int32.ofNat 1)), .val (.int (Int32.ofNat 3)), .val (.ref b102), .val (.ref ma_218), .val (.int (Int32.ofNat 3)), .val (.ref ma_259), .val (.int (Int32.ofNat (3 * 1))), s8_251] [] _
          refine st265 _ ?_
          show SS p e below T265 m 102 #[.val (.ref ll), .val (.int ct), .val (.int (Int32.ofNat 1)), .val (.int (Int32.ofNat 3)), .val (.ref b102), .val (.ref ma_218), .val (.int (3 : Int32)), .val (.ref ma_259), .val (.int (Int32.ofNat (3 + 1))), s8_275] [] _
          refine XS.iload X265.here hx rfl (D_ d31_102) rfl ?_
          refine XS.iloadN X265.here hx rfl (D_ d31_104) rfl ?_
          refine XS.icmpYes X265.here hx rfl (pc0 := 105) (pc' := 173) rfl (D_ d31_105) rfl (tlt (by decide)).2.2.1 (by decide) (by decide) ?_
          refine XS.aload X265.here hx rfl (D_ d31_173) rfl rfl ?_
          refine XS.astore X265.here hx rfl (D_ d31_175) rfl rfl (l' := #[.val (.ref ll), .val (.int ct), .val (.int (1 : Int32)), .val (.int (3 : Int32)), .val (.ref b102), .val (.ref ma_259), .val (.int (3 : Int32)), .val (.ref ma_259), .val (.int (4 : Int32)), s8_275]) rfl ?_
          refine XS.iinc X265.here hx rfl (D_ d31_177) rfl (l' := #[.val (.ref ll), .val (.int ct), .val (.int (1 : Int32)), .val (.int (3 : Int32)), .val (.ref b102), .val (.ref ma_259), .val (.int (4 : Int32)), .val (.ref ma_259), .val (.int (4 : Int32)), s8_275]) rfl ?_
          refine XS.goto X265.here hx rfl (pc0 := 180) (pc' := 82) rfl (D_ d31_180) (by decide) (by decide) ?_
          show SS p e below T265 m 82 #[.val (.ref ll), .val (.int ct), .val (.int (1 : Int32)), .val (.int (3 : Int32)), .val (.ref b102), .val (.ref ma_259), .val (.int (4 : Int32)), .val (.ref ma_259), .val (.int (4 : Int32)), s8_275] [] _
          rw [show ct = (3 : Int32) from hct]
          refine XS.iload X265.here hx rfl (D_ d31_82) rfl ?_
          refine XS.iloadN X265.here hx rfl (D_ d31_84) rfl ?_
          refine XS.icmpYes X265.here hx rfl (pc0 := 85) (pc' := 183) rfl (D_ d31_85) rfl (tlt (by decide)).2.2.1 (by decide) (by decide) ?_
          refine XS.aload X265.here hx rfl (D_ d31_183) rfl rfl ?_
          refine XS.iloadN X265.here hx rfl (D_ d31_185) rfl ?_
          refine X265.aaload hx (j := (3 : Int32)) (v := (.ref r_273)) (by first | exact Ar279.1 | (rw [e265]; exact Ar279.1)) (State.isArrayOf_alike hZ.alike Ar279.2.1) rfl Ar279.2.2 hin279 hat279 (g := (mkF m 186 #[.val (.ref ll), .val (.int (3 : Int32)), .val (.int (1 : Int32)), .val (.int (3 : Int32)), .val (.ref b102), .val (.ref ma_259), .val (.int (4 : Int32)), .val (.ref ma_259), .val (.int (4 : Int32)), s8_275] [(.int (3 : Int32)), (.ref ma_259)])) rfl rfl (D_ d31_186) _ ?_
          exact kt
        obtain ⟨fs, hr, hrun, hended, hW, hsame⟩ := X265.leave (v := some (.ref r_273)) (fun h => by rw [Bd.returns] at h; cases h)
        refine ⟨_, _, W280 _ (own_retR X265 hx Bd.returns rfl rfl (D_ d31_187) hr), hrun, hended, _, _, rfl, ?_, ⟨_, rfl⟩, hW, hsame.mono (by decide) (by decide)⟩
        show Q_tot3 Z ll ct le d kd p1 p2 p3 x0 x1 x2 x3 zt kz zl zr h0 n0 _ T265.heap _
        rw [e265]
        exact ⟨r_273, v_274, rfl, Nl265, KA278, P265_1, (by rw [hct, hle]; rw [dpl3_31]; exact (own_dp24 P110_2 P123_2 P134_2 P166_2 P223_2 P265_2)), (Bn.mono hbd276 (by decide))⟩
  ·
    obtain ⟨T281, L281, h281, X281, e281, ma_282, km_283, Nl281, K281, P281_0, P281_1, P281_2, st281⟩ := rm_sg0 hx hZ hw hby hml hown (by decide) (by decide) (by decide) (by decide) ll ct 2 3 b102 b144 1 (.unset) (.unset) (.unset) n0 (by rw [hc]; decide) (nb rfl) (nb rfl) One.u One.u T150 _ T150.heap X150 rfl N150 (Nat.le_trans z151 K150.1) 
    have J284 : Arv Z h281 ma_282 km_283 (.object "java/math/BigDecimal") (4 : Int32) [.null, .null, .null, .null] .null := Arv.pad P281_1 (pad_rep [] .null 4)
    have ne285 : b102 ≠ b144 := (Nat.ne_of_lt (Nat.lt_of_lt_of_le (Nat.lt_of_lt_of_le G102.lt (Nat.le_trans (Nat.le_trans (Nat.le_trans K107.1 K110.1) K123.1) K134.1)) (Nat.le_of_eq g144.symm)))
    have F286 : Arv Z h281 b102 k102 (.object "java/math/BigDecimal") (4 : Int32) [(.ref zr), (.ref r_116), (.ref r_128), (.ref r_139)] .null := (((J143.keep K144 nin0).keep K150 (ninS ne285 nin0)).keep K281 nin0)
    have F287 : Arv Z h281 b144 k144 (.object "java/math/BigDecimal") (4 : Int32) [(.ref zr), (.ref zr), (.ref zr), (.ref zr)] .null := (J152.keep K281 nin0)
    have gn289 : n0 ≤ ma_282 := Nat.le_trans Z0 (Nat.le_trans (Nat.le_trans (Nat.le_trans (Nat.le_trans (Nat.le_trans (Nat.le_trans (Nat.le_trans K102.1 K107.1) K110.1) K123.1) K134.1) K144.1) K150.1) P281_0)
    have ne290 : ma_282 ≠ b144 := (Ne.symm (Nat.ne_of_lt (Nat.lt_of_lt_of_le (Nat.lt_of_lt_of_le G144.lt K150.1) P281_0)))
    have ne291 : ma_282 ≠ b102 := (Ne.symm (Nat.ne_of_lt (Nat.lt_of_lt_of_le (Nat.lt_of_lt_of_le G102.lt (Nat.le_trans (Nat.le_trans (Nat.le_trans (Nat.le_trans (Nat.le_trans K107.1 K110.1) K123.1) K134.1) K144.1) K150.1)) P281_0)))
    have O292 : Old Z n0 h281 := ((O146.keep K150 (allS gn149 all0)).keep K281 all0)
    have ne293 : r_128 ≠ b102 := (Exa.neArv ((((P123_1.1.keep K134).keep K144).keep K150).keep K281) F286 (w138 hw))
    have ne294 : r_128 ≠ b144 := (Nat.ne_of_lt (Nat.lt_of_lt_of_le (Nat.lt_of_lt_of_le P123_1.lt K134.1) (Nat.le_of_eq g144.symm)))
    have F295 : BD Z h281 r_128 v_129 := ((((P123_1.keep K134 (ninS ne293 nin0)).keep K144 nin0).keep K150 (ninS ne294 nin0)).keep K281 nin0)
    have ne296 : zr ≠ b144 := (Nat.ne_of_lt (Nat.lt_of_lt_of_le (Nat.lt_of_lt_of_le B0106.lt (Nat.le_trans (Nat.le_trans (Nat.le_trans K107.1 K110.1) K123.1) K134.1)) (Nat.le_of_eq g144.symm)))
    have F297 : BD Z h281 zr (0 : Int64) := ((F148.keep K150 (ninS ne296 nin0)).keep K281 nin0)
    have z301 : n0 ≤ h281.size := (Nat.le_trans z151 (Nat.le_trans K150.1 K281.1))
    obtain ⟨T288, L288, h288, X288, e288, r_298, v_299, s8_300, Nl288, K288, P288_0, P288_1, P288_2, P288_3, st288⟩ := rm_sg2A hx hZ hw hby hml hown (by decide) (by decide) (by decide) (by decide) ll ct 2 3 b102 b144 (1 : Int32) ma_282 2 (.unset) k102 k144 km_283 [(.ref zr), (.ref r_116), (.ref r_128), (.ref r_139)] [(.ref zr), (.ref zr), (.ref zr), (.ref zr)] [.null, .null, .null, .null] r_128 zr zr v_129 (0 : Int64) (0 : Int64) zt kz zl n0 S_zt V_zt hzl hz (nb rfl) (nb rfl) (nb rfl) (nb rfl) rfl rfl rfl rfl rfl (Bn.mono hbd130 (by decide)) (Bn.mono own_bd0 (by decide)) (Bn.mono own_bd0 (by decide)) gn289 P281_2 One.u ne290 ne291 T281 _ h281 X281 e281 Nl281 z301 O292 F286 F287 J284 F295 F297 F297
    have hbd302 : Bn 2 v_299 := own_bA own_bd0 hbd130 own_bd0 P288_2 (Nat.le_of_ble_eq_true rfl)
    have J303 : Arv Z h288 ma_282 km_283 (.object "java/math/BigDecimal") (4 : Int32) [.null, .null, (.ref r_298), .null] .null := P288_0
    have F304 : Arv Z h288 b102 k102 (.object "java/math/BigDecimal") (4 : Int32) [(.ref zr), (.ref r_116), (.ref r_128), (.ref r_139)] .null := (F286.keep K288 (ninS (Ne.symm ne291) nin0))
    have F305 : Arv Z h288 b144 k144 (.object "java/math/BigDecimal") (4 : Int32) [(.ref zr), (.ref zr), (.ref zr), (.ref zr)] .null := (F287.keep K288 (ninS (Ne.symm ne290) nin0))
    have O307 : Old Z n0 h288 := (O292.keep K288 (allS gn289 all0))
    have ne308 : r_139 ≠ ma_282 := (Nat.ne_of_lt (Nat.lt_of_lt_of_le (Nat.lt_of_lt_of_le P134_1.lt (Nat.le_trans K144.1 K150.1)) P281_0))
    have F309 : BD Z h288 r_139 v_140 := ((((P134_1.keep K144 nin0).keep K150 (ninS (Nat.ne_of_lt (Nat.lt_of_lt_of_le P134_1.lt (Nat.le_of_eq g144.symm))) nin0)).keep K281 nin0).keep K288 (ninS ne308 nin0))
    have ne310 : r_116 ≠ b102 := (Exa.neArv ((((((P110_1.1.keep K123).keep K134).keep K144).keep K150).keep K281).keep K288) F304 (w138 hw))
    have ne311 : r_116 ≠ b144 := (Nat.ne_of_lt (Nat.lt_of_lt_of_le (Nat.lt_of_lt_of_le P110_1.lt (Nat.le_trans K123.1 K134.1)) (Nat.le_of_eq g144.symm)))
    have ne312 : r_116 ≠ ma_282 := (Nat.ne_of_lt (Nat.lt_of_lt_of_le (Nat.lt_of_lt_of_le P110_1.lt (Nat.le_trans (Nat.le_trans (Nat.le_trans K123.1 K134.1) K144.1) K150.1)) P281_0))
    have F313 : BD Z h288 r_116 v_117 := ((((((P110_1.keep K123 (ninS ne310 nin0)).keep K134 (ninS ne310 nin0)).keep K144 nin0).keep K150 (ninS ne311 nin0)).keep K281 nin0).keep K288 (ninS ne312 nin0))
    have ne314 : zr ≠ ma_282 := (Nat.ne_of_lt (Nat.lt_of_lt_of_le (Nat.lt_of_lt_of_le B0106.lt (Nat.le_trans (Nat.le_trans (Nat.le_trans (Nat.le_trans (Nat.le_trans K107.1 K110.1) K123.1) K134.1) K144.1) K150.1)) P281_0))
    have F315 : BD Z h288 zr (0 : Int64) := (F297.keep K288 (ninS ne314 nin0))
    obtain ⟨T306, L306, h306, X306, e306, r_316, v_317, s8_318, Nl306, K306, P306_0, P306_1, P306_2, P306_3, P306_4, P306_5, st306⟩ := rm_sg2B hx hZ hw hby hml hown (by decide) (by decide) (by decide) (by decide) ll ct 2 3 b102 b144 (1 : Int32) ma_282 3 s8_300 k102 k144 km_283 [(.ref zr), (.ref r_116), (.ref r_128), (.ref r_139)] [(.ref zr), (.ref zr), (.ref zr), (.ref zr)] [.null, .null, (.ref r_298), .null] r_139 r_116 zr v_140 v_117 (0 : Int64) r_298 v_299 zt kz zl n0 S_zt V_zt hzl hz (nb rfl) (nb rfl) (nb rfl) (nb rfl) rfl rfl rfl rfl rfl (Bn.mono hbd142 (by decide)) (Bn.mono hbd119 (by decide)) (Bn.mono own_bd0 (by decide)) (Bn.mono hbd302 (by decide)) gn289 P281_2 P288_3 ne290 ne291 T288 _ h288 X288 e288 Nl288 (Nat.le_trans z301 K288.1) O307 F304 F305 J303 F309 F313 F315 P288_1
    have hbd319 : Bn 4 v_317 := own_bE hbd302 own_bd0 hbd142 hbd119 P306_2 (Nat.le_of_ble_eq_true rfl) (nb rfl)
    have J320 : Arv Z h306 ma_282 km_283 (.object "java/math/BigDecimal") (4 : Int32) [.null, .null, (.ref r_298), (.ref r_316)] .null := P306_0
    have KA321 : Keep h0 h306 [] := (Keep.trans (Keep.trans (Keep.trans KA154 K281 all0) K288 (allS (Or.inr (Nat.le_trans (Nat.le_trans (Nat.le_trans (Nat.le_trans (Nat.le_trans (Nat.le_trans (Nat.le_trans K102.1 K107.1) K110.1) K123.1) K134.1) K144.1) K150.1) P281_0)) all0)) K306 (allS (Or.inr (Nat.le_trans (Nat.le_trans (Nat.le_trans (Nat.le_trans (Nat.le_trans (Nat.le_trans (Nat.le_trans K102.1 K107.1) K110.1) K123.1) K134.1) K144.1) K150.1) P281_0)) all0))
    have hct := hc
    obtain ⟨cl322, Ar322, q322, S322, M322, H322, F322g⟩ := id J320
    have hin322 : ¬ ((3 : Int32) < 0 ∨ cl322.slots.size ≤ ((3 : Int32)).toNatClampNeg) := inb_of S322 ⟨by decide, by decide⟩
    have hat322 : cl322.slots[((3 : Int32)).toNatClampNeg]? = some (.ref r_316) := Has.at H322 hin322 rfl
    have W323 : ∀ zQ, SS p e below T306 m 187 #[.val (.ref ll), .val (.int (1 : Int32)), .val (.int (2 : Int32)), .val (.int (3 : Int32)), .val (.ref b102), .val (.ref ma_282), .val (.int (2 : Int32)), .val (.ref ma_282), .val (.int (4 : Int32)), s8_318] [(.ref r_316)] zQ → Steps p.tables e below (s₁.setTop (entryFrame m #[(.ref ll), (.int ct), (.int le)] 10)) zQ := by
      intro tt kt
      refine W153 tt ?_
      rw [show le = (2 : Int32) from hle]
      refine XS.iconst X150.here hx rfl (D_ d31_79) ?_
      refine XS.istore X150.here hx rfl (D_ d31_80) rfl (l' := #[.val (.ref ll), .val (.int ct), .val (.int (2 : Int32)), .val (.int (3 : Int32)), .val (.ref b102), .val (.ref b144), .val (.int (1 : Int32)), .unset, .unset, .unset]) rfl ?_
      refine st281 _ ?_
      show SS p e below T281 m 102 #[.val (.ref ll), .val (.int ct), .val (.int (Int32.ofNat 2)), .val (.int (Int32.ofNat 3)), .val (.ref b102), .val (.ref b144), .val (.int (Int32.ofNat 1)), .val (.ref ma_282), .val (.int (Int32.ofNat (1 * 2))), (.unset)] [] _
      refine st288 _ ?_
      show SS p e below T288 m 102 #[.val (.ref ll), .val (.int ct), .val (.int (Int32.ofNat 2)), .val (.int (Int32.ofNat 3)), .val (.ref b102), .val (.ref b144), .val (.int (1 : Int32)), .val (.ref ma_282), .val (.int (Int32.ofNat (2 + 1))), s8_300] [] _
      refine st306 _ ?_
      show SS p e below T306 m 102 #[.val (.ref ll), .val (.int ct), .val (.int (Int32.ofNat 2)), .val (.int (Int32.ofNat 3)), .val (.ref b102), .val (.ref b144), .val (.int (1 : Int32)), .val (.ref ma_282), .val (.int (Int32.ofNat (3 + 1))), s8_318] [] _
      refine XS.iload X306.here hx rfl (D_ d31_102) rfl ?_
      refine XS.iloadN X306.here hx rfl (D_ d31_104) rfl ?_
      refine XS.icmpYes X306.here hx rfl (pc0 := 105) (pc' := 173) rfl (D_ d31_105) rfl (tlt (by decide)).2.2.1 (by decide) (by decide) ?_
      refine XS.aload X306.here hx rfl (D_ d31_173) rfl rfl ?_
      refine XS.astore X306.here hx rfl (D_ d31_175) rfl rfl (l' := #[.val (.ref ll), .val (.int ct), .val (.int (2 : Int32)), .val (.int (3 : Int32)), .val (.ref b102), .val (.ref ma_282), .val (.int (1 : Int32)), .val (.ref ma_282), .val (.int (4 : Int32)), s8_318]) rfl ?_
      refine XS.iinc X306.here hx rfl (D_ d31_177) rfl (l' := #[.val (.ref ll), .val (.int ct), .val (.int (2 : Int32)), .val (.int (3 : Int32)), .val (.ref b102), .val (.ref ma_282), .val (.int (2 : Int32)), .val (.ref ma_282), .val (.int (4 : Int32)), s8_318]) rfl ?_
      refine XS.goto X306.here hx rfl (pc0 := 180) (pc' := 82) rfl (D_ d31_180) (by decide) (by decide) ?_
      show SS p e below T306 m 82 #[.val (.ref ll), .val (.int ct), .val (.int (2 : Int32)), .val (.int (3 : Int32)), .val (.ref b102), .val (.ref ma_282), .val (.int (2 : Int32)), .val (.ref ma_282), .val (.int (4 : Int32)), s8_318] [] _
      rw [show ct = (1 : Int32) from hct]
      refine XS.iload X306.here hx rfl (D_ d31_82) rfl ?_
      refine XS.iloadN X306.here hx rfl (D_ d31_84) rfl ?_
      refine XS.icmpYes X306.here hx rfl (pc0 := 85) (pc' := 183) rfl (D_ d31_85) rfl (tlt (by decide)).2.2.1 (by decide) (by decide) ?_
      refine XS.aload X306.here hx rfl (D_ d31_183) rfl rfl ?_
      refine XS.iloadN X306.here hx rfl (D_ d31_185) rfl ?_
      refine X306.aaload hx (j := (3 : Int32)) (v := (.ref r_316)) (by first | exact Ar322.1 | (rw [e306]; exact Ar322.1)) (State.isArrayOf_alike hZ.alike Ar322.2.1) rfl Ar322.2.2 hin322 hat322 (g := (mkF m 186 #[.val (.ref ll), .val (.int (1 : Int32)), .val (.int (2 : Int32)), .val (.int (3 : Int32)), .val (.ref b102), .val (.ref ma_282), .val (.int (2 : Int32)), .val (.ref ma_282), .val (.int (4 : Int32)), s8_318] [(.int (3 : Int32)), (.ref ma_282)])) rfl rfl (D_ d31_186) _ ?_
      exact kt
    obtain ⟨fs, hr, hrun, hended, hW, hsame⟩ := X306.leave (v := some (.ref r_316)) (fun h => by rw [Bd.returns] at h; cases h)
    refine ⟨_, _, W323 _ (own_retR X306 hx Bd.returns rfl rfl (D_ d31_187) hr), hrun, hended, _, _, rfl, ?_, ⟨_, rfl⟩, hW, hsame.mono (by decide) (by decide)⟩
    show Q_tot3 Z ll ct le d kd p1 p2 p3 x0 x1 x2 x3 zt kz zl zr h0 n0 _ T306.heap _
    rw [e306]
    exact ⟨r_316, v_317, rfl, Nl306, KA321, P306_1, (by rw [hct, hle]; rw [dpl3_12]; exact (own_dp25 P110_2 P123_2 P134_2 P288_2 P306_2 P306_3 P306_4)), (Bn.mono hbd319 (by decide))⟩
  ·
    obtain ⟨T324, L324, h324, X324, e324, ma_325, km_326, Nl324, K324, P324_0, P324_1, P324_2, st324⟩ := rm_sg0 hx hZ hw hby hml hown (by decide) (by decide) (by decide) (by decide) ll ct 3 3 b102 b144 1 (.unset) (.unset) (.unset) n0 (by rw [hc]; decide) (nb rfl) (nb rfl) One.u One.u T150 _ T150.heap X150 rfl N150 (Nat.le_trans z151 K150.1) 
    have J327 : Arv Z h324 ma_325 km_326 (.object "java/math/BigDecimal") (4 : Int32) [.null, .null, .null, .null] .null := Arv.pad P324_1 (pad_rep [] .null 4)
    have ne328 : b102 ≠ b144 := (Nat.ne_of_lt (Nat.lt_of_lt_of_le (Nat.lt_of_lt_of_le G102.lt (Nat.le_trans (Nat.le_trans (Nat.le_trans K107.1 K110.1) K123.1) K134.1)) (Nat.le_of_eq g144.symm)))
    have F329 : Arv Z h324 b102 k102 (.object "java/math/BigDecimal") (4 : Int32) [(.ref zr), (.ref r_116), (.ref r_128), (.ref r_139)] .null := (((J143.keep K144 nin0).keep K150 (ninS ne328 nin0)).keep K324 nin0)
    have F330 : Arv Z h324 b144 k144 (.object "java/math/BigDecimal") (4 : Int32) [(.ref zr), (.ref zr), (.ref zr), (.ref zr)] .null := (J152.keep K324 nin0)
    have gn332 : n0 ≤ ma_325 := Nat.le_trans Z0 (Nat.le_trans (Nat.le_trans (Nat.le_trans (Nat.le_trans (Nat.le_trans (Nat.le_trans (Nat.le_trans K102.1 K107.1) K110.1) K123.1) K134.1) K144.1) K150.1) P324_0)
    have ne333 : ma_325 ≠ b144 := (Ne.symm (Nat.ne_of_lt (Nat.lt_of_lt_of_le (Nat.lt_of_lt_of_le G144.lt K150.1) P324_0)))
    have ne334 : ma_325 ≠ b102 := (Ne.symm (Nat.ne_of_lt (Nat.lt_of_lt_of_le (Nat.lt_of_lt_of_le G102.lt (Nat.le_trans (Nat.le_trans (Nat.le_trans (Nat.le_trans (Nat.le_trans K107.1 K110.1) K123.1) K134.1) K144.1) K150.1)) P324_0)))
    have O335 : Old Z n0 h324 := ((O146.keep K150 (allS gn149 all0)).keep K324 all0)
    have F336 : BD Z h324 r_139 v_140 := (((P134_1.keep K144 nin0).keep K150 (ninS (Nat.ne_of_lt (Nat.lt_of_lt_of_le P134_1.lt (Nat.le_of_eq g144.symm))) nin0)).keep K324 nin0)
    have ne337 : zr ≠ b144 := (Nat.ne_of_lt (Nat.lt_of_lt_of_le (Nat.lt_of_lt_of_le B0106.lt (Nat.le_trans (Nat.le_trans (Nat.le_trans K107.1 K110.1) K123.1) K134.1)) (Nat.le_of_eq g144.symm)))
    have F338 : BD Z h324 zr (0 : Int64) := ((F148.keep K150 (ninS ne337 nin0)).keep K324 nin0)
    have z342 : n0 ≤ h324.size := (Nat.le_trans z151 (Nat.le_trans K150.1 K324.1))
    obtain ⟨T331, L331, h331, X331, e331, r_339, v_340, s8_341, Nl331, K331, P331_0, P331_1, P331_2, P331_3, st331⟩ := rm_sg2A hx hZ hw hby hml hown (by decide) (by decide) (by decide) (by decide) ll ct 3 3 b102 b144 (1 : Int32) ma_325 3 (.unset) k102 k144 km_326 [(.ref zr), (.ref r_116), (.ref r_128), (.ref r_139)] [(.ref zr), (.ref zr), (.ref zr), (.ref zr)] [.null, .null, .null, .null] r_139 zr zr v_140 (0 : Int64) (0 : Int64) zt kz zl n0 S_zt V_zt hzl hz (nb rfl) (nb rfl) (nb rfl) (nb rfl) rfl rfl rfl rfl rfl (Bn.mono hbd142 (by decide)) (Bn.mono own_bd0 (by decide)) (Bn.mono own_bd0 (by decide)) gn332 P324_2 One.u ne333 ne334 T324 _ h324 X324 e324 Nl324 z342 O335 F329 F330 J327 F336 F338 F338
    have hbd343 : Bn 3 v_340 := own_bA own_bd0 hbd142 own_bd0 P331_2 (Nat.le_of_ble_eq_true rfl)
    have J344 : Arv Z h331 ma_325 km_326 (.object "java/math/BigDecimal") (4 : Int32) [.null, .null, .null, (.ref r_339)] .null := P331_0
    have KA345 : Keep h0 h331 [] := (Keep.trans (Keep.trans KA154 K324 all0) K331 (allS (Or.inr (Nat.le_trans (Nat.le_trans (Nat.le_trans (Nat.le_trans (Nat.le_trans (Nat.le_trans (Nat.le_trans K102.1 K107.1) K110.1) K123.1) K134.1) K144.1) K150.1) P324_0)) all0))
    have hct := hc
    obtain ⟨cl346, Ar346, q346, S346, M346, H346, F346g⟩ := id J344
    have hin346 : ¬ ((3 : Int32) < 0 ∨ cl346.slots.size ≤ ((3 : Int32)).toNatClampNeg) := inb_of S346 ⟨by decide, by decide⟩
    have hat346 : cl346.slots[((3 : Int32)).toNatClampNeg]? = some (.ref r_339) := Has.at H346 hin346 rfl
    have W347 : ∀ zQ, SS p e below T331 m 187 #[.val (.ref ll), .val (.int (1 : Int32)), .val (.int (3 : Int32)), .val (.int (3 : Int32)), .val (.ref b102), .val (.ref ma_325), .val (.int (2 : Int32)), .val (.ref ma_325), .val (.int (4 : Int32)), s8_341] [(.ref r_339)] zQ → Steps p.tables e below (s₁.setTop (entryFrame m #[(.ref ll), (.int ct), (.int le)] 10)) zQ := by
      intro tt kt
      refine W153 tt ?_
      rw [show le = (3 : Int32) from hle]
      refine XS.iconst X150.here hx rfl (D_ d31_79) ?_
      refine XS.istore X150.here hx rfl (D_ d31_80) rfl (l' := #[.val (.ref ll), .val (.int ct), .val (.int (3 : Int32)), .val (.int (3 : Int32)), .val (.ref b102), .val (.ref b144), .val (.int (1 : Int32)), .unset, .unset, .unset]) rfl ?_
      refine st324 _ ?_
      show SS p e below T324 m 102 #[.val (.ref ll), .val (.int ct), .val (.int (Int32.ofNat 3)), .val (.int (Int32.ofNat 3)), .val (.ref b102), .val (.ref b144), .val (.int (Int32.ofNat 1)), .val (.ref ma_325), .val (.int (Int32.ofNat (1 * 3))), (.unset)] [] _
      refine st331 _ ?_
      show SS p e below T331 m 102 #[.val (.ref ll), .val (.int ct), .val (.int (Int32.ofNat 3)), .val (.int (Int32.ofNat 3)), .val (.ref b102), .val (.ref b144), .val (.int (1 : Int32)), .val (.ref ma_325), .val (.int (Int32.ofNat (3 + 1))), s8_341] [] _
      refine XS.iload X331.here hx rfl (D_ d31_102) rfl ?_
      refine XS.iloadN X331.here hx rfl (D_ d31_104) rfl ?_
      refine XS.icmpYes X331.here hx rfl (pc0 := 105) (pc' := 173) rfl (D_ d31_105) rfl (tlt (by decide)).2.2.1 (by decide) (by decide) ?_
      refine XS.aload X331.here hx rfl (D_ d31_173) rfl rfl ?_
      refine XS.astore X331.here hx rfl (D_ d31_175) rfl rfl (l' := #[.val (.ref ll), .val (.int ct), .val (.int (3 : Int32)), .val (.int (3 : Int32)), .val (.ref b102), .val (.ref ma_325), .val (.int (1 : Int32)), .val (.ref ma_325), .val (.int (4 : Int32)), s8_341]) rfl ?_
      refine XS.iinc X331.here hx rfl (D_ d31_177) rfl (l' := #[.val (.ref ll), .val (.int ct), .val (.int (3 : Int32)), .val (.int (3 : Int32)), .val (.ref b102), .val (.ref ma_325), .val (.int (2 : Int32)), .val (.ref ma_325), .val (.int (4 : Int32)), s8_341]) rfl ?_
      refine XS.goto X331.here hx rfl (pc0 := 180) (pc' := 82) rfl (D_ d31_180) (by decide) (by decide) ?_
      show SS p e below T331 m 82 #[.val (.ref ll), .val (.int ct), .val (.int (3 : Int32)), .val (.int (3 : Int32)), .val (.ref b102), .val (.ref ma_325), .val (.int (2 : Int32)), .val (.ref ma_325), .val (.int (4 : Int32)), s8_341] [] _
      rw [show ct = (1 : Int32) from hct]
      refine XS.iload X331.here hx rfl (D_ d31_82) rfl ?_
      refine XS.iloadN X331.here hx rfl (D_ d31_84) rfl ?_
      refine XS.icmpYes X331.here hx rfl (pc0 := 85) (pc' := 183) rfl (D_ d31_85) rfl (tlt (by decide)).2.2.1 (by decide) (by decide) ?_
      refine XS.aload X331.here hx rfl (D_ d31_183) rfl rfl ?_
      refine XS.iloadN X331.here hx rfl (D_ d31_185) rfl ?_
      refine X331.aaload hx (j := (3 : Int32)) (v := (.ref r_339)) (by first | exact Ar346.1 | (rw [e331]; exact Ar346.1)) (State.isArrayOf_alike hZ.alike Ar346.2.1) rfl Ar346.2.2 hin346 hat346 (g := (mkF m 186 #[.val (.ref ll), .val (.int (1 : Int32)), .val (.int (3 : Int32)), .val (.int (3 : Int32)), .val (.ref b102), .val (.ref ma_325), .val (.int (2 : Int32)), .val (.ref ma_325), .val (.int (4 : Int32)), s8_341] [(.int (3 : Int32)), (.ref ma_325)])) rfl rfl (D_ d31_186) _ ?_
      exact kt
    obtain ⟨fs, hr, hrun, hended, hW, hsame⟩ := X331.leave (v := some (.ref r_339)) (fun h => by rw [Bd.returns] at h; cases h)
    refine ⟨_, _, W347 _ (own_retR X331 hx Bd.returns rfl rfl (D_ d31_187) hr), hrun, hended, _, _, rfl, ?_, ⟨_, rfl⟩, hW, hsame.mono (by decide) (by decide)⟩
    show Q_tot3 Z ll ct le d kd p1 p2 p3 x0 x1 x2 x3 zt kz zl zr h0 n0 _ T331.heap _
    rw [e331]
    exact ⟨r_339, v_340, rfl, Nl331, KA345, P331_1, (by rw [hct, hle]; rw [dpl3_13]; exact (own_dp26 P110_2 P123_2 P134_2 P331_2)), (Bn.mono hbd343 (by decide))⟩
theorem own_dp27 {A B C D v0 v1 v2 v3 v4 v5 v6 v7 : Int} (e0 : v0 = 0 + A) (e1 : v1 = v0 + B) (e2 : v2 = v1 + C) (e3 : v3 = v2 + D) (e4 : v4 = 0 + (v0 - 0)) (d5 : v5 = v4 ∨ v5 = 0 + (v1 - v0)) (l5 : v4 ≤ v5) (r5 : 0 + (v1 - v0) ≤ v5) (d6 : v6 = v5 ∨ v6 = 0 + (v2 - v1)) (l6 : v5 ≤ v6) (r6 : 0 + (v2 - v1) ≤ v6) (d7 : v7 = v6 ∨ v7 = 0 + (v3 - v2)) (l7 : v6 ≤ v7) (r7 : 0 + (v3 - v2) ≤ v7) : IsM v7 [A, B, C, D] := isM4 (by rcases d5 with d | d <;> rcases d6 with d | d <;> rcases d7 with d | d <;> first | (left; omega) | (right; left; omega) | (right; right; left; omega) | (right; right; right; omega)) (by omega) (by omega) (by omega) (by omega)
theorem own_dp28 {A B C D v0 v1 v2 v3 v4 v5 v6 v7 v8 v9 : Int} (e0 : v0 = 0 + A) (e1 : v1 = v0 + B) (e2 : v2 = v1 + C) (e3 : v3 = v2 + D) (e4 : v4 = 0 + (v0 - 0)) (d5 : v5 = v4 ∨ v5 = 0 + (v1 - v0)) (l5 : v4 ≤ v5) (r5 : 0 + (v1 - v0) ≤ v5) (d6 : v6 = v5 ∨ v6 = 0 + (v2 - v1)) (l6 : v5 ≤ v6) (r6 : 0 + (v2 - v1) ≤ v6) (e7 : v7 = v4 + (v1 - v0)) (d8 : v8 = v7 ∨ v8 = v5 + (v2 - v1)) (l8 : v7 ≤ v8) (r8 : v5 + (v2 - v1) ≤ v8) (d9 : v9 = v8 ∨ v9 = v6 + (v3 - v2)) (l9 : v8 ≤ v9) (r9 : v6 + (v3 - v2) ≤ v9) : IsM v9 [A + B, A + C, A + D, B + C, B + D, C + D] := isM6 (by rcases d5 with d | d <;> rcases d6 with d | d <;> rcases d8 with d | d <;> rcases d9 with d | d <;> first | (left; omega) | (right; left; omega) | (right; right; left; omega) | (right; right; right; left; omega) | (right; right; right; right; left; omega) | (right; right; right; right; right; omega)) (by omega) (by omega) (by omega) (by omega) (by omega) (by omega)
theorem own_dp29 {A B C D v0 v1 v2 v3 v4 v5 v6 v7 v8 v9 : Int} (e0 : v0 = 0 + A) (e1 : v1 = v0 + B) (e2 : v2 = v1 + C) (e3 : v3 = v2 + D) (e4 : v4 = 0 + (v0 - 0)) (d5 : v5 = v4 ∨ v5 = 0 + (v1 - v0)) (l5 : v4 ≤ v5) (r5 : 0 + (v1 - v0) ≤ v5) (e6 : v6 = v4 + (v1 - v0)) (d7 : v7 = v6 ∨ v7 = v5 + (v2 - v1)) (l7 : v6 ≤ v7) (r7 : v5 + (v2 - v1) ≤ v7) (e8 : v8 = v6 + (v2 - v1)) (d9 : v9 = v8 ∨ v9 = v7 + (v3 - v2)) (l9 : v8 ≤ v9) (r9 : v7 + (v3 - v2) ≤ v9) : IsM v9 [A + B + C, A + B + D, A + C + D, B + C + D] := isM4 (by rcases d5 with d | d <;> rcases d7 with d | d <;> rcases d9 with d | d <;> first | (left; omega) | (right; left; omega) | (right; right; left; omega) | (right; right; right; omega)) (by omega) (by omega) (by omega) (by omega)
theorem own_dp30 {A B C D v0 v1 v2 v3 v4 v5 v6 v7 : Int} (e0 : v0 = 0 + A) (e1 : v1 = v0 + B) (e2 : v2 = v1 + C) (e3 : v3 = v2 + D) (e4 : v4 = 0 + (v0 - 0)) (e5 : v5 = v4 + (v1 - v0)) (e6 : v6 = v5 + (v2 - v1)) (e7 : v7 = v6 + (v3 - v2)) : IsM v7 [A + B + C + D] := isM1 (by omega)
theorem own_dp31 {A B C D v0 v1 v2 v3 v4 v5 v6 : Int} (e0 : v0 = 0 + A) (e1 : v1 = v0 + B) (e2 : v2 = v1 + C) (e3 : v3 = v2 + D) (e4 : v4 = 0 + (v1 - 0)) (d5 : v5 = v4 ∨ v5 = 0 + (v2 - v0)) (l5 : v4 ≤ v5) (r5 : 0 + (v2 - v0) ≤ v5) (d6 : v6 = v5 ∨ v6 = 0 + (v3 - v1)) (l6 : v5 ≤ v6) (r6 : 0 + (v3 - v1) ≤ v6) : IsM v6 [A + B, B + C, C + D] := isM3 (by rcases d5 with d | d <;> rcases d6 with d | d <;> first | (left; omega) | (right; left; omega) | (right; right; omega)) (by omega) (by omega) (by omega)
theorem own_dp32 {A B C D v0 v1 v2 v3 v4 v5 : Int} (e0 : v0 = 0 + A) (e1 : v1 = v0 + B) (e2 : v2 = v1 + C) (e3 : v3 = v2 + D) (e4 : v4 = 0 + (v1 - 0)) (e5 : v5 = v4 + (v3 - v1)) : IsM v5 [A + B + C + D] := isM1 (by omega)
theorem own_dp33 {A B C D v0 v1 v2 v3 v4 v5 : Int} (e0 : v0 = 0 + A) (e1 : v1 = v0 + B) (e2 : v2 = v1 + C) (e3 : v3 = v2 + D) (e4 : v4 = 0 + (v2 - 0)) (d5 : v5 = v4 ∨ v5 = 0 + (v3 - v0)) (l5 : v4 ≤ v5) (r5 : 0 + (v3 - v0) ≤ v5) : IsM v5 [A + B + C, B + C + D] := isM2 (by rcases d5 with d | d <;> first | (left; omega) | (right; omega)) (by omega) (by omega)
theorem own_dp34 {A B C D v0 v1 v2 v3 v4 : Int} (e0 : v0 = 0 + A) (e1 : v1 = v0 + B) (e2 : v2 = v1 + C) (e3 : v3 = v2 + D) (e4 : v4 = 0 + (v3 - 0)) : IsM v4 [A + B + C + D] := isM1 (by omega)
def Q_tot4 (Z : State) (ll : Addr) (ct : Int32) (le : Int32) (d : Addr) (kd : ClassId) (p1 : Addr) (p2 : Addr) (p3 : Addr) (p4 : Addr) (x0 : Int64) (x1 : Int64) (x2 : Int64) (x3 : Int64) (zt : Addr) (kz : ClassId) (zl : List Addr) (zr : Addr) (h0 : Heap) (n0 : Nat) (vQ_ : Option Value) (hQ_ : Heap) (LQ_ : List Loc) : Prop := ∃ r : Addr, ∃ v : Int64, vQ_ = some (.ref r) ∧ Fr n0 LQ_ ∧ Keep h0 hQ_ [] ∧ BD Z hQ_ r v ∧ IsM v.toInt (dpl (4 : Int32) ct le x0.toInt x1.toInt x2.toInt x3.toInt) ∧ Bn 100 v
theorem rm_tot4 (l : Launch) (Z : State) (a0 : Array Value) (hw : HW a0 Z) (ws : List Jvm.Cond) (ll : Addr) (ct : Int32) (le : Int32) (d : Addr) (kd : ClassId) (p1 : Addr) (p2 : Addr) (p3 : Addr) (p4 : Addr) (x0 : Int64) (x1 : Int64) (x2 : Int64) (x3 : Int64) (zt : Addr) (kz : ClassId) (zl : List Addr) (zr : Addr) (h0 : Heap) (n0 : Nat) (Z0 : n0 ≤ h0.size) (O0 : Old Z n0 h0) (S_zt : Sta Z Z.heap "java/math/BigDecimal" "ZERO_THROUGH_TEN" "[Ljava/math/BigDecimal;" (.ref zt)) (V_zt : Arv Z Z.heap zt kz (.object "java/math/BigDecimal") (11 : Int32) (zl.map Value.ref) .null) (hzl : zl.length = 11) (hz : ∀ i, i < 11 → BD Z Z.heap (zl.getD i 0) (Int64.ofNat i)) (S_z0 : Sta Z Z.heap "java/math/BigDecimal" "ZERO" "Ljava/math/BigDecimal;" (.ref zr)) (hz0 : BD Z Z.heap zr (0 : Int64)) (EL : Exa Z h0 ll "java/util/ArrayList") (FZ : Fld Z h0 ll "java/util/ArrayList" "size" "I" (.int (4 : Int32))) (FE : Fld Z h0 ll "java/util/ArrayList" "elementData" "[Ljava/lang/Object;" (.ref d)) (VD : Arv Z h0 d kd (.object "java/lang/Object") (10 : Int32) [(.ref p1), (.ref p2), (.ref p3), (.ref p4), .null, .null, .null, .null, .null, .null] .null) (hP1 : BD Z h0 p1 x0) (hP2 : BD Z h0 p2 x1) (hP3 : BD Z h0 p3 x2) (hP4 : BD Z h0 p4 x3) (hb0 : Bn 1 x0) (hb1 : Bn 1 x1) (hb2 : Bn 1 x2) (hb3 : Bn 1 x3) (hcl : ct = (0 : Int32) ∨ (le = (1 : Int32) ∧ (ct = (1 : Int32) ∨ ct = (2 : Int32) ∨ ct = (3 : Int32) ∨ ct = (4 : Int32))) ∨ (le = (2 : Int32) ∧ (ct = (1 : Int32) ∨ ct = (2 : Int32))) ∨ (le = (3 : Int32) ∧ (ct = (1 : Int32))) ∨ (le = (4 : Int32) ∧ (ct = (1 : Int32)))) :
    CT l yn33 (Jvm.Cond.code yn33 prog_2_method_2_code 10 (some (.object "java/math/BigDecimal")) :: ws) (⟨8, 30, 150, 125⟩ : Room) #[(.ref ll), (.int ct), (.int le)] Z h0 (Q_tot4 Z ll ct le d kd p1 p2 p3 p4 x0 x1 x2 x3 zt kz zl zr h0 n0) := by
  refine MetFree.of_bodySF (plainFor_of_name pn_com_example_vestline_vestline_finalaveragepay_BestPeriods) hisR ?_
  intro p e s m args below meth cO s₁ Bd hml hP hK
  obtain ⟨rfl, hZ, hh⟩ := hP
  have hx := Bd.exec
  have hby := Bd.bytes
  have hown : s.vm.findClass "com/example/vestline/vestline/finalaveragepay/BestPeriods" = some m.cls := findClass_of_methodNamed Bd.named
  have hnm := (name_of_methodNamed Bd.named Bd.method).1
  have X0 : Stand p l e (⟨8, 30, 150, 125⟩ : Room) s m #[(.ref ll), (.int ct), (.int le)] below meth cO s₁ [] 0 0 := Stand.of_body Bd
  have e0 : s₁.heap = h0 := by rw [← hh, Bd.state]; rfl
  have N0 := Fr.nil n0
  have D_ : ∀ {i : Nat} {x}, decode prog_2_method_2_code i = x → decode cO.code i = x := fun h => hb hby h
  have W0 : ∀ zQ, SS p e below s₁ m 0 #[.val (.ref ll), .val (.int ct), .val (.int le), .unset, .unset, .unset, .unset, .unset, .unset, .unset] [] zQ → Steps p.tables e below (s₁.setTop (entryFrame m #[(.ref ll), (.int ct), (.int le)] 10)) zQ := fun tt kt => castTop (ef_tot4 m ll ct le) kt
  obtain ⟨cq101, kq101, q101a, q101b, q101c⟩ := isOf hZ e0 EL
  obtain ⟨_, _, ⟨T101, L101, k101, n101⟩, -, X101, ⟨Lc101, hQ101, l101, y101, z101⟩, st101⟩ := X0.interfaceBack hx (xi := yn32) (y := yn25) hown (mvT hZ (w31 hw)) (mvT hZ (w32 hw)) (mvT hZ (w33 hw)) (mvT hZ (w34 hw)) (mvT hZ (w35 hw)) (mvT hZ (w36 hw)) (mvT hZ (w37 hw)) (mvT hZ (w38 hw)) (by decide) (backOf (W := 0) (rm_alsize l Z a0 hw [] ll (4 : Int32) h0 n0 Z0 FZ) hZ (w39 hw) (w3 hw) (by decide) (by decide)) q101a q101b q101c (g := (mkF m 1 #[.val (.ref ll), .val (.int ct), .val (.int le), .unset, .unset, .unset, .unset, .unset, .unset, .unset] [(.ref ll)])) rfl (by rw [hml]; rfl) (Steps.refl _) (argsL := []) (rest := []) (lenOf pd18 rfl) rfl (wq rfl) (D_ d31_1) (fun _ _ => ⟨rfl, e0, (nb rfl), (nb rfl)⟩)
  dsimp only [Pt.U, Pt.locs, Pt.cells, Pt.slots] at X101 l101 y101 z101 st101 hQ101
  subst l101 y101 z101
  obtain ⟨rfl, Nq101, eq101⟩ := hQ101
  have N101 := Fr.app N0 Nq101
  obtain ⟨T102, h102, k102, X102, e102, E102, A102, Ov102, st102⟩ := newR X101 hx hZ hown (w42 hw) (w43 hw) eq101 (g := (mkF m 10 #[.val (.ref ll), .val (.int ct), .val (.int le), .val (.int (4 : Int32)), .unset, .unset, .unset, .unset, .unset, .unset] [(.int (5 : Int32))])) rfl (D_ d31_10) rfl (by decide) (cap := 5) (by decide) (by decide) (by decide) (by decide)
  obtain ⟨b102, g102⟩ : ∃ z, z = h0.size := ⟨_, rfl⟩
  rw [← g102] at A102 st102
  have K102 := (Keep.refl h0 []).ext E102
  have G102 : Arv Z h102 b102 k102 (.object "java/math/BigDecimal") (5 : Int32) [.null, .null, .null, .null, .null] .null := (Arv.new A102 (by decide)).pad (pad_rep [] .null 5)
  have O104 : Old Z n0 h102 := (O0.keep K102 all0)
  have F105 : Sta Z h102 "java/math/BigDecimal" "ZERO" "Ljava/math/BigDecimal;" (.ref zr) := S_z0.ext O104.2
  obtain ⟨T103, X103, e103, st103⟩ := getS2 X102 hx hZ hown (host := "") (Or.inl (w44 hw)) Via.refl e102 F105 (g := (mkF m 18 #[.val (.ref ll), .val (.int ct), .val (.int le), .val (.int (4 : Int32)), .val (.ref b102), .unset, .unset, .unset, .unset, .unset] [(.int (0 : Int32)), (.ref b102)])) rfl (D_ d31_18)
  have B0106 : BD Z h102 zr (0 : Int64) := hz0.ext O104.2
  obtain ⟨cl107, Ar107, q107, S107, M107, H107, F107g⟩ := id G102
  have hin107 : ¬ ((0 : Int32) < 0 ∨ cl107.slots.size ≤ ((0 : Int32)).toNatClampNeg) := inb_of S107 ⟨by decide, by decide⟩
  obtain ⟨T107, h107, X107, e107, Wr107, st107⟩ := stR X103 hx hZ e103 Ar107 (j := (0 : Int32)) hin107 rfl (Sto.ofV Ar107 q107 Ov102 (Ins.self B0106.1)) (g := (mkF m 21 #[.val (.ref ll), .val (.int ct), .val (.int le), .val (.int (4 : Int32)), .val (.ref b102), .unset, .unset, .unset, .unset, .unset] [(.ref zr), (.int (0 : Int32)), (.ref b102)])) rfl rfl (D_ d31_21)
  have G107 : Arv Z h107 b102 k102 (.object "java/math/BigDecimal") (5 : Int32) [(.ref zr), .null, .null, .null, .null] .null := Arv.set Ar107 q107 S107 M107 H107 F107g rfl Wr107 0 rfl (Nat.le_of_ble_eq_true rfl)
  have K107 := Keep.of_wr Wr107
  have N107 := Fr.snoc X107 N101 (Nat.le_trans Z0 (Nat.le_of_eq g102.symm))
  have F108 : Fld Z h107 ll "java/util/ArrayList" "size" "I" (.int (4 : Int32)) := ((FZ.keep K102 nin0).keep K107 (ninS (Nat.ne_of_lt (Nat.lt_of_lt_of_le EL.lt (Nat.le_of_eq g102.symm))) nin0))
  have F109 : Arv Z h107 d kd (.object "java/lang/Object") (10 : Int32) [(.ref p1), (.ref p2), (.ref p3), (.ref p4), .null, .null, .null, .null, .null, .null] .null := ((VD.keep K102 nin0).keep K107 (ninS (Nat.ne_of_lt (Nat.lt_of_lt_of_le VD.lt (Nat.le_of_eq g102.symm))) nin0))
  have O111 : Old Z n0 h107 := (O104.keep K107 (allS (Nat.le_trans Z0 (Nat.le_of_eq g102.symm)) all0))
  have F112 : Exa Z h107 ll "java/util/ArrayList" := ((EL.keep K102).keep K107)
  have F113 : Fld Z h107 ll "java/util/ArrayList" "elementData" "[Ljava/lang/Object;" (.ref d) := ((FE.keep K102 nin0).keep K107 (ninS (Nat.ne_of_lt (Nat.lt_of_lt_of_le EL.lt (Nat.le_of_eq g102.symm))) nin0))
  have F114 : BD Z h107 zr (0 : Int64) := (B0106.keep K107 (ninS (Exa.neArv (B0106.1.keep K107) G107 (w138 hw)) nin0))
  have F115 : BD Z h107 p1 x0 := ((hP1.keep K102 nin0).keep K107 (ninS (Nat.ne_of_lt (Nat.lt_of_lt_of_le hP1.lt (Nat.le_of_eq g102.symm))) nin0))
  have z118 : n0 ≤ h107.size := (Nat.le_trans Z0 (Nat.le_trans K102.1 K107.1))
  obtain ⟨T110, L110, h110, X110, e110, r_116, v_117, Nl110, K110, P110_0, P110_1, P110_2, st110⟩ := rm_sg1 hx hZ hw hby hml hown (by decide) (by decide) (by decide) (by decide) ll ct le 4 b102 0 d kd [(.ref p1), (.ref p2), (.ref p3), (.ref p4), .null, .null, .null, .null, .null, .null] p1 k102 [(.ref zr), .null, .null, .null, .null] zr (0 : Int64) x0 zt kz zl n0 S_zt V_zt hzl hz (nb rfl) (nb rfl) rfl rfl rfl (Bn.mono own_bd0 (by decide)) (Bn.mono hb0 (by decide)) (Nat.le_trans Z0 (Nat.le_of_eq g102.symm)) Ov102 T107 _ h107 X107 e107 N107 z118 O111 F112 F108 F113 F109 G107 F114 F115
  have hbd119 : Bn 1 v_117 := Bn.mono (Bn.add own_bd0 hb0 P110_2) (nb rfl)
  have J120 : Arv Z h110 b102 k102 (.object "java/math/BigDecimal") (5 : Int32) [(.ref zr), (.ref r_116), .null, .null, .null] .null := P110_0
  have F121 : Fld Z h110 ll "java/util/ArrayList" "size" "I" (.int (4 : Int32)) := (F108.keep K110 (ninS (Nat.ne_of_lt (Nat.lt_of_lt_of_le EL.lt (Nat.le_of_eq g102.symm))) nin0))
  have F122 : Arv Z h110 d kd (.object "java/lang/Object") (10 : Int32) [(.ref p1), (.ref p2), (.ref p3), (.ref p4), .null, .null, .null, .null, .null, .null] .null := (F109.keep K110 (ninS (Nat.ne_of_lt (Nat.lt_of_lt_of_le VD.lt (Nat.le_of_eq g102.symm))) nin0))
  have O124 : Old Z n0 h110 := (O111.keep K110 (allS (Nat.le_trans Z0 (Nat.le_of_eq g102.symm)) all0))
  have F125 : Exa Z h110 ll "java/util/ArrayList" := (F112.keep K110)
  have F126 : Fld Z h110 ll "java/util/ArrayList" "elementData" "[Ljava/lang/Object;" (.ref d) := (F113.keep K110 (ninS (Nat.ne_of_lt (Nat.lt_of_lt_of_le EL.lt (Nat.le_of_eq g102.symm))) nin0))
  have F127 : BD Z h110 p2 x1 := (((hP2.keep K102 nin0).keep K107 (ninS (Nat.ne_of_lt (Nat.lt_of_lt_of_le hP2.lt (Nat.le_of_eq g102.symm))) nin0)).keep K110 (ninS (Nat.ne_of_lt (Nat.lt_of_lt_of_le hP2.lt (Nat.le_of_eq g102.symm))) nin0))
  obtain ⟨T123, L123, h123, X123, e123, r_128, v_129, Nl123, K123, P123_0, P123_1, P123_2, st123⟩ := rm_sg1 hx hZ hw hby hml hown (by decide) (by decide) (by decide) (by decide) ll ct le 4 b102 1 d kd [(.ref p1), (.ref p2), (.ref p3), (.ref p4), .null, .null, .null, .null, .null, .null] p2 k102 [(.ref zr), (.ref r_116), .null, .null, .null] r_116 v_117 x1 zt kz zl n0 S_zt V_zt hzl hz (nb rfl) (nb rfl) rfl rfl rfl (Bn.mono hbd119 (by decide)) (Bn.mono hb1 (by decide)) (Nat.le_trans Z0 (Nat.le_of_eq g102.symm)) Ov102 T110 _ h110 X110 e110 Nl110 (Nat.le_trans z118 K110.1) O124 F125 F121 F126 F122 J120 P110_1 F127
  have hbd130 : Bn 2 v_129 := Bn.mono (Bn.add hbd119 hb1 P123_2) (nb rfl)
  have J131 : Arv Z h123 b102 k102 (.object "java/math/BigDecimal") (5 : Int32) [(.ref zr), (.ref r_116), (.ref r_128), .null, .null] .null := P123_0
  have F132 : Fld Z h123 ll "java/util/ArrayList" "size" "I" (.int (4 : Int32)) := (F121.keep K123 (ninS (Nat.ne_of_lt (Nat.lt_of_lt_of_le EL.lt (Nat.le_of_eq g102.symm))) nin0))
  have F133 : Arv Z h123 d kd (.object "java/lang/Object") (10 : Int32) [(.ref p1), (.ref p2), (.ref p3), (.ref p4), .null, .null, .null, .null, .null, .null] .null := (F122.keep K123 (ninS (Nat.ne_of_lt (Nat.lt_of_lt_of_le VD.lt (Nat.le_of_eq g102.symm))) nin0))
  have O135 : Old Z n0 h123 := (O124.keep K123 (allS (Nat.le_trans Z0 (Nat.le_of_eq g102.symm)) all0))
  have F136 : Exa Z h123 ll "java/util/ArrayList" := (F125.keep K123)
  have F137 : Fld Z h123 ll "java/util/ArrayList" "elementData" "[Ljava/lang/Object;" (.ref d) := (F126.keep K123 (ninS (Nat.ne_of_lt (Nat.lt_of_lt_of_le EL.lt (Nat.le_of_eq g102.symm))) nin0))
  have F138 : BD Z h123 p3 x2 := ((((hP3.keep K102 nin0).keep K107 (ninS (Nat.ne_of_lt (Nat.lt_of_lt_of_le hP3.lt (Nat.le_of_eq g102.symm))) nin0)).keep K110 (ninS (Nat.ne_of_lt (Nat.lt_of_lt_of_le hP3.lt (Nat.le_of_eq g102.symm))) nin0)).keep K123 (ninS (Nat.ne_of_lt (Nat.lt_of_lt_of_le hP3.lt (Nat.le_of_eq g102.symm))) nin0))
  have z141 : n0 ≤ h123.size := (Nat.le_trans z118 (Nat.le_trans K110.1 K123.1))
  obtain ⟨T134, L134, h134, X134, e134, r_139, v_140, Nl134, K134, P134_0, P134_1, P134_2, st134⟩ := rm_sg1 hx hZ hw hby hml hown (by decide) (by decide) (by decide) (by decide) ll ct le 4 b102 2 d kd [(.ref p1), (.ref p2), (.ref p3), (.ref p4), .null, .null, .null, .null, .null, .null] p3 k102 [(.ref zr), (.ref r_116), (.ref r_128), .null, .null] r_128 v_129 x2 zt kz zl n0 S_zt V_zt hzl hz (nb rfl) (nb rfl) rfl rfl rfl (Bn.mono hbd130 (by decide)) (Bn.mono hb2 (by decide)) (Nat.le_trans Z0 (Nat.le_of_eq g102.symm)) Ov102 T123 _ h123 X123 e123 Nl123 z141 O135 F136 F132 F137 F133 J131 P123_1 F138
  have hbd142 : Bn 3 v_140 := Bn.mono (Bn.add hbd130 hb2 P134_2) (nb rfl)
  have J143 : Arv Z h134 b102 k102 (.object "java/math/BigDecimal") (5 : Int32) [(.ref zr), (.ref r_116), (.ref r_128), (.ref r_139), .null] .null := P134_0
  have F144 : Fld Z h134 ll "java/util/ArrayList" "size" "I" (.int (4 : Int32)) := (F132.keep K134 (ninS (Nat.ne_of_lt (Nat.lt_of_lt_of_le EL.lt (Nat.le_of_eq g102.symm))) nin0))
  have F145 : Arv Z h134 d kd (.object "java/lang/Object") (10 : Int32) [(.ref p1), (.ref p2), (.ref p3), (.ref p4), .null, .null, .null, .null, .null, .null] .null := (F133.keep K134 (ninS (Nat.ne_of_lt (Nat.lt_of_lt_of_le VD.lt (Nat.le_of_eq g102.symm))) nin0))
  have O147 : Old Z n0 h134 := (O135.keep K134 (allS (Nat.le_trans Z0 (Nat.le_of_eq g102.symm)) all0))
  have F148 : Exa Z h134 ll "java/util/ArrayList" := (F136.keep K134)
  have F149 : Fld Z h134 ll "java/util/ArrayList" "elementData" "[Ljava/lang/Object;" (.ref d) := (F137.keep K134 (ninS (Nat.ne_of_lt (Nat.lt_of_lt_of_le EL.lt (Nat.le_of_eq g102.symm))) nin0))
  have F150 : BD Z h134 p4 x3 := (((((hP4.keep K102 nin0).keep K107 (ninS (Nat.ne_of_lt (Nat.lt_of_lt_of_le hP4.lt (Nat.le_of_eq g102.symm))) nin0)).keep K110 (ninS (Nat.ne_of_lt (Nat.lt_of_lt_of_le hP4.lt (Nat.le_of_eq g102.symm))) nin0)).keep K123 (ninS (Nat.ne_of_lt (Nat.lt_of_lt_of_le hP4.lt (Nat.le_of_eq g102.symm))) nin0)).keep K134 (ninS (Nat.ne_of_lt (Nat.lt_of_lt_of_le hP4.lt (Nat.le_of_eq g102.symm))) nin0))
  obtain ⟨T146, L146, h146, X146, e146, r_151, v_152, Nl146, K146, P146_0, P146_1, P146_2, st146⟩ := rm_sg1 hx hZ hw hby hml hown (by decide) (by decide) (by decide) (by decide) ll ct le 4 b102 3 d kd [(.ref p1), (.ref p2), (.ref p3), (.ref p4), .null, .null, .null, .null, .null, .null] p4 k102 [(.ref zr), (.ref r_116), (.ref r_128), (.ref r_139), .null] r_139 v_140 x3 zt kz zl n0 S_zt V_zt hzl hz (nb rfl) (nb rfl) rfl rfl rfl (Bn.mono hbd142 (by decide)) (Bn.mono hb3 (by decide)) (Nat.le_trans Z0 (Nat.le_of_eq g102.symm)) Ov102 T134 _ h134 X134 e134 Nl134 (Nat.le_trans z141 K134.1) O147 F148 F144 F149 F145 J143 P134_1 F150
  have hbd153 : Bn 4 v_152 := Bn.mono (Bn.add hbd142 hb3 P146_2) (nb rfl)
  have J154 : Arv Z h146 b102 k102 (.object "java/math/BigDecimal") (5 : Int32) [(.ref zr), (.ref r_116), (.ref r_128), (.ref r_139), (.ref r_151)] .null := P146_0
  obtain ⟨T155, h155, k155, X155, e155, E155, A155, Ov155, st155⟩ := newR X146 hx hZ hown (w42 hw) (w43 hw) e146 (g := (mkF m 66 #[.val (.ref ll), .val (.int ct), .val (.int le), .val (.int (4 : Int32)), .val (.ref b102), .val (.int (4 : Int32)), .unset, .unset, .unset, .unset] [(.int (5 : Int32))])) rfl (D_ d31_66) rfl (by decide) (cap := 5) (by decide) (by decide) (by decide) (by decide)
  obtain ⟨b155, g155⟩ : ∃ z, z = h146.size := ⟨_, rfl⟩
  rw [← g155] at A155 st155
  have K155 := (Keep.refl h146 []).ext E155
  have G155 : Arv Z h155 b155 k155 (.object "java/math/BigDecimal") (5 : Int32) [.null, .null, .null, .null, .null] .null := (Arv.new A155 (by decide)).pad (pad_rep [] .null 5)
  have O157 : Old Z n0 h155 := ((O147.keep K146 (allS (Nat.le_trans Z0 (Nat.le_of_eq g102.symm)) all0)).keep K155 all0)
  have F158 : Sta Z h155 "java/math/BigDecimal" "ZERO" "Ljava/math/BigDecimal;" (.ref zr) := S_z0.ext O157.2
  obtain ⟨T156, X156, e156, st156⟩ := getS2 X155 hx hZ hown (host := "") (Or.inl (w44 hw)) Via.refl e155 F158 (g := (mkF m 73 #[.val (.ref ll), .val (.int ct), .val (.int le), .val (.int (4 : Int32)), .val (.ref b102), .val (.ref b155), .unset, .unset, .unset, .unset] [(.ref b155)])) rfl (D_ d31_73)
  have ne159 : zr ≠ b102 := (Exa.neArv ((((F114.1.keep K110).keep K123).keep K134).keep K146) J154 (w138 hw))
  have F160 : BD Z h155 zr (0 : Int64) := (((((F114.keep K110 (ninS ne159 nin0)).keep K123 (ninS ne159 nin0)).keep K134 (ninS ne159 nin0)).keep K146 (ninS ne159 nin0)).keep K155 nin0)
  have gn161 : n0 ≤ b155 := Nat.le_trans Z0 (Nat.le_trans (Nat.le_trans (Nat.le_trans (Nat.le_trans (Nat.le_trans (Nat.le_trans K102.1 K107.1) K110.1) K123.1) K134.1) K146.1) (Nat.le_of_eq g155.symm))
  have z163 : n0 ≤ h155.size := (Nat.le_trans z141 (Nat.le_trans (Nat.le_trans K134.1 K146.1) K155.1))
  obtain ⟨_, _, ⟨T162, L162, k162, n162⟩, -, X162, ⟨Lc162, hQ162, l162, y162, z162⟩, st162⟩ := Jvm.LawKit.callS X156 hx (y := yn30) hown (mvT hZ (w47 hw)) (mvT hZ (w48 hw)) (mvT hZ (w49 hw)) (mvT hZ (w50 hw)) (by decide) (backOf (W := 0) (rm_fill l Z a0 hw [] b155 zr k155 5 h155 n0 z163 (Arv.pad G155 (fun i => (pad_rep [] .null 5 i).symm)) Ov155 F160.1 gn161 (nb rfl)) hZ (w50 hw) (w49 hw) (by decide) (by decide)) (g := (mkF m 76 #[.val (.ref ll), .val (.int ct), .val (.int le), .val (.int (4 : Int32)), .val (.ref b102), .val (.ref b155), .unset, .unset, .unset, .unset] [(.ref zr), (.ref b155)])) rfl (by rw [hml]; rfl) (argsL := [(.ref b155), (.ref zr)]) (rest := []) (lenOf pd19 rfl) rfl (wq rfl) (D_ d31_76) (fun _ _ => ⟨rfl, e156, (nb rfl), (nb rfl)⟩)
  dsimp only [Pt.U, Pt.locs, Pt.cells, Pt.slots] at X162 l162 y162 z162 st162 hQ162
  subst l162 y162 z162
  obtain ⟨rfl, Nq162, K162, P162_0⟩ := hQ162
  have N162 := Fr.app Nl146 Nq162
  have J164 : Arv Z T162.heap b155 k155 (.object "java/math/BigDecimal") (5 : Int32) [(.ref zr), (.ref zr), (.ref zr), (.ref zr), (.ref zr)] .null := P162_0
  have W165 : ∀ zQ, SS p e below T162 m 79 #[.val (.ref ll), .val (.int ct), .val (.int le), .val (.int (4 : Int32)), .val (.ref b102), .val (.ref b155), .unset, .unset, .unset, .unset] [] zQ → Steps p.tables e below (s₁.setTop (entryFrame m #[(.ref ll), (.int ct), (.int le)] 10)) zQ := by
    intro tt kt
    refine W0 tt ?_
    refine XS.aloadN X0.here hx rfl (D_ d31_0) rfl rfl ?_
    refine st101.trans ?_
    refine XS.istoreN X101.here hx rfl (D_ d31_6) rfl (l' := #[.val (.ref ll), .val (.int ct), .val (.int le), .val (.int (4 : Int32)), .unset, .unset, .unset, .unset, .unset, .unset]) rfl ?_
    refine XS.iloadN X101.here hx rfl (D_ d31_7) rfl ?_
    refine XS.iconst X101.here hx rfl (D_ d31_8) ?_
    refine XS.iadd X101.here hx rfl (D_ d31_9) rfl ?_
    refine st102 _ ?_
    refine XS.astore X102.here hx rfl (D_ d31_13) rfl rfl (l' := #[.val (.ref ll), .val (.int ct), .val (.int le), .val (.int (4 : Int32)), .val (.ref b102), .unset, .unset, .unset, .unset, .unset]) rfl ?_
    refine XS.aload X102.here hx rfl (D_ d31_15) rfl rfl ?_
    refine XS.iconst X102.here hx rfl (D_ d31_17) ?_
    refine st103 _ ?_
    refine st107 _ ?_
    refine XS.iconst X107.here hx rfl (D_ d31_22) ?_
    refine XS.istore X107.here hx rfl (D_ d31_23) rfl (l' := #[.val (.ref ll), .val (.int ct), .val (.int le), .val (.int (4 : Int32)), .val (.ref b102), .val (.int (0 : Int32)), .unset, .unset, .unset, .unset]) rfl ?_
    refine st110 _ ?_
    show SS p e below T110 m 25 #[.val (.ref ll), .val (.int ct), .val (.int le), .val (.int (Int32.ofNat 4)), .val (.ref b102), .val (.int (Int32.ofNat (0 + 1))), .unset, .unset, .unset, .unset] [] _
    refine st123 _ ?_
    show SS p e below T123 m 25 #[.val (.ref ll), .val (.int ct), .val (.int le), .val (.int (Int32.ofNat 4)), .val (.ref b102), .val (.int (Int32.ofNat (1 + 1))), .unset, .unset, .unset, .unset] [] _
    refine st134 _ ?_
    show SS p e below T134 m 25 #[.val (.ref ll), .val (.int ct), .val (.int le), .val (.int (Int32.ofNat 4)), .val (.ref b102), .val (.int (Int32.ofNat (2 + 1))), .unset, .unset, .unset, .unset] [] _
    refine st146 _ ?_
    show SS p e below T146 m 25 #[.val (.ref ll), .val (.int ct), .val (.int le), .val (.int (Int32.ofNat 4)), .val (.ref b102), .val (.int (Int32.ofNat (3 + 1))), .unset, .unset, .unset, .unset] [] _
    refine XS.iload X146.here hx rfl (D_ d31_25) rfl ?_
    refine XS.iloadN X146.here hx rfl (D_ d31_27) rfl ?_
    refine XS.icmpYes X146.here hx rfl (pc0 := 28) (pc' := 63) rfl (D_ d31_28) rfl (flt (by decide)).2.1 (by decide) (by decide) ?_
    refine XS.iloadN X146.here hx rfl (D_ d31_63) rfl ?_
    refine XS.iconst X146.here hx rfl (D_ d31_64) ?_
    refine XS.iadd X146.here hx rfl (D_ d31_65) rfl ?_
    refine st155 _ ?_
    refine XS.astore X155.here hx rfl (D_ d31_69) rfl rfl (l' := #[.val (.ref ll), .val (.int ct), .val (.int le), .val (.int (4 : Int32)), .val (.ref b102), .val (.ref b155), .unset, .unset, .unset, .unset]) rfl ?_
    refine XS.aload X155.here hx rfl (D_ d31_71) rfl rfl ?_
    refine st156 _ ?_
    refine st162 _ ?_
    exact kt
  have KA166 : Keep h0 T162.heap [] := (Keep.trans (Keep.trans (Keep.trans (Keep.trans (Keep.trans (Keep.trans (Keep.trans (Keep.trans (Keep.refl h0 []) K102 all0) K107 (allS (Or.inr (Nat.le_of_eq g102.symm)) all0)) K110 (allS (Or.inr (Nat.le_of_eq g102.symm)) all0)) K123 (allS (Or.inr (Nat.le_of_eq g102.symm)) all0)) K134 (allS (Or.inr (Nat.le_of_eq g102.symm)) all0)) K146 (allS (Or.inr (Nat.le_of_eq g102.symm)) all0)) K155 all0) K162 (allS (Or.inr (Nat.le_trans (Nat.le_trans (Nat.le_trans (Nat.le_trans (Nat.le_trans (Nat.le_trans K102.1 K107.1) K110.1) K123.1) K134.1) K146.1) (Nat.le_of_eq g155.symm))) all0))
  rcases hcl with hct | ⟨hle, hc⟩ | ⟨hle, hc⟩ | ⟨hle, hc⟩ | ⟨hle, hc⟩
  ·
    obtain ⟨cl167, Ar167, q167, S167, M167, H167, F167g⟩ := id J164
    have hin167 : ¬ ((4 : Int32) < 0 ∨ cl167.slots.size ≤ ((4 : Int32)).toNatClampNeg) := inb_of S167 ⟨by decide, by decide⟩
    have hat167 : cl167.slots[((4 : Int32)).toNatClampNeg]? = some (.ref zr) := Has.at H167 hin167 rfl
    have W168 : ∀ zQ, SS p e below T162 m 187 #[.val (.ref ll), .val (.int (0 : Int32)), .val (.int le), .val (.int (4 : Int32)), .val (.ref b102), .val (.ref b155), .val (.int (1 : Int32)), .unset, .unset, .unset] [(.ref zr)] zQ → Steps p.tables e below (s₁.setTop (entryFrame m #[(.ref ll), (.int ct), (.int le)] 10)) zQ := by
      intro tt kt
      refine W165 tt ?_
      rw [show ct = (0 : Int32) from hct]
      refine XS.iconst X162.here hx rfl (D_ d31_79) ?_
      refine XS.istore X162.here hx rfl (D_ d31_80) rfl (l' := #[.val (.ref ll), .val (.int (0 : Int32)), .val (.int le), .val (.int (4 : Int32)), .val (.ref b102), .val (.ref b155), .val (.int (1 : Int32)), .unset, .unset, .unset]) rfl ?_
      refine XS.iload X162.here hx rfl (D_ d31_82) rfl ?_
      refine XS.iloadN X162.here hx rfl (D_ d31_84) rfl ?_
      refine XS.icmpYes X162.here hx rfl (pc0 := 85) (pc' := 183) rfl (D_ d31_85) rfl (tlt (by decide)).2.2.1 (by decide) (by decide) ?_
      refine XS.aload X162.here hx rfl (D_ d31_183) rfl rfl ?_
      refine XS.iloadN X162.here hx rfl (D_ d31_185) rfl ?_
      refine X162.aaload hx (j := (4 : Int32)) (v := (.ref zr)) (by first | exact Ar167.1 | (rw [rfl]; exact Ar167.1)) (State.isArrayOf_alike hZ.alike Ar167.2.1) rfl Ar167.2.2 hin167 hat167 (g := (mkF m 186 #[.val (.ref ll), .val (.int (0 : Int32)), .val (.int le), .val (.int (4 : Int32)), .val (.ref b102), .val (.ref b155), .val (.int (1 : Int32)), .unset, .unset, .unset] [(.int (4 : Int32)), (.ref b155)])) rfl rfl (D_ d31_186) _ ?_
      exact kt
    have ne169 : zr ≠ b155 := (Nat.ne_of_lt (Nat.lt_of_lt_of_le (Nat.lt_of_lt_of_le B0106.lt (Nat.le_trans (Nat.le_trans (Nat.le_trans (Nat.le_trans K107.1 K110.1) K123.1) K134.1) K146.1)) (Nat.le_of_eq g155.symm)))
    have F170 : BD Z T162.heap zr (0 : Int64) := (F160.keep K162 (ninS ne169 nin0))
    obtain ⟨fs, hr, hrun, hended, hW, hsame⟩ := X162.leave (v := some (.ref zr)) (fun h => by rw [Bd.returns] at h; cases h)
    refine ⟨_, _, W168 _ (own_retR X162 hx Bd.returns rfl rfl (D_ d31_187) hr), hrun, hended, _, _, rfl, ?_, ⟨_, rfl⟩, hW, hsame.mono (by decide) (by decide)⟩
    show Q_tot4 Z ll ct le d kd p1 p2 p3 p4 x0 x1 x2 x3 zt kz zl zr h0 n0 _ T162.heap _
    exact ⟨zr, (0 : Int64), rfl, N162, KA166, F170, (by rw [hct]; rw [dpl_0]; exact ⟨List.mem_singleton.mpr rfl, fun m hm => by rw [List.mem_singleton.mp hm]; exact Int.le_refl _⟩), (Bn.mono own_bd0 (by decide))⟩
  ·
    obtain ⟨T171, L171, h171, X171, e171, ma_172, km_173, Nl171, K171, P171_0, P171_1, P171_2, st171⟩ := rm_sg0 hx hZ hw hby hml hown (by decide) (by decide) (by decide) (by decide) ll ct 1 4 b102 b155 1 (.unset) (.unset) (.unset) n0 (by rcases hc with h | h | h | h <;> rw [h] <;> decide) (nb rfl) (nb rfl) One.u One.u T162 _ T162.heap X162 rfl N162 (Nat.le_trans z163 K162.1) 
    have J174 : Arv Z h171 ma_172 km_173 (.object "java/math/BigDecimal") (5 : Int32) [.null, .null, .null, .null, .null] .null := Arv.pad P171_1 (pad_rep [] .null 5)
    have ne175 : b102 ≠ b155 := (Nat.ne_of_lt (Nat.lt_of_lt_of_le (Nat.lt_of_lt_of_le G102.lt (Nat.le_trans (Nat.le_trans (Nat.le_trans (Nat.le_trans K107.1 K110.1) K123.1) K134.1) K146.1)) (Nat.le_of_eq g155.symm)))
    have F176 : Arv Z h171 b102 k102 (.object "java/math/BigDecimal") (5 : Int32) [(.ref zr), (.ref r_116), (.ref r_128), (.ref r_139), (.ref r_151)] .null := (((J154.keep K155 nin0).keep K162 (ninS ne175 nin0)).keep K171 nin0)
    have F177 : Arv Z h171 b155 k155 (.object "java/math/BigDecimal") (5 : Int32) [(.ref zr), (.ref zr), (.ref zr), (.ref zr), (.ref zr)] .null := (J164.keep K171 nin0)
    have gn179 : n0 ≤ ma_172 := Nat.le_trans Z0 (Nat.le_trans (Nat.le_trans (Nat.le_trans (Nat.le_trans (Nat.le_trans (Nat.le_trans (Nat.le_trans (Nat.le_trans K102.1 K107.1) K110.1) K123.1) K134.1) K146.1) K155.1) K162.1) P171_0)
    have ne180 : ma_172 ≠ b155 := (Ne.symm (Nat.ne_of_lt (Nat.lt_of_lt_of_le (Nat.lt_of_lt_of_le G155.lt K162.1) P171_0)))
    have ne181 : ma_172 ≠ b102 := (Ne.symm (Nat.ne_of_lt (Nat.lt_of_lt_of_le (Nat.lt_of_lt_of_le G102.lt (Nat.le_trans (Nat.le_trans (Nat.le_trans (Nat.le_trans (Nat.le_trans (Nat.le_trans K107.1 K110.1) K123.1) K134.1) K146.1) K155.1) K162.1)) P171_0)))
    have O182 : Old Z n0 h171 := ((O157.keep K162 (allS gn161 all0)).keep K171 all0)
    have ne183 : r_116 ≠ b102 := (Exa.neArv ((((((P110_1.1.keep K123).keep K134).keep K146).keep K155).keep K162).keep K171) F176 (w138 hw))
    have ne184 : r_116 ≠ b155 := (Nat.ne_of_lt (Nat.lt_of_lt_of_le (Nat.lt_of_lt_of_le P110_1.lt (Nat.le_trans (Nat.le_trans K123.1 K134.1) K146.1)) (Nat.le_of_eq g155.symm)))
    have F185 : BD Z h171 r_116 v_117 := ((((((P110_1.keep K123 (ninS ne183 nin0)).keep K134 (ninS ne183 nin0)).keep K146 (ninS ne183 nin0)).keep K155 nin0).keep K162 (ninS ne184 nin0)).keep K171 nin0)
    have ne186 : zr ≠ b155 := (Nat.ne_of_lt (Nat.lt_of_lt_of_le (Nat.lt_of_lt_of_le B0106.lt (Nat.le_trans (Nat.le_trans (Nat.le_trans (Nat.le_trans K107.1 K110.1) K123.1) K134.1) K146.1)) (Nat.le_of_eq g155.symm)))
    have F187 : BD Z h171 zr (0 : Int64) := ((F160.keep K162 (ninS ne186 nin0)).keep K171 nin0)
    have z191 : n0 ≤ h171.size := (Nat.le_trans z163 (Nat.le_trans K162.1 K171.1))
    obtain ⟨T178, L178, h178, X178, e178, r_188, v_189, s8_190, Nl178, K178, P178_0, P178_1, P178_2, P178_3, st178⟩ := rm_sg2A hx hZ hw hby hml hown (by decide) (by decide) (by decide) (by decide) ll ct 1 4 b102 b155 (1 : Int32) ma_172 1 (.unset) k102 k155 km_173 [(.ref zr), (.ref r_116), (.ref r_128), (.ref r_139), (.ref r_151)] [(.ref zr), (.ref zr), (.ref zr), (.ref zr), (.ref zr)] [.null, .null, .null, .null, .null] r_116 zr zr v_117 (0 : Int64) (0 : Int64) zt kz zl n0 S_zt V_zt hzl hz (nb rfl) (nb rfl) (nb rfl) (nb rfl) rfl rfl rfl rfl rfl (Bn.mono hbd119 (by decide)) (Bn.mono own_bd0 (by decide)) (Bn.mono own_bd0 (by decide)) gn179 P171_2 One.u ne180 ne181 T171 _ h171 X171 e171 Nl171 z191 O182 F176 F177 J174 F185 F187 F187
    have hbd192 : Bn 1 v_189 := own_bA own_bd0 hbd119 own_bd0 P178_2 (Nat.le_of_ble_eq_true rfl)
    have J193 : Arv Z h178 ma_172 km_173 (.object "java/math/BigDecimal") (5 : Int32) [.null, (.ref r_188), .null, .null, .null] .null := P178_0
    have F194 : Arv Z h178 b102 k102 (.object "java/math/BigDecimal") (5 : Int32) [(.ref zr), (.ref r_116), (.ref r_128), (.ref r_139), (.ref r_151)] .null := (F176.keep K178 (ninS (Ne.symm ne181) nin0))
    have F195 : Arv Z h178 b155 k155 (.object "java/math/BigDecimal") (5 : Int32) [(.ref zr), (.ref zr), (.ref zr), (.ref zr), (.ref zr)] .null := (F177.keep K178 (ninS (Ne.symm ne180) nin0))
    have O197 : Old Z n0 h178 := (O182.keep K178 (allS gn179 all0))
    have ne198 : r_128 ≠ b102 := (Exa.neArv ((((((P123_1.1.keep K134).keep K146).keep K155).keep K162).keep K171).keep K178) F194 (w138 hw))
    have ne199 : r_128 ≠ b155 := (Nat.ne_of_lt (Nat.lt_of_lt_of_le (Nat.lt_of_lt_of_le P123_1.lt (Nat.le_trans K134.1 K146.1)) (Nat.le_of_eq g155.symm)))
    have ne200 : r_128 ≠ ma_172 := (Nat.ne_of_lt (Nat.lt_of_lt_of_le (Nat.lt_of_lt_of_le P123_1.lt (Nat.le_trans (Nat.le_trans (Nat.le_trans K134.1 K146.1) K155.1) K162.1)) P171_0))
    have F201 : BD Z h178 r_128 v_129 := ((((((P123_1.keep K134 (ninS ne198 nin0)).keep K146 (ninS ne198 nin0)).keep K155 nin0).keep K162 (ninS ne199 nin0)).keep K171 nin0).keep K178 (ninS ne200 nin0))
    have ne202 : r_116 ≠ ma_172 := (Nat.ne_of_lt (Nat.lt_of_lt_of_le (Nat.lt_of_lt_of_le P110_1.lt (Nat.le_trans (Nat.le_trans (Nat.le_trans (Nat.le_trans K123.1 K134.1) K146.1) K155.1) K162.1)) P171_0))
    have F203 : BD Z h178 r_116 v_117 := (F185.keep K178 (ninS ne202 nin0))
    have ne204 : zr ≠ ma_172 := (Nat.ne_of_lt (Nat.lt_of_lt_of_le (Nat.lt_of_lt_of_le B0106.lt (Nat.le_trans (Nat.le_trans (Nat.le_trans (Nat.le_trans (Nat.le_trans (Nat.le_trans K107.1 K110.1) K123.1) K134.1) K146.1) K155.1) K162.1)) P171_0))
    have F205 : BD Z h178 zr (0 : Int64) := (F187.keep K178 (ninS ne204 nin0))
    obtain ⟨T196, L196, h196, X196, e196, r_206, v_207, s8_208, Nl196, K196, P196_0, P196_1, P196_2, P196_3, P196_4, P196_5, st196⟩ := rm_sg2B hx hZ hw hby hml hown (by decide) (by decide) (by decide) (by decide) ll ct 1 4 b102 b155 (1 : Int32) ma_172 2 s8_190 k102 k155 km_173 [(.ref zr), (.ref r_116), (.ref r_128), (.ref r_139), (.ref r_151)] [(.ref zr), (.ref zr), (.ref zr), (.ref zr), (.ref zr)] [.null, (.ref r_188), .null, .null, .null] r_128 r_116 zr v_129 v_117 (0 : Int64) r_188 v_189 zt kz zl n0 S_zt V_zt hzl hz (nb rfl) (nb rfl) (nb rfl) (nb rfl) rfl rfl rfl rfl rfl (Bn.mono hbd130 (by decide)) (Bn.mono hbd119 (by decide)) (Bn.mono own_bd0 (by decide)) (Bn.mono hbd192 (by decide)) gn179 P171_2 P178_3 ne180 ne181 T178 _ h178 X178 e178 Nl178 (Nat.le_trans z191 K178.1) O197 F194 F195 J193 F201 F203 F205 P178_1
    have hbd209 : Bn 3 v_207 := own_bE hbd192 own_bd0 hbd130 hbd119 P196_2 (Nat.le_of_ble_eq_true rfl) (nb rfl)
    have J210 : Arv Z h196 ma_172 km_173 (.object "java/math/BigDecimal") (5 : Int32) [.null, (.ref r_188), (.ref r_206), .null, .null] .null := P196_0
    have F211 : Arv Z h196 b102 k102 (.object "java/math/BigDecimal") (5 : Int32) [(.ref zr), (.ref r_116), (.ref r_128), (.ref r_139), (.ref r_151)] .null := (F194.keep K196 (ninS (Ne.symm ne181) nin0))
    have F212 : Arv Z h196 b155 k155 (.object "java/math/BigDecimal") (5 : Int32) [(.ref zr), (.ref zr), (.ref zr), (.ref zr), (.ref zr)] .null := (F195.keep K196 (ninS (Ne.symm ne180) nin0))
    have O214 : Old Z n0 h196 := (O197.keep K196 (allS gn179 all0))
    have ne215 : r_139 ≠ b102 := (Exa.neArv ((((((P134_1.1.keep K146).keep K155).keep K162).keep K171).keep K178).keep K196) F211 (w138 hw))
    have ne216 : r_139 ≠ b155 := (Nat.ne_of_lt (Nat.lt_of_lt_of_le (Nat.lt_of_lt_of_le P134_1.lt K146.1) (Nat.le_of_eq g155.symm)))
    have ne217 : r_139 ≠ ma_172 := (Nat.ne_of_lt (Nat.lt_of_lt_of_le (Nat.lt_of_lt_of_le P134_1.lt (Nat.le_trans (Nat.le_trans K146.1 K155.1) K162.1)) P171_0))
    have F218 : BD Z h196 r_139 v_140 := ((((((P134_1.keep K146 (ninS ne215 nin0)).keep K155 nin0).keep K162 (ninS ne216 nin0)).keep K171 nin0).keep K178 (ninS ne217 nin0)).keep K196 (ninS ne217 nin0))
    have F219 : BD Z h196 r_128 v_129 := (F201.keep K196 (ninS ne200 nin0))
    have F220 : BD Z h196 zr (0 : Int64) := (F205.keep K196 (ninS ne204 nin0))
    have z224 : n0 ≤ h196.size := (Nat.le_trans z191 (Nat.le_trans K178.1 K196.1))
    obtain ⟨T213, L213, h213, X213, e213, r_221, v_222, s8_223, Nl213, K213, P213_0, P213_1, P213_2, P213_3, P213_4, P213_5, st213⟩ := rm_sg2B hx hZ hw hby hml hown (by decide) (by decide) (by decide) (by decide) ll ct 1 4 b102 b155 (1 : Int32) ma_172 3 s8_208 k102 k155 km_173 [(.ref zr), (.ref r_116), (.ref r_128), (.ref r_139), (.ref r_151)] [(.ref zr), (.ref zr), (.ref zr), (.ref zr), (.ref zr)] [.null, (.ref r_188), (.ref r_206), .null, .null] r_139 r_128 zr v_140 v_129 (0 : Int64) r_206 v_207 zt kz zl n0 S_zt V_zt hzl hz (nb rfl) (nb rfl) (nb rfl) (nb rfl) rfl rfl rfl rfl rfl (Bn.mono hbd142 (by decide)) (Bn.mono hbd130 (by decide)) (Bn.mono own_bd0 (by decide)) (Bn.mono hbd209 (by decide)) gn179 P171_2 P196_5 ne180 ne181 T196 _ h196 X196 e196 Nl196 z224 O214 F211 F212 J210 F218 F219 F220 P196_1
    have hbd225 : Bn 5 v_222 := own_bE hbd209 own_bd0 hbd142 hbd130 P213_2 (Nat.le_of_ble_eq_true rfl) (nb rfl)
    have J226 : Arv Z h213 ma_172 km_173 (.object "java/math/BigDecimal") (5 : Int32) [.null, (.ref r_188), (.ref r_206), (.ref r_221), .null] .null := P213_0
    have F227 : Arv Z h213 b102 k102 (.object "java/math/BigDecimal") (5 : Int32) [(.ref zr), (.ref r_116), (.ref r_128), (.ref r_139), (.ref r_151)] .null := (F211.keep K213 (ninS (Ne.symm ne181) nin0))
    have F228 : Arv Z h213 b155 k155 (.object "java/math/BigDecimal") (5 : Int32) [(.ref zr), (.ref zr), (.ref zr), (.ref zr), (.ref zr)] .null := (F212.keep K213 (ninS (Ne.symm ne180) nin0))
    have O230 : Old Z n0 h213 := (O214.keep K213 (allS gn179 all0))
    have ne231 : r_151 ≠ ma_172 := (Nat.ne_of_lt (Nat.lt_of_lt_of_le (Nat.lt_of_lt_of_le P146_1.lt (Nat.le_trans K155.1 K162.1)) P171_0))
    have F232 : BD Z h213 r_151 v_152 := ((((((P146_1.keep K155 nin0).keep K162 (ninS (Nat.ne_of_lt (Nat.lt_of_lt_of_le P146_1.lt (Nat.le_of_eq g155.symm))) nin0)).keep K171 nin0).keep K178 (ninS ne231 nin0)).keep K196 (ninS ne231 nin0)).keep K213 (ninS ne231 nin0))
    have F233 : BD Z h213 r_139 v_140 := (F218.keep K213 (ninS ne217 nin0))
    have F234 : BD Z h213 zr (0 : Int64) := (F220.keep K213 (ninS ne204 nin0))
    obtain ⟨T229, L229, h229, X229, e229, r_235, v_236, s8_237, Nl229, K229, P229_0, P229_1, P229_2, P229_3, P229_4, P229_5, st229⟩ := rm_sg2B hx hZ hw hby hml hown (by decide) (by decide) (by decide) (by decide) ll ct 1 4 b102 b155 (1 : Int32) ma_172 4 s8_223 k102 k155 km_173 [(.ref zr), (.ref r_116), (.ref r_128), (.ref r_139), (.ref r_151)] [(.ref zr), (.ref zr), (.ref zr), (.ref zr), (.ref zr)] [.null, (.ref r_188), (.ref r_206), (.ref r_221), .null] r_151 r_139 zr v_152 v_140 (0 : Int64) r_221 v_222 zt kz zl n0 S_zt V_zt hzl hz (nb rfl) (nb rfl) (nb rfl) (nb rfl) rfl rfl rfl rfl rfl (Bn.mono hbd153 (by decide)) (Bn.mono hbd142 (by decide)) (Bn.mono own_bd0 (by decide)) (Bn.mono hbd225 (by decide)) gn179 P171_2 P213_5 ne180 ne181 T213 _ h213 X213 e213 Nl213 (Nat.le_trans z224 K213.1) O230 F227 F228 J226 F232 F233 F234 P213_1
    have hbd238 : Bn 7 v_236 := own_bE hbd225 own_bd0 hbd153 hbd142 P229_2 (Nat.le_of_ble_eq_true rfl) (nb rfl)
    have J239 : Arv Z h229 ma_172 km_173 (.object "java/math/BigDecimal") (5 : Int32) [.null, (.ref r_188), (.ref r_206), (.ref r_221), (.ref r_235)] .null := P229_0
    have KA240 : Keep h0 h229 [] := (Keep.trans (Keep.trans (Keep.trans (Keep.trans (Keep.trans KA166 K171 all0) K178 (allS (Or.inr (Nat.le_trans (Nat.le_trans (Nat.le_trans (Nat.le_trans (Nat.le_trans (Nat.le_trans (Nat.le_trans (Nat.le_trans K102.1 K107.1) K110.1) K123.1) K134.1) K146.1) K155.1) K162.1) P171_0)) all0)) K196 (allS (Or.inr (Nat.le_trans (Nat.le_trans (Nat.le_trans (Nat.le_trans (Nat.le_trans (Nat.le_trans (Nat.le_trans (Nat.le_trans K102.1 K107.1) K110.1) K123.1) K134.1) K146.1) K155.1) K162.1) P171_0)) all0)) K213 (allS (Or.inr (Nat.le_trans (Nat.le_trans (Nat.le_trans (Nat.le_trans (Nat.le_trans (Nat.le_trans (Nat.le_trans (Nat.le_trans K102.1 K107.1) K110.1) K123.1) K134.1) K146.1) K155.1) K162.1) P171_0)) all0)) K229 (allS (Or.inr (Nat.le_trans (Nat.le_trans (Nat.le_trans (Nat.le_trans (Nat.le_trans (Nat.le_trans (Nat.le_trans (Nat.le_trans K102.1 K107.1) K110.1) K123.1) K134.1) K146.1) K155.1) K162.1) P171_0)) all0))
    have W241 : ∀ zQ, SS p e below T229 m 82 #[.val (.ref ll), .val (.int ct), .val (.int (1 : Int32)), .val (.int (4 : Int32)), .val (.ref b102), .val (.ref ma_172), .val (.int (2 : Int32)), .val (.ref ma_172), .val (.int (5 : Int32)), s8_237] [] zQ → Steps p.tables e below (s₁.setTop (entryFrame m #[(.ref ll), (.int ct), (.int le)] 10)) zQ := by
      intro tt kt
      refine W165 tt ?_
      rw [show le = (1 : Int32) from hle]
      refine XS.iconst X162.here hx rfl (D_ d31_79) ?_
      refine XS.istore X162.here hx rfl (D_ d31_80) rfl (l' := #[.val (.ref ll), .val (.int ct), .val (.int (1 : Int32)), .val (.int (4 : Int32)), .val (.ref b102), .val (.ref b155), .val (.int (1 : Int32)), .unset, .unset, .unset]) rfl ?_
      refine st171 _ ?_
      show SS p e below T171 m 102 #[.val (.ref ll), .val (.int ct), .val (.int (Int32.ofNat 1)), .val (.int (Int32.ofNat 4)), .val (.ref b102), .val (.ref b155), .val (.int (Int32.ofNat 1)), .val (.ref ma_172), .val (.int (Int32.ofNat (1 * 1))), (.unset)] [] _
      refine st178 _ ?_
      show SS p e below T178 m 102 #[.val (.ref ll), .val (.int ct), .val (.int (Int32.ofNat 1)), .val (.int (Int32.ofNat 4)), .val (.ref b102), .val (.ref b155), .val (.int (1 : Int32)), .val (.ref ma_172), .val (.int (Int32.ofNat (1 + 1))), s8_190] [] _
      refine st196 _ ?_
      show SS p e below T196 m 102 #[.val (.ref ll), .val (.int ct), .val (.int (Int32.ofNat 1)), .val (.int (Int32.ofNat 4)), .val (.ref b102), .val (.ref b155), .val (.int (1 : Int32)), .val (.ref ma_172), .val (.int (Int32.ofNat (2 + 1))), s8_208] [] _
      refine st213 _ ?_
      show SS p e below T213 m 102 #[.val (.ref ll), .val (.int ct), .val (.int (Int32.ofNat 1)), .val (.int (Int32.ofNat 4)), .val (.ref b102), .val (.ref b155), .val (.int (1 : Int32)), .val (.ref ma_172), .val (.int (Int32.ofNat (3 + 1))), s8_223] [] _
      refine st229 _ ?_
      show SS p e below T229 m 102 #[.val (.ref ll), .val (.int ct), .val (.int (Int32.ofNat 1)), .val (.int (Int32.ofNat 4)), .val (.ref b102), .val (.ref b155), .val (.int (1 : Int32)), .val (.ref ma_172), .val (.int (Int32.ofNat (4 + 1))), s8_237] [] _
      refine XS.iload X229.here hx rfl (D_ d31_102) rfl ?_
      refine XS.iloadN X229.here hx rfl (D_ d31_104) rfl ?_
      refine XS.icmpYes X229.here hx rfl (pc0 := 105) (pc' := 173) rfl (D_ d31_105) rfl (tlt (by decide)).2.2.1 (by decide) (by decide) ?_
      refine XS.aload X229.here hx rfl (D_ d31_173) rfl rfl ?_
      refine XS.astore X229.here hx rfl (D_ d31_175) rfl rfl (l' := #[.val (.ref ll), .val (.int ct), .val (.int (1 : Int32)), .val (.int (4 : Int32)), .val (.ref b102), .val (.ref ma_172), .val (.int (1 : Int32)), .val (.ref ma_172), .val (.int (5 : Int32)), s8_237]) rfl ?_
      refine XS.iinc X229.here hx rfl (D_ d31_177) rfl (l' := #[.val (.ref ll), .val (.int ct), .val (.int (1 : Int32)), .val (.int (4 : Int32)), .val (.ref b102), .val (.ref ma_172), .val (.int (2 : Int32)), .val (.ref ma_172), .val (.int (5 : Int32)), s8_237]) rfl ?_
      refine XS.goto X229.here hx rfl (pc0 := 180) (pc' := 82) rfl (D_ d31_180) (by decide) (by decide) ?_
      exact kt
    rcases hc with hct | hc
    ·
      obtain ⟨cl242, Ar242, q242, S242, M242, H242, F242g⟩ := id J239
      have hin242 : ¬ ((4 : Int32) < 0 ∨ cl242.slots.size ≤ ((4 : Int32)).toNatClampNeg) := inb_of S242 ⟨by decide, by decide⟩
      have hat242 : cl242.slots[((4 : Int32)).toNatClampNeg]? = some (.ref r_235) := Has.at H242 hin242 rfl
      have W243 : ∀ zQ, SS p e below T229 m 187 #[.val (.ref ll), .val (.int (1 : Int32)), .val (.int (1 : Int32)), .val (.int (4 : Int32)), .val (.ref b102), .val (.ref ma_172), .val (.int (2 : Int32)), .val (.ref ma_172), .val (.int (5 : Int32)), s8_237] [(.ref r_235)] zQ → Steps p.tables e below (s₁.setTop (entryFrame m #[(.ref ll), (.int ct), (.int le)] 10)) zQ := by
        intro tt kt
        refine W241 tt ?_
        rw [show ct = (1 : Int32) from hct]
        refine XS.iload X229.here hx rfl (D_ d31_82) rfl ?_
        refine XS.iloadN X229.here hx rfl (D_ d31_84) rfl ?_
        refine XS.icmpYes X229.here hx rfl (pc0 := 85) (pc' := 183) rfl (D_ d31_85) rfl (tlt (by decide)).2.2.1 (by decide) (by decide) ?_
        refine XS.aload X229.here hx rfl (D_ d31_183) rfl rfl ?_
        refine XS.iloadN X229.here hx rfl (D_ d31_185) rfl ?_
        refine X229.aaload hx (j := (4 : Int32)) (v := (.ref r_235)) (by first | exact Ar242.1 | (rw [e229]; exact Ar242.1)) (State.isArrayOf_alike hZ.alike Ar242.2.1) rfl Ar242.2.2 hin242 hat242 (g := (mkF m 186 #[.val (.ref ll), .val (.int (1 : Int32)), .val (.int (1 : Int32)), .val (.int (4 : Int32)), .val (.ref b102), .val (.ref ma_172), .val (.int (2 : Int32)), .val (.ref ma_172), .val (.int (5 : Int32)), s8_237] [(.int (4 : Int32)), (.ref ma_172)])) rfl rfl (D_ d31_186) _ ?_
        exact kt
      obtain ⟨fs, hr, hrun, hended, hW, hsame⟩ := X229.leave (v := some (.ref r_235)) (fun h => by rw [Bd.returns] at h; cases h)
      refine ⟨_, _, W243 _ (own_retR X229 hx Bd.returns rfl rfl (D_ d31_187) hr), hrun, hended, _, _, rfl, ?_, ⟨_, rfl⟩, hW, hsame.mono (by decide) (by decide)⟩
      show Q_tot4 Z ll ct le d kd p1 p2 p3 p4 x0 x1 x2 x3 zt kz zl zr h0 n0 _ T229.heap _
      rw [e229]
      exact ⟨r_235, v_236, rfl, Nl229, KA240, P229_1, (by rw [hct, hle]; rw [dpl4_11]; exact (own_dp27 P110_2 P123_2 P134_2 P146_2 P178_2 P196_2 P196_3 P196_4 P213_2 P213_3 P213_4 P229_2 P229_3 P229_4)), (Bn.mono hbd238 (by decide))⟩
    ·
      have z247 : n0 ≤ h229.size := (Nat.le_trans z224 (Nat.le_trans K213.1 K229.1))
      obtain ⟨T244, L244, h244, X244, e244, ma_245, km_246, Nl244, K244, P244_0, P244_1, P244_2, st244⟩ := rm_sg0 hx hZ hw hby hml hown (by decide) (by decide) (by decide) (by decide) ll ct 1 4 b102 ma_172 2 (.val (.ref ma_172)) (.val (.int (5 : Int32))) s8_237 n0 (by rcases hc with h | h | h <;> rw [h] <;> decide) (nb rfl) (nb rfl) (One.val rfl) (One.val rfl) T229 _ h229 X229 e229 Nl229 z247 
      have J248 : Arv Z h244 ma_245 km_246 (.object "java/math/BigDecimal") (5 : Int32) [.null, .null, .null, .null, .null] .null := Arv.pad P244_1 (pad_rep [] .null 5)
      have F249 : Arv Z h244 b102 k102 (.object "java/math/BigDecimal") (5 : Int32) [(.ref zr), (.ref r_116), (.ref r_128), (.ref r_139), (.ref r_151)] .null := ((F227.keep K229 (ninS (Ne.symm ne181) nin0)).keep K244 nin0)
      have F250 : Arv Z h244 ma_172 km_173 (.object "java/math/BigDecimal") (5 : Int32) [.null, (.ref r_188), (.ref r_206), (.ref r_221), (.ref r_235)] .null := (J239.keep K244 nin0)
      have gn252 : n0 ≤ ma_245 := Nat.le_trans Z0 (Nat.le_trans (Nat.le_trans (Nat.le_trans (Nat.le_trans (Nat.le_trans (Nat.le_trans (Nat.le_trans (Nat.le_trans (Nat.le_trans (Nat.le_trans (Nat.le_trans (Nat.le_trans (Nat.le_trans K102.1 K107.1) K110.1) K123.1) K134.1) K146.1) K155.1) K162.1) K171.1) K178.1) K196.1) K213.1) K229.1) P244_0)
      have ne253 : ma_245 ≠ ma_172 := (Ne.symm (Nat.ne_of_lt (Nat.lt_of_lt_of_le (Nat.lt_of_lt_of_le P171_1.lt (Nat.le_trans (Nat.le_trans (Nat.le_trans K178.1 K196.1) K213.1) K229.1)) P244_0)))
      have ne254 : ma_245 ≠ b102 := (Ne.symm (Nat.ne_of_lt (Nat.lt_of_lt_of_le (Nat.lt_of_lt_of_le G102.lt (Nat.le_trans (Nat.le_trans (Nat.le_trans (Nat.le_trans (Nat.le_trans (Nat.le_trans (Nat.le_trans (Nat.le_trans (Nat.le_trans (Nat.le_trans (Nat.le_trans K107.1 K110.1) K123.1) K134.1) K146.1) K155.1) K162.1) K171.1) K178.1) K196.1) K213.1) K229.1)) P244_0)))
      have O255 : Old Z n0 h244 := ((O230.keep K229 (allS gn179 all0)).keep K244 all0)
      have F256 : BD Z h244 r_128 v_129 := (((F219.keep K213 (ninS ne200 nin0)).keep K229 (ninS ne200 nin0)).keep K244 nin0)
      have F257 : BD Z h244 r_116 v_117 := ((((F203.keep K196 (ninS ne202 nin0)).keep K213 (ninS ne202 nin0)).keep K229 (ninS ne202 nin0)).keep K244 nin0)
      have ne258 : r_188 ≠ ma_172 := (Exa.neArv ((((P178_1.1.keep K196).keep K213).keep K229).keep K244) F250 (w138 hw))
      have F259 : BD Z h244 r_188 v_189 := ((((P178_1.keep K196 (ninS ne258 nin0)).keep K213 (ninS ne258 nin0)).keep K229 (ninS ne258 nin0)).keep K244 nin0)
      obtain ⟨T251, L251, h251, X251, e251, r_260, v_261, s8_262, Nl251, K251, P251_0, P251_1, P251_2, P251_3, st251⟩ := rm_sg2A hx hZ hw hby hml hown (by decide) (by decide) (by decide) (by decide) ll ct 1 4 b102 ma_172 (2 : Int32) ma_245 2 s8_237 k102 km_173 km_246 [(.ref zr), (.ref r_116), (.ref r_128), (.ref r_139), (.ref r_151)] [.null, (.ref r_188), (.ref r_206), (.ref r_221), (.ref r_235)] [.null, .null, .null, .null, .null] r_128 r_116 r_188 v_129 v_117 v_189 zt kz zl n0 S_zt V_zt hzl hz (nb rfl) (nb rfl) (nb rfl) (nb rfl) rfl rfl rfl rfl rfl (Bn.mono hbd130 (by decide)) (Bn.mono hbd119 (by decide)) (Bn.mono hbd192 (by decide)) gn252 P244_2 P229_5 ne253 ne254 T244 _ h244 X244 e244 Nl244 (Nat.le_trans z247 K244.1) O255 F249 F250 J248 F256 F257 F259
      have hbd263 : Bn 4 v_261 := own_bA hbd192 hbd130 hbd119 P251_2 (Nat.le_of_ble_eq_true rfl)
      have J264 : Arv Z h251 ma_245 km_246 (.object "java/math/BigDecimal") (5 : Int32) [.null, .null, (.ref r_260), .null, .null] .null := P251_0
      have F265 : Arv Z h251 b102 k102 (.object "java/math/BigDecimal") (5 : Int32) [(.ref zr), (.ref r_116), (.ref r_128), (.ref r_139), (.ref r_151)] .null := (F249.keep K251 (ninS (Ne.symm ne254) nin0))
      have F266 : Arv Z h251 ma_172 km_173 (.object "java/math/BigDecimal") (5 : Int32) [.null, (.ref r_188), (.ref r_206), (.ref r_221), (.ref r_235)] .null := (F250.keep K251 (ninS (Ne.symm ne253) nin0))
      have O268 : Old Z n0 h251 := (O255.keep K251 (allS gn252 all0))
      have ne269 : r_139 ≠ ma_245 := (Nat.ne_of_lt (Nat.lt_of_lt_of_le (Nat.lt_of_lt_of_le P134_1.lt (Nat.le_trans (Nat.le_trans (Nat.le_trans (Nat.le_trans (Nat.le_trans (Nat.le_trans (Nat.le_trans K146.1 K155.1) K162.1) K171.1) K178.1) K196.1) K213.1) K229.1)) P244_0))
      have F270 : BD Z h251 r_139 v_140 := (((F233.keep K229 (ninS ne217 nin0)).keep K244 nin0).keep K251 (ninS ne269 nin0))
      have ne271 : r_128 ≠ ma_245 := (Nat.ne_of_lt (Nat.lt_of_lt_of_le (Nat.lt_of_lt_of_le P123_1.lt (Nat.le_trans (Nat.le_trans (Nat.le_trans (Nat.le_trans (Nat.le_trans (Nat.le_trans (Nat.le_trans (Nat.le_trans K134.1 K146.1) K155.1) K162.1) K171.1) K178.1) K196.1) K213.1) K229.1)) P244_0))
      have F272 : BD Z h251 r_128 v_129 := (F256.keep K251 (ninS ne271 nin0))
      have ne273 : r_206 ≠ ma_172 := (Exa.neArv ((((P196_1.1.keep K213).keep K229).keep K244).keep K251) F266 (w138 hw))
      have ne274 : r_206 ≠ ma_245 := (Nat.ne_of_lt (Nat.lt_of_lt_of_le (Nat.lt_of_lt_of_le P196_1.lt (Nat.le_trans K213.1 K229.1)) P244_0))
      have F275 : BD Z h251 r_206 v_207 := ((((P196_1.keep K213 (ninS ne273 nin0)).keep K229 (ninS ne273 nin0)).keep K244 nin0).keep K251 (ninS ne274 nin0))
      have z279 : n0 ≤ h251.size := (Nat.le_trans z247 (Nat.le_trans K244.1 K251.1))
      obtain ⟨T267, L267, h267, X267, e267, r_276, v_277, s8_278, Nl267, K267, P267_0, P267_1, P267_2, P267_3, P267_4, P267_5, st267⟩ := rm_sg2B hx hZ hw hby hml hown (by decide) (by decide) (by decide) (by decide) ll ct 1 4 b102 ma_172 (2 : Int32) ma_245 3 s8_262 k102 km_173 km_246 [(.ref zr), (.ref r_116), (.ref r_128), (.ref r_139), (.ref r_151)] [.null, (.ref r_188), (.ref r_206), (.ref r_221), (.ref r_235)] [.null, .null, (.ref r_260), .null, .null] r_139 r_128 r_206 v_140 v_129 v_207 r_260 v_261 zt kz zl n0 S_zt V_zt hzl hz (nb rfl) (nb rfl) (nb rfl) (nb rfl) rfl rfl rfl rfl rfl (Bn.mono hbd142 (by decide)) (Bn.mono hbd130 (by decide)) (Bn.mono hbd209 (by decide)) (Bn.mono hbd263 (by decide)) gn252 P244_2 P251_3 ne253 ne254 T251 _ h251 X251 e251 Nl251 z279 O268 F265 F266 J264 F270 F272 F275 P251_1
      have hbd280 : Bn 8 v_277 := own_bE hbd263 hbd209 hbd142 hbd130 P267_2 (Nat.le_of_ble_eq_true rfl) (nb rfl)
      have J281 : Arv Z h267 ma_245 km_246 (.object "java/math/BigDecimal") (5 : Int32) [.null, .null, (.ref r_260), (.ref r_276), .null] .null := P267_0
      have F282 : Arv Z h267 b102 k102 (.object "java/math/BigDecimal") (5 : Int32) [(.ref zr), (.ref r_116), (.ref r_128), (.ref r_139), (.ref r_151)] .null := (F265.keep K267 (ninS (Ne.symm ne254) nin0))
      have F283 : Arv Z h267 ma_172 km_173 (.object "java/math/BigDecimal") (5 : Int32) [.null, (.ref r_188), (.ref r_206), (.ref r_221), (.ref r_235)] .null := (F266.keep K267 (ninS (Ne.symm ne253) nin0))
      have O285 : Old Z n0 h267 := (O268.keep K267 (allS gn252 all0))
      have ne286 : r_151 ≠ ma_245 := (Nat.ne_of_lt (Nat.lt_of_lt_of_le (Nat.lt_of_lt_of_le P146_1.lt (Nat.le_trans (Nat.le_trans (Nat.le_trans (Nat.le_trans (Nat.le_trans (Nat.le_trans K155.1 K162.1) K171.1) K178.1) K196.1) K213.1) K229.1)) P244_0))
      have F287 : BD Z h267 r_151 v_152 := ((((F232.keep K229 (ninS ne231 nin0)).keep K244 nin0).keep K251 (ninS ne286 nin0)).keep K267 (ninS ne286 nin0))
      have F288 : BD Z h267 r_139 v_140 := (F270.keep K267 (ninS ne269 nin0))
      have ne289 : r_221 ≠ ma_172 := (Exa.neArv ((((P213_1.1.keep K229).keep K244).keep K251).keep K267) F283 (w138 hw))
      have ne290 : r_221 ≠ ma_245 := (Nat.ne_of_lt (Nat.lt_of_lt_of_le (Nat.lt_of_lt_of_le P213_1.lt K229.1) P244_0))
      have F291 : BD Z h267 r_221 v_222 := ((((P213_1.keep K229 (ninS ne289 nin0)).keep K244 nin0).keep K251 (ninS ne290 nin0)).keep K267 (ninS ne290 nin0))
      obtain ⟨T284, L284, h284, X284, e284, r_292, v_293, s8_294, Nl284, K284, P284_0, P284_1, P284_2, P284_3, P284_4, P284_5, st284⟩ := rm_sg2B hx hZ hw hby hml hown (by decide) (by decide) (by decide) (by decide) ll ct 1 4 b102 ma_172 (2 : Int32) ma_245 4 s8_278 k102 km_173 km_246 [(.ref zr), (.ref r_116), (.ref r_128), (.ref r_139), (.ref r_151)] [.null, (.ref r_188), (.ref r_206), (.ref r_221), (.ref r_235)] [.null, .null, (.ref r_260), (.ref r_276), .null] r_151 r_139 r_221 v_152 v_140 v_222 r_276 v_277 zt kz zl n0 S_zt V_zt hzl hz (nb rfl) (nb rfl) (nb rfl) (nb rfl) rfl rfl rfl rfl rfl (Bn.mono hbd153 (by decide)) (Bn.mono hbd142 (by decide)) (Bn.mono hbd225 (by decide)) (Bn.mono hbd280 (by decide)) gn252 P244_2 P267_5 ne253 ne254 T267 _ h267 X267 e267 Nl267 (Nat.le_trans z279 K267.1) O285 F282 F283 J281 F287 F288 F291 P267_1
      have hbd295 : Bn 12 v_293 := own_bE hbd280 hbd225 hbd153 hbd142 P284_2 (Nat.le_of_ble_eq_true rfl) (nb rfl)
      have J296 : Arv Z h284 ma_245 km_246 (.object "java/math/BigDecimal") (5 : Int32) [.null, .null, (.ref r_260), (.ref r_276), (.ref r_292)] .null := P284_0
      have KA297 : Keep h0 h284 [] := (Keep.trans (Keep.trans (Keep.trans (Keep.trans KA240 K244 all0) K251 (allS (Or.inr (Nat.le_trans (Nat.le_trans (Nat.le_trans (Nat.le_trans (Nat.le_trans (Nat.le_trans (Nat.le_trans (Nat.le_trans (Nat.le_trans (Nat.le_trans (Nat.le_trans (Nat.le_trans (Nat.le_trans K102.1 K107.1) K110.1) K123.1) K134.1) K146.1) K155.1) K162.1) K171.1) K178.1) K196.1) K213.1) K229.1) P244_0)) all0)) K267 (allS (Or.inr (Nat.le_trans (Nat.le_trans (Nat.le_trans (Nat.le_trans (Nat.le_trans (Nat.le_trans (Nat.le_trans (Nat.le_trans (Nat.le_trans (Nat.le_trans (Nat.le_trans (Nat.le_trans (Nat.le_trans K102.1 K107.1) K110.1) K123.1) K134.1) K146.1) K155.1) K162.1) K171.1) K178.1) K196.1) K213.1) K229.1) P244_0)) all0)) K284 (allS (Or.inr (Nat.le_trans (Nat.le_trans (Nat.le_trans (Nat.le_trans (Nat.le_trans (Nat.le_trans (Nat.le_trans (Nat.le_trans (Nat.le_trans (Nat.le_trans (Nat.le_trans (Nat.le_trans (Nat.le_trans K102.1 K107.1) K110.1) K123.1) K134.1) K146.1) K155.1) K162.1) K171.1) K178.1) K196.1) K213.1) K229.1) P244_0)) all0))
      have W298 : ∀ zQ, SS p e below T284 m 82 #[.val (.ref ll), .val (.int ct), .val (.int (1 : Int32)), .val (.int (4 : Int32)), .val (.ref b102), .val (.ref ma_245), .val (.int (3 : Int32)), .val (.ref ma_245), .val (.int (5 : Int32)), s8_294] [] zQ → Steps p.tables e below (s₁.setTop (entryFrame m #[(.ref ll), (.int ct), (.int le)] 10)) zQ := by
        intro tt kt
        refine W241 tt ?_
        refine st244 _ ?_
        show SS p e below T244 m 102 #[.val (.ref ll), .val (.int ct), .val (.int (Int32.ofNat 1)), .val (.int (Int32.ofNat 4)), .val (.ref b102), .val (.ref ma_172), .val (.int (Int32.ofNat 2)), .val (.ref ma_245), .val (.int (Int32.ofNat (2 * 1))), s8_237] [] _
        refine st251 _ ?_
        show SS p e below T251 m 102 #[.val (.ref ll), .val (.int ct), .val (.int (Int32.ofNat 1)), .val (.int (Int32.ofNat 4)), .val (.ref b102), .val (.ref ma_172), .val (.int (2 : Int32)), .val (.ref ma_245), .val (.int (Int32.ofNat (2 + 1))), s8_262] [] _
        refine st267 _ ?_
        show SS p e below T267 m 102 #[.val (.ref ll), .val (.int ct), .val (.int (Int32.ofNat 1)), .val (.int (Int32.ofNat 4)), .val (.ref b102), .val (.ref ma_172), .val (.int (2 : Int32)), .val (.ref ma_245), .val (.int (Int32.ofNat (3 + 1))), s8_278] [] _
        refine st284 _ ?_
        show SS p e below T284 m 102 #[.val (.ref ll), .val (.int ct), .val (.int (Int32.ofNat 1)), .val (.int (Int32.ofNat 4)), .val (.ref b102), .val (.ref ma_172), .val (.int (2 : Int32)), .val (.ref ma_245), .val (.int (Int32.ofNat (4 + 1))), s8_294] [] _
        refine XS.iload X284.here hx rfl (D_ d31_102) rfl ?_
        refine XS.iloadN X284.here hx rfl (D_ d31_104) rfl ?_
        refine XS.icmpYes X284.here hx rfl (pc0 := 105) (pc' := 173) rfl (D_ d31_105) rfl (tlt (by decide)).2.2.1 (by decide) (by decide) ?_
        refine XS.aload X284.here hx rfl (D_ d31_173) rfl rfl ?_
        refine XS.astore X284.here hx rfl (D_ d31_175) rfl rfl (l' := #[.val (.ref ll), .val (.int ct), .val (.int (1 : Int32)), .val (.int (4 : Int32)), .val (.ref b102), .val (.ref ma_245), .val (.int (2 : Int32)), .val (.ref ma_245), .val (.int (5 : Int32)), s8_294]) rfl ?_
        refine XS.iinc X284.here hx rfl (D_ d31_177) rfl (l' := #[.val (.ref ll), .val (.int ct), .val (.int (1 : Int32)), .val (.int (4 : Int32)), .val (.ref b102), .val (.ref ma_245), .val (.int (3 : Int32)), .val (.ref ma_245), .val (.int (5 : Int32)), s8_294]) rfl ?_
        refine XS.goto X284.here hx rfl (pc0 := 180) (pc' := 82) rfl (D_ d31_180) (by decide) (by decide) ?_
        exact kt
      rcases hc with hct | hc
      ·
        obtain ⟨cl299, Ar299, q299, S299, M299, H299, F299g⟩ := id J296
        have hin299 : ¬ ((4 : Int32) < 0 ∨ cl299.slots.size ≤ ((4 : Int32)).toNatClampNeg) := inb_of S299 ⟨by decide, by decide⟩
        have hat299 : cl299.slots[((4 : Int32)).toNatClampNeg]? = some (.ref r_292) := Has.at H299 hin299 rfl
        have W300 : ∀ zQ, SS p e below T284 m 187 #[.val (.ref ll), .val (.int (2 : Int32)), .val (.int (1 : Int32)), .val (.int (4 : Int32)), .val (.ref b102), .val (.ref ma_245), .val (.int (3 : Int32)), .val (.ref ma_245), .val (.int (5 : Int32)), s8_294] [(.ref r_292)] zQ → Steps p.tables e below (s₁.setTop (entryFrame m #[(.ref ll), (.int ct), (.int le)] 10)) zQ := by
          intro tt kt
          refine W298 tt ?_
          rw [show ct = (2 : Int32) from hct]
          refine XS.iload X284.here hx rfl (D_ d31_82) rfl ?_
          refine XS.iloadN X284.here hx rfl (D_ d31_84) rfl ?_
          refine XS.icmpYes X284.here hx rfl (pc0 := 85) (pc' := 183) rfl (D_ d31_85) rfl (tlt (by decide)).2.2.1 (by decide) (by decide) ?_
          refine XS.aload X284.here hx rfl (D_ d31_183) rfl rfl ?_
          refine XS.iloadN X284.here hx rfl (D_ d31_185) rfl ?_
          refine X284.aaload hx (j := (4 : Int32)) (v := (.ref r_292)) (by first | exact Ar299.1 | (rw [e284]; exact Ar299.1)) (State.isArrayOf_alike hZ.alike Ar299.2.1) rfl Ar299.2.2 hin299 hat299 (g := (mkF m 186 #[.val (.ref ll), .val (.int (2 : Int32)), .val (.int (1 : Int32)), .val (.int (4 : Int32)), .val (.ref b102), .val (.ref ma_245), .val (.int (3 : Int32)), .val (.ref ma_245), .val (.int (5 : Int32)), s8_294] [(.int (4 : Int32)), (.ref ma_245)])) rfl rfl (D_ d31_186) _ ?_
          exact kt
        obtain ⟨fs, hr, hrun, hended, hW, hsame⟩ := X284.leave (v := some (.ref r_292)) (fun h => by rw [Bd.returns] at h; cases h)
        refine ⟨_, _, W300 _ (own_retR X284 hx Bd.returns rfl rfl (D_ d31_187) hr), hrun, hended, _, _, rfl, ?_, ⟨_, rfl⟩, hW, hsame.mono (by decide) (by decide)⟩
        show Q_tot4 Z ll ct le d kd p1 p2 p3 p4 x0 x1 x2 x3 zt kz zl zr h0 n0 _ T284.heap _
        rw [e284]
        exact ⟨r_292, v_293, rfl, Nl284, KA297, P284_1, (by rw [hct, hle]; rw [dpl4_21]; exact (own_dp28 P110_2 P123_2 P134_2 P146_2 P178_2 P196_2 P196_3 P196_4 P213_2 P213_3 P213_4 P251_2 P267_2 P267_3 P267_4 P284_2 P284_3 P284_4)), (Bn.mono hbd295 (by decide))⟩
      ·
        have z304 : n0 ≤ h284.size := (Nat.le_trans z279 (Nat.le_trans K267.1 K284.1))
        obtain ⟨T301, L301, h301, X301, e301, ma_302, km_303, Nl301, K301, P301_0, P301_1, P301_2, st301⟩ := rm_sg0 hx hZ hw hby hml hown (by decide) (by decide) (by decide) (by decide) ll ct 1 4 b102 ma_245 3 (.val (.ref ma_245)) (.val (.int (5 : Int32))) s8_294 n0 (by rcases hc with h | h <;> rw [h] <;> decide) (nb rfl) (nb rfl) (One.val rfl) (One.val rfl) T284 _ h284 X284 e284 Nl284 z304 
        have J305 : Arv Z h301 ma_302 km_303 (.object "java/math/BigDecimal") (5 : Int32) [.null, .null, .null, .null, .null] .null := Arv.pad P301_1 (pad_rep [] .null 5)
        have F306 : Arv Z h301 b102 k102 (.object "java/math/BigDecimal") (5 : Int32) [(.ref zr), (.ref r_116), (.ref r_128), (.ref r_139), (.ref r_151)] .null := ((F282.keep K284 (ninS (Ne.symm ne254) nin0)).keep K301 nin0)
        have F307 : Arv Z h301 ma_245 km_246 (.object "java/math/BigDecimal") (5 : Int32) [.null, .null, (.ref r_260), (.ref r_276), (.ref r_292)] .null := (J296.keep K301 nin0)
        have gn309 : n0 ≤ ma_302 := Nat.le_trans Z0 (Nat.le_trans (Nat.le_trans (Nat.le_trans (Nat.le_trans (Nat.le_trans (Nat.le_trans (Nat.le_trans (Nat.le_trans (Nat.le_trans (Nat.le_trans (Nat.le_trans (Nat.le_trans (Nat.le_trans (Nat.le_trans (Nat.le_trans (Nat.le_trans (Nat.le_trans K102.1 K107.1) K110.1) K123.1) K134.1) K146.1) K155.1) K162.1) K171.1) K178.1) K196.1) K213.1) K229.1) K244.1) K251.1) K267.1) K284.1) P301_0)
        have ne310 : ma_302 ≠ ma_245 := (Ne.symm (Nat.ne_of_lt (Nat.lt_of_lt_of_le (Nat.lt_of_lt_of_le P244_1.lt (Nat.le_trans (Nat.le_trans K251.1 K267.1) K284.1)) P301_0)))
        have ne311 : ma_302 ≠ b102 := (Ne.symm (Nat.ne_of_lt (Nat.lt_of_lt_of_le (Nat.lt_of_lt_of_le G102.lt (Nat.le_trans (Nat.le_trans (Nat.le_trans (Nat.le_trans (Nat.le_trans (Nat.le_trans (Nat.le_trans (Nat.le_trans (Nat.le_trans (Nat.le_trans (Nat.le_trans (Nat.le_trans (Nat.le_trans (Nat.le_trans (Nat.le_trans K107.1 K110.1) K123.1) K134.1) K146.1) K155.1) K162.1) K171.1) K178.1) K196.1) K213.1) K229.1) K244.1) K251.1) K267.1) K284.1)) P301_0)))
        have O312 : Old Z n0 h301 := ((O285.keep K284 (allS gn252 all0)).keep K301 all0)
        have F313 : BD Z h301 r_139 v_140 := ((F288.keep K284 (ninS ne269 nin0)).keep K301 nin0)
        have F314 : BD Z h301 r_128 v_129 := (((F272.keep K267 (ninS ne271 nin0)).keep K284 (ninS ne271 nin0)).keep K301 nin0)
        have ne315 : r_260 ≠ ma_245 := (Exa.neArv (((P251_1.1.keep K267).keep K284).keep K301) F307 (w138 hw))
        have F316 : BD Z h301 r_260 v_261 := (((P251_1.keep K267 (ninS ne315 nin0)).keep K284 (ninS ne315 nin0)).keep K301 nin0)
        obtain ⟨T308, L308, h308, X308, e308, r_317, v_318, s8_319, Nl308, K308, P308_0, P308_1, P308_2, P308_3, st308⟩ := rm_sg2A hx hZ hw hby hml hown (by decide) (by decide) (by decide) (by decide) ll ct 1 4 b102 ma_245 (3 : Int32) ma_302 3 s8_294 k102 km_246 km_303 [(.ref zr), (.ref r_116), (.ref r_128), (.ref r_139), (.ref r_151)] [.null, .null, (.ref r_260), (.ref r_276), (.ref r_292)] [.null, .null, .null, .null, .null] r_139 r_128 r_260 v_140 v_129 v_261 zt kz zl n0 S_zt V_zt hzl hz (nb rfl) (nb rfl) (nb rfl) (nb rfl) rfl rfl rfl rfl rfl (Bn.mono hbd142 (by decide)) (Bn.mono hbd130 (by decide)) (Bn.mono hbd263 (by decide)) gn309 P301_2 P284_5 ne310 ne311 T301 _ h301 X301 e301 Nl301 (Nat.le_trans z304 K301.1) O312 F306 F307 J305 F313 F314 F316
        have hbd320 : Bn 9 v_318 := own_bA hbd263 hbd142 hbd130 P308_2 (Nat.le_of_ble_eq_true rfl)
        have J321 : Arv Z h308 ma_302 km_303 (.object "java/math/BigDecimal") (5 : Int32) [.null, .null, .null, (.ref r_317), .null] .null := P308_0
        have F322 : Arv Z h308 b102 k102 (.object "java/math/BigDecimal") (5 : Int32) [(.ref zr), (.ref r_116), (.ref r_128), (.ref r_139), (.ref r_151)] .null := (F306.keep K308 (ninS (Ne.symm ne311) nin0))
        have F323 : Arv Z h308 ma_245 km_246 (.object "java/math/BigDecimal") (5 : Int32) [.null, .null, (.ref r_260), (.ref r_276), (.ref r_292)] .null := (F307.keep K308 (ninS (Ne.symm ne310) nin0))
        have O325 : Old Z n0 h308 := (O312.keep K308 (allS gn309 all0))
        have ne326 : r_151 ≠ ma_302 := (Nat.ne_of_lt (Nat.lt_of_lt_of_le (Nat.lt_of_lt_of_le P146_1.lt (Nat.le_trans (Nat.le_trans (Nat.le_trans (Nat.le_trans (Nat.le_trans (Nat.le_trans (Nat.le_trans (Nat.le_trans (Nat.le_trans (Nat.le_trans K155.1 K162.1) K171.1) K178.1) K196.1) K213.1) K229.1) K244.1) K251.1) K267.1) K284.1)) P301_0))
        have F327 : BD Z h308 r_151 v_152 := (((F287.keep K284 (ninS ne286 nin0)).keep K301 nin0).keep K308 (ninS ne326 nin0))
        have ne328 : r_139 ≠ ma_302 := (Nat.ne_of_lt (Nat.lt_of_lt_of_le (Nat.lt_of_lt_of_le P134_1.lt (Nat.le_trans (Nat.le_trans (Nat.le_trans (Nat.le_trans (Nat.le_trans (Nat.le_trans (Nat.le_trans (Nat.le_trans (Nat.le_trans (Nat.le_trans (Nat.le_trans K146.1 K155.1) K162.1) K171.1) K178.1) K196.1) K213.1) K229.1) K244.1) K251.1) K267.1) K284.1)) P301_0))
        have F329 : BD Z h308 r_139 v_140 := (F313.keep K308 (ninS ne328 nin0))
        have ne330 : r_276 ≠ ma_245 := (Exa.neArv (((P267_1.1.keep K284).keep K301).keep K308) F323 (w138 hw))
        have ne331 : r_276 ≠ ma_302 := (Nat.ne_of_lt (Nat.lt_of_lt_of_le (Nat.lt_of_lt_of_le P267_1.lt K284.1) P301_0))
        have F332 : BD Z h308 r_276 v_277 := (((P267_1.keep K284 (ninS ne330 nin0)).keep K301 nin0).keep K308 (ninS ne331 nin0))
        have z336 : n0 ≤ h308.size := (Nat.le_trans z304 (Nat.le_trans K301.1 K308.1))
        obtain ⟨T324, L324, h324, X324, e324, r_333, v_334, s8_335, Nl324, K324, P324_0, P324_1, P324_2, P324_3, P324_4, P324_5, st324⟩ := rm_sg2B hx hZ hw hby hml hown (by decide) (by decide) (by decide) (by decide) ll ct 1 4 b102 ma_245 (3 : Int32) ma_302 4 s8_319 k102 km_246 km_303 [(.ref zr), (.ref r_116), (.ref r_128), (.ref r_139), (.ref r_151)] [.null, .null, (.ref r_260), (.ref r_276), (.ref r_292)] [.null, .null, .null, (.ref r_317), .null] r_151 r_139 r_276 v_152 v_140 v_277 r_317 v_318 zt kz zl n0 S_zt V_zt hzl hz (nb rfl) (nb rfl) (nb rfl) (nb rfl) rfl rfl rfl rfl rfl (Bn.mono hbd153 (by decide)) (Bn.mono hbd142 (by decide)) (Bn.mono hbd280 (by decide)) (Bn.mono hbd320 (by decide)) gn309 P301_2 P308_3 ne310 ne311 T308 _ h308 X308 e308 Nl308 z336 O325 F322 F323 J321 F327 F329 F332 P308_1
        have hbd337 : Bn 15 v_334 := own_bE hbd320 hbd280 hbd153 hbd142 P324_2 (Nat.le_of_ble_eq_true rfl) (nb rfl)
        have J338 : Arv Z h324 ma_302 km_303 (.object "java/math/BigDecimal") (5 : Int32) [.null, .null, .null, (.ref r_317), (.ref r_333)] .null := P324_0
        have KA339 : Keep h0 h324 [] := (Keep.trans (Keep.trans (Keep.trans KA297 K301 all0) K308 (allS (Or.inr (Nat.le_trans (Nat.le_trans (Nat.le_trans (Nat.le_trans (Nat.le_trans (Nat.le_trans (Nat.le_trans (Nat.le_trans (Nat.le_trans (Nat.le_trans (Nat.le_trans (Nat.le_trans (Nat.le_trans (Nat.le_trans (Nat.le_trans (Nat.le_trans (Nat.le_trans K102.1 K107.1) K110.1) K123.1) K134.1) K146.1) K155.1) K162.1) K171.1) K178.1) K196.1) K213.1) K229.1) K244.1) K251.1) K267.1) K284.1) P301_0)) all0)) K324 (allS (Or.inr (Nat.le_trans (Nat.le_trans (Nat.le_trans (Nat.le_trans (Nat.le_trans (Nat.le_trans (Nat.le_trans (Nat.le_trans (Nat.le_trans (Nat.le_trans (Nat.le_trans (Nat.le_trans (Nat.le_trans (Nat.le_trans (Nat.le_trans (Nat.le_trans (Nat.le_trans K102.1 K107.1) K110.1) K123.1) K134.1) K146.1) K155.1) K162.1) K171.1) K178.1) K196.1) K213.1) K229.1) K244.1) K251.1) K267.1) K284.1) P301_0)) all0))
        have W340 : ∀ zQ, SS p e below T324 m 82 #[.val (.ref ll), .val (.int ct), .val (.int (1 : Int32)), .val (.int (4 : Int32)), .val (.ref b102), .val (.ref ma_302), .val (.int (4 : Int32)), .val (.ref ma_302), .val (.int (5 : Int32)), s8_335] [] zQ → Steps p.tables e below (s₁.setTop (entryFrame m #[(.ref ll), (.int ct), (.int le)] 10)) zQ := by
          intro tt kt
          refine W298 tt ?_
          refine st301 _ ?_
          show SS p e below T301 m 102 #[.val (.ref ll), .val (.int ct), .val (.int (Int32.ofNat 1)), .val (.int (Int32.ofNat 4)), .val (.ref b102), .val (.ref ma_245), .val (.int (Int32.ofNat 3)), .val (.ref ma_302), .val (.int (Int32.ofNat (3 * 1))), s8_294] [] _
          refine st308 _ ?_
          show SS p e below T308 m 102 #[.val (.ref ll), .val (.int ct), .val (.int (Int32.ofNat 1)), .val (.int (Int32.ofNat 4)), .val (.ref b102), .val (.ref ma_245), .val (.int (3 : Int32)), .val (.ref ma_302), .val (.int (Int32.ofNat (3 + 1))), s8_319] [] _
          refine st324 _ ?_
          show SS p e below T324 m 102 #[.val (.ref ll), .val (.int ct), .val (.int (Int32.ofNat 1)), .val (.int (Int32.ofNat 4)), .val (.ref b102), .val (.ref ma_245), .val (.int (3 : Int32)), .val (.ref ma_302), .val (.int (Int32.ofNat (4 + 1))), s8_335] [] _
          refine XS.iload X324.here hx rfl (D_ d31_102) rfl ?_
          refine XS.iloadN X324.here hx rfl (D_ d31_104) rfl ?_
          refine XS.icmpYes X324.here hx rfl (pc0 := 105) (pc' := 173) rfl (D_ d31_105) rfl (tlt (by decide)).2.2.1 (by decide) (by decide) ?_
          refine XS.aload X324.here hx rfl (D_ d31_173) rfl rfl ?_
          refine XS.astore X324.here hx rfl (D_ d31_175) rfl rfl (l' := #[.val (.ref ll), .val (.int ct), .val (.int (1 : Int32)), .val (.int (4 : Int32)), .val (.ref b102), .val (.ref ma_302), .val (.int (3 : Int32)), .val (.ref ma_302), .val (.int (5 : Int32)), s8_335]) rfl ?_
          refine XS.iinc X324.here hx rfl (D_ d31_177) rfl (l' := #[.val (.ref ll), .val (.int ct), .val (.int (1 : Int32)), .val (.int (4 : Int32)), .val (.ref b102), .val (.ref ma_302), .val (.int (4 : Int32)), .val (.ref ma_302), .val (.int (5 : Int32)), s8_335]) rfl ?_
          refine XS.goto X324.here hx rfl (pc0 := 180) (pc' := 82) rfl (D_ d31_180) (by decide) (by decide) ?_
          exact kt
        rcases hc with hct | hc
        ·
          obtain ⟨cl341, Ar341, q341, S341, M341, H341, F341g⟩ := id J338
          have hin341 : ¬ ((4 : Int32) < 0 ∨ cl341.slots.size ≤ ((4 : Int32)).toNatClampNeg) := inb_of S341 ⟨by decide, by decide⟩
          have hat341 : cl341.slots[((4 : Int32)).toNatClampNeg]? = some (.ref r_333) := Has.at H341 hin341 rfl
          have W342 : ∀ zQ, SS p e below T324 m 187 #[.val (.ref ll), .val (.int (3 : Int32)), .val (.int (1 : Int32)), .val (.int (4 : Int32)), .val (.ref b102), .val (.ref ma_302), .val (.int (4 : Int32)), .val (.ref ma_302), .val (.int (5 : Int32)), s8_335] [(.ref r_333)] zQ → Steps p.tables e below (s₁.setTop (entryFrame m #[(.ref ll), (.int ct), (.int le)] 10)) zQ := by
            intro tt kt
            refine W340 tt ?_
            rw [show ct = (3 : Int32) from hct]
            refine XS.iload X324.here hx rfl (D_ d31_82) rfl ?_
            refine XS.iloadN X324.here hx rfl (D_ d31_84) rfl ?_
            refine XS.icmpYes X324.here hx rfl (pc0 := 85) (pc' := 183) rfl (D_ d31_85) rfl (tlt (by decide)).2.2.1 (by decide) (by decide) ?_
            refine XS.aload X324.here hx rfl (D_ d31_183) rfl rfl ?_
            refine XS.iloadN X324.here hx rfl (D_ d31_185) rfl ?_
            refine X324.aaload hx (j := (4 : Int32)) (v := (.ref r_333)) (by first | exact Ar341.1 | (rw [e324]; exact Ar341.1)) (State.isArrayOf_alike hZ.alike Ar341.2.1) rfl Ar341.2.2 hin341 hat341 (g := (mkF m 186 #[.val (.ref ll), .val (.int (3 : Int32)), .val (.int (1 : Int32)), .val (.int (4 : Int32)), .val (.ref b102), .val (.ref ma_302), .val (.int (4 : Int32)), .val (.ref ma_302), .val (.int (5 : Int32)), s8_335] [(.int (4 : Int32)), (.ref ma_302)])) rfl rfl (D_ d31_186) _ ?_
            exact kt
          obtain ⟨fs, hr, hrun, hended, hW, hsame⟩ := X324.leave (v := some (.ref r_333)) (fun h => by rw [Bd.returns] at h; cases h)
          refine ⟨_, _, W342 _ (own_retR X324 hx Bd.returns rfl rfl (D_ d31_187) hr), hrun, hended, _, _, rfl, ?_, ⟨_, rfl⟩, hW, hsame.mono (by decide) (by decide)⟩
          show Q_tot4 Z ll ct le d kd p1 p2 p3 p4 x0 x1 x2 x3 zt kz zl zr h0 n0 _ T324.heap _
          rw [e324]
          exact ⟨r_333, v_334, rfl, Nl324, KA339, P324_1, (by rw [hct, hle]; rw [dpl4_31]; exact (own_dp29 P110_2 P123_2 P134_2 P146_2 P178_2 P196_2 P196_3 P196_4 P251_2 P267_2 P267_3 P267_4 P308_2 P324_2 P324_3 P324_4)), (Bn.mono hbd337 (by decide))⟩
        ·
          obtain ⟨T343, L343, h343, X343, e343, ma_344, km_345, Nl343, K343, P343_0, P343_1, P343_2, st343⟩ := rm_sg0 hx hZ hw hby hml hown (by decide) (by decide) (by decide) (by decide) ll ct 1 4 b102 ma_302 4 (.val (.ref ma_302)) (.val (.int (5 : Int32))) s8_335 n0 (by rw [hc]; decide) (nb rfl) (nb rfl) (One.val rfl) (One.val rfl) T324 _ h324 X324 e324 Nl324 (Nat.le_trans z336 K324.1) 
          have J346 : Arv Z h343 ma_344 km_345 (.object "java/math/BigDecimal") (5 : Int32) [.null, .null, .null, .null, .null] .null := Arv.pad P343_1 (pad_rep [] .null 5)
          have F347 : Arv Z h343 b102 k102 (.object "java/math/BigDecimal") (5 : Int32) [(.ref zr), (.ref r_116), (.ref r_128), (.ref r_139), (.ref r_151)] .null := ((F322.keep K324 (ninS (Ne.symm ne311) nin0)).keep K343 nin0)
          have F348 : Arv Z h343 ma_302 km_303 (.object "java/math/BigDecimal") (5 : Int32) [.null, .null, .null, (.ref r_317), (.ref r_333)] .null := (J338.keep K343 nin0)
          have gn350 : n0 ≤ ma_344 := Nat.le_trans Z0 (Nat.le_trans (Nat.le_trans (Nat.le_trans (Nat.le_trans (Nat.le_trans (Nat.le_trans (Nat.le_trans (Nat.le_trans (Nat.le_trans (Nat.le_trans (Nat.le_trans (Nat.le_trans (Nat.le_trans (Nat.le_trans (Nat.le_trans (Nat.le_trans (Nat.le_trans (Nat.le_trans (Nat.le_trans (Nat.le_trans K102.1 K107.1) K110.1) K123.1) K134.1) K146.1) K155.1) K162.1) K171.1) K178.1) K196.1) K213.1) K229.1) K244.1) K251.1) K267.1) K284.1) K301.1) K308.1) K324.1) P343_0)
          have ne351 : ma_344 ≠ ma_302 := (Ne.symm (Nat.ne_of_lt (Nat.lt_of_lt_of_le (Nat.lt_of_lt_of_le P301_1.lt (Nat.le_trans K308.1 K324.1)) P343_0)))
          have ne352 : ma_344 ≠ b102 := (Ne.symm (Nat.ne_of_lt (Nat.lt_of_lt_of_le (Nat.lt_of_lt_of_le G102.lt (Nat.le_trans (Nat.le_trans (Nat.le_trans (Nat.le_trans (Nat.le_trans (Nat.le_trans (Nat.le_trans (Nat.le_trans (Nat.le_trans (Nat.le_trans (Nat.le_trans (Nat.le_trans (Nat.le_trans (Nat.le_trans (Nat.le_trans (Nat.le_trans (Nat.le_trans (Nat.le_trans K107.1 K110.1) K123.1) K134.1) K146.1) K155.1) K162.1) K171.1) K178.1) K196.1) K213.1) K229.1) K244.1) K251.1) K267.1) K284.1) K301.1) K308.1) K324.1)) P343_0)))
          have O353 : Old Z n0 h343 := ((O325.keep K324 (allS gn309 all0)).keep K343 all0)
          have F354 : BD Z h343 r_151 v_152 := ((F327.keep K324 (ninS ne326 nin0)).keep K343 nin0)
          have F355 : BD Z h343 r_139 v_140 := ((F329.keep K324 (ninS ne328 nin0)).keep K343 nin0)
          have F356 : BD Z h343 r_317 v_318 := ((P308_1.keep K324 (ninS (Exa.neArv ((P308_1.1.keep K324).keep K343) F348 (w138 hw)) nin0)).keep K343 nin0)
          have z360 : n0 ≤ h343.size := (Nat.le_trans z336 (Nat.le_trans K324.1 K343.1))
          obtain ⟨T349, L349, h349, X349, e349, r_357, v_358, s8_359, Nl349, K349, P349_0, P349_1, P349_2, P349_3, st349⟩ := rm_sg2A hx hZ hw hby hml hown (by decide) (by decide) (by decide) (by decide) ll ct 1 4 b102 ma_302 (4 : Int32) ma_344 4 s8_335 k102 km_303 km_345 [(.ref zr), (.ref r_116), (.ref r_128), (.ref r_139), (.ref r_151)] [.null, .null, .null, (.ref r_317), (.ref r_333)] [.null, .null, .null, .null, .null] r_151 r_139 r_317 v_152 v_140 v_318 zt kz zl n0 S_zt V_zt hzl hz (nb rfl) (nb rfl) (nb rfl) (nb rfl) rfl rfl rfl rfl rfl (Bn.mono hbd153 (by decide)) (Bn.mono hbd142 (by decide)) (Bn.mono hbd320 (by decide)) gn350 P343_2 P324_5 ne351 ne352 T343 _ h343 X343 e343 Nl343 z360 O353 F347 F348 J346 F354 F355 F356
          have hbd361 : Bn 16 v_358 := own_bA hbd320 hbd153 hbd142 P349_2 (Nat.le_of_ble_eq_true rfl)
          have J362 : Arv Z h349 ma_344 km_345 (.object "java/math/BigDecimal") (5 : Int32) [.null, .null, .null, .null, (.ref r_357)] .null := P349_0
          have KA363 : Keep h0 h349 [] := (Keep.trans (Keep.trans KA339 K343 all0) K349 (allS (Or.inr (Nat.le_trans (Nat.le_trans (Nat.le_trans (Nat.le_trans (Nat.le_trans (Nat.le_trans (Nat.le_trans (Nat.le_trans (Nat.le_trans (Nat.le_trans (Nat.le_trans (Nat.le_trans (Nat.le_trans (Nat.le_trans (Nat.le_trans (Nat.le_trans (Nat.le_trans (Nat.le_trans (Nat.le_trans (Nat.le_trans K102.1 K107.1) K110.1) K123.1) K134.1) K146.1) K155.1) K162.1) K171.1) K178.1) K196.1) K213.1) K229.1) K244.1) K251.1) K267.1) K284.1) K301.1) K308.1) K324.1) P343_0)) all0))
          have hct := hc
          obtain ⟨cl364, Ar364, q364, S364, M364, H364, F364g⟩ := id J362
          have hin364 : ¬ ((4 : Int32) < 0 ∨ cl364.slots.size ≤ ((4 : Int32)).toNatClampNeg) := inb_of S364 ⟨by decide, by decide⟩
          have hat364 : cl364.slots[((4 : Int32)).toNatClampNeg]? = some (.ref r_357) := Has.at H364 hin364 rfl
          have W365 : ∀ zQ, SS p e below T349 m 187 #[.val (.ref ll), .val (.int (4 : Int32)), .val (.int (1 : Int32)), .val (.int (4 : Int32)), .val (.ref b102), .val (.ref ma_344), .val (.int (5 : Int32)), .val (.ref ma_344), .val (.int (5 : Int32)), s8_359] [(.ref r_357)] zQ → Steps p.tables e below (s₁.setTop (entryFrame m #[(.ref ll), (.int ct), (.int le)] 10)) zQ := by
            intro tt kt
            refine W340 tt ?_
            refine st343 _ ?_
            show SS p e below T343 m 102 #[.val (.ref ll), .val (.int ct), .val (.int (Int32.ofNat 1)), .val (.int (Int32.ofNat 4)), .val (.ref b102), .val (.ref ma_302), .val (.int (Int32.ofNat 4)), .val (.ref ma_344), .val (.int (Int32.ofNat (4 * 1))), s8_335] [] _
            refine st349 _ ?_
            show SS p e below T349 m 102 #[.val (.ref ll), .val (.int ct), .val (.int (Int32.ofNat 1)), .val (.int (Int32.ofNat 4)), .val (.ref b102), .val (.ref ma_302), .val (.int (4 : Int32)), .val (.ref ma_344), .val (.int (Int32.ofNat (4 + 1))), s8_359] [] _
            refine XS.iload X349.here hx rfl (D_ d31_102) rfl ?_
            refine XS.iloadN X349.here hx rfl (D_ d31_104) rfl ?_
            refine XS.icmpYes X349.here hx rfl (pc0 := 105) (pc' := 173) rfl (D_ d31_105) rfl (tlt (by decide)).2.2.1 (by decide) (by decide) ?_
            refine XS.aload X349.here hx rfl (D_ d31_173) rfl rfl ?_
            refine XS.astore X349.here hx rfl (D_ d31_175) rfl rfl (l' := #[.val (.ref ll), .val (.int ct), .val (.int (1 : Int32)), .val (.int (4 : Int32)), .val (.ref b102), .val (.ref ma_344), .val (.int (4 : Int32)), .val (.ref ma_344), .val (.int (5 : Int32)), s8_359]) rfl ?_
            refine XS.iinc X349.here hx rfl (D_ d31_177) rfl (l' := #[.val (.ref ll), .val (.int ct), .val (.int (1 : Int32)), .val (.int (4 : Int32)), .val (.ref b102), .val (.ref ma_344), .val (.int (5 : Int32)), .val (.ref ma_344), .val (.int (5 : Int32)), s8_359]) rfl ?_
            refine XS.goto X349.here hx rfl (pc0 := 180) (pc' := 82) rfl (D_ d31_180) (by decide) (by decide) ?_
            show SS p e below T349 m 82 #[.val (.ref ll), .val (.int ct), .val (.int (1 : Int32)), .val (.int (4 : Int32)), .val (.ref b102), .val (.ref ma_344), .val (.int (5 : Int32)), .val (.ref ma_344), .val (.int (5 : Int32)), s8_359] [] _
            rw [show ct = (4 : Int32) from hct]
            refine XS.iload X349.here hx rfl (D_ d31_82) rfl ?_
            refine XS.iloadN X349.here hx rfl (D_ d31_84) rfl ?_
            refine XS.icmpYes X349.here hx rfl (pc0 := 85) (pc' := 183) rfl (D_ d31_85) rfl (tlt (by decide)).2.2.1 (by decide) (by decide) ?_
            refine XS.aload X349.here hx rfl (D_ d31_183) rfl rfl ?_
            refine XS.iloadN X349.here hx rfl (D_ d31_185) rfl ?_
            refine X349.aaload hx (j := (4 : Int32)) (v := (.ref r_357)) (by first | exact Ar364.1 | (rw [e349]; exact Ar364.1)) (State.isArrayOf_alike hZ.alike Ar364.2.1) rfl Ar364.2.2 hin364 hat364 (g := (mkF m 186 #[.val (.ref ll), .val (.int (4 : Int32)), .val (.int (1 : Int32)), .val (.int (4 : Int32)), .val (.ref b102), .val (.ref ma_344), .val (.int (5 : Int32)), .val (.ref ma_344), .val (.int (5 : Int32)), s8_359] [(.int (4 : Int32)), (.ref ma_344)])) rfl rfl (D_ d31_186) _ ?_
            exact kt
          obtain ⟨fs, hr, hrun, hended, hW, hsame⟩ := X349.leave (v := some (.ref r_357)) (fun h => by rw [Bd.returns] at h; cases h)
          refine ⟨_, _, W365 _ (own_retR X349 hx Bd.returns rfl rfl (D_ d31_187) hr), hrun, hended, _, _, rfl, ?_, ⟨_, rfl⟩, hW, hsame.mono (by decide) (by decide)⟩
          show Q_tot4 Z ll ct le d kd p1 p2 p3 p4 x0 x1 x2 x3 zt kz zl zr h0 n0 _ T349.heap _
          rw [e349]
          exact ⟨r_357, v_358, rfl, Nl349, KA363, P349_1, (by rw [hct, hle]; rw [dpl4_41]; exact (own_dp30 P110_2 P123_2 P134_2 P146_2 P178_2 P251_2 P308_2 P349_2)), (Bn.mono hbd361 (by decide))⟩
  ·
    obtain ⟨T366, L366, h366, X366, e366, ma_367, km_368, Nl366, K366, P366_0, P366_1, P366_2, st366⟩ := rm_sg0 hx hZ hw hby hml hown (by decide) (by decide) (by decide) (by decide) ll ct 2 4 b102 b155 1 (.unset) (.unset) (.unset) n0 (by rcases hc with h | h <;> rw [h] <;> decide) (nb rfl) (nb rfl) One.u One.u T162 _ T162.heap X162 rfl N162 (Nat.le_trans z163 K162.1) 
    have J369 : Arv Z h366 ma_367 km_368 (.object "java/math/BigDecimal") (5 : Int32) [.null, .null, .null, .null, .null] .null := Arv.pad P366_1 (pad_rep [] .null 5)
    have ne370 : b102 ≠ b155 := (Nat.ne_of_lt (Nat.lt_of_lt_of_le (Nat.lt_of_lt_of_le G102.lt (Nat.le_trans (Nat.le_trans (Nat.le_trans (Nat.le_trans K107.1 K110.1) K123.1) K134.1) K146.1)) (Nat.le_of_eq g155.symm)))
    have F371 : Arv Z h366 b102 k102 (.object "java/math/BigDecimal") (5 : Int32) [(.ref zr), (.ref r_116), (.ref r_128), (.ref r_139), (.ref r_151)] .null := (((J154.keep K155 nin0).keep K162 (ninS ne370 nin0)).keep K366 nin0)
    have F372 : Arv Z h366 b155 k155 (.object "java/math/BigDecimal") (5 : Int32) [(.ref zr), (.ref zr), (.ref zr), (.ref zr), (.ref zr)] .null := (J164.keep K366 nin0)
    have gn374 : n0 ≤ ma_367 := Nat.le_trans Z0 (Nat.le_trans (Nat.le_trans (Nat.le_trans (Nat.le_trans (Nat.le_trans (Nat.le_trans (Nat.le_trans (Nat.le_trans K102.1 K107.1) K110.1) K123.1) K134.1) K146.1) K155.1) K162.1) P366_0)
    have ne375 : ma_367 ≠ b155 := (Ne.symm (Nat.ne_of_lt (Nat.lt_of_lt_of_le (Nat.lt_of_lt_of_le G155.lt K162.1) P366_0)))
    have ne376 : ma_367 ≠ b102 := (Ne.symm (Nat.ne_of_lt (Nat.lt_of_lt_of_le (Nat.lt_of_lt_of_le G102.lt (Nat.le_trans (Nat.le_trans (Nat.le_trans (Nat.le_trans (Nat.le_trans (Nat.le_trans K107.1 K110.1) K123.1) K134.1) K146.1) K155.1) K162.1)) P366_0)))
    have O377 : Old Z n0 h366 := ((O157.keep K162 (allS gn161 all0)).keep K366 all0)
    have ne378 : r_128 ≠ b102 := (Exa.neArv (((((P123_1.1.keep K134).keep K146).keep K155).keep K162).keep K366) F371 (w138 hw))
    have ne379 : r_128 ≠ b155 := (Nat.ne_of_lt (Nat.lt_of_lt_of_le (Nat.lt_of_lt_of_le P123_1.lt (Nat.le_trans K134.1 K146.1)) (Nat.le_of_eq g155.symm)))
    have F380 : BD Z h366 r_128 v_129 := (((((P123_1.keep K134 (ninS ne378 nin0)).keep K146 (ninS ne378 nin0)).keep K155 nin0).keep K162 (ninS ne379 nin0)).keep K366 nin0)
    have ne381 : zr ≠ b155 := (Nat.ne_of_lt (Nat.lt_of_lt_of_le (Nat.lt_of_lt_of_le B0106.lt (Nat.le_trans (Nat.le_trans (Nat.le_trans (Nat.le_trans K107.1 K110.1) K123.1) K134.1) K146.1)) (Nat.le_of_eq g155.symm)))
    have F382 : BD Z h366 zr (0 : Int64) := ((F160.keep K162 (ninS ne381 nin0)).keep K366 nin0)
    have z386 : n0 ≤ h366.size := (Nat.le_trans z163 (Nat.le_trans K162.1 K366.1))
    obtain ⟨T373, L373, h373, X373, e373, r_383, v_384, s8_385, Nl373, K373, P373_0, P373_1, P373_2, P373_3, st373⟩ := rm_sg2A hx hZ hw hby hml hown (by decide) (by decide) (by decide) (by decide) ll ct 2 4 b102 b155 (1 : Int32) ma_367 2 (.unset) k102 k155 km_368 [(.ref zr), (.ref r_116), (.ref r_128), (.ref r_139), (.ref r_151)] [(.ref zr), (.ref zr), (.ref zr), (.ref zr), (.ref zr)] [.null, .null, .null, .null, .null] r_128 zr zr v_129 (0 : Int64) (0 : Int64) zt kz zl n0 S_zt V_zt hzl hz (nb rfl) (nb rfl) (nb rfl) (nb rfl) rfl rfl rfl rfl rfl (Bn.mono hbd130 (by decide)) (Bn.mono own_bd0 (by decide)) (Bn.mono own_bd0 (by decide)) gn374 P366_2 One.u ne375 ne376 T366 _ h366 X366 e366 Nl366 z386 O377 F371 F372 J369 F380 F382 F382
    have hbd387 : Bn 2 v_384 := own_bA own_bd0 hbd130 own_bd0 P373_2 (Nat.le_of_ble_eq_true rfl)
    have J388 : Arv Z h373 ma_367 km_368 (.object "java/math/BigDecimal") (5 : Int32) [.null, .null, (.ref r_383), .null, .null] .null := P373_0
    have F389 : Arv Z h373 b102 k102 (.object "java/math/BigDecimal") (5 : Int32) [(.ref zr), (.ref r_116), (.ref r_128), (.ref r_139), (.ref r_151)] .null := (F371.keep K373 (ninS (Ne.symm ne376) nin0))
    have F390 : Arv Z h373 b155 k155 (.object "java/math/BigDecimal") (5 : Int32) [(.ref zr), (.ref zr), (.ref zr), (.ref zr), (.ref zr)] .null := (F372.keep K373 (ninS (Ne.symm ne375) nin0))
    have O392 : Old Z n0 h373 := (O377.keep K373 (allS gn374 all0))
    have ne393 : r_139 ≠ b102 := (Exa.neArv (((((P134_1.1.keep K146).keep K155).keep K162).keep K366).keep K373) F389 (w138 hw))
    have ne394 : r_139 ≠ b155 := (Nat.ne_of_lt (Nat.lt_of_lt_of_le (Nat.lt_of_lt_of_le P134_1.lt K146.1) (Nat.le_of_eq g155.symm)))
    have ne395 : r_139 ≠ ma_367 := (Nat.ne_of_lt (Nat.lt_of_lt_of_le (Nat.lt_of_lt_of_le P134_1.lt (Nat.le_trans (Nat.le_trans K146.1 K155.1) K162.1)) P366_0))
    have F396 : BD Z h373 r_139 v_140 := (((((P134_1.keep K146 (ninS ne393 nin0)).keep K155 nin0).keep K162 (ninS ne394 nin0)).keep K366 nin0).keep K373 (ninS ne395 nin0))
    have ne397 : r_116 ≠ b102 := (Exa.neArv (((((((P110_1.1.keep K123).keep K134).keep K146).keep K155).keep K162).keep K366).keep K373) F389 (w138 hw))
    have ne398 : r_116 ≠ b155 := (Nat.ne_of_lt (Nat.lt_of_lt_of_le (Nat.lt_of_lt_of_le P110_1.lt (Nat.le_trans (Nat.le_trans K123.1 K134.1) K146.1)) (Nat.le_of_eq g155.symm)))
    have ne399 : r_116 ≠ ma_367 := (Nat.ne_of_lt (Nat.lt_of_lt_of_le (Nat.lt_of_lt_of_le P110_1.lt (Nat.le_trans (Nat.le_trans (Nat.le_trans (Nat.le_trans K123.1 K134.1) K146.1) K155.1) K162.1)) P366_0))
    have F400 : BD Z h373 r_116 v_117 := (((((((P110_1.keep K123 (ninS ne397 nin0)).keep K134 (ninS ne397 nin0)).keep K146 (ninS ne397 nin0)).keep K155 nin0).keep K162 (ninS ne398 nin0)).keep K366 nin0).keep K373 (ninS ne399 nin0))
    have ne401 : zr ≠ ma_367 := (Nat.ne_of_lt (Nat.lt_of_lt_of_le (Nat.lt_of_lt_of_le B0106.lt (Nat.le_trans (Nat.le_trans (Nat.le_trans (Nat.le_trans (Nat.le_trans (Nat.le_trans K107.1 K110.1) K123.1) K134.1) K146.1) K155.1) K162.1)) P366_0))
    have F402 : BD Z h373 zr (0 : Int64) := (F382.keep K373 (ninS ne401 nin0))
    obtain ⟨T391, L391, h391, X391, e391, r_403, v_404, s8_405, Nl391, K391, P391_0, P391_1, P391_2, P391_3, P391_4, P391_5, st391⟩ := rm_sg2B hx hZ hw hby hml hown (by decide) (by decide) (by decide) (by decide) ll ct 2 4 b102 b155 (1 : Int32) ma_367 3 s8_385 k102 k155 km_368 [(.ref zr), (.ref r_116), (.ref r_128), (.ref r_139), (.ref r_151)] [(.ref zr), (.ref zr), (.ref zr), (.ref zr), (.ref zr)] [.null, .null, (.ref r_383), .null, .null] r_139 r_116 zr v_140 v_117 (0 : Int64) r_383 v_384 zt kz zl n0 S_zt V_zt hzl hz (nb rfl) (nb rfl) (nb rfl) (nb rfl) rfl rfl rfl rfl rfl (Bn.mono hbd142 (by decide)) (Bn.mono hbd119 (by decide)) (Bn.mono own_bd0 (by decide)) (Bn.mono hbd387 (by decide)) gn374 P366_2 P373_3 ne375 ne376 T373 _ h373 X373 e373 Nl373 (Nat.le_trans z386 K373.1) O392 F389 F390 J388 F396 F400 F402 P373_1
    have hbd406 : Bn 4 v_404 := own_bE hbd387 own_bd0 hbd142 hbd119 P391_2 (Nat.le_of_ble_eq_true rfl) (nb rfl)
    have J407 : Arv Z h391 ma_367 km_368 (.object "java/math/BigDecimal") (5 : Int32) [.null, .null, (.ref r_383), (.ref r_403), .null] .null := P391_0
    have F408 : Arv Z h391 b102 k102 (.object "java/math/BigDecimal") (5 : Int32) [(.ref zr), (.ref r_116), (.ref r_128), (.ref r_139), (.ref r_151)] .null := (F389.keep K391 (ninS (Ne.symm ne376) nin0))
    have F409 : Arv Z h391 b155 k155 (.object "java/math/BigDecimal") (5 : Int32) [(.ref zr), (.ref zr), (.ref zr), (.ref zr), (.ref zr)] .null := (F390.keep K391 (ninS (Ne.symm ne375) nin0))
    have O411 : Old Z n0 h391 := (O392.keep K391 (allS gn374 all0))
    have ne412 : r_151 ≠ ma_367 := (Nat.ne_of_lt (Nat.lt_of_lt_of_le (Nat.lt_of_lt_of_le P146_1.lt (Nat.le_trans K155.1 K162.1)) P366_0))
    have F413 : BD Z h391 r_151 v_152 := (((((P146_1.keep K155 nin0).keep K162 (ninS (Nat.ne_of_lt (Nat.lt_of_lt_of_le P146_1.lt (Nat.le_of_eq g155.symm))) nin0)).keep K366 nin0).keep K373 (ninS ne412 nin0)).keep K391 (ninS ne412 nin0))
    have ne414 : r_128 ≠ ma_367 := (Nat.ne_of_lt (Nat.lt_of_lt_of_le (Nat.lt_of_lt_of_le P123_1.lt (Nat.le_trans (Nat.le_trans (Nat.le_trans K134.1 K146.1) K155.1) K162.1)) P366_0))
    have F415 : BD Z h391 r_128 v_129 := ((F380.keep K373 (ninS ne414 nin0)).keep K391 (ninS ne414 nin0))
    have F416 : BD Z h391 zr (0 : Int64) := (F402.keep K391 (ninS ne401 nin0))
    have z420 : n0 ≤ h391.size := (Nat.le_trans z386 (Nat.le_trans K373.1 K391.1))
    obtain ⟨T410, L410, h410, X410, e410, r_417, v_418, s8_419, Nl410, K410, P410_0, P410_1, P410_2, P410_3, P410_4, P410_5, st410⟩ := rm_sg2B hx hZ hw hby hml hown (by decide) (by decide) (by decide) (by decide) ll ct 2 4 b102 b155 (1 : Int32) ma_367 4 s8_405 k102 k155 km_368 [(.ref zr), (.ref r_116), (.ref r_128), (.ref r_139), (.ref r_151)] [(.ref zr), (.ref zr), (.ref zr), (.ref zr), (.ref zr)] [.null, .null, (.ref r_383), (.ref r_403), .null] r_151 r_128 zr v_152 v_129 (0 : Int64) r_403 v_404 zt kz zl n0 S_zt V_zt hzl hz (nb rfl) (nb rfl) (nb rfl) (nb rfl) rfl rfl rfl rfl rfl (Bn.mono hbd153 (by decide)) (Bn.mono hbd130 (by decide)) (Bn.mono own_bd0 (by decide)) (Bn.mono hbd406 (by decide)) gn374 P366_2 P391_5 ne375 ne376 T391 _ h391 X391 e391 Nl391 z420 O411 F408 F409 J407 F413 F415 F416 P391_1
    have hbd421 : Bn 6 v_418 := own_bE hbd406 own_bd0 hbd153 hbd130 P410_2 (Nat.le_of_ble_eq_true rfl) (nb rfl)
    have J422 : Arv Z h410 ma_367 km_368 (.object "java/math/BigDecimal") (5 : Int32) [.null, .null, (.ref r_383), (.ref r_403), (.ref r_417)] .null := P410_0
    have KA423 : Keep h0 h410 [] := (Keep.trans (Keep.trans (Keep.trans (Keep.trans KA166 K366 all0) K373 (allS (Or.inr (Nat.le_trans (Nat.le_trans (Nat.le_trans (Nat.le_trans (Nat.le_trans (Nat.le_trans (Nat.le_trans (Nat.le_trans K102.1 K107.1) K110.1) K123.1) K134.1) K146.1) K155.1) K162.1) P366_0)) all0)) K391 (allS (Or.inr (Nat.le_trans (Nat.le_trans (Nat.le_trans (Nat.le_trans (Nat.le_trans (Nat.le_trans (Nat.le_trans (Nat.le_trans K102.1 K107.1) K110.1) K123.1) K134.1) K146.1) K155.1) K162.1) P366_0)) all0)) K410 (allS (Or.inr (Nat.le_trans (Nat.le_trans (Nat.le_trans (Nat.le_trans (Nat.le_trans (Nat.le_trans (Nat.le_trans (Nat.le_trans K102.1 K107.1) K110.1) K123.1) K134.1) K146.1) K155.1) K162.1) P366_0)) all0))
    have W424 : ∀ zQ, SS p e below T410 m 82 #[.val (.ref ll), .val (.int ct), .val (.int (2 : Int32)), .val (.int (4 : Int32)), .val (.ref b102), .val (.ref ma_367), .val (.int (2 : Int32)), .val (.ref ma_367), .val (.int (5 : Int32)), s8_419] [] zQ → Steps p.tables e below (s₁.setTop (entryFrame m #[(.ref ll), (.int ct), (.int le)] 10)) zQ := by
      intro tt kt
      refine W165 tt ?_
      rw [show le = (2 : Int32) from hle]
      refine XS.iconst X162.here hx rfl (D_ d31_79) ?_
      refine XS.istore X162.here hx rfl (D_ d31_80) rfl (l' := #[.val (.ref ll), .val (.int ct), .val (.int (2 : Int32)), .val (.int (4 : Int32)), .val (.ref b102), .val (.ref b155), .val (.int (1 : Int32)), .unset, .unset, .unset]) rfl ?_
      refine st366 _ ?_
      show SS p e below T366 m 102 #[.val (.ref ll), .val (.int ct), .val (.int (Int32.ofNat 2)), .val (.int (Int32.ofNat 4)), .val (.ref b102), .val (.ref b155), .val (.int (Int32.ofNat 1)), .val (.ref ma_367), .val (.int (Int32.ofNat (1 * 2))), (.unset)] [] _
      refine st373 _ ?_
      show SS p e below T373 m 102 #[.val (.ref ll), .val (.int ct), .val (.int (Int32.ofNat 2)), .val (.int (Int32.ofNat 4)), .val (.ref b102), .val (.ref b155), .val (.int (1 : Int32)), .val (.ref ma_367), .val (.int (Int32.ofNat (2 + 1))), s8_385] [] _
      refine st391 _ ?_
      show SS p e below T391 m 102 #[.val (.ref ll), .val (.int ct), .val (.int (Int32.ofNat 2)), .val (.int (Int32.ofNat 4)), .val (.ref b102), .val (.ref b155), .val (.int (1 : Int32)), .val (.ref ma_367), .val (.int (Int32.ofNat (3 + 1))), s8_405] [] _
      refine st410 _ ?_
      show SS p e below T410 m 102 #[.val (.ref ll), .val (.int ct), .val (.int (Int32.ofNat 2)), .val (.int (Int32.ofNat 4)), .val (.ref b102), .val (.ref b155), .val (.int (1 : Int32)), .val (.ref ma_367), .val (.int (Int32.ofNat (4 + 1))), s8_419] [] _
      refine XS.iload X410.here hx rfl (D_ d31_102) rfl ?_
      refine XS.iloadN X410.here hx rfl (D_ d31_104) rfl ?_
      refine XS.icmpYes X410.here hx rfl (pc0 := 105) (pc' := 173) rfl (D_ d31_105) rfl (tlt (by decide)).2.2.1 (by decide) (by decide) ?_
      refine XS.aload X410.here hx rfl (D_ d31_173) rfl rfl ?_
      refine XS.astore X410.here hx rfl (D_ d31_175) rfl rfl (l' := #[.val (.ref ll), .val (.int ct), .val (.int (2 : Int32)), .val (.int (4 : Int32)), .val (.ref b102), .val (.ref ma_367), .val (.int (1 : Int32)), .val (.ref ma_367), .val (.int (5 : Int32)), s8_419]) rfl ?_
      refine XS.iinc X410.here hx rfl (D_ d31_177) rfl (l' := #[.val (.ref ll), .val (.int ct), .val (.int (2 : Int32)), .val (.int (4 : Int32)), .val (.ref b102), .val (.ref ma_367), .val (.int (2 : Int32)), .val (.ref ma_367), .val (.int (5 : Int32)), s8_419]) rfl ?_
      refine XS.goto X410.here hx rfl (pc0 := 180) (pc' := 82) rfl (D_ d31_180) (by decide) (by decide) ?_
      exact kt
    rcases hc with hct | hc
    ·
      obtain ⟨cl425, Ar425, q425, S425, M425, H425, F425g⟩ := id J422
      have hin425 : ¬ ((4 : Int32) < 0 ∨ cl425.slots.size ≤ ((4 : Int32)).toNatClampNeg) := inb_of S425 ⟨by decide, by decide⟩
      have hat425 : cl425.slots[((4 : Int32)).toNatClampNeg]? = some (.ref r_417) := Has.at H425 hin425 rfl
      have W426 : ∀ zQ, SS p e below T410 m 187 #[.val (.ref ll), .val (.int (1 : Int32)), .val (.int (2 : Int32)), .val (.int (4 : Int32)), .val (.ref b102), .val (.ref ma_367), .val (.int (2 : Int32)), .val (.ref ma_367), .val (.int (5 : Int32)), s8_419] [(.ref r_417)] zQ → Steps p.tables e below (s₁.setTop (entryFrame m #[(.ref ll), (.int ct), (.int le)] 10)) zQ := by
        intro tt kt
        refine W424 tt ?_
        rw [show ct = (1 : Int32) from hct]
        refine XS.iload X410.here hx rfl (D_ d31_82) rfl ?_
        refine XS.iloadN X410.here hx rfl (D_ d31_84) rfl ?_
        refine XS.icmpYes X410.here hx rfl (pc0 := 85) (pc' := 183) rfl (D_ d31_85) rfl (tlt (by decide)).2.2.1 (by decide) (by decide) ?_
        refine XS.aload X410.here hx rfl (D_ d31_183) rfl rfl ?_
        refine XS.iloadN X410.here hx rfl (D_ d31_185) rfl ?_
        refine X410.aaload hx (j := (4 : Int32)) (v := (.ref r_417)) (by first | exact Ar425.1 | (rw [e410]; exact Ar425.1)) (State.isArrayOf_alike hZ.alike Ar425.2.1) rfl Ar425.2.2 hin425 hat425 (g := (mkF m 186 #[.val (.ref ll), .val (.int (1 : Int32)), .val (.int (2 : Int32)), .val (.int (4 : Int32)), .val (.ref b102), .val (.ref ma_367), .val (.int (2 : Int32)), .val (.ref ma_367), .val (.int (5 : Int32)), s8_419] [(.int (4 : Int32)), (.ref ma_367)])) rfl rfl (D_ d31_186) _ ?_
        exact kt
      obtain ⟨fs, hr, hrun, hended, hW, hsame⟩ := X410.leave (v := some (.ref r_417)) (fun h => by rw [Bd.returns] at h; cases h)
      refine ⟨_, _, W426 _ (own_retR X410 hx Bd.returns rfl rfl (D_ d31_187) hr), hrun, hended, _, _, rfl, ?_, ⟨_, rfl⟩, hW, hsame.mono (by decide) (by decide)⟩
      show Q_tot4 Z ll ct le d kd p1 p2 p3 p4 x0 x1 x2 x3 zt kz zl zr h0 n0 _ T410.heap _
      rw [e410]
      exact ⟨r_417, v_418, rfl, Nl410, KA423, P410_1, (by rw [hct, hle]; rw [dpl4_12]; exact (own_dp31 P110_2 P123_2 P134_2 P146_2 P373_2 P391_2 P391_3 P391_4 P410_2 P410_3 P410_4)), (Bn.mono hbd421 (by decide))⟩
    ·
      obtain ⟨T427, L427, h427, X427, e427, ma_428, km_429, Nl427, K427, P427_0, P427_1, P427_2, st427⟩ := rm_sg0 hx hZ hw hby hml hown (by decide) (by decide) (by decide) (by decide) ll ct 2 4 b102 ma_367 2 (.val (.ref ma_367)) (.val (.int (5 : Int32))) s8_419 n0 (by rw [hc]; decide) (nb rfl) (nb rfl) (One.val rfl) (One.val rfl) T410 _ h410 X410 e410 Nl410 (Nat.le_trans z420 K410.1) 
      have J430 : Arv Z h427 ma_428 km_429 (.object "java/math/BigDecimal") (5 : Int32) [.null, .null, .null, .null, .null] .null := Arv.pad P427_1 (pad_rep [] .null 5)
      have F431 : Arv Z h427 b102 k102 (.object "java/math/BigDecimal") (5 : Int32) [(.ref zr), (.ref r_116), (.ref r_128), (.ref r_139), (.ref r_151)] .null := ((F408.keep K410 (ninS (Ne.symm ne376) nin0)).keep K427 nin0)
      have F432 : Arv Z h427 ma_367 km_368 (.object "java/math/BigDecimal") (5 : Int32) [.null, .null, (.ref r_383), (.ref r_403), (.ref r_417)] .null := (J422.keep K427 nin0)
      have gn434 : n0 ≤ ma_428 := Nat.le_trans Z0 (Nat.le_trans (Nat.le_trans (Nat.le_trans (Nat.le_trans (Nat.le_trans (Nat.le_trans (Nat.le_trans (Nat.le_trans (Nat.le_trans (Nat.le_trans (Nat.le_trans (Nat.le_trans K102.1 K107.1) K110.1) K123.1) K134.1) K146.1) K155.1) K162.1) K366.1) K373.1) K391.1) K410.1) P427_0)
      have ne435 : ma_428 ≠ ma_367 := (Ne.symm (Nat.ne_of_lt (Nat.lt_of_lt_of_le (Nat.lt_of_lt_of_le P366_1.lt (Nat.le_trans (Nat.le_trans K373.1 K391.1) K410.1)) P427_0)))
      have ne436 : ma_428 ≠ b102 := (Ne.symm (Nat.ne_of_lt (Nat.lt_of_lt_of_le (Nat.lt_of_lt_of_le G102.lt (Nat.le_trans (Nat.le_trans (Nat.le_trans (Nat.le_trans (Nat.le_trans (Nat.le_trans (Nat.le_trans (Nat.le_trans (Nat.le_trans (Nat.le_trans K107.1 K110.1) K123.1) K134.1) K146.1) K155.1) K162.1) K366.1) K373.1) K391.1) K410.1)) P427_0)))
      have O437 : Old Z n0 h427 := ((O411.keep K410 (allS gn374 all0)).keep K427 all0)
      have F438 : BD Z h427 r_151 v_152 := ((F413.keep K410 (ninS ne412 nin0)).keep K427 nin0)
      have F439 : BD Z h427 r_128 v_129 := ((F415.keep K410 (ninS ne414 nin0)).keep K427 nin0)
      have ne440 : r_383 ≠ ma_367 := (Exa.neArv (((P373_1.1.keep K391).keep K410).keep K427) F432 (w138 hw))
      have F441 : BD Z h427 r_383 v_384 := (((P373_1.keep K391 (ninS ne440 nin0)).keep K410 (ninS ne440 nin0)).keep K427 nin0)
      have z445 : n0 ≤ h427.size := (Nat.le_trans z420 (Nat.le_trans K410.1 K427.1))
      obtain ⟨T433, L433, h433, X433, e433, r_442, v_443, s8_444, Nl433, K433, P433_0, P433_1, P433_2, P433_3, st433⟩ := rm_sg2A hx hZ hw hby hml hown (by decide) (by decide) (by decide) (by decide) ll ct 2 4 b102 ma_367 (2 : Int32) ma_428 4 s8_419 k102 km_368 km_429 [(.ref zr), (.ref r_116), (.ref r_128), (.ref r_139), (.ref r_151)] [.null, .null, (.ref r_383), (.ref r_403), (.ref r_417)] [.null, .null, .null, .null, .null] r_151 r_128 r_383 v_152 v_129 v_384 zt kz zl n0 S_zt V_zt hzl hz (nb rfl) (nb rfl) (nb rfl) (nb rfl) rfl rfl rfl rfl rfl (Bn.mono hbd153 (by decide)) (Bn.mono hbd130 (by decide)) (Bn.mono hbd387 (by decide)) gn434 P427_2 P410_5 ne435 ne436 T427 _ h427 X427 e427 Nl427 z445 O437 F431 F432 J430 F438 F439 F441
      have hbd446 : Bn 8 v_443 := own_bA hbd387 hbd153 hbd130 P433_2 (Nat.le_of_ble_eq_true rfl)
      have J447 : Arv Z h433 ma_428 km_429 (.object "java/math/BigDecimal") (5 : Int32) [.null, .null, .null, .null, (.ref r_442)] .null := P433_0
      have KA448 : Keep h0 h433 [] := (Keep.trans (Keep.trans KA423 K427 all0) K433 (allS (Or.inr (Nat.le_trans (Nat.le_trans (Nat.le_trans (Nat.le_trans (Nat.le_trans (Nat.le_trans (Nat.le_trans (Nat.le_trans (Nat.le_trans (Nat.le_trans (Nat.le_trans (Nat.le_trans K102.1 K107.1) K110.1) K123.1) K134.1) K146.1) K155.1) K162.1) K366.1) K373.1) K391.1) K410.1) P427_0)) all0))
      have hct := hc
      obtain ⟨cl449, Ar449, q449, S449, M449, H449, F449g⟩ := id J447
      have hin449 : ¬ ((4 : Int32) < 0 ∨ cl449.slots.size ≤ ((4 : Int32)).toNatClampNeg) := inb_of S449 ⟨by decide, by decide⟩
      have hat449 : cl449.slots[((4 : Int32)).toNatClampNeg]? = some (.ref r_442) := Has.at H449 hin449 rfl
      have W450 : ∀ zQ, SS p e below T433 m 187 #[.val (.ref ll), .val (.int (2 : Int32)), .val (.int (2 : Int32)), .val (.int (4 : Int32)), .val (.ref b102), .val (.ref ma_428), .val (.int (3 : Int32)), .val (.ref ma_428), .val (.int (5 : Int32)), s8_444] [(.ref r_442)] zQ → Steps p.tables e below (s₁.setTop (entryFrame m #[(.ref ll), (.int ct), (.int le)] 10)) zQ := by
        intro tt kt
        refine W424 tt ?_
        refine st427 _ ?_
        show SS p e below T427 m 102 #[.val (.ref ll), .val (.int ct), .val (.int (Int32.ofNat 2)), .val (.int (Int32.ofNat 4)), .val (.ref b102), .val (.ref ma_367), .val (.int (Int32.ofNat 2)), .val (.ref ma_428), .val (.int (Int32.ofNat (2 * 2))), s8_419] [] _
        refine st433 _ ?_
        show SS p e below T433 m 102 #[.val (.ref ll), .val (.int ct), .val (.int (Int32.ofNat 2)), .val (.int (Int32.ofNat 4)), .val (.ref b102), .val (.ref ma_367), .val (.int (2 : Int32)), .val (.ref ma_428), .val (.int (Int32.ofNat (4 + 1))), s8_444] [] _
        refine XS.iload X433.here hx rfl (D_ d31_102) rfl ?_
        refine XS.iloadN X433.here hx rfl (D_ d31_104) rfl ?_
        refine XS.icmpYes X433.here hx rfl (pc0 := 105) (pc' := 173) rfl (D_ d31_105) rfl (tlt (by decide)).2.2.1 (by decide) (by decide) ?_
        refine XS.aload X433.here hx rfl (D_ d31_173) rfl rfl ?_
        refine XS.astore X433.here hx rfl (D_ d31_175) rfl rfl (l' := #[.val (.ref ll), .val (.int ct), .val (.int (2 : Int32)), .val (.int (4 : Int32)), .val (.ref b102), .val (.ref ma_428), .val (.int (2 : Int32)), .val (.ref ma_428), .val (.int (5 : Int32)), s8_444]) rfl ?_
        refine XS.iinc X433.here hx rfl (D_ d31_177) rfl (l' := #[.val (.ref ll), .val (.int ct), .val (.int (2 : Int32)), .val (.int (4 : Int32)), .val (.ref b102), .val (.ref ma_428), .val (.int (3 : Int32)), .val (.ref ma_428), .val (.int (5 : Int32)), s8_444]) rfl ?_
        refine XS.goto X433.here hx rfl (pc0 := 180) (pc' := 82) rfl (D_ d31_180) (by decide) (by decide) ?_
        show SS p e below T433 m 82 #[.val (.ref ll), .val (.int ct), .val (.int (2 : Int32)), .val (.int (4 : Int32)), .val (.ref b102), .val (.ref ma_428), .val (.int (3 : Int32)), .val (.ref ma_428), .val (.int (5 : Int32)), s8_444] [] _
        rw [show ct = (2 : Int32) from hct]
        refine XS.iload X433.here hx rfl (D_ d31_82) rfl ?_
        refine XS.iloadN X433.here hx rfl (D_ d31_84) rfl ?_
        refine XS.icmpYes X433.here hx rfl (pc0 := 85) (pc' := 183) rfl (D_ d31_85) rfl (tlt (by decide)).2.2.1 (by decide) (by decide) ?_
        refine XS.aload X433.here hx rfl (D_ d31_183) rfl rfl ?_
        refine XS.iloadN X433.here hx rfl (D_ d31_185) rfl ?_
        refine X433.aaload hx (j := (4 : Int32)) (v := (.ref r_442)) (by first | exact Ar449.1 | (rw [e433]; exact Ar449.1)) (State.isArrayOf_alike hZ.alike Ar449.2.1) rfl Ar449.2.2 hin449 hat449 (g := (mkF m 186 #[.val (.ref ll), .val (.int (2 : Int32)), .val (.int (2 : Int32)), .val (.int (4 : Int32)), .val (.ref b102), .val (.ref ma_428), .val (.int (3 : Int32)), .val (.ref ma_428), .val (.int (5 : Int32)), s8_444] [(.int (4 : Int32)), (.ref ma_428)])) rfl rfl (D_ d31_186) _ ?_
        exact kt
      obtain ⟨fs, hr, hrun, hended, hW, hsame⟩ := X433.leave (v := some (.ref r_442)) (fun h => by rw [Bd.returns] at h; cases h)
      refine ⟨_, _, W450 _ (own_retR X433 hx Bd.returns rfl rfl (D_ d31_187) hr), hrun, hended, _, _, rfl, ?_, ⟨_, rfl⟩, hW, hsame.mono (by decide) (by decide)⟩
      show Q_tot4 Z ll ct le d kd p1 p2 p3 p4 x0 x1 x2 x3 zt kz zl zr h0 n0 _ T433.heap _
      rw [e433]
      exact ⟨r_442, v_443, rfl, Nl433, KA448, P433_1, (by rw [hct, hle]; rw [dpl4_22]; exact (own_dp32 P110_2 P123_2 P134_2 P146_2 P373_2 P433_2)), (Bn.mono hbd446 (by decide))⟩
  ·
    obtain ⟨T451, L451, h451, X451, e451, ma_452, km_453, Nl451, K451, P451_0, P451_1, P451_2, st451⟩ := rm_sg0 hx hZ hw hby hml hown (by decide) (by decide) (by decide) (by decide) ll ct 3 4 b102 b155 1 (.unset) (.unset) (.unset) n0 (by rw [hc]; decide) (nb rfl) (nb rfl) One.u One.u T162 _ T162.heap X162 rfl N162 (Nat.le_trans z163 K162.1) 
    have J454 : Arv Z h451 ma_452 km_453 (.object "java/math/BigDecimal") (5 : Int32) [.null, .null, .null, .null, .null] .null := Arv.pad P451_1 (pad_rep [] .null 5)
    have ne455 : b102 ≠ b155 := (Nat.ne_of_lt (Nat.lt_of_lt_of_le (Nat.lt_of_lt_of_le G102.lt (Nat.le_trans (Nat.le_trans (Nat.le_trans (Nat.le_trans K107.1 K110.1) K123.1) K134.1) K146.1)) (Nat.le_of_eq g155.symm)))
    have F456 : Arv Z h451 b102 k102 (.object "java/math/BigDecimal") (5 : Int32) [(.ref zr), (.ref r_116), (.ref r_128), (.ref r_139), (.ref r_151)] .null := (((J154.keep K155 nin0).keep K162 (ninS ne455 nin0)).keep K451 nin0)
    have F457 : Arv Z h451 b155 k155 (.object "java/math/BigDecimal") (5 : Int32) [(.ref zr), (.ref zr), (.ref zr), (.ref zr), (.ref zr)] .null := (J164.keep K451 nin0)
    have gn459 : n0 ≤ ma_452 := Nat.le_trans Z0 (Nat.le_trans (Nat.le_trans (Nat.le_trans (Nat.le_trans (Nat.le_trans (Nat.le_trans (Nat.le_trans (Nat.le_trans K102.1 K107.1) K110.1) K123.1) K134.1) K146.1) K155.1) K162.1) P451_0)
    have ne460 : ma_452 ≠ b155 := (Ne.symm (Nat.ne_of_lt (Nat.lt_of_lt_of_le (Nat.lt_of_lt_of_le G155.lt K162.1) P451_0)))
    have ne461 : ma_452 ≠ b102 := (Ne.symm (Nat.ne_of_lt (Nat.lt_of_lt_of_le (Nat.lt_of_lt_of_le G102.lt (Nat.le_trans (Nat.le_trans (Nat.le_trans (Nat.le_trans (Nat.le_trans (Nat.le_trans K107.1 K110.1) K123.1) K134.1) K146.1) K155.1) K162.1)) P451_0)))
    have O462 : Old Z n0 h451 := ((O157.keep K162 (allS gn161 all0)).keep K451 all0)
    have ne463 : r_139 ≠ b102 := (Exa.neArv ((((P134_1.1.keep K146).keep K155).keep K162).keep K451) F456 (w138 hw))
    have ne464 : r_139 ≠ b155 := (Nat.ne_of_lt (Nat.lt_of_lt_of_le (Nat.lt_of_lt_of_le P134_1.lt K146.1) (Nat.le_of_eq g155.symm)))
    have F465 : BD Z h451 r_139 v_140 := ((((P134_1.keep K146 (ninS ne463 nin0)).keep K155 nin0).keep K162 (ninS ne464 nin0)).keep K451 nin0)
    have ne466 : zr ≠ b155 := (Nat.ne_of_lt (Nat.lt_of_lt_of_le (Nat.lt_of_lt_of_le B0106.lt (Nat.le_trans (Nat.le_trans (Nat.le_trans (Nat.le_trans K107.1 K110.1) K123.1) K134.1) K146.1)) (Nat.le_of_eq g155.symm)))
    have F467 : BD Z h451 zr (0 : Int64) := ((F160.keep K162 (ninS ne466 nin0)).keep K451 nin0)
    have z471 : n0 ≤ h451.size := (Nat.le_trans z163 (Nat.le_trans K162.1 K451.1))
    obtain ⟨T458, L458, h458, X458, e458, r_468, v_469, s8_470, Nl458, K458, P458_0, P458_1, P458_2, P458_3, st458⟩ := rm_sg2A hx hZ hw hby hml hown (by decide) (by decide) (by decide) (by decide) ll ct 3 4 b102 b155 (1 : Int32) ma_452 3 (.unset) k102 k155 km_453 [(.ref zr), (.ref r_116), (.ref r_128), (.ref r_139), (.ref r_151)] [(.ref zr), (.ref zr), (.ref zr), (.ref zr), (.ref zr)] [.null, .null, .null, .null, .null] r_139 zr zr v_140 (0 : Int64) (0 : Int64) zt kz zl n0 S_zt V_zt hzl hz (nb rfl) (nb rfl) (nb rfl) (nb rfl) rfl rfl rfl rfl rfl (Bn.mono hbd142 (by decide)) (Bn.mono own_bd0 (by decide)) (Bn.mono own_bd0 (by decide)) gn459 P451_2 One.u ne460 ne461 T451 _ h451 X451 e451 Nl451 z471 O462 F456 F457 J454 F465 F467 F467
    have hbd472 : Bn 3 v_469 := own_bA own_bd0 hbd142 own_bd0 P458_2 (Nat.le_of_ble_eq_true rfl)
    have J473 : Arv Z h458 ma_452 km_453 (.object "java/math/BigDecimal") (5 : Int32) [.null, .null, .null, (.ref r_468), .null] .null := P458_0
    have F474 : Arv Z h458 b102 k102 (.object "java/math/BigDecimal") (5 : Int32) [(.ref zr), (.ref r_116), (.ref r_128), (.ref r_139), (.ref r_151)] .null := (F456.keep K458 (ninS (Ne.symm ne461) nin0))
    have F475 : Arv Z h458 b155 k155 (.object "java/math/BigDecimal") (5 : Int32) [(.ref zr), (.ref zr), (.ref zr), (.ref zr), (.ref zr)] .null := (F457.keep K458 (ninS (Ne.symm ne460) nin0))
    have O477 : Old Z n0 h458 := (O462.keep K458 (allS gn459 all0))
    have ne478 : r_151 ≠ ma_452 := (Nat.ne_of_lt (Nat.lt_of_lt_of_le (Nat.lt_of_lt_of_le P146_1.lt (Nat.le_trans K155.1 K162.1)) P451_0))
    have F479 : BD Z h458 r_151 v_152 := ((((P146_1.keep K155 nin0).keep K162 (ninS (Nat.ne_of_lt (Nat.lt_of_lt_of_le P146_1.lt (Nat.le_of_eq g155.symm))) nin0)).keep K451 nin0).keep K458 (ninS ne478 nin0))
    have ne480 : r_116 ≠ b102 := (Exa.neArv (((((((P110_1.1.keep K123).keep K134).keep K146).keep K155).keep K162).keep K451).keep K458) F474 (w138 hw))
    have ne481 : r_116 ≠ b155 := (Nat.ne_of_lt (Nat.lt_of_lt_of_le (Nat.lt_of_lt_of_le P110_1.lt (Nat.le_trans (Nat.le_trans K123.1 K134.1) K146.1)) (Nat.le_of_eq g155.symm)))
    have ne482 : r_116 ≠ ma_452 := (Nat.ne_of_lt (Nat.lt_of_lt_of_le (Nat.lt_of_lt_of_le P110_1.lt (Nat.le_trans (Nat.le_trans (Nat.le_trans (Nat.le_trans K123.1 K134.1) K146.1) K155.1) K162.1)) P451_0))
    have F483 : BD Z h458 r_116 v_117 := (((((((P110_1.keep K123 (ninS ne480 nin0)).keep K134 (ninS ne480 nin0)).keep K146 (ninS ne480 nin0)).keep K155 nin0).keep K162 (ninS ne481 nin0)).keep K451 nin0).keep K458 (ninS ne482 nin0))
    have ne484 : zr ≠ ma_452 := (Nat.ne_of_lt (Nat.lt_of_lt_of_le (Nat.lt_of_lt_of_le B0106.lt (Nat.le_trans (Nat.le_trans (Nat.le_trans (Nat.le_trans (Nat.le_trans (Nat.le_trans K107.1 K110.1) K123.1) K134.1) K146.1) K155.1) K162.1)) P451_0))
    have F485 : BD Z h458 zr (0 : Int64) := (F467.keep K458 (ninS ne484 nin0))
    obtain ⟨T476, L476, h476, X476, e476, r_486, v_487, s8_488, Nl476, K476, P476_0, P476_1, P476_2, P476_3, P476_4, P476_5, st476⟩ := rm_sg2B hx hZ hw hby hml hown (by decide) (by decide) (by decide) (by decide) ll ct 3 4 b102 b155 (1 : Int32) ma_452 4 s8_470 k102 k155 km_453 [(.ref zr), (.ref r_116), (.ref r_128), (.ref r_139), (.ref r_151)] [(.ref zr), (.ref zr), (.ref zr), (.ref zr), (.ref zr)] [.null, .null, .null, (.ref r_468), .null] r_151 r_116 zr v_152 v_117 (0 : Int64) r_468 v_469 zt kz zl n0 S_zt V_zt hzl hz (nb rfl) (nb rfl) (nb rfl) (nb rfl) rfl rfl rfl rfl rfl (Bn.mono hbd153 (by decide)) (Bn.mono hbd119 (by decide)) (Bn.mono own_bd0 (by decide)) (Bn.mono hbd472 (by decide)) gn459 P451_2 P458_3 ne460 ne461 T458 _ h458 X458 e458 Nl458 (Nat.le_trans z471 K458.1) O477 F474 F475 J473 F479 F483 F485 P458_1
    have hbd489 : Bn 5 v_487 := own_bE hbd472 own_bd0 hbd153 hbd119 P476_2 (Nat.le_of_ble_eq_true rfl) (nb rfl)
    have J490 : Arv Z h476 ma_452 km_453 (.object "java/math/BigDecimal") (5 : Int32) [.null, .null, .null, (.ref r_468), (.ref r_486)] .null := P476_0
    have KA491 : Keep h0 h476 [] := (Keep.trans (Keep.trans (Keep.trans KA166 K451 all0) K458 (allS (Or.inr (Nat.le_trans (Nat.le_trans (Nat.le_trans (Nat.le_trans (Nat.le_trans (Nat.le_trans (Nat.le_trans (Nat.le_trans K102.1 K107.1) K110.1) K123.1) K134.1) K146.1) K155.1) K162.1) P451_0)) all0)) K476 (allS (Or.inr (Nat.le_trans (Nat.le_trans (Nat.le_trans (Nat.le_trans (Nat.le_trans (Nat.le_trans (Nat.le_trans (Nat.le_trans K102.1 K107.1) K110.1) K123.1) K134.1) K146.1) K155.1) K162.1) P451_0)) all0))
    have hct := hc
    obtain ⟨cl492, Ar492, q492, S492, M492, H492, F492g⟩ := id J490
    have hin492 : ¬ ((4 : Int32) < 0 ∨ cl492.slots.size ≤ ((4 : Int32)).toNatClampNeg) := inb_of S492 ⟨by decide, by decide⟩
    have hat492 : cl492.slots[((4 : Int32)).toNatClampNeg]? = some (.ref r_486) := Has.at H492 hin492 rfl
    have W493 : ∀ zQ, SS p e below T476 m 187 #[.val (.ref ll), .val (.int (1 : Int32)), .val (.int (3 : Int32)), .val (.int (4 : Int32)), .val (.ref b102), .val (.ref ma_452), .val (.int (2 : Int32)), .val (.ref ma_452), .val (.int (5 : Int32)), s8_488] [(.ref r_486)] zQ → Steps p.tables e below (s₁.setTop (entryFrame m #[(.ref ll), (.int ct), (.int le)] 10)) zQ := by
      intro tt kt
      refine W165 tt ?_
      rw [show le = (3 : Int32) from hle]
      refine XS.iconst X162.here hx rfl (D_ d31_79) ?_
      refine XS.istore X162.here hx rfl (D_ d31_80) rfl (l' := #[.val (.ref ll), .val (.int ct), .val (.int (3 : Int32)), .val (.int (4 : Int32)), .val (.ref b102), .val (.ref b155), .val (.int (1 : Int32)), .unset, .unset, .unset]) rfl ?_
      refine st451 _ ?_
      show SS p e below T451 m 102 #[.val (.ref ll), .val (.int ct), .val (.int (Int32.ofNat 3)), .val (.int (Int32.ofNat 4)), .val (.ref b102), .val (.ref b155), .val (.int (Int32.ofNat 1)), .val (.ref ma_452), .val (.int (Int32.ofNat (1 * 3))), (.unset)] [] _
      refine st458 _ ?_
      show SS p e below T458 m 102 #[.val (.ref ll), .val (.int ct), .val (.int (Int32.ofNat 3)), .val (.int (Int32.ofNat 4)), .val (.ref b102), .val (.ref b155), .val (.int (1 : Int32)), .val (.ref ma_452), .val (.int (Int32.ofNat (3 + 1))), s8_470] [] _
      refine st476 _ ?_
      show SS p e below T476 m 102 #[.val (.ref ll), .val (.int ct), .val (.int (Int32.ofNat 3)), .val (.int (Int32.ofNat 4)), .val (.ref b102), .val (.ref b155), .val (.int (1 : Int32)), .val (.ref ma_452), .val (.int (Int32.ofNat (4 + 1))), s8_488] [] _
      refine XS.iload X476.here hx rfl (D_ d31_102) rfl ?_
      refine XS.iloadN X476.here hx rfl (D_ d31_104) rfl ?_
      refine XS.icmpYes X476.here hx rfl (pc0 := 105) (pc' := 173) rfl (D_ d31_105) rfl (tlt (by decide)).2.2.1 (by decide) (by decide) ?_
      refine XS.aload X476.here hx rfl (D_ d31_173) rfl rfl ?_
      refine XS.astore X476.here hx rfl (D_ d31_175) rfl rfl (l' := #[.val (.ref ll), .val (.int ct), .val (.int (3 : Int32)), .val (.int (4 : Int32)), .val (.ref b102), .val (.ref ma_452), .val (.int (1 : Int32)), .val (.ref ma_452), .val (.int (5 : Int32)), s8_488]) rfl ?_
      refine XS.iinc X476.here hx rfl (D_ d31_177) rfl (l' := #[.val (.ref ll), .val (.int ct), .val (.int (3 : Int32)), .val (.int (4 : Int32)), .val (.ref b102), .val (.ref ma_452), .val (.int (2 : Int32)), .val (.ref ma_452), .val (.int (5 : Int32)), s8_488]) rfl ?_
      refine XS.goto X476.here hx rfl (pc0 := 180) (pc' := 82) rfl (D_ d31_180) (by decide) (by decide) ?_
      show SS p e below T476 m 82 #[.val (.ref ll), .val (.int ct), .val (.int (3 : Int32)), .val (.int (4 : Int32)), .val (.ref b102), .val (.ref ma_452), .val (.int (2 : Int32)), .val (.ref ma_452), .val (.int (5 : Int32)), s8_488] [] _
      rw [show ct = (1 : Int32) from hct]
      refine XS.iload X476.here hx rfl (D_ d31_82) rfl ?_
      refine XS.iloadN X476.here hx rfl (D_ d31_84) rfl ?_
      refine XS.icmpYes X476.here hx rfl (pc0 := 85) (pc' := 183) rfl (D_ d31_85) rfl (tlt (by decide)).2.2.1 (by decide) (by decide) ?_
      refine XS.aload X476.here hx rfl (D_ d31_183) rfl rfl ?_
      refine XS.iloadN X476.here hx rfl (D_ d31_185) rfl ?_
      refine X476.aaload hx (j := (4 : Int32)) (v := (.ref r_486)) (by first | exact Ar492.1 | (rw [e476]; exact Ar492.1)) (State.isArrayOf_alike hZ.alike Ar492.2.1) rfl Ar492.2.2 hin492 hat492 (g := (mkF m 186 #[.val (.ref ll), .val (.int (1 : Int32)), .val (.int (3 : Int32)), .val (.int (4 : Int32)), .val (.ref b102), .val (.ref ma_452), .val (.int (2 : Int32)), .val (.ref ma_452), .val (.int (5 : Int32)), s8_488] [(.int (4 : Int32)), (.ref ma_452)])) rfl rfl (D_ d31_186) _ ?_
      exact kt
    obtain ⟨fs, hr, hrun, hended, hW, hsame⟩ := X476.leave (v := some (.ref r_486)) (fun h => by rw [Bd.returns] at h; cases h)
    refine ⟨_, _, W493 _ (own_retR X476 hx Bd.returns rfl rfl (D_ d31_187) hr), hrun, hended, _, _, rfl, ?_, ⟨_, rfl⟩, hW, hsame.mono (by decide) (by decide)⟩
    show Q_tot4 Z ll ct le d kd p1 p2 p3 p4 x0 x1 x2 x3 zt kz zl zr h0 n0 _ T476.heap _
    rw [e476]
    exact ⟨r_486, v_487, rfl, Nl476, KA491, P476_1, (by rw [hct, hle]; rw [dpl4_13]; exact (own_dp33 P110_2 P123_2 P134_2 P146_2 P458_2 P476_2 P476_3 P476_4)), (Bn.mono hbd489 (by decide))⟩
  ·
    obtain ⟨T494, L494, h494, X494, e494, ma_495, km_496, Nl494, K494, P494_0, P494_1, P494_2, st494⟩ := rm_sg0 hx hZ hw hby hml hown (by decide) (by decide) (by decide) (by decide) ll ct 4 4 b102 b155 1 (.unset) (.unset) (.unset) n0 (by rw [hc]; decide) (nb rfl) (nb rfl) One.u One.u T162 _ T162.heap X162 rfl N162 (Nat.le_trans z163 K162.1) 
    have J497 : Arv Z h494 ma_495 km_496 (.object "java/math/BigDecimal") (5 : Int32) [.null, .null, .null, .null, .null] .null := Arv.pad P494_1 (pad_rep [] .null 5)
    have ne498 : b102 ≠ b155 := (Nat.ne_of_lt (Nat.lt_of_lt_of_le (Nat.lt_of_lt_of_le G102.lt (Nat.le_trans (Nat.le_trans (Nat.le_trans (Nat.le_trans K107.1 K110.1) K123.1) K134.1) K146.1)) (Nat.le_of_eq g155.symm)))
    have F499 : Arv Z h494 b102 k102 (.object "java/math/BigDecimal") (5 : Int32) [(.ref zr), (.ref r_116), (.ref r_128), (.ref r_139), (.ref r_151)] .null := (((J154.keep K155 nin0).keep K162 (ninS ne498 nin0)).keep K494 nin0)
    have F500 : Arv Z h494 b155 k155 (.object "java/math/BigDecimal") (5 : Int32) [(.ref zr), (.ref zr), (.ref zr), (.ref zr), (.ref zr)] .null := (J164.keep K494 nin0)
    have gn502 : n0 ≤ ma_495 := Nat.le_trans Z0 (Nat.le_trans (Nat.le_trans (Nat.le_trans (Nat.le_trans (Nat.le_trans (Nat.le_trans (Nat.le_trans (Nat.le_trans K102.1 K107.1) K110.1) K123.1) K134.1) K146.1) K155.1) K162.1) P494_0)
    have ne503 : ma_495 ≠ b155 := (Ne.symm (Nat.ne_of_lt (Nat.lt_of_lt_of_le (Nat.lt_of_lt_of_le G155.lt K162.1) P494_0)))
    have ne504 : ma_495 ≠ b102 := (Ne.symm (Nat.ne_of_lt (Nat.lt_of_lt_of_le (Nat.lt_of_lt_of_le G102.lt (Nat.le_trans (Nat.le_trans (Nat.le_trans (Nat.le_trans (Nat.le_trans (Nat.le_trans K107.1 K110.1) K123.1) K134.1) K146.1) K155.1) K162.1)) P494_0)))
    have O505 : Old Z n0 h494 := ((O157.keep K162 (allS gn161 all0)).keep K494 all0)
    have F506 : BD Z h494 r_151 v_152 := (((P146_1.keep K155 nin0).keep K162 (ninS (Nat.ne_of_lt (Nat.lt_of_lt_of_le P146_1.lt (Nat.le_of_eq g155.symm))) nin0)).keep K494 nin0)
    have ne507 : zr ≠ b155 := (Nat.ne_of_lt (Nat.lt_of_lt_of_le (Nat.lt_of_lt_of_le B0106.lt (Nat.le_trans (Nat.le_trans (Nat.le_trans (Nat.le_trans K107.1 K110.1) K123.1) K134.1) K146.1)) (Nat.le_of_eq g155.symm)))
    have F508 : BD Z h494 zr (0 : Int64) := ((F160.keep K162 (ninS ne507 nin0)).keep K494 nin0)
    have z512 : n0 ≤ h494.size := (Nat.le_trans z163 (Nat.le_trans K162.1 K494.1))
    obtain ⟨T501, L501, h501, X501, e501, r_509, v_510, s8_511, Nl501, K501, P501_0, P501_1, P501_2, P501_3, st501⟩ := rm_sg2A hx hZ hw hby hml hown (by decide) (by decide) (by decide) (by decide) ll ct 4 4 b102 b155 (1 : Int32) ma_495 4 (.unset) k102 k155 km_496 [(.ref zr), (.ref r_116), (.ref r_128), (.ref r_139), (.ref r_151)] [(.ref zr), (.ref zr), (.ref zr), (.ref zr), (.ref zr)] [.null, .null, .null, .null, .null] r_151 zr zr v_152 (0 : Int64) (0 : Int64) zt kz zl n0 S_zt V_zt hzl hz (nb rfl) (nb rfl) (nb rfl) (nb rfl) rfl rfl rfl rfl rfl (Bn.mono hbd153 (by decide)) (Bn.mono own_bd0 (by decide)) (Bn.mono own_bd0 (by decide)) gn502 P494_2 One.u ne503 ne504 T494 _ h494 X494 e494 Nl494 z512 O505 F499 F500 J497 F506 F508 F508
    have hbd513 : Bn 4 v_510 := own_bA own_bd0 hbd153 own_bd0 P501_2 (Nat.le_of_ble_eq_true rfl)
    have J514 : Arv Z h501 ma_495 km_496 (.object "java/math/BigDecimal") (5 : Int32) [.null, .null, .null, .null, (.ref r_509)] .null := P501_0
    have KA515 : Keep h0 h501 [] := (Keep.trans (Keep.trans KA166 K494 all0) K501 (allS (Or.inr (Nat.le_trans (Nat.le_trans (Nat.le_trans (Nat.le_trans (Nat.le_trans (Nat.le_trans (Nat.le_trans (Nat.le_trans K102.1 K107.1) K110.1) K123.1) K134.1) K146.1) K155.1) K162.1) P494_0)) all0))
    have hct := hc
    obtain ⟨cl516, Ar516, q516, S516, M516, H516, F516g⟩ := id J514
    have hin516 : ¬ ((4 : Int32) < 0 ∨ cl516.slots.size ≤ ((4 : Int32)).toNatClampNeg) := inb_of S516 ⟨by decide, by decide⟩
    have hat516 : cl516.slots[((4 : Int32)).toNatClampNeg]? = some (.ref r_509) := Has.at H516 hin516 rfl
    have W517 : ∀ zQ, SS p e below T501 m 187 #[.val (.ref ll), .val (.int (1 : Int32)), .val (.int (4 : Int32)), .val (.int (4 : Int32)), .val (.ref b102), .val (.ref ma_495), .val (.int (2 : Int32)), .val (.ref ma_495), .val (.int (5 : Int32)), s8_511] [(.ref r_509)] zQ → Steps p.tables e below (s₁.setTop (entryFrame m #[(.ref ll), (.int ct), (.int le)] 10)) zQ := by
      intro tt kt
      refine W165 tt ?_
      rw [show le = (4 : Int32) from hle]
      refine XS.iconst X162.here hx rfl (D_ d31_79) ?_
      refine XS.istore X162.here hx rfl (D_ d31_80) rfl (l' := #[.val (.ref ll), .val (.int ct), .val (.int (4 : Int32)), .val (.int (4 : Int32)), .val (.ref b102), .val (.ref b155), .val (.int (1 : Int32)), .unset, .unset, .unset]) rfl ?_
      refine st494 _ ?_
      show SS p e below T494 m 102 #[.val (.ref ll), .val (.int ct), .val (.int (Int32.ofNat 4)), .val (.int (Int32.ofNat 4)), .val (.ref b102), .val (.ref b155), .val (.int (Int32.ofNat 1)), .val (.ref ma_495), .val (.int (Int32.ofNat (1 * 4))), (.unset)] [] _
      refine st501 _ ?_
      show SS p e below T501 m 102 #[.val (.ref ll), .val (.int ct), .val (.int (Int32.ofNat 4)), .val (.int (Int32.ofNat 4)), .val (.ref b102), .val (.ref b155), .val (.int (1 : Int32)), .val (.ref ma_495), .val (.int (Int32.ofNat (4 + 1))), s8_511] [] _
      refine XS.iload X501.here hx rfl (D_ d31_102) rfl ?_
      refine XS.iloadN X501.here hx rfl (D_ d31_104) rfl ?_
      refine XS.icmpYes X501.here hx rfl (pc0 := 105) (pc' := 173) rfl (D_ d31_105) rfl (tlt (by decide)).2.2.1 (by decide) (by decide) ?_
      refine XS.aload X501.here hx rfl (D_ d31_173) rfl rfl ?_
      refine XS.astore X501.here hx rfl (D_ d31_175) rfl rfl (l' := #[.val (.ref ll), .val (.int ct), .val (.int (4 : Int32)), .val (.int (4 : Int32)), .val (.ref b102), .val (.ref ma_495), .val (.int (1 : Int32)), .val (.ref ma_495), .val (.int (5 : Int32)), s8_511]) rfl ?_
      refine XS.iinc X501.here hx rfl (D_ d31_177) rfl (l' := #[.val (.ref ll), .val (.int ct), .val (.int (4 : Int32)), .val (.int (4 : Int32)), .val (.ref b102), .val (.ref ma_495), .val (.int (2 : Int32)), .val (.ref ma_495), .val (.int (5 : Int32)), s8_511]) rfl ?_
      refine XS.goto X501.here hx rfl (pc0 := 180) (pc' := 82) rfl (D_ d31_180) (by decide) (by decide) ?_
      show SS p e below T501 m 82 #[.val (.ref ll), .val (.int ct), .val (.int (4 : Int32)), .val (.int (4 : Int32)), .val (.ref b102), .val (.ref ma_495), .val (.int (2 : Int32)), .val (.ref ma_495), .val (.int (5 : Int32)), s8_511] [] _
      rw [show ct = (1 : Int32) from hct]
      refine XS.iload X501.here hx rfl (D_ d31_82) rfl ?_
      refine XS.iloadN X501.here hx rfl (D_ d31_84) rfl ?_
      refine XS.icmpYes X501.here hx rfl (pc0 := 85) (pc' := 183) rfl (D_ d31_85) rfl (tlt (by decide)).2.2.1 (by decide) (by decide) ?_
      refine XS.aload X501.here hx rfl (D_ d31_183) rfl rfl ?_
      refine XS.iloadN X501.here hx rfl (D_ d31_185) rfl ?_
      refine X501.aaload hx (j := (4 : Int32)) (v := (.ref r_509)) (by first | exact Ar516.1 | (rw [e501]; exact Ar516.1)) (State.isArrayOf_alike hZ.alike Ar516.2.1) rfl Ar516.2.2 hin516 hat516 (g := (mkF m 186 #[.val (.ref ll), .val (.int (1 : Int32)), .val (.int (4 : Int32)), .val (.int (4 : Int32)), .val (.ref b102), .val (.ref ma_495), .val (.int (2 : Int32)), .val (.ref ma_495), .val (.int (5 : Int32)), s8_511] [(.int (4 : Int32)), (.ref ma_495)])) rfl rfl (D_ d31_186) _ ?_
      exact kt
    obtain ⟨fs, hr, hrun, hended, hW, hsame⟩ := X501.leave (v := some (.ref r_509)) (fun h => by rw [Bd.returns] at h; cases h)
    refine ⟨_, _, W517 _ (own_retR X501 hx Bd.returns rfl rfl (D_ d31_187) hr), hrun, hended, _, _, rfl, ?_, ⟨_, rfl⟩, hW, hsame.mono (by decide) (by decide)⟩
    show Q_tot4 Z ll ct le d kd p1 p2 p3 p4 x0 x1 x2 x3 zt kz zl zr h0 n0 _ T501.heap _
    rw [e501]
    exact ⟨r_509, v_510, rfl, Nl501, KA515, P501_1, (by rw [hct, hle]; rw [dpl4_14]; exact (own_dp34 P110_2 P123_2 P134_2 P146_2 P501_2)), (Bn.mono hbd513 (by decide))⟩
theorem own_r75 (x : Int32) : (x &&& (7 : Int32)) % (5 : Int32) = 0 ∨ (x &&& (7 : Int32)) % (5 : Int32) = 1 ∨ (x &&& (7 : Int32)) % (5 : Int32) = 2 ∨ (x &&& (7 : Int32)) % (5 : Int32) = 3 ∨ (x &&& (7 : Int32)) % (5 : Int32) = 4 := by
  have h1 := c_and x 7 (by decide); have h2 := (c_irem (x &&& 7) 5 5 rfl).1 h1.1
  have a : (0 : Int32).toInt = 0 := rfl; have b : (1 : Int32).toInt = 1 := rfl; have c : (2 : Int32).toInt = 2 := rfl; have d : (3 : Int32).toInt = 3 := rfl; have e : (4 : Int32).toInt = 4 := rfl
  simp only [← Int32.toInt_inj]; omega
theorem own_le4 (x : Int32) : (1 : Int32) + ((x.toUInt32 >>> ((3 : Int32) &&& 31).toUInt32).toInt32 &&& (3 : Int32)) = 1 ∨ (1 : Int32) + ((x.toUInt32 >>> ((3 : Int32) &&& 31).toUInt32).toInt32 &&& (3 : Int32)) = 2 ∨ (1 : Int32) + ((x.toUInt32 >>> ((3 : Int32) &&& 31).toUInt32).toInt32 &&& (3 : Int32)) = 3 ∨ (1 : Int32) + ((x.toUInt32 >>> ((3 : Int32) &&& 31).toUInt32).toInt32 &&& (3 : Int32)) = 4 := by
  generalize (x.toUInt32 >>> ((3 : Int32) &&& 31).toUInt32).toInt32 = y
  have h := c_and y 3 (by decide); have s := c_iadd 1 (y &&& 3); have r := rng32 (1 + (y &&& 3))
  have b : (1 : Int32).toInt = 1 := rfl; have c : (2 : Int32).toInt = 2 := rfl; have d : (3 : Int32).toInt = 3 := rfl; have e : (4 : Int32).toInt = 4 := rfl
  simp only [← Int32.toInt_inj]; omega
theorem own_cl0 {le y : Int32} (hl : le = 1 ∨ le = 2 ∨ le = 3 ∨ le = 4) : ((y &&& (7 : Int32)) % ((0 : Int32) / le + (1 : Int32))) = (0 : Int32) := by
  have h := c_and y 7 (by decide)
  rcases hl with rfl | rfl | rfl | rfl
  · have q := (c_irem (y &&& 7) 1 1 rfl).1 h.1
    rw [show (0 : Int32) / (1 : Int32) + (1 : Int32) = (1 : Int32) from by decide]
    simp only [← Int32.toInt_inj, true_and]
    have a0 : (0 : Int32).toInt = 0 := rfl; have a1 : (1 : Int32).toInt = 1 := rfl; have a2 : (2 : Int32).toInt = 2 := rfl; have a3 : (3 : Int32).toInt = 3 := rfl; have a4 : (4 : Int32).toInt = 4 := rfl; have a5 : (5 : Int32).toInt = 5 := rfl
    omega
  · have q := (c_irem (y &&& 7) 1 1 rfl).1 h.1
    rw [show (0 : Int32) / (2 : Int32) + (1 : Int32) = (1 : Int32) from by decide]
    simp only [← Int32.toInt_inj, true_and]
    have a0 : (0 : Int32).toInt = 0 := rfl; have a1 : (1 : Int32).toInt = 1 := rfl; have a2 : (2 : Int32).toInt = 2 := rfl; have a3 : (3 : Int32).toInt = 3 := rfl; have a4 : (4 : Int32).toInt = 4 := rfl; have a5 : (5 : Int32).toInt = 5 := rfl
    omega
  · have q := (c_irem (y &&& 7) 1 1 rfl).1 h.1
    rw [show (0 : Int32) / (3 : Int32) + (1 : Int32) = (1 : Int32) from by decide]
    simp only [← Int32.toInt_inj, true_and]
    have a0 : (0 : Int32).toInt = 0 := rfl; have a1 : (1 : Int32).toInt = 1 := rfl; have a2 : (2 : Int32).toInt = 2 := rfl; have a3 : (3 : Int32).toInt = 3 := rfl; have a4 : (4 : Int32).toInt = 4 := rfl; have a5 : (5 : Int32).toInt = 5 := rfl
    omega
  · have q := (c_irem (y &&& 7) 1 1 rfl).1 h.1
    rw [show (0 : Int32) / (4 : Int32) + (1 : Int32) = (1 : Int32) from by decide]
    simp only [← Int32.toInt_inj, true_and]
    have a0 : (0 : Int32).toInt = 0 := rfl; have a1 : (1 : Int32).toInt = 1 := rfl; have a2 : (2 : Int32).toInt = 2 := rfl; have a3 : (3 : Int32).toInt = 3 := rfl; have a4 : (4 : Int32).toInt = 4 := rfl; have a5 : (5 : Int32).toInt = 5 := rfl
    omega
theorem own_cl1 {le y : Int32} (hl : le = 1 ∨ le = 2 ∨ le = 3 ∨ le = 4) : ((y &&& (7 : Int32)) % ((1 : Int32) / le + (1 : Int32))) = (0 : Int32) ∨ (le = (1 : Int32) ∧ (((y &&& (7 : Int32)) % ((1 : Int32) / le + (1 : Int32))) = (1 : Int32))) := by
  have h := c_and y 7 (by decide)
  rcases hl with rfl | rfl | rfl | rfl
  · have q := (c_irem (y &&& 7) 2 2 rfl).1 h.1
    rw [show (1 : Int32) / (1 : Int32) + (1 : Int32) = (2 : Int32) from by decide]
    simp only [← Int32.toInt_inj, true_and]
    have a0 : (0 : Int32).toInt = 0 := rfl; have a1 : (1 : Int32).toInt = 1 := rfl; have a2 : (2 : Int32).toInt = 2 := rfl; have a3 : (3 : Int32).toInt = 3 := rfl; have a4 : (4 : Int32).toInt = 4 := rfl; have a5 : (5 : Int32).toInt = 5 := rfl
    omega
  · have q := (c_irem (y &&& 7) 1 1 rfl).1 h.1
    rw [show (1 : Int32) / (2 : Int32) + (1 : Int32) = (1 : Int32) from by decide]
    simp only [← Int32.toInt_inj, true_and]
    have a0 : (0 : Int32).toInt = 0 := rfl; have a1 : (1 : Int32).toInt = 1 := rfl; have a2 : (2 : Int32).toInt = 2 := rfl; have a3 : (3 : Int32).toInt = 3 := rfl; have a4 : (4 : Int32).toInt = 4 := rfl; have a5 : (5 : Int32).toInt = 5 := rfl
    omega
  · have q := (c_irem (y &&& 7) 1 1 rfl).1 h.1
    rw [show (1 : Int32) / (3 : Int32) + (1 : Int32) = (1 : Int32) from by decide]
    simp only [← Int32.toInt_inj, true_and]
    have a0 : (0 : Int32).toInt = 0 := rfl; have a1 : (1 : Int32).toInt = 1 := rfl; have a2 : (2 : Int32).toInt = 2 := rfl; have a3 : (3 : Int32).toInt = 3 := rfl; have a4 : (4 : Int32).toInt = 4 := rfl; have a5 : (5 : Int32).toInt = 5 := rfl
    omega
  · have q := (c_irem (y &&& 7) 1 1 rfl).1 h.1
    rw [show (1 : Int32) / (4 : Int32) + (1 : Int32) = (1 : Int32) from by decide]
    simp only [← Int32.toInt_inj, true_and]
    have a0 : (0 : Int32).toInt = 0 := rfl; have a1 : (1 : Int32).toInt = 1 := rfl; have a2 : (2 : Int32).toInt = 2 := rfl; have a3 : (3 : Int32).toInt = 3 := rfl; have a4 : (4 : Int32).toInt = 4 := rfl; have a5 : (5 : Int32).toInt = 5 := rfl
    omega
theorem own_cl2 {le y : Int32} (hl : le = 1 ∨ le = 2 ∨ le = 3 ∨ le = 4) : ((y &&& (7 : Int32)) % ((2 : Int32) / le + (1 : Int32))) = (0 : Int32) ∨ (le = (1 : Int32) ∧ (((y &&& (7 : Int32)) % ((2 : Int32) / le + (1 : Int32))) = (1 : Int32) ∨ ((y &&& (7 : Int32)) % ((2 : Int32) / le + (1 : Int32))) = (2 : Int32))) ∨ (le = (2 : Int32) ∧ (((y &&& (7 : Int32)) % ((2 : Int32) / le + (1 : Int32))) = (1 : Int32))) := by
  have h := c_and y 7 (by decide)
  rcases hl with rfl | rfl | rfl | rfl
  · have q := (c_irem (y &&& 7) 3 3 rfl).1 h.1
    rw [show (2 : Int32) / (1 : Int32) + (1 : Int32) = (3 : Int32) from by decide]
    simp only [← Int32.toInt_inj, true_and]
    have a0 : (0 : Int32).toInt = 0 := rfl; have a1 : (1 : Int32).toInt = 1 := rfl; have a2 : (2 : Int32).toInt = 2 := rfl; have a3 : (3 : Int32).toInt = 3 := rfl; have a4 : (4 : Int32).toInt = 4 := rfl; have a5 : (5 : Int32).toInt = 5 := rfl
    omega
  · have q := (c_irem (y &&& 7) 2 2 rfl).1 h.1
    rw [show (2 : Int32) / (2 : Int32) + (1 : Int32) = (2 : Int32) from by decide]
    simp only [← Int32.toInt_inj, true_and]
    have a0 : (0 : Int32).toInt = 0 := rfl; have a1 : (1 : Int32).toInt = 1 := rfl; have a2 : (2 : Int32).toInt = 2 := rfl; have a3 : (3 : Int32).toInt = 3 := rfl; have a4 : (4 : Int32).toInt = 4 := rfl; have a5 : (5 : Int32).toInt = 5 := rfl
    omega
  · have q := (c_irem (y &&& 7) 1 1 rfl).1 h.1
    rw [show (2 : Int32) / (3 : Int32) + (1 : Int32) = (1 : Int32) from by decide]
    simp only [← Int32.toInt_inj, true_and]
    have a0 : (0 : Int32).toInt = 0 := rfl; have a1 : (1 : Int32).toInt = 1 := rfl; have a2 : (2 : Int32).toInt = 2 := rfl; have a3 : (3 : Int32).toInt = 3 := rfl; have a4 : (4 : Int32).toInt = 4 := rfl; have a5 : (5 : Int32).toInt = 5 := rfl
    omega
  · have q := (c_irem (y &&& 7) 1 1 rfl).1 h.1
    rw [show (2 : Int32) / (4 : Int32) + (1 : Int32) = (1 : Int32) from by decide]
    simp only [← Int32.toInt_inj, true_and]
    have a0 : (0 : Int32).toInt = 0 := rfl; have a1 : (1 : Int32).toInt = 1 := rfl; have a2 : (2 : Int32).toInt = 2 := rfl; have a3 : (3 : Int32).toInt = 3 := rfl; have a4 : (4 : Int32).toInt = 4 := rfl; have a5 : (5 : Int32).toInt = 5 := rfl
    omega
theorem own_cl3 {le y : Int32} (hl : le = 1 ∨ le = 2 ∨ le = 3 ∨ le = 4) : ((y &&& (7 : Int32)) % ((3 : Int32) / le + (1 : Int32))) = (0 : Int32) ∨ (le = (1 : Int32) ∧ (((y &&& (7 : Int32)) % ((3 : Int32) / le + (1 : Int32))) = (1 : Int32) ∨ ((y &&& (7 : Int32)) % ((3 : Int32) / le + (1 : Int32))) = (2 : Int32) ∨ ((y &&& (7 : Int32)) % ((3 : Int32) / le + (1 : Int32))) = (3 : Int32))) ∨ (le = (2 : Int32) ∧ (((y &&& (7 : Int32)) % ((3 : Int32) / le + (1 : Int32))) = (1 : Int32))) ∨ (le = (3 : Int32) ∧ (((y &&& (7 : Int32)) % ((3 : Int32) / le + (1 : Int32))) = (1 : Int32))) := by
  have h := c_and y 7 (by decide)
  rcases hl with rfl | rfl | rfl | rfl
  · have q := (c_irem (y &&& 7) 4 4 rfl).1 h.1
    rw [show (3 : Int32) / (1 : Int32) + (1 : Int32) = (4 : Int32) from by decide]
    simp only [← Int32.toInt_inj, true_and]
    have a0 : (0 : Int32).toInt = 0 := rfl; have a1 : (1 : Int32).toInt = 1 := rfl; have a2 : (2 : Int32).toInt = 2 := rfl; have a3 : (3 : Int32).toInt = 3 := rfl; have a4 : (4 : Int32).toInt = 4 := rfl; have a5 : (5 : Int32).toInt = 5 := rfl
    omega
  · have q := (c_irem (y &&& 7) 2 2 rfl).1 h.1
    rw [show (3 : Int32) / (2 : Int32) + (1 : Int32) = (2 : Int32) from by decide]
    simp only [← Int32.toInt_inj, true_and]
    have a0 : (0 : Int32).toInt = 0 := rfl; have a1 : (1 : Int32).toInt = 1 := rfl; have a2 : (2 : Int32).toInt = 2 := rfl; have a3 : (3 : Int32).toInt = 3 := rfl; have a4 : (4 : Int32).toInt = 4 := rfl; have a5 : (5 : Int32).toInt = 5 := rfl
    omega
  · have q := (c_irem (y &&& 7) 2 2 rfl).1 h.1
    rw [show (3 : Int32) / (3 : Int32) + (1 : Int32) = (2 : Int32) from by decide]
    simp only [← Int32.toInt_inj, true_and]
    have a0 : (0 : Int32).toInt = 0 := rfl; have a1 : (1 : Int32).toInt = 1 := rfl; have a2 : (2 : Int32).toInt = 2 := rfl; have a3 : (3 : Int32).toInt = 3 := rfl; have a4 : (4 : Int32).toInt = 4 := rfl; have a5 : (5 : Int32).toInt = 5 := rfl
    omega
  · have q := (c_irem (y &&& 7) 1 1 rfl).1 h.1
    rw [show (3 : Int32) / (4 : Int32) + (1 : Int32) = (1 : Int32) from by decide]
    simp only [← Int32.toInt_inj, true_and]
    have a0 : (0 : Int32).toInt = 0 := rfl; have a1 : (1 : Int32).toInt = 1 := rfl; have a2 : (2 : Int32).toInt = 2 := rfl; have a3 : (3 : Int32).toInt = 3 := rfl; have a4 : (4 : Int32).toInt = 4 := rfl; have a5 : (5 : Int32).toInt = 5 := rfl
    omega
theorem own_cl4 {le y : Int32} (hl : le = 1 ∨ le = 2 ∨ le = 3 ∨ le = 4) : ((y &&& (7 : Int32)) % ((4 : Int32) / le + (1 : Int32))) = (0 : Int32) ∨ (le = (1 : Int32) ∧ (((y &&& (7 : Int32)) % ((4 : Int32) / le + (1 : Int32))) = (1 : Int32) ∨ ((y &&& (7 : Int32)) % ((4 : Int32) / le + (1 : Int32))) = (2 : Int32) ∨ ((y &&& (7 : Int32)) % ((4 : Int32) / le + (1 : Int32))) = (3 : Int32) ∨ ((y &&& (7 : Int32)) % ((4 : Int32) / le + (1 : Int32))) = (4 : Int32))) ∨ (le = (2 : Int32) ∧ (((y &&& (7 : Int32)) % ((4 : Int32) / le + (1 : Int32))) = (1 : Int32) ∨ ((y &&& (7 : Int32)) % ((4 : Int32) / le + (1 : Int32))) = (2 : Int32))) ∨ (le = (3 : Int32) ∧ (((y &&& (7 : Int32)) % ((4 : Int32) / le + (1 : Int32))) = (1 : Int32))) ∨ (le = (4 : Int32) ∧ (((y &&& (7 : Int32)) % ((4 : Int32) / le + (1 : Int32))) = (1 : Int32))) := by
  have h := c_and y 7 (by decide)
  rcases hl with rfl | rfl | rfl | rfl
  · have q := (c_irem (y &&& 7) 5 5 rfl).1 h.1
    rw [show (4 : Int32) / (1 : Int32) + (1 : Int32) = (5 : Int32) from by decide]
    simp only [← Int32.toInt_inj, true_and]
    have a0 : (0 : Int32).toInt = 0 := rfl; have a1 : (1 : Int32).toInt = 1 := rfl; have a2 : (2 : Int32).toInt = 2 := rfl; have a3 : (3 : Int32).toInt = 3 := rfl; have a4 : (4 : Int32).toInt = 4 := rfl; have a5 : (5 : Int32).toInt = 5 := rfl
    omega
  · have q := (c_irem (y &&& 7) 3 3 rfl).1 h.1
    rw [show (4 : Int32) / (2 : Int32) + (1 : Int32) = (3 : Int32) from by decide]
    simp only [← Int32.toInt_inj, true_and]
    have a0 : (0 : Int32).toInt = 0 := rfl; have a1 : (1 : Int32).toInt = 1 := rfl; have a2 : (2 : Int32).toInt = 2 := rfl; have a3 : (3 : Int32).toInt = 3 := rfl; have a4 : (4 : Int32).toInt = 4 := rfl; have a5 : (5 : Int32).toInt = 5 := rfl
    omega
  · have q := (c_irem (y &&& 7) 2 2 rfl).1 h.1
    rw [show (4 : Int32) / (3 : Int32) + (1 : Int32) = (2 : Int32) from by decide]
    simp only [← Int32.toInt_inj, true_and]
    have a0 : (0 : Int32).toInt = 0 := rfl; have a1 : (1 : Int32).toInt = 1 := rfl; have a2 : (2 : Int32).toInt = 2 := rfl; have a3 : (3 : Int32).toInt = 3 := rfl; have a4 : (4 : Int32).toInt = 4 := rfl; have a5 : (5 : Int32).toInt = 5 := rfl
    omega
  · have q := (c_irem (y &&& 7) 2 2 rfl).1 h.1
    rw [show (4 : Int32) / (4 : Int32) + (1 : Int32) = (2 : Int32) from by decide]
    simp only [← Int32.toInt_inj, true_and]
    have a0 : (0 : Int32).toInt = 0 := rfl; have a1 : (1 : Int32).toInt = 1 := rfl; have a2 : (2 : Int32).toInt = 2 := rfl; have a3 : (3 : Int32).toInt = 3 := rfl; have a4 : (4 : Int32).toInt = 4 := rfl; have a5 : (5 : Int32).toInt = 5 := rfl
    omega
theorem own_nz {n le : Int32} (hn : n = 0 ∨ n = 1 ∨ n = 2 ∨ n = 3 ∨ n = 4) (hl : le = 1 ∨ le = 2 ∨ le = 3 ∨ le = 4) : ¬ (n / le + (1 : Int32) = (0 : Int32)) := by
  rcases hn with rfl | rfl | rfl | rfl | rfl <;> rcases hl with rfl | rfl | rfl | rfl <;> decide
theorem own_lnz {le : Int32} (hl : le = 1 ∨ le = 2 ∨ le = 3 ∨ le = 4) : ¬ (le = (0 : Int32)) := by
  rcases hl with rfl | rfl | rfl | rfl <;> decide
theorem own_cr0 {ct le : Int32} (h : ct = (0 : Int32)) : ct = (0 : Int32) ∨ (ct = (1 : Int32) ∧ le = (1 : Int32) ∧ ((0 : Int32) = (1 : Int32) ∨ (0 : Int32) = (2 : Int32) ∨ (0 : Int32) = (3 : Int32) ∨ (0 : Int32) = (4 : Int32))) ∨ (ct = (1 : Int32) ∧ le = (2 : Int32) ∧ ((0 : Int32) = (2 : Int32) ∨ (0 : Int32) = (3 : Int32) ∨ (0 : Int32) = (4 : Int32))) ∨ (ct = (1 : Int32) ∧ le = (3 : Int32) ∧ ((0 : Int32) = (3 : Int32) ∨ (0 : Int32) = (4 : Int32))) ∨ (ct = (1 : Int32) ∧ le = (4 : Int32) ∧ ((0 : Int32) = (4 : Int32))) ∨ (ct = (2 : Int32) ∧ le = (1 : Int32) ∧ ((0 : Int32) = (2 : Int32) ∨ (0 : Int32) = (3 : Int32) ∨ (0 : Int32) = (4 : Int32))) ∨ (ct = (2 : Int32) ∧ le = (2 : Int32) ∧ ((0 : Int32) = (4 : Int32))) ∨ (ct = (3 : Int32) ∧ le = (1 : Int32) ∧ ((0 : Int32) = (3 : Int32) ∨ (0 : Int32) = (4 : Int32))) ∨ (ct = (4 : Int32) ∧ le = (1 : Int32) ∧ ((0 : Int32) = (4 : Int32))) := by
  rcases h with rfl <;> simp
theorem own_cr1 {ct le : Int32} (h : ct = (0 : Int32) ∨ (le = (1 : Int32) ∧ (ct = (1 : Int32)))) : ct = (0 : Int32) ∨ (ct = (1 : Int32) ∧ le = (1 : Int32) ∧ ((1 : Int32) = (1 : Int32) ∨ (1 : Int32) = (2 : Int32) ∨ (1 : Int32) = (3 : Int32) ∨ (1 : Int32) = (4 : Int32))) ∨ (ct = (1 : Int32) ∧ le = (2 : Int32) ∧ ((1 : Int32) = (2 : Int32) ∨ (1 : Int32) = (3 : Int32) ∨ (1 : Int32) = (4 : Int32))) ∨ (ct = (1 : Int32) ∧ le = (3 : Int32) ∧ ((1 : Int32) = (3 : Int32) ∨ (1 : Int32) = (4 : Int32))) ∨ (ct = (1 : Int32) ∧ le = (4 : Int32) ∧ ((1 : Int32) = (4 : Int32))) ∨ (ct = (2 : Int32) ∧ le = (1 : Int32) ∧ ((1 : Int32) = (2 : Int32) ∨ (1 : Int32) = (3 : Int32) ∨ (1 : Int32) = (4 : Int32))) ∨ (ct = (2 : Int32) ∧ le = (2 : Int32) ∧ ((1 : Int32) = (4 : Int32))) ∨ (ct = (3 : Int32) ∧ le = (1 : Int32) ∧ ((1 : Int32) = (3 : Int32) ∨ (1 : Int32) = (4 : Int32))) ∨ (ct = (4 : Int32) ∧ le = (1 : Int32) ∧ ((1 : Int32) = (4 : Int32))) := by
  rcases h with rfl | ⟨rfl, rfl⟩ <;> simp
theorem own_cr2 {ct le : Int32} (h : ct = (0 : Int32) ∨ (le = (1 : Int32) ∧ (ct = (1 : Int32) ∨ ct = (2 : Int32))) ∨ (le = (2 : Int32) ∧ (ct = (1 : Int32)))) : ct = (0 : Int32) ∨ (ct = (1 : Int32) ∧ le = (1 : Int32) ∧ ((2 : Int32) = (1 : Int32) ∨ (2 : Int32) = (2 : Int32) ∨ (2 : Int32) = (3 : Int32) ∨ (2 : Int32) = (4 : Int32))) ∨ (ct = (1 : Int32) ∧ le = (2 : Int32) ∧ ((2 : Int32) = (2 : Int32) ∨ (2 : Int32) = (3 : Int32) ∨ (2 : Int32) = (4 : Int32))) ∨ (ct = (1 : Int32) ∧ le = (3 : Int32) ∧ ((2 : Int32) = (3 : Int32) ∨ (2 : Int32) = (4 : Int32))) ∨ (ct = (1 : Int32) ∧ le = (4 : Int32) ∧ ((2 : Int32) = (4 : Int32))) ∨ (ct = (2 : Int32) ∧ le = (1 : Int32) ∧ ((2 : Int32) = (2 : Int32) ∨ (2 : Int32) = (3 : Int32) ∨ (2 : Int32) = (4 : Int32))) ∨ (ct = (2 : Int32) ∧ le = (2 : Int32) ∧ ((2 : Int32) = (4 : Int32))) ∨ (ct = (3 : Int32) ∧ le = (1 : Int32) ∧ ((2 : Int32) = (3 : Int32) ∨ (2 : Int32) = (4 : Int32))) ∨ (ct = (4 : Int32) ∧ le = (1 : Int32) ∧ ((2 : Int32) = (4 : Int32))) := by
  rcases h with rfl | ⟨rfl, rfl | rfl⟩ | ⟨rfl, rfl⟩ <;> simp
theorem own_cr3 {ct le : Int32} (h : ct = (0 : Int32) ∨ (le = (1 : Int32) ∧ (ct = (1 : Int32) ∨ ct = (2 : Int32) ∨ ct = (3 : Int32))) ∨ (le = (2 : Int32) ∧ (ct = (1 : Int32))) ∨ (le = (3 : Int32) ∧ (ct = (1 : Int32)))) : ct = (0 : Int32) ∨ (ct = (1 : Int32) ∧ le = (1 : Int32) ∧ ((3 : Int32) = (1 : Int32) ∨ (3 : Int32) = (2 : Int32) ∨ (3 : Int32) = (3 : Int32) ∨ (3 : Int32) = (4 : Int32))) ∨ (ct = (1 : Int32) ∧ le = (2 : Int32) ∧ ((3 : Int32) = (2 : Int32) ∨ (3 : Int32) = (3 : Int32) ∨ (3 : Int32) = (4 : Int32))) ∨ (ct = (1 : Int32) ∧ le = (3 : Int32) ∧ ((3 : Int32) = (3 : Int32) ∨ (3 : Int32) = (4 : Int32))) ∨ (ct = (1 : Int32) ∧ le = (4 : Int32) ∧ ((3 : Int32) = (4 : Int32))) ∨ (ct = (2 : Int32) ∧ le = (1 : Int32) ∧ ((3 : Int32) = (2 : Int32) ∨ (3 : Int32) = (3 : Int32) ∨ (3 : Int32) = (4 : Int32))) ∨ (ct = (2 : Int32) ∧ le = (2 : Int32) ∧ ((3 : Int32) = (4 : Int32))) ∨ (ct = (3 : Int32) ∧ le = (1 : Int32) ∧ ((3 : Int32) = (3 : Int32) ∨ (3 : Int32) = (4 : Int32))) ∨ (ct = (4 : Int32) ∧ le = (1 : Int32) ∧ ((3 : Int32) = (4 : Int32))) := by
  rcases h with rfl | ⟨rfl, rfl | rfl | rfl⟩ | ⟨rfl, rfl⟩ | ⟨rfl, rfl⟩ <;> simp
theorem own_cr4 {ct le : Int32} (h : ct = (0 : Int32) ∨ (le = (1 : Int32) ∧ (ct = (1 : Int32) ∨ ct = (2 : Int32) ∨ ct = (3 : Int32) ∨ ct = (4 : Int32))) ∨ (le = (2 : Int32) ∧ (ct = (1 : Int32) ∨ ct = (2 : Int32))) ∨ (le = (3 : Int32) ∧ (ct = (1 : Int32))) ∨ (le = (4 : Int32) ∧ (ct = (1 : Int32)))) : ct = (0 : Int32) ∨ (ct = (1 : Int32) ∧ le = (1 : Int32) ∧ ((4 : Int32) = (1 : Int32) ∨ (4 : Int32) = (2 : Int32) ∨ (4 : Int32) = (3 : Int32) ∨ (4 : Int32) = (4 : Int32))) ∨ (ct = (1 : Int32) ∧ le = (2 : Int32) ∧ ((4 : Int32) = (2 : Int32) ∨ (4 : Int32) = (3 : Int32) ∨ (4 : Int32) = (4 : Int32))) ∨ (ct = (1 : Int32) ∧ le = (3 : Int32) ∧ ((4 : Int32) = (3 : Int32) ∨ (4 : Int32) = (4 : Int32))) ∨ (ct = (1 : Int32) ∧ le = (4 : Int32) ∧ ((4 : Int32) = (4 : Int32))) ∨ (ct = (2 : Int32) ∧ le = (1 : Int32) ∧ ((4 : Int32) = (2 : Int32) ∨ (4 : Int32) = (3 : Int32) ∨ (4 : Int32) = (4 : Int32))) ∨ (ct = (2 : Int32) ∧ le = (2 : Int32) ∧ ((4 : Int32) = (4 : Int32))) ∨ (ct = (3 : Int32) ∧ le = (1 : Int32) ∧ ((4 : Int32) = (3 : Int32) ∨ (4 : Int32) = (4 : Int32))) ∨ (ct = (4 : Int32) ∧ le = (1 : Int32) ∧ ((4 : Int32) = (4 : Int32))) := by
  rcases h with rfl | ⟨rfl, rfl | rfl | rfl | rfl⟩ | ⟨rfl, rfl | rfl⟩ | ⟨rfl, rfl⟩ | ⟨rfl, rfl⟩ <;> simp
theorem rm_sgT {p : Program} {l : Launch} {e : Env} {R : Room} {s : State} {m : MethodId} {args : Array Value} {below : List Frame} {meth : Method} {cO : Code} {cells slots : Nat} {Z : State} {a0 : Array Value} (hx : p.tables.exec = Jvm.exec) (hZ : Z.Warmed39 s.vm) (hw : HW a0 Z) (hby : cO.code = code) (hml : cO.maxLocals = 13) (hown : s.vm.findClass "com/example/vestline/vestline/finalaveragepay/BestPeriodsTotalPinLaw" = some m.cls) (hRf : 4 ≤ R.frames) (hRl : 56 ≤ R.locals) (hRc : cells + 1 ≤ R.cells) (hRs : slots + 5 ≤ R.slots) (a : Int32) (b : Int32) (c_ : Int32) (d_ : Int32) (sl : Int32) (n_ : Int32) (le : Int32) (ct : Int32) (p_ : Addr) (ll : Addr) (r : Addr) (v : Int64) (kp : ClassId) (x0 : Int64) (x1 : Int64) (x2 : Int64) (x3 : Int64) (zt : Addr) (kz : ClassId) (zl : List Addr) (n0 : Nat) (S_zt : Sta Z Z.heap "java/math/BigDecimal" "ZERO_THROUGH_TEN" "[Ljava/math/BigDecimal;" (.ref zt)) (V_zt : Arv Z Z.heap zt kz (.object "java/math/BigDecimal") (11 : Int32) (zl.map Value.ref) .null) (hzl : zl.length = 11) (hz : ∀ i, i < 11 → BD Z Z.heap (zl.getD i 0) (Int64.ofNat i)) (hb0 : Bn 1 x0) (hb1 : Bn 1 x1) (hb2 : Bn 1 x2) (hb3 : Bn 1 x3) (hcl : ct = (0 : Int32) ∨ (ct = (1 : Int32) ∧ le = (1 : Int32) ∧ (n_ = (1 : Int32) ∨ n_ = (2 : Int32) ∨ n_ = (3 : Int32) ∨ n_ = (4 : Int32))) ∨ (ct = (1 : Int32) ∧ le = (2 : Int32) ∧ (n_ = (2 : Int32) ∨ n_ = (3 : Int32) ∨ n_ = (4 : Int32))) ∨ (ct = (1 : Int32) ∧ le = (3 : Int32) ∧ (n_ = (3 : Int32) ∨ n_ = (4 : Int32))) ∨ (ct = (1 : Int32) ∧ le = (4 : Int32) ∧ (n_ = (4 : Int32))) ∨ (ct = (2 : Int32) ∧ le = (1 : Int32) ∧ (n_ = (2 : Int32) ∨ n_ = (3 : Int32) ∨ n_ = (4 : Int32))) ∨ (ct = (2 : Int32) ∧ le = (2 : Int32) ∧ (n_ = (4 : Int32))) ∨ (ct = (3 : Int32) ∧ le = (1 : Int32) ∧ (n_ = (3 : Int32) ∨ n_ = (4 : Int32))) ∨ (ct = (4 : Int32) ∧ le = (1 : Int32) ∧ (n_ = (4 : Int32)))) (hI : IsM v.toInt (dpl n_ ct le x0.toInt x1.toInt x2.toInt x3.toInt)) (hv_ : Bn 100 v) (T0 : State) (L0 : List Loc) (h0 : Heap) (X0 : Stand p l e R s m args below meth cO T0 L0 cells slots) (e0 : T0.heap = h0) (N0 : Fr n0 L0) (Z0 : n0 ≤ h0.size) (O0 : Old Z n0 h0) (VP : Arv Z h0 p_ kp .long (4 : Int32) [(.long x0), (.long x1), (.long x2), (.long x3)] (.long (0 : Int64))) (Br : BD Z h0 r v) :
    ∃ (T' : State) (L' : List Loc) (h' : Heap), Stand p l e R s m args below meth cO T' L' (cells + 1) (slots + 5) ∧ T'.heap = h' ∧ ∃ e0_ : Int64, Fr n0 L' ∧ Keep h0 h' [] ∧ ∀ zQ, SS p e below T' m 179 #[.val (.int a), .val (.int b), .val (.int c_), .val (.int d_), .val (.int sl), .val (.int n_), .val (.int le), .val (.int ct), .val (.ref p_), .val (.ref ll), .val (.ref r), .val (.long e0_), .second] [] zQ → SS p e below T0 m 146 #[.val (.int a), .val (.int b), .val (.int c_), .val (.int d_), .val (.int sl), .val (.int n_), .val (.int le), .val (.int ct), .val (.ref p_), .val (.ref ll), .unset, .unset, .unset] [(.ref r)] zQ := by
  have D_ : ∀ {i : Nat} {x}, decode code i = x → decode cO.code i = x := fun h => hb hby h
  have W0 : ∀ zQ, SS p e below T0 m 146 #[.val (.int a), .val (.int b), .val (.int c_), .val (.int d_), .val (.int sl), .val (.int n_), .val (.int le), .val (.int ct), .val (.ref p_), .val (.ref ll), .unset, .unset, .unset] [(.ref r)] zQ → Steps p.tables e below (T0.setTop (mkF m 146 #[.val (.int a), .val (.int b), .val (.int c_), .val (.int d_), .val (.int sl), .val (.int n_), .val (.int le), .val (.int ct), .val (.ref p_), .val (.ref ll), .unset, .unset, .unset] [(.ref r)])) zQ := fun tt kt => kt
  obtain ⟨_, _, ⟨T101, L101, k101, n101⟩, -, X101, ⟨Lc101, hQ101, l101, y101, z101⟩, st101⟩ := Jvm.LawKit.callS X0 hx (y := yn17) hown (mvT hZ (w51 hw)) (mvT hZ (w52 hw)) (mvT hZ (w53 hw)) (mvT hZ (w54 hw)) (by decide) (backOf (W := 0) (rm_refr l Z a0 hw [] p_ n_ ct le kp x0 x1 x2 x3 h0 n0 Z0 VP hb0 hb1 hb2 hb3 hcl) hZ (w54 hw) (w53 hw) (Nat.le_trans (by decide) hRf) (Nat.le_trans (by decide) hRl)) (g := (mkF m 156 #[.val (.int a), .val (.int b), .val (.int c_), .val (.int d_), .val (.int sl), .val (.int n_), .val (.int le), .val (.int ct), .val (.ref p_), .val (.ref ll), .val (.ref r), .unset, .unset] [(.int le), (.int ct), (.int n_), (.ref p_)])) rfl (by rw [hml]; rfl) (argsL := [(.ref p_), (.int n_), (.int ct), (.int le)]) (rest := []) (lenOf pd20 rfl) rfl (wq rfl) (D_ at_156) (fun _ _ => ⟨rfl, e0, (by first | omega | (dsimp only [Pt.cells, Pt.slots]; omega)), (by first | omega | (dsimp only [Pt.cells, Pt.slots]; omega))⟩)
  dsimp only [Pt.U, Pt.locs, Pt.cells, Pt.slots] at X101 l101 y101 z101 st101 hQ101
  subst l101 y101 z101
  obtain ⟨v_102, rfl, Nq101, eq101, P101_0, P101_1⟩ := hQ101
  have N101 := Fr.app N0 Nq101
  obtain ⟨_, _, ⟨T103, L103, k103, n103⟩, -, X103, ⟨Lc103, hQ103, l103, y103, z103⟩, st103⟩ := Jvm.LawKit.callS X101 hx (y := yn2) hown (mvT hZ (w55 hw)) (mvT hZ (w56 hw)) (mvT hZ (w45 hw)) (mvT hZ (w57 hw)) (by decide) (backOf (W := 1) (rm_valJ l Z a0 hw [] v_102 zt kz zl h0 n0 Z0 O0 S_zt V_zt hzl hz (own_nmin P101_1 (by decide))) hZ (w57 hw) (w45 hw) (Nat.le_trans (by decide) hRf) (Nat.le_trans (by decide) hRl)) (g := (mkF m 170 #[.val (.int a), .val (.int b), .val (.int c_), .val (.int d_), .val (.int sl), .val (.int n_), .val (.int le), .val (.int ct), .val (.ref p_), .val (.ref ll), .val (.ref r), .val (.long v_102), .second] [(.long v_102), (.ref r)])) rfl (by rw [hml]; rfl) (argsL := [(.long v_102)]) (rest := [(.ref r)]) (lenOf pd2 rfl) rfl (wq rfl) (D_ at_170) (fun _ _ => ⟨rfl, eq101, (by first | omega | (dsimp only [Pt.cells, Pt.slots]; omega)), (by first | omega | (dsimp only [Pt.cells, Pt.slots]; omega))⟩)
  dsimp only [Pt.U, Pt.locs, Pt.cells, Pt.slots] at X103 l103 y103 z103 st103 hQ103
  subst l103 y103 z103
  obtain ⟨r_104, rfl, Nq103, K103, P103_0⟩ := hQ103
  have N103 := Fr.app N101 Nq103
  have F105 : BD Z T103.heap r v := (Br.keep K103 nin0)
  obtain ⟨cq106, kq106, q106a, q106b, q106c⟩ := isOf hZ rfl F105.1
  obtain ⟨_, _, ⟨T106, L106, k106, n106⟩, -, X106, ⟨Lc106, hQ106, l106, y106, z106⟩, st106⟩ := X103.virtualBack hx (y := yn9) (z := yn9) hown (mvT hZ (w59 hw)) (mvT hZ (w60 hw)) (notFace_of_selects (args := #[]) (mvT hZ (w62 hw))) (mvT hZ (w62 hw)) (mvT hZ (w61 hw)) (by decide) (backOf (W := 0) (rm_bdcmp l Z a0 hw [] r r_104 v v_102 T103.heap n0 (Nat.le_trans Z0 K103.1) F105 P103_0 (own_nmin hv_ (by decide)) (own_nmin P101_1 (by decide))) hZ (w63 hw) (w45 hw) (Nat.le_trans (by decide) hRf) (Nat.le_trans (by decide) hRl)) q106a q106c (g := (mkF m 173 #[.val (.int a), .val (.int b), .val (.int c_), .val (.int d_), .val (.int sl), .val (.int n_), .val (.int le), .val (.int ct), .val (.ref p_), .val (.ref ll), .val (.ref r), .val (.long v_102), .second] [(.ref r_104), (.ref r)])) rfl (by rw [hml]; rfl) (Steps.refl _) (argsL := [(.ref r_104)]) (rest := []) (lenOf pd7 rfl) rfl (wq rfl) (D_ at_173) (fun _ _ => ⟨rfl, rfl, (by first | omega | (dsimp only [Pt.cells, Pt.slots]; omega)), (by first | omega | (dsimp only [Pt.cells, Pt.slots]; omega))⟩)
  dsimp only [Pt.U, Pt.locs, Pt.cells, Pt.slots] at X106 l106 y106 z106 st106 hQ106
  subst l106 y106 z106
  obtain ⟨rfl, Nq106, eq106⟩ := hQ106
  have N106 := Fr.app N103 Nq106
  have W107 : ∀ zQ, SS p e below T106 m 179 #[.val (.int a), .val (.int b), .val (.int c_), .val (.int d_), .val (.int sl), .val (.int n_), .val (.int le), .val (.int ct), .val (.ref p_), .val (.ref ll), .val (.ref r), .val (.long v_102), .second] [] zQ → Steps p.tables e below (T0.setTop (mkF m 146 #[.val (.int a), .val (.int b), .val (.int c_), .val (.int d_), .val (.int sl), .val (.int n_), .val (.int le), .val (.int ct), .val (.ref p_), .val (.ref ll), .unset, .unset, .unset] [(.ref r)])) zQ := by
    intro tt kt
    refine W0 tt ?_
    refine XS.astore X0.here hx rfl (D_ at_146) rfl rfl (l' := #[.val (.int a), .val (.int b), .val (.int c_), .val (.int d_), .val (.int sl), .val (.int n_), .val (.int le), .val (.int ct), .val (.ref p_), .val (.ref ll), .val (.ref r), .unset, .unset]) rfl ?_
    refine XS.aload X0.here hx rfl (D_ at_148) rfl rfl ?_
    refine XS.iload X0.here hx rfl (D_ at_150) rfl ?_
    refine XS.iload X0.here hx rfl (D_ at_152) rfl ?_
    refine XS.iload X0.here hx rfl (D_ at_154) rfl ?_
    refine st101 _ ?_
    refine XS.lstore X101.here hx rfl (D_ at_159) rfl (l' := #[.val (.int a), .val (.int b), .val (.int c_), .val (.int d_), .val (.int sl), .val (.int n_), .val (.int le), .val (.int ct), .val (.ref p_), .val (.ref ll), .val (.ref r), .val (.long v_102), .second]) rfl ?_
    refine XS.aload X101.here hx rfl (D_ at_161) rfl rfl ?_
    refine XS.ifnullNo X101.here hx rfl (D_ at_163) rfl ?_
    refine XS.aload X101.here hx rfl (D_ at_166) rfl rfl ?_
    refine XS.lload X101.here hx rfl (D_ at_168) rfl ?_
    refine st103 _ ?_
    refine st106.trans ?_
    show SS p e below T106 m 176 #[.val (.int a), .val (.int b), .val (.int c_), .val (.int d_), .val (.int sl), .val (.int n_), .val (.int le), .val (.int ct), .val (.ref p_), .val (.ref ll), .val (.ref r), .val (.long v_102), .second] [(.int (if v = v_102 then (0 : Int32) else (if v_102 < v then (1 : Int32) else (-1 : Int32))))] _
    rw [show (if v = v_102 then (0 : Int32) else (if v_102 < v then (1 : Int32) else (-1 : Int32))) = (0 : Int32) from (own_cmp0 (Int64.toInt_inj.mp (IsM.unique hI P101_0)))]
    refine XS.ifNo X106.here hx rfl (D_ at_176) rfl ((if0 _ _).trans (teq (by decide)).2) ?_
    exact kt
  exact ⟨T106, _, T103.heap, (X106.more (by first | omega | (dsimp only [Pt.cells, Pt.slots]; omega)) (by first | omega | (dsimp only [Pt.cells, Pt.slots]; omega))), eq106, v_102, N106, (Keep.trans (Keep.refl h0 []) K103 all0), fun tt kt => W107 _ kt⟩
def Q_law (Z : State) (a : Int32) (b : Int32) (c_ : Int32) (d_ : Int32) (sl : Int32) (oD : Addr) (kD : ClassId) (zt : Addr) (kz : ClassId) (zl : List Addr) (zr : Addr) (h0 : Heap) (n0 : Nat) (vQ_ : Option Value) (hQ_ : Heap) (LQ_ : List Loc) : Prop := vQ_ = some (.int (1 : Int32)) ∧ Fr n0 LQ_ ∧ Keep h0 hQ_ []
theorem rm_law (l : Launch) (Z : State) (a0 : Array Value) (hw : HW a0 Z) (ws : List Jvm.Cond) (a : Int32) (b : Int32) (c_ : Int32) (d_ : Int32) (sl : Int32) (oD : Addr) (kD : ClassId) (zt : Addr) (kz : ClassId) (zl : List Addr) (zr : Addr) (h0 : Heap) (n0 : Nat) (Z0 : n0 ≤ h0.size) (O0 : Old Z n0 h0) (S_de : Sta Z Z.heap "java/util/ArrayList" "DEFAULTCAPACITY_EMPTY_ELEMENTDATA" "[Ljava/lang/Object;" (.ref oD)) (V_de : Arv Z Z.heap oD kD (.object "java/lang/Object") (0 : Int32) [] .null) (S_zt : Sta Z Z.heap "java/math/BigDecimal" "ZERO_THROUGH_TEN" "[Ljava/math/BigDecimal;" (.ref zt)) (V_zt : Arv Z Z.heap zt kz (.object "java/math/BigDecimal") (11 : Int32) (zl.map Value.ref) .null) (hzl : zl.length = 11) (hz : ∀ i, i < 11 → BD Z Z.heap (zl.getD i 0) (Int64.ofNat i)) (S_z0 : Sta Z Z.heap "java/math/BigDecimal" "ZERO" "Ljava/math/BigDecimal;" (.ref zr)) (hz0 : BD Z Z.heap zr (0 : Int64)) :
    CT l x (Jvm.Cond.code x code maxLocals ret :: ws) room_1 #[(.int a), (.int b), (.int c_), (.int d_), (.int sl)] Z h0 (Q_law Z a b c_ d_ sl oD kD zt kz zl zr h0 n0) := by
  refine MetFree.of_bodySF (plainFor_of_name pn_com_example_vestline_vestline_finalaveragepay_BestPeriodsTotalPinLaw) hisR ?_
  intro p e s m args below meth cO s₁ Bd hml0 hP hK
  obtain ⟨rfl, hZ, hh⟩ := hP
  have hx := Bd.exec
  have hby := Bd.bytes
  have hml : cO.maxLocals = 13 := hml0
  have hown : s.vm.findClass "com/example/vestline/vestline/finalaveragepay/BestPeriodsTotalPinLaw" = some m.cls := findClass_of_methodNamed Bd.named
  have hnm := (name_of_methodNamed Bd.named Bd.method).1
  have X0 : Stand p l e room_1 s m #[(.int a), (.int b), (.int c_), (.int d_), (.int sl)] below meth cO s₁ [] 0 0 := Stand.of_body Bd
  have e0 : s₁.heap = h0 := by rw [← hh, Bd.state]; rfl
  have N0 := Fr.nil n0
  have D_ : ∀ {i : Nat} {x}, decode code i = x → decode cO.code i = x := fun h => hb hby h
  have W0 : ∀ zQ, SS p e below s₁ m 0 #[.val (.int a), .val (.int b), .val (.int c_), .val (.int d_), .val (.int sl), .unset, .unset, .unset, .unset, .unset, .unset, .unset, .unset] [] zQ → Steps p.tables e below (s₁.setTop (entryFrame m #[(.int a), (.int b), (.int c_), (.int d_), (.int sl)] maxLocals)) zQ := fun tt kt => castTop (ef_law m a b c_ d_ sl) kt
  obtain ⟨nn, h_nn⟩ : ∃ z : Int32, z = ((sl &&& (7 : Int32)) % (5 : Int32)) := ⟨_, rfl⟩
  have hnn : nn = 0 ∨ nn = 1 ∨ nn = 2 ∨ nn = 3 ∨ nn = 4 := by rw [h_nn]; exact own_r75 sl
  obtain ⟨le, h_le⟩ : ∃ z : Int32, z = ((1 : Int32) + (((sl.toUInt32 >>> ((3 : Int32) &&& 31).toUInt32).toInt32) &&& (3 : Int32))) := ⟨_, rfl⟩
  have hlr : le = 1 ∨ le = 2 ∨ le = 3 ∨ le = 4 := by rw [h_le]; exact own_le4 sl
  obtain ⟨ct, h_ct⟩ : ∃ z : Int32, z = ((((sl.toUInt32 >>> ((5 : Int32) &&& 31).toUInt32).toInt32) &&& (7 : Int32)) % ((nn / le) + (1 : Int32))) := ⟨_, rfl⟩
  obtain ⟨T101, h101, k101, X101, e101, E101, A101, st101⟩ := newP X0 hx hZ (aty := .long) (w0 hw) e0 (g := (mkF m 37 #[.val (.int a), .val (.int b), .val (.int c_), .val (.int d_), .val (.int sl), .val (.int nn), .val (.int le), .val (.int ct), .unset, .unset, .unset, .unset, .unset] [(.int (4 : Int32))])) rfl (D_ at_37) (n := (4 : Int32)) rfl (by decide) (cap := 4) (by decide) (by decide) (by decide) (by decide)
  obtain ⟨b101, g101⟩ : ∃ z, z = h0.size := ⟨_, rfl⟩
  rw [← g101] at A101 st101
  have K101 := (Keep.refl h0 []).ext E101
  have G101 : Arv Z h101 b101 k101 .long (4 : Int32) [(.long (0 : Int64)), (.long (0 : Int64)), (.long (0 : Int64)), (.long (0 : Int64))] (.long (0 : Int64)) := (Arv.new A101 (by decide)).pad (pad_rep [] (.long (0 : Int64)) 4)
  obtain ⟨x0, h_x0⟩ : ∃ z : Int64, z = (a.toInt64) := ⟨_, rfl⟩
  obtain ⟨cl102, Ar102, q102, S102, M102, H102, F102g⟩ := id G101
  have hin102 : ¬ ((0 : Int32) < 0 ∨ cl102.slots.size ≤ ((0 : Int32)).toNatClampNeg) := inb_of S102 ⟨by decide, by decide⟩
  obtain ⟨T102, h102, X102, e102, Wr102, st102⟩ := stJ X101 hx hZ e101 Ar102 (j := (0 : Int32)) hin102 (g := (mkF m 43 #[.val (.int a), .val (.int b), .val (.int c_), .val (.int d_), .val (.int sl), .val (.int nn), .val (.int le), .val (.int ct), .unset, .unset, .unset, .unset, .unset] [(.long x0), (.int (0 : Int32)), (.ref b101), (.ref b101)])) rfl rfl (D_ at_43)
  have G102 : Arv Z h102 b101 k101 .long (4 : Int32) [(.long x0), (.long (0 : Int64)), (.long (0 : Int64)), (.long (0 : Int64))] (.long (0 : Int64)) := Arv.set Ar102 q102 S102 M102 H102 F102g rfl Wr102 0 rfl (Nat.le_of_ble_eq_true rfl)
  have K102 := Keep.of_wr Wr102
  have N102 := Fr.snoc X102 N0 (Nat.le_trans Z0 (Nat.le_of_eq g101.symm))
  obtain ⟨x1, h_x1⟩ : ∃ z : Int64, z = (b.toInt64) := ⟨_, rfl⟩
  obtain ⟨cl103, Ar103, q103, S103, M103, H103, F103g⟩ := id G102
  have hin103 : ¬ ((1 : Int32) < 0 ∨ cl103.slots.size ≤ ((1 : Int32)).toNatClampNeg) := inb_of S103 ⟨by decide, by decide⟩
  obtain ⟨T103, h103, X103, e103, Wr103, st103⟩ := stJ X102 hx hZ e102 Ar103 (j := (1 : Int32)) hin103 (g := (mkF m 48 #[.val (.int a), .val (.int b), .val (.int c_), .val (.int d_), .val (.int sl), .val (.int nn), .val (.int le), .val (.int ct), .unset, .unset, .unset, .unset, .unset] [(.long x1), (.int (1 : Int32)), (.ref b101), (.ref b101)])) rfl rfl (D_ at_48)
  have G103 : Arv Z h103 b101 k101 .long (4 : Int32) [(.long x0), (.long x1), (.long (0 : Int64)), (.long (0 : Int64))] (.long (0 : Int64)) := Arv.set Ar103 q103 S103 M103 H103 F103g rfl Wr103 1 rfl (Nat.le_of_ble_eq_true rfl)
  have K103 := Keep.of_wr Wr103
  have N103 := Fr.snoc X103 N102 (Nat.le_trans Z0 (Nat.le_of_eq g101.symm))
  obtain ⟨x2, h_x2⟩ : ∃ z : Int64, z = (c_.toInt64) := ⟨_, rfl⟩
  obtain ⟨cl104, Ar104, q104, S104, M104, H104, F104g⟩ := id G103
  have hin104 : ¬ ((2 : Int32) < 0 ∨ cl104.slots.size ≤ ((2 : Int32)).toNatClampNeg) := inb_of S104 ⟨by decide, by decide⟩
  obtain ⟨T104, h104, X104, e104, Wr104, st104⟩ := stJ X103 hx hZ e103 Ar104 (j := (2 : Int32)) hin104 (g := (mkF m 53 #[.val (.int a), .val (.int b), .val (.int c_), .val (.int d_), .val (.int sl), .val (.int nn), .val (.int le), .val (.int ct), .unset, .unset, .unset, .unset, .unset] [(.long x2), (.int (2 : Int32)), (.ref b101), (.ref b101)])) rfl rfl (D_ at_53)
  have G104 : Arv Z h104 b101 k101 .long (4 : Int32) [(.long x0), (.long x1), (.long x2), (.long (0 : Int64))] (.long (0 : Int64)) := Arv.set Ar104 q104 S104 M104 H104 F104g rfl Wr104 2 rfl (Nat.le_of_ble_eq_true rfl)
  have K104 := Keep.of_wr Wr104
  have N104 := Fr.snoc X104 N103 (Nat.le_trans Z0 (Nat.le_of_eq g101.symm))
  obtain ⟨x3, h_x3⟩ : ∃ z : Int64, z = (d_.toInt64) := ⟨_, rfl⟩
  obtain ⟨cl105, Ar105, q105, S105, M105, H105, F105g⟩ := id G104
  have hin105 : ¬ ((3 : Int32) < 0 ∨ cl105.slots.size ≤ ((3 : Int32)).toNatClampNeg) := inb_of S105 ⟨by decide, by decide⟩
  obtain ⟨T105, h105, X105, e105, Wr105, st105⟩ := stJ X104 hx hZ e104 Ar105 (j := (3 : Int32)) hin105 (g := (mkF m 58 #[.val (.int a), .val (.int b), .val (.int c_), .val (.int d_), .val (.int sl), .val (.int nn), .val (.int le), .val (.int ct), .unset, .unset, .unset, .unset, .unset] [(.long x3), (.int (3 : Int32)), (.ref b101), (.ref b101)])) rfl rfl (D_ at_58)
  have G105 : Arv Z h105 b101 k101 .long (4 : Int32) [(.long x0), (.long x1), (.long x2), (.long x3)] (.long (0 : Int64)) := Arv.set Ar105 q105 S105 M105 H105 F105g rfl Wr105 3 rfl (Nat.le_of_ble_eq_true rfl)
  have K105 := Keep.of_wr Wr105
  have N105 := Fr.snoc X105 N104 (Nat.le_trans Z0 (Nat.le_of_eq g101.symm))
  obtain ⟨T106, h106, X106, e106, E106, A106, D106, U106, st106⟩ := newO X105 hx hZ hown (w1 hw) (w2 hw) (w3 hw) e105 (g := (mkF m 61 #[.val (.int a), .val (.int b), .val (.int c_), .val (.int d_), .val (.int sl), .val (.int nn), .val (.int le), .val (.int ct), .val (.ref b101), .unset, .unset, .unset, .unset] [])) rfl (D_ at_61) (by decide) (by decide)
  obtain ⟨b106, g106⟩ : ∃ z, z = h105.size := ⟨_, rfl⟩
  rw [← g106] at A106 D106 U106 st106
  have K106 := (Keep.refl h105 []).ext E106
  have G106_modCount : Fld Z h106 b106 "java/util/AbstractList" "modCount" "I" (.int (0 : Int32)) := D106 (Or.inl (w23 hw)) (ty := .int) (by decide)
  have G106_elementData : Fld Z h106 b106 "java/util/ArrayList" "elementData" "[Ljava/lang/Object;" .null := D106 (Or.inl (w26 hw)) (ty := (.array (.object "java/lang/Object"))) (by decide)
  have G106_size : Fld Z h106 b106 "java/util/ArrayList" "size" "I" (.int (0 : Int32)) := D106 (Or.inl (w41 hw)) (ty := .int) (by decide)
  have gn107 : n0 ≤ b106 := Nat.le_trans Z0 (Nat.le_trans (Nat.le_trans (Nat.le_trans (Nat.le_trans (Nat.le_trans K101.1 K102.1) K103.1) K104.1) K105.1) (Nat.le_of_eq g106.symm))
  have O108 : Old Z n0 h106 := ((((((O0.keep K101 all0).keep K102 (allS (Nat.le_trans Z0 (Nat.le_of_eq g101.symm)) all0)).keep K103 (allS (Nat.le_trans Z0 (Nat.le_of_eq g101.symm)) all0)).keep K104 (allS (Nat.le_trans Z0 (Nat.le_of_eq g101.symm)) all0)).keep K105 (allS (Nat.le_trans Z0 (Nat.le_of_eq g101.symm)) all0)).keep K106 all0)
  have z110 : n0 ≤ h106.size := (Nat.le_trans Z0 (Nat.le_trans (Nat.le_trans (Nat.le_trans (Nat.le_trans (Nat.le_trans K101.1 K102.1) K103.1) K104.1) K105.1) K106.1))
  obtain ⟨_, _, ⟨T109, L109, k109, n109⟩, -, X109, ⟨Lc109, hQ109, l109, y109, z109⟩, st109⟩ := X106.specialBack hx (y := yn20) rfl hown (mvT hZ (w4 hw)) (mvT hZ (w5 hw)) (mvT hZ (w6 hw)) (by decide) (backOf (W := 1) (rm_alinit l Z a0 hw [] b106 oD h106 n0 z110 O108 S_de A106 G106_modCount G106_size G106_elementData gn107) hZ (w6 hw) (w3 hw) (by decide) (by decide)) (g := (mkF m 65 #[.val (.int a), .val (.int b), .val (.int c_), .val (.int d_), .val (.int sl), .val (.int nn), .val (.int le), .val (.int ct), .val (.ref b101), .unset, .unset, .unset, .unset] [(.ref b106), (.ref b106)])) rfl (by rw [hml]; rfl) (Steps.refl _) (a := b106) (argsL := []) (rest := [(.ref b106)]) (lenOf pd0 rfl) rfl (wq rfl) (D_ at_65) (fun _ _ => ⟨rfl, e106, (nb rfl), (nb rfl)⟩)
  dsimp only [Pt.U, Pt.locs, Pt.cells, Pt.slots] at X109 l109 y109 z109 st109 hQ109
  subst l109 y109 z109
  obtain ⟨rfl, Nq109, K109, P109_0, P109_1, P109_2, P109_3⟩ := hQ109
  have N109 := Fr.app N105 Nq109
  have W111 : ∀ zQ, SS p e below T109 m 70 #[.val (.int a), .val (.int b), .val (.int c_), .val (.int d_), .val (.int sl), .val (.int nn), .val (.int le), .val (.int ct), .val (.ref b101), .val (.ref b106), .unset, .unset, .unset] [] zQ → Steps p.tables e below (s₁.setTop (entryFrame m #[(.int a), (.int b), (.int c_), (.int d_), (.int sl)] maxLocals)) zQ := by
    intro tt kt
    refine W0 tt ?_
    refine XS.iload X0.here hx rfl (D_ at_0) rfl ?_
    refine XS.bipush X0.here hx rfl (D_ at_2) ?_
    refine XS.iand X0.here hx rfl (D_ at_4) rfl ?_
    refine XS.iconst X0.here hx rfl (D_ at_5) ?_
    show SS p e below s₁ m 6 #[.val (.int a), .val (.int b), .val (.int c_), .val (.int d_), .val (.int sl), .unset, .unset, .unset, .unset, .unset, .unset, .unset, .unset] [(.int (5 : Int32)), (.int (sl &&& (7 : Int32)))] _
    refine Jvm.RoadKit.iremM X0 hx rfl (D_ at_6) rfl (by decide) ?_
    show SS p e below s₁ m 7 #[.val (.int a), .val (.int b), .val (.int c_), .val (.int d_), .val (.int sl), .unset, .unset, .unset, .unset, .unset, .unset, .unset, .unset] [(.int ((sl &&& (7 : Int32)) % (5 : Int32)))] _
    rw [← h_nn]
    refine XS.istore X0.here hx rfl (D_ at_7) rfl (l' := #[.val (.int a), .val (.int b), .val (.int c_), .val (.int d_), .val (.int sl), .val (.int nn), .unset, .unset, .unset, .unset, .unset, .unset, .unset]) rfl ?_
    refine XS.iconst X0.here hx rfl (D_ at_9) ?_
    refine XS.iload X0.here hx rfl (D_ at_10) rfl ?_
    refine XS.iconst X0.here hx rfl (D_ at_12) ?_
    refine XS.iushr X0.here hx rfl (D_ at_13) rfl ?_
    refine XS.iconst X0.here hx rfl (D_ at_14) ?_
    refine XS.iand X0.here hx rfl (D_ at_15) rfl ?_
    refine XS.iadd X0.here hx rfl (D_ at_16) rfl ?_
    show SS p e below s₁ m 17 #[.val (.int a), .val (.int b), .val (.int c_), .val (.int d_), .val (.int sl), .val (.int nn), .unset, .unset, .unset, .unset, .unset, .unset, .unset] [(.int ((1 : Int32) + (((sl.toUInt32 >>> ((3 : Int32) &&& 31).toUInt32).toInt32) &&& (3 : Int32))))] _
    rw [← h_le]
    refine XS.istore X0.here hx rfl (D_ at_17) rfl (l' := #[.val (.int a), .val (.int b), .val (.int c_), .val (.int d_), .val (.int sl), .val (.int nn), .val (.int le), .unset, .unset, .unset, .unset, .unset, .unset]) rfl ?_
    refine XS.iload X0.here hx rfl (D_ at_19) rfl ?_
    refine XS.iconst X0.here hx rfl (D_ at_21) ?_
    refine XS.iushr X0.here hx rfl (D_ at_22) rfl ?_
    refine XS.bipush X0.here hx rfl (D_ at_23) ?_
    refine XS.iand X0.here hx rfl (D_ at_25) rfl ?_
    refine XS.iload X0.here hx rfl (D_ at_26) rfl ?_
    refine XS.iload X0.here hx rfl (D_ at_28) rfl ?_
    refine XS.idiv X0.here hx rfl (D_ at_30) rfl (own_lnz hlr) ?_
    refine XS.iconst X0.here hx rfl (D_ at_31) ?_
    refine XS.iadd X0.here hx rfl (D_ at_32) rfl ?_
    show SS p e below s₁ m 33 #[.val (.int a), .val (.int b), .val (.int c_), .val (.int d_), .val (.int sl), .val (.int nn), .val (.int le), .unset, .unset, .unset, .unset, .unset, .unset] [(.int ((nn / le) + (1 : Int32))), (.int (((sl.toUInt32 >>> ((5 : Int32) &&& 31).toUInt32).toInt32) &&& (7 : Int32)))] _
    refine Jvm.RoadKit.iremM X0 hx rfl (D_ at_33) rfl (own_nz hnn hlr) ?_
    show SS p e below s₁ m 34 #[.val (.int a), .val (.int b), .val (.int c_), .val (.int d_), .val (.int sl), .val (.int nn), .val (.int le), .unset, .unset, .unset, .unset, .unset, .unset] [(.int ((((sl.toUInt32 >>> ((5 : Int32) &&& 31).toUInt32).toInt32) &&& (7 : Int32)) % ((nn / le) + (1 : Int32))))] _
    rw [← h_ct]
    refine XS.istore X0.here hx rfl (D_ at_34) rfl (l' := #[.val (.int a), .val (.int b), .val (.int c_), .val (.int d_), .val (.int sl), .val (.int nn), .val (.int le), .val (.int ct), .unset, .unset, .unset, .unset, .unset]) rfl ?_
    refine XS.iconst X0.here hx rfl (D_ at_36) ?_
    refine st101 _ ?_
    refine XS.dup X101.here hx rfl (D_ at_39) rfl rfl ?_
    refine XS.iconst X101.here hx rfl (D_ at_40) ?_
    refine XS.iloadN X101.here hx rfl (D_ at_41) rfl ?_
    refine XS.i2l X101.here hx rfl (D_ at_42) rfl ?_
    show SS p e below T101 m 43 #[.val (.int a), .val (.int b), .val (.int c_), .val (.int d_), .val (.int sl), .val (.int nn), .val (.int le), .val (.int ct), .unset, .unset, .unset, .unset, .unset] [(.long (a.toInt64)), (.int (0 : Int32)), (.ref b101), (.ref b101)] _
    rw [← h_x0]
    refine st102 _ ?_
    refine XS.dup X102.here hx rfl (D_ at_44) rfl rfl ?_
    refine XS.iconst X102.here hx rfl (D_ at_45) ?_
    refine XS.iloadN X102.here hx rfl (D_ at_46) rfl ?_
    refine XS.i2l X102.here hx rfl (D_ at_47) rfl ?_
    show SS p e below T102 m 48 #[.val (.int a), .val (.int b), .val (.int c_), .val (.int d_), .val (.int sl), .val (.int nn), .val (.int le), .val (.int ct), .unset, .unset, .unset, .unset, .unset] [(.long (b.toInt64)), (.int (1 : Int32)), (.ref b101), (.ref b101)] _
    rw [← h_x1]
    refine st103 _ ?_
    refine XS.dup X103.here hx rfl (D_ at_49) rfl rfl ?_
    refine XS.iconst X103.here hx rfl (D_ at_50) ?_
    refine XS.iloadN X103.here hx rfl (D_ at_51) rfl ?_
    refine XS.i2l X103.here hx rfl (D_ at_52) rfl ?_
    show SS p e below T103 m 53 #[.val (.int a), .val (.int b), .val (.int c_), .val (.int d_), .val (.int sl), .val (.int nn), .val (.int le), .val (.int ct), .unset, .unset, .unset, .unset, .unset] [(.long (c_.toInt64)), (.int (2 : Int32)), (.ref b101), (.ref b101)] _
    rw [← h_x2]
    refine st104 _ ?_
    refine XS.dup X104.here hx rfl (D_ at_54) rfl rfl ?_
    refine XS.iconst X104.here hx rfl (D_ at_55) ?_
    refine XS.iloadN X104.here hx rfl (D_ at_56) rfl ?_
    refine XS.i2l X104.here hx rfl (D_ at_57) rfl ?_
    show SS p e below T104 m 58 #[.val (.int a), .val (.int b), .val (.int c_), .val (.int d_), .val (.int sl), .val (.int nn), .val (.int le), .val (.int ct), .unset, .unset, .unset, .unset, .unset] [(.long (d_.toInt64)), (.int (3 : Int32)), (.ref b101), (.ref b101)] _
    rw [← h_x3]
    refine st105 _ ?_
    refine XS.astore X105.here hx rfl (D_ at_59) rfl rfl (l' := #[.val (.int a), .val (.int b), .val (.int c_), .val (.int d_), .val (.int sl), .val (.int nn), .val (.int le), .val (.int ct), .val (.ref b101), .unset, .unset, .unset, .unset]) rfl ?_
    refine st106 _ ?_
    refine XS.dup X106.here hx rfl (D_ at_64) rfl rfl ?_
    refine st109.trans ?_
    refine XS.astore X109.here hx rfl (D_ at_68) rfl rfl (l' := #[.val (.int a), .val (.int b), .val (.int c_), .val (.int d_), .val (.int sl), .val (.int nn), .val (.int le), .val (.int ct), .val (.ref b101), .val (.ref b106), .unset, .unset, .unset]) rfl ?_
    exact kt
  have KA112 : Keep h0 T109.heap [] := (Keep.trans (Keep.trans (Keep.trans (Keep.trans (Keep.trans (Keep.trans (Keep.trans (Keep.refl h0 []) K101 all0) K102 (allS (Or.inr (Nat.le_of_eq g101.symm)) all0)) K103 (allS (Or.inr (Nat.le_of_eq g101.symm)) all0)) K104 (allS (Or.inr (Nat.le_of_eq g101.symm)) all0)) K105 (allS (Or.inr (Nat.le_of_eq g101.symm)) all0)) K106 all0) K109 (allS (Or.inr (Nat.le_trans (Nat.le_trans (Nat.le_trans (Nat.le_trans (Nat.le_trans K101.1 K102.1) K103.1) K104.1) K105.1) (Nat.le_of_eq g106.symm))) all0))
  rcases hnn with hnk | hnn
  ·
    have hcl : ct = (0 : Int32) := by rw [h_ct, hnk]; exact own_cl0 hlr
    have O113 : Old Z n0 T109.heap := (O108.keep K109 (allS gn107 all0))
    obtain ⟨_, _, ⟨T114, L114, k114, n114⟩, -, X114, ⟨Lc114, hQ114, l114, y114, z114⟩, st114⟩ := Jvm.LawKit.callS X109 hx (y := yn33) hown (mvT hZ (w27 hw)) (mvT hZ (w28 hw)) (mvT hZ (w29 hw)) (mvT hZ (w30 hw)) (by decide) (backOf (W := 0) (rm_tot0 l Z a0 hw [] b106 ct le x0 x1 x2 x3 zt kz zl zr T109.heap n0 (Nat.le_trans z110 K109.1) O113 S_zt V_zt hzl hz S_z0 hz0 P109_0 P109_2 (by rw [h_x0]; exact own_bd32 _) (by rw [h_x1]; exact own_bd32 _) (by rw [h_x2]; exact own_bd32 _) (by rw [h_x3]; exact own_bd32 _) hcl) hZ (w30 hw) (w29 hw) (by decide) (by decide)) (g := (mkF m 143 #[.val (.int a), .val (.int b), .val (.int c_), .val (.int d_), .val (.int sl), .val (.int (0 : Int32)), .val (.int le), .val (.int ct), .val (.ref b101), .val (.ref b106), .unset, .unset, .unset] [(.int le), (.int ct), (.ref b106)])) rfl (by rw [hml]; rfl) (argsL := [(.ref b106), (.int ct), (.int le)]) (rest := []) (lenOf pd21 rfl) rfl (wq rfl) (D_ at_143) (fun _ _ => ⟨rfl, rfl, (nb rfl), (nb rfl)⟩)
    dsimp only [Pt.U, Pt.locs, Pt.cells, Pt.slots] at X114 l114 y114 z114 st114 hQ114
    subst l114 y114 z114
    obtain ⟨r_115, v_116, rfl, Nq114, K114, P114_0, P114_1, P114_2⟩ := hQ114
    have N114 := Fr.app N109 Nq114
    have O118 : Old Z n0 T114.heap := (O113.keep K114 all0)
    have ne119 : b101 ≠ b106 := (Nat.ne_of_lt (Nat.lt_of_lt_of_le (Nat.lt_of_lt_of_le G101.lt (Nat.le_trans (Nat.le_trans (Nat.le_trans K102.1 K103.1) K104.1) K105.1)) (Nat.le_of_eq g106.symm)))
    have F120 : Arv Z T114.heap b101 k101 .long (4 : Int32) [(.long x0), (.long x1), (.long x2), (.long x3)] (.long (0 : Int64)) := (((G105.keep K106 nin0).keep K109 (ninS ne119 nin0)).keep K114 nin0)
    have z122 : n0 ≤ T114.heap.size := (Nat.le_trans z110 (Nat.le_trans K109.1 K114.1))
    obtain ⟨T117, L117, h117, X117, e117, e0__121, Nl117, K117, st117⟩ := rm_sgT hx hZ hw hby hml hown (by decide) (by decide) (by decide) (by decide) a b c_ d_ sl (0 : Int32) le ct b101 b106 r_115 v_116 k101 x0 x1 x2 x3 zt kz zl n0 S_zt V_zt hzl hz (by rw [h_x0]; exact own_bd32 _) (by rw [h_x1]; exact own_bd32 _) (by rw [h_x2]; exact own_bd32 _) (by rw [h_x3]; exact own_bd32 _) (own_cr0 hcl) P114_1 P114_2 T114 _ T114.heap X114 rfl N114 z122 O118 F120 P114_0
    have W123 : ∀ zQ, SS p e below T117 m 184 #[.val (.int a), .val (.int b), .val (.int c_), .val (.int d_), .val (.int sl), .val (.int (0 : Int32)), .val (.int le), .val (.int ct), .val (.ref b101), .val (.ref b106), .val (.ref r_115), .val (.long e0__121), .second] [(.int (1 : Int32))] zQ → Steps p.tables e below (s₁.setTop (entryFrame m #[(.int a), (.int b), (.int c_), (.int d_), (.int sl)] maxLocals)) zQ := by
      intro tt kt
      refine W111 tt ?_
      rw [show nn = (0 : Int32) from hnk]
      refine XS.iload X109.here hx rfl (D_ at_70) rfl ?_
      refine XS.ifYes X109.here hx rfl (pc0 := 72) (pc' := 86) rfl (D_ at_72) rfl ((if0 _ _).trans (flt (by decide)).2.2.2) (by decide) (by decide) ?_
      refine XS.iload X109.here hx rfl (D_ at_86) rfl ?_
      refine XS.iconst X109.here hx rfl (D_ at_88) ?_
      refine XS.icmpYes X109.here hx rfl (pc0 := 89) (pc' := 103) rfl (D_ at_89) rfl (flt (by decide)).2.2.2 (by decide) (by decide) ?_
      refine XS.iload X109.here hx rfl (D_ at_103) rfl ?_
      refine XS.iconst X109.here hx rfl (D_ at_105) ?_
      refine XS.icmpYes X109.here hx rfl (pc0 := 106) (pc' := 120) rfl (D_ at_106) rfl (flt (by decide)).2.2.2 (by decide) (by decide) ?_
      refine XS.iload X109.here hx rfl (D_ at_120) rfl ?_
      refine XS.iconst X109.here hx rfl (D_ at_122) ?_
      refine XS.icmpYes X109.here hx rfl (pc0 := 123) (pc' := 137) rfl (D_ at_123) rfl (flt (by decide)).2.2.2 (by decide) (by decide) ?_
      refine XS.aload X109.here hx rfl (D_ at_137) rfl rfl ?_
      refine XS.iload X109.here hx rfl (D_ at_139) rfl ?_
      refine XS.iload X109.here hx rfl (D_ at_141) rfl ?_
      refine st114 _ ?_
      refine st117 _ ?_
      refine XS.iconst X117.here hx rfl (D_ at_179) ?_
      refine XS.goto X117.here hx rfl (pc0 := 180) (pc' := 184) rfl (D_ at_180) (by decide) (by decide) ?_
      exact kt
    obtain ⟨fs, hr, hrun, hended, hW, hsame⟩ := X117.leave (v := some (.int (nar .boolean (1 : Int32)))) (fun h => by rw [Bd.returns] at h; cases h)
    refine ⟨_, _, W123 _ (retN X117 hx (t := .boolean) Bd.returns (by simp) (D_ at_184) hr), hrun, hended, _, _, rfl, ?_, ⟨_, rfl⟩, hW, hsame.mono (by decide) (by decide)⟩
    show Q_law Z a b c_ d_ sl oD kD zt kz zl zr h0 n0 _ T117.heap _
    rw [e117]
    exact ⟨rfl, Nl117, (Keep.trans (Keep.trans KA112 K114 all0) K117 all0)⟩
  ·
    have O124 : Old Z n0 T109.heap := (O108.keep K109 (allS gn107 all0))
    obtain ⟨_, _, ⟨T125, L125, k125, n125⟩, -, X125, ⟨Lc125, hQ125, l125, y125, z125⟩, st125⟩ := Jvm.LawKit.callS X109 hx (y := yn2) hown (mvT hZ (w55 hw)) (mvT hZ (w56 hw)) (mvT hZ (w45 hw)) (mvT hZ (w57 hw)) (by decide) (backOf (W := 1) (rm_valJ l Z a0 hw [] x0 zt kz zl T109.heap n0 (Nat.le_trans z110 K109.1) O124 S_zt V_zt hzl hz (own_nmin (by rw [h_x0]; exact own_bd32 _ : Bn 1 x0) (by decide))) hZ (w57 hw) (w45 hw) (by decide) (by decide)) (g := (mkF m 79 #[.val (.int a), .val (.int b), .val (.int c_), .val (.int d_), .val (.int sl), .val (.int nn), .val (.int le), .val (.int ct), .val (.ref b101), .val (.ref b106), .unset, .unset, .unset] [(.long x0), (.ref b106)])) rfl (by rw [hml]; rfl) (argsL := [(.long x0)]) (rest := [(.ref b106)]) (lenOf pd2 rfl) rfl (wq rfl) (D_ at_79) (fun _ _ => ⟨rfl, rfl, (nb rfl), (nb rfl)⟩)
    dsimp only [Pt.U, Pt.locs, Pt.cells, Pt.slots] at X125 l125 y125 z125 st125 hQ125
    subst l125 y125 z125
    obtain ⟨r_126, rfl, Nq125, K125, P125_0⟩ := hQ125
    have N125 := Fr.app N109 Nq125
    have F127 : Exa Z T125.heap b106 "java/util/ArrayList" := (P109_0.keep K125)
    have F128 : Fld Z T125.heap b106 "java/util/AbstractList" "modCount" "I" (.int (0 : Int32)) := (P109_1.keep K125 nin0)
    have F129 : Fld Z T125.heap b106 "java/util/ArrayList" "size" "I" (.int (0 : Int32)) := (P109_2.keep K125 nin0)
    have F130 : Fld Z T125.heap b106 "java/util/ArrayList" "elementData" "[Ljava/lang/Object;" (.ref oD) := (P109_3.keep K125 nin0)
    have O131 : Old Z n0 T125.heap := (O124.keep K125 all0)
    have z133 : n0 ≤ T125.heap.size := (Nat.le_trans z110 (Nat.le_trans K109.1 K125.1))
    obtain ⟨cq132, kq132, q132a, q132b, q132c⟩ := isOf hZ rfl F127
    obtain ⟨_, _, ⟨T132, L132, k132, n132⟩, -, X132, ⟨Lc132, hQ132, l132, y132, z132⟩, st132⟩ := X125.virtualBack hx (y := yn24) (z := yn24) hown (mvT hZ (w69 hw)) (mvT hZ (w70 hw)) (notFace_of_selects (args := #[]) (mvT hZ (w72 hw))) (mvT hZ (w72 hw)) (mvT hZ (w71 hw)) (by decide) (backOf (W := 0) (rm_add0 l Z a0 hw [] b106 r_126 oD kD T125.heap n0 z133 O131 S_de V_de F127 F128 F129 F130 gn107 P125_0.1) hZ (w73 hw) (w3 hw) (by decide) (by decide)) q132a q132c (g := (mkF m 82 #[.val (.int a), .val (.int b), .val (.int c_), .val (.int d_), .val (.int sl), .val (.int nn), .val (.int le), .val (.int ct), .val (.ref b101), .val (.ref b106), .unset, .unset, .unset] [(.ref r_126), (.ref b106)])) rfl (by rw [hml]; rfl) (Steps.refl _) (argsL := [(.ref r_126)]) (rest := []) (lenOf pd22 rfl) rfl (wq rfl) (D_ at_82) (fun _ _ => ⟨rfl, rfl, (nb rfl), (nb rfl)⟩)
    dsimp only [Pt.U, Pt.locs, Pt.cells, Pt.slots] at X132 l132 y132 z132 st132 hQ132
    subst l132 y132 z132
    obtain ⟨d_134, kd_135, rfl, Nq132, K132, P132_0, P132_1, P132_2, P132_3, P132_4, P132_5, P132_6⟩ := hQ132
    have N132 := Fr.app N125 Nq132
    have W136 : ∀ zQ, SS p e below T132 m 86 #[.val (.int a), .val (.int b), .val (.int c_), .val (.int d_), .val (.int sl), .val (.int nn), .val (.int le), .val (.int ct), .val (.ref b101), .val (.ref b106), .unset, .unset, .unset] [] zQ → Steps p.tables e below (s₁.setTop (entryFrame m #[(.int a), (.int b), (.int c_), (.int d_), (.int sl)] maxLocals)) zQ := by
      intro tt kt
      refine W111 tt ?_
      refine XS.iload X109.here hx rfl (D_ at_70) rfl ?_
      refine XS.ifNo X109.here hx rfl (D_ at_72) rfl ((if0 _ _).trans (tlt (by rcases hnn with h | h | h | h <;> rw [h] <;> decide)).2.2.2) ?_
      refine XS.aload X109.here hx rfl (D_ at_75) rfl rfl ?_
      refine XS.iloadN X109.here hx rfl (D_ at_77) rfl ?_
      refine XS.i2l X109.here hx rfl (D_ at_78) rfl ?_
      show SS p e below T109 m 79 #[.val (.int a), .val (.int b), .val (.int c_), .val (.int d_), .val (.int sl), .val (.int nn), .val (.int le), .val (.int ct), .val (.ref b101), .val (.ref b106), .unset, .unset, .unset] [(.long (a.toInt64)), (.ref b106)] _
      rw [show (a.toInt64) = x0 from h_x0.symm]
      refine st125 _ ?_
      refine st132.trans ?_
      refine XS.pop X132.here hx rfl (D_ at_85) rfl rfl ?_
      exact kt
    have KA137 : Keep h0 T132.heap [] := (Keep.trans (Keep.trans KA112 K125 all0) K132 (allS (Or.inr (Nat.le_trans (Nat.le_trans (Nat.le_trans (Nat.le_trans (Nat.le_trans K101.1 K102.1) K103.1) K104.1) K105.1) (Nat.le_of_eq g106.symm))) all0))
    rcases hnn with hnk | hnn
    ·
      have hcl : ct = (0 : Int32) ∨ (le = (1 : Int32) ∧ (ct = (1 : Int32))) := by rw [h_ct, hnk]; exact own_cl1 hlr
      have F138 : BD Z T132.heap r_126 x0 := (P125_0.keep K132 (ninS (Exa.ne (P125_0.1.keep K132) P132_1 (by decide)) nin0))
      have O139 : Old Z n0 T132.heap := (O131.keep K132 (allS gn107 all0))
      obtain ⟨_, _, ⟨T140, L140, k140, n140⟩, -, X140, ⟨Lc140, hQ140, l140, y140, z140⟩, st140⟩ := Jvm.LawKit.callS X132 hx (y := yn33) hown (mvT hZ (w27 hw)) (mvT hZ (w28 hw)) (mvT hZ (w29 hw)) (mvT hZ (w30 hw)) (by decide) (backOf (W := 0) (rm_tot1 l Z a0 hw [] b106 ct le d_134 kd_135 r_126 x0 x1 x2 x3 zt kz zl zr T132.heap n0 (Nat.le_trans z133 K132.1) O139 S_zt V_zt hzl hz S_z0 hz0 P132_1 P132_3 P132_2 P132_5 F138 (by rw [h_x0]; exact own_bd32 _) (by rw [h_x1]; exact own_bd32 _) (by rw [h_x2]; exact own_bd32 _) (by rw [h_x3]; exact own_bd32 _) hcl) hZ (w30 hw) (w29 hw) (by decide) (by decide)) (g := (mkF m 143 #[.val (.int a), .val (.int b), .val (.int c_), .val (.int d_), .val (.int sl), .val (.int (1 : Int32)), .val (.int le), .val (.int ct), .val (.ref b101), .val (.ref b106), .unset, .unset, .unset] [(.int le), (.int ct), (.ref b106)])) rfl (by rw [hml]; rfl) (argsL := [(.ref b106), (.int ct), (.int le)]) (rest := []) (lenOf pd21 rfl) rfl (wq rfl) (D_ at_143) (fun _ _ => ⟨rfl, rfl, (nb rfl), (nb rfl)⟩)
      dsimp only [Pt.U, Pt.locs, Pt.cells, Pt.slots] at X140 l140 y140 z140 st140 hQ140
      subst l140 y140 z140
      obtain ⟨r_141, v_142, rfl, Nq140, K140, P140_0, P140_1, P140_2⟩ := hQ140
      have N140 := Fr.app N132 Nq140
      have O144 : Old Z n0 T140.heap := (O139.keep K140 all0)
      have ne145 : b101 ≠ b106 := (Nat.ne_of_lt (Nat.lt_of_lt_of_le (Nat.lt_of_lt_of_le G101.lt (Nat.le_trans (Nat.le_trans (Nat.le_trans K102.1 K103.1) K104.1) K105.1)) (Nat.le_of_eq g106.symm)))
      have F146 : Arv Z T140.heap b101 k101 .long (4 : Int32) [(.long x0), (.long x1), (.long x2), (.long x3)] (.long (0 : Int64)) := (((((G105.keep K106 nin0).keep K109 (ninS ne145 nin0)).keep K125 nin0).keep K132 (ninS ne145 nin0)).keep K140 nin0)
      have z148 : n0 ≤ T140.heap.size := (Nat.le_trans z133 (Nat.le_trans K132.1 K140.1))
      obtain ⟨T143, L143, h143, X143, e143, e0__147, Nl143, K143, st143⟩ := rm_sgT hx hZ hw hby hml hown (by decide) (by decide) (by decide) (by decide) a b c_ d_ sl (1 : Int32) le ct b101 b106 r_141 v_142 k101 x0 x1 x2 x3 zt kz zl n0 S_zt V_zt hzl hz (by rw [h_x0]; exact own_bd32 _) (by rw [h_x1]; exact own_bd32 _) (by rw [h_x2]; exact own_bd32 _) (by rw [h_x3]; exact own_bd32 _) (own_cr1 hcl) P140_1 P140_2 T140 _ T140.heap X140 rfl N140 z148 O144 F146 P140_0
      have W149 : ∀ zQ, SS p e below T143 m 184 #[.val (.int a), .val (.int b), .val (.int c_), .val (.int d_), .val (.int sl), .val (.int (1 : Int32)), .val (.int le), .val (.int ct), .val (.ref b101), .val (.ref b106), .val (.ref r_141), .val (.long e0__147), .second] [(.int (1 : Int32))] zQ → Steps p.tables e below (s₁.setTop (entryFrame m #[(.int a), (.int b), (.int c_), (.int d_), (.int sl)] maxLocals)) zQ := by
        intro tt kt
        refine W136 tt ?_
        rw [show nn = (1 : Int32) from hnk]
        refine XS.iload X132.here hx rfl (D_ at_86) rfl ?_
        refine XS.iconst X132.here hx rfl (D_ at_88) ?_
        refine XS.icmpYes X132.here hx rfl (pc0 := 89) (pc' := 103) rfl (D_ at_89) rfl (flt (by decide)).2.2.2 (by decide) (by decide) ?_
        refine XS.iload X132.here hx rfl (D_ at_103) rfl ?_
        refine XS.iconst X132.here hx rfl (D_ at_105) ?_
        refine XS.icmpYes X132.here hx rfl (pc0 := 106) (pc' := 120) rfl (D_ at_106) rfl (flt (by decide)).2.2.2 (by decide) (by decide) ?_
        refine XS.iload X132.here hx rfl (D_ at_120) rfl ?_
        refine XS.iconst X132.here hx rfl (D_ at_122) ?_
        refine XS.icmpYes X132.here hx rfl (pc0 := 123) (pc' := 137) rfl (D_ at_123) rfl (flt (by decide)).2.2.2 (by decide) (by decide) ?_
        refine XS.aload X132.here hx rfl (D_ at_137) rfl rfl ?_
        refine XS.iload X132.here hx rfl (D_ at_139) rfl ?_
        refine XS.iload X132.here hx rfl (D_ at_141) rfl ?_
        refine st140 _ ?_
        refine st143 _ ?_
        refine XS.iconst X143.here hx rfl (D_ at_179) ?_
        refine XS.goto X143.here hx rfl (pc0 := 180) (pc' := 184) rfl (D_ at_180) (by decide) (by decide) ?_
        exact kt
      obtain ⟨fs, hr, hrun, hended, hW, hsame⟩ := X143.leave (v := some (.int (nar .boolean (1 : Int32)))) (fun h => by rw [Bd.returns] at h; cases h)
      refine ⟨_, _, W149 _ (retN X143 hx (t := .boolean) Bd.returns (by simp) (D_ at_184) hr), hrun, hended, _, _, rfl, ?_, ⟨_, rfl⟩, hW, hsame.mono (by decide) (by decide)⟩
      show Q_law Z a b c_ d_ sl oD kD zt kz zl zr h0 n0 _ T143.heap _
      rw [e143]
      exact ⟨rfl, Nl143, (Keep.trans (Keep.trans KA137 K140 all0) K143 all0)⟩
    ·
      have O150 : Old Z n0 T132.heap := (O131.keep K132 (allS gn107 all0))
      obtain ⟨_, _, ⟨T151, L151, k151, n151⟩, -, X151, ⟨Lc151, hQ151, l151, y151, z151⟩, st151⟩ := Jvm.LawKit.callS X132 hx (y := yn2) hown (mvT hZ (w55 hw)) (mvT hZ (w56 hw)) (mvT hZ (w45 hw)) (mvT hZ (w57 hw)) (by decide) (backOf (W := 1) (rm_valJ l Z a0 hw [] x1 zt kz zl T132.heap n0 (Nat.le_trans z133 K132.1) O150 S_zt V_zt hzl hz (own_nmin (by rw [h_x1]; exact own_bd32 _ : Bn 1 x1) (by decide))) hZ (w57 hw) (w45 hw) (by decide) (by decide)) (g := (mkF m 96 #[.val (.int a), .val (.int b), .val (.int c_), .val (.int d_), .val (.int sl), .val (.int nn), .val (.int le), .val (.int ct), .val (.ref b101), .val (.ref b106), .unset, .unset, .unset] [(.long x1), (.ref b106)])) rfl (by rw [hml]; rfl) (argsL := [(.long x1)]) (rest := [(.ref b106)]) (lenOf pd2 rfl) rfl (wq rfl) (D_ at_96) (fun _ _ => ⟨rfl, rfl, (nb rfl), (nb rfl)⟩)
      dsimp only [Pt.U, Pt.locs, Pt.cells, Pt.slots] at X151 l151 y151 z151 st151 hQ151
      subst l151 y151 z151
      obtain ⟨r_152, rfl, Nq151, K151, P151_0⟩ := hQ151
      have N151 := Fr.app N132 Nq151
      have F153 : Fld Z T151.heap b106 "java/util/ArrayList" "size" "I" (.int (1 : Int32)) := (P132_3.keep K151 nin0)
      have F154 : Exa Z T151.heap b106 "java/util/ArrayList" := (P132_1.keep K151)
      have F155 : Fld Z T151.heap b106 "java/util/AbstractList" "modCount" "I" (.int (1 : Int32)) := (P132_4.keep K151 nin0)
      have F156 : Fld Z T151.heap b106 "java/util/ArrayList" "elementData" "[Ljava/lang/Object;" (.ref d_134) := (P132_2.keep K151 nin0)
      have F157 : Arv Z T151.heap d_134 kd_135 (.object "java/lang/Object") (10 : Int32) [(.ref r_126), .null, .null, .null, .null, .null, .null, .null, .null, .null] .null := (P132_5.keep K151 nin0)
      have gn158 : n0 ≤ d_134 := Nat.le_trans Z0 (Nat.le_trans (Nat.le_trans (Nat.le_trans (Nat.le_trans (Nat.le_trans (Nat.le_trans (Nat.le_trans (Nat.le_trans K101.1 K102.1) K103.1) K104.1) K105.1) K106.1) K109.1) K125.1) P132_0)
      have ne159 : b106 ≠ d_134 := (Nat.ne_of_lt (Nat.lt_of_lt_of_le (Nat.lt_of_lt_of_le A106.lt (Nat.le_trans K109.1 K125.1)) P132_0))
      have z161 : n0 ≤ T151.heap.size := (Nat.le_trans z133 (Nat.le_trans K132.1 K151.1))
      obtain ⟨cq160, kq160, q160a, q160b, q160c⟩ := isOf hZ rfl F154
      obtain ⟨_, _, ⟨T160, L160, k160, n160⟩, -, X160, ⟨Lc160, hQ160, l160, y160, z160⟩, st160⟩ := X151.virtualBack hx (y := yn24) (z := yn24) hown (mvT hZ (w69 hw)) (mvT hZ (w70 hw)) (notFace_of_selects (args := #[]) (mvT hZ (w72 hw))) (mvT hZ (w72 hw)) (mvT hZ (w71 hw)) (by decide) (backOf (W := 0) (rm_addk l Z a0 hw [] b106 r_152 d_134 (1 : Int32) 1 kd_135 [(.ref r_126), .null, .null, .null, .null, .null, .null, .null, .null, .null] T151.heap n0 z161 F154 F155 F153 F156 F157 (nb rfl) rfl P132_6 gn107 gn158 ne159 P151_0.1) hZ (w73 hw) (w3 hw) (by decide) (by decide)) q160a q160c (g := (mkF m 99 #[.val (.int a), .val (.int b), .val (.int c_), .val (.int d_), .val (.int sl), .val (.int nn), .val (.int le), .val (.int ct), .val (.ref b101), .val (.ref b106), .unset, .unset, .unset] [(.ref r_152), (.ref b106)])) rfl (by rw [hml]; rfl) (Steps.refl _) (argsL := [(.ref r_152)]) (rest := []) (lenOf pd22 rfl) rfl (wq rfl) (D_ at_99) (fun _ _ => ⟨rfl, rfl, (nb rfl), (nb rfl)⟩)
      dsimp only [Pt.U, Pt.locs, Pt.cells, Pt.slots] at X160 l160 y160 z160 st160 hQ160
      subst l160 y160 z160
      obtain ⟨rfl, Nq160, K160, P160_0, P160_1, P160_2, P160_3, P160_4⟩ := hQ160
      have N160 := Fr.app N151 Nq160
      have J162 : Arv Z T160.heap d_134 kd_135 (.object "java/lang/Object") (10 : Int32) [(.ref r_126), (.ref r_152), .null, .null, .null, .null, .null, .null, .null, .null] .null := P160_3
      have J163 : Fld Z T160.heap b106 "java/util/ArrayList" "size" "I" (.int (2 : Int32)) := P160_2
      have J164 : Fld Z T160.heap b106 "java/util/AbstractList" "modCount" "I" (.int (2 : Int32)) := P160_4
      have W165 : ∀ zQ, SS p e below T160 m 103 #[.val (.int a), .val (.int b), .val (.int c_), .val (.int d_), .val (.int sl), .val (.int nn), .val (.int le), .val (.int ct), .val (.ref b101), .val (.ref b106), .unset, .unset, .unset] [] zQ → Steps p.tables e below (s₁.setTop (entryFrame m #[(.int a), (.int b), (.int c_), (.int d_), (.int sl)] maxLocals)) zQ := by
        intro tt kt
        refine W136 tt ?_
        refine XS.iload X132.here hx rfl (D_ at_86) rfl ?_
        refine XS.iconst X132.here hx rfl (D_ at_88) ?_
        refine XS.icmpNo X132.here hx rfl (D_ at_89) rfl (tlt (by rcases hnn with h | h | h <;> rw [h] <;> decide)).2.2.2 ?_
        refine XS.aload X132.here hx rfl (D_ at_92) rfl rfl ?_
        refine XS.iloadN X132.here hx rfl (D_ at_94) rfl ?_
        refine XS.i2l X132.here hx rfl (D_ at_95) rfl ?_
        show SS p e below T132 m 96 #[.val (.int a), .val (.int b), .val (.int c_), .val (.int d_), .val (.int sl), .val (.int nn), .val (.int le), .val (.int ct), .val (.ref b101), .val (.ref b106), .unset, .unset, .unset] [(.long (b.toInt64)), (.ref b106)] _
        rw [show (b.toInt64) = x1 from h_x1.symm]
        refine st151 _ ?_
        refine st160.trans ?_
        refine XS.pop X160.here hx rfl (D_ at_102) rfl rfl ?_
        exact kt
      have KA166 : Keep h0 T160.heap [] := (Keep.trans (Keep.trans KA137 K151 all0) K160 (allS (Or.inr (Nat.le_trans (Nat.le_trans (Nat.le_trans (Nat.le_trans (Nat.le_trans K101.1 K102.1) K103.1) K104.1) K105.1) (Nat.le_of_eq g106.symm))) (allS (Or.inr (Nat.le_trans (Nat.le_trans (Nat.le_trans (Nat.le_trans (Nat.le_trans (Nat.le_trans (Nat.le_trans (Nat.le_trans K101.1 K102.1) K103.1) K104.1) K105.1) K106.1) K109.1) K125.1) P132_0)) all0)))
      rcases hnn with hnk | hnn
      ·
        have hcl : ct = (0 : Int32) ∨ (le = (1 : Int32) ∧ (ct = (1 : Int32) ∨ ct = (2 : Int32))) ∨ (le = (2 : Int32) ∧ (ct = (1 : Int32))) := by rw [h_ct, hnk]; exact own_cl2 hlr
        have ne167 : r_126 ≠ b106 := (Exa.ne (((P125_0.1.keep K132).keep K151).keep K160) P160_0 (by decide))
        have F168 : BD Z T160.heap r_126 x0 := (((P125_0.keep K132 (ninS ne167 nin0)).keep K151 nin0).keep K160 (ninS ne167 (ninS (Nat.ne_of_lt (Nat.lt_of_lt_of_le P125_0.lt P132_0)) nin0)))
        have F169 : BD Z T160.heap r_152 x1 := (P151_0.keep K160 (ninS (Exa.ne (P151_0.1.keep K160) P160_0 (by decide)) (ninS (Exa.neArv (P151_0.1.keep K160) J162 (w138 hw)) nin0)))
        have O170 : Old Z n0 T160.heap := ((O150.keep K151 all0).keep K160 (allS gn107 (allS gn158 all0)))
        obtain ⟨_, _, ⟨T171, L171, k171, n171⟩, -, X171, ⟨Lc171, hQ171, l171, y171, z171⟩, st171⟩ := Jvm.LawKit.callS X160 hx (y := yn33) hown (mvT hZ (w27 hw)) (mvT hZ (w28 hw)) (mvT hZ (w29 hw)) (mvT hZ (w30 hw)) (by decide) (backOf (W := 0) (rm_tot2 l Z a0 hw [] b106 ct le d_134 kd_135 r_126 r_152 x0 x1 x2 x3 zt kz zl zr T160.heap n0 (Nat.le_trans z161 K160.1) O170 S_zt V_zt hzl hz S_z0 hz0 P160_0 J163 P160_1 J162 F168 F169 (by rw [h_x0]; exact own_bd32 _) (by rw [h_x1]; exact own_bd32 _) (by rw [h_x2]; exact own_bd32 _) (by rw [h_x3]; exact own_bd32 _) hcl) hZ (w30 hw) (w29 hw) (by decide) (by decide)) (g := (mkF m 143 #[.val (.int a), .val (.int b), .val (.int c_), .val (.int d_), .val (.int sl), .val (.int (2 : Int32)), .val (.int le), .val (.int ct), .val (.ref b101), .val (.ref b106), .unset, .unset, .unset] [(.int le), (.int ct), (.ref b106)])) rfl (by rw [hml]; rfl) (argsL := [(.ref b106), (.int ct), (.int le)]) (rest := []) (lenOf pd21 rfl) rfl (wq rfl) (D_ at_143) (fun _ _ => ⟨rfl, rfl, (nb rfl), (nb rfl)⟩)
        dsimp only [Pt.U, Pt.locs, Pt.cells, Pt.slots] at X171 l171 y171 z171 st171 hQ171
        subst l171 y171 z171
        obtain ⟨r_172, v_173, rfl, Nq171, K171, P171_0, P171_1, P171_2⟩ := hQ171
        have N171 := Fr.app N160 Nq171
        have O175 : Old Z n0 T171.heap := (O170.keep K171 all0)
        have ne176 : b101 ≠ b106 := (Nat.ne_of_lt (Nat.lt_of_lt_of_le (Nat.lt_of_lt_of_le G101.lt (Nat.le_trans (Nat.le_trans (Nat.le_trans K102.1 K103.1) K104.1) K105.1)) (Nat.le_of_eq g106.symm)))
        have ne177 : b101 ≠ d_134 := (Nat.ne_of_lt (Nat.lt_of_lt_of_le (Nat.lt_of_lt_of_le G101.lt (Nat.le_trans (Nat.le_trans (Nat.le_trans (Nat.le_trans (Nat.le_trans (Nat.le_trans K102.1 K103.1) K104.1) K105.1) K106.1) K109.1) K125.1)) P132_0))
        have F178 : Arv Z T171.heap b101 k101 .long (4 : Int32) [(.long x0), (.long x1), (.long x2), (.long x3)] (.long (0 : Int64)) := (((((((G105.keep K106 nin0).keep K109 (ninS ne176 nin0)).keep K125 nin0).keep K132 (ninS ne176 nin0)).keep K151 nin0).keep K160 (ninS ne176 (ninS ne177 nin0))).keep K171 nin0)
        have z180 : n0 ≤ T171.heap.size := (Nat.le_trans z161 (Nat.le_trans K160.1 K171.1))
        obtain ⟨T174, L174, h174, X174, e174, e0__179, Nl174, K174, st174⟩ := rm_sgT hx hZ hw hby hml hown (by decide) (by decide) (by decide) (by decide) a b c_ d_ sl (2 : Int32) le ct b101 b106 r_172 v_173 k101 x0 x1 x2 x3 zt kz zl n0 S_zt V_zt hzl hz (by rw [h_x0]; exact own_bd32 _) (by rw [h_x1]; exact own_bd32 _) (by rw [h_x2]; exact own_bd32 _) (by rw [h_x3]; exact own_bd32 _) (own_cr2 hcl) P171_1 P171_2 T171 _ T171.heap X171 rfl N171 z180 O175 F178 P171_0
        have W181 : ∀ zQ, SS p e below T174 m 184 #[.val (.int a), .val (.int b), .val (.int c_), .val (.int d_), .val (.int sl), .val (.int (2 : Int32)), .val (.int le), .val (.int ct), .val (.ref b101), .val (.ref b106), .val (.ref r_172), .val (.long e0__179), .second] [(.int (1 : Int32))] zQ → Steps p.tables e below (s₁.setTop (entryFrame m #[(.int a), (.int b), (.int c_), (.int d_), (.int sl)] maxLocals)) zQ := by
          intro tt kt
          refine W165 tt ?_
          rw [show nn = (2 : Int32) from hnk]
          refine XS.iload X160.here hx rfl (D_ at_103) rfl ?_
          refine XS.iconst X160.here hx rfl (D_ at_105) ?_
          refine XS.icmpYes X160.here hx rfl (pc0 := 106) (pc' := 120) rfl (D_ at_106) rfl (flt (by decide)).2.2.2 (by decide) (by decide) ?_
          refine XS.iload X160.here hx rfl (D_ at_120) rfl ?_
          refine XS.iconst X160.here hx rfl (D_ at_122) ?_
          refine XS.icmpYes X160.here hx rfl (pc0 := 123) (pc' := 137) rfl (D_ at_123) rfl (flt (by decide)).2.2.2 (by decide) (by decide) ?_
          refine XS.aload X160.here hx rfl (D_ at_137) rfl rfl ?_
          refine XS.iload X160.here hx rfl (D_ at_139) rfl ?_
          refine XS.iload X160.here hx rfl (D_ at_141) rfl ?_
          refine st171 _ ?_
          refine st174 _ ?_
          refine XS.iconst X174.here hx rfl (D_ at_179) ?_
          refine XS.goto X174.here hx rfl (pc0 := 180) (pc' := 184) rfl (D_ at_180) (by decide) (by decide) ?_
          exact kt
        obtain ⟨fs, hr, hrun, hended, hW, hsame⟩ := X174.leave (v := some (.int (nar .boolean (1 : Int32)))) (fun h => by rw [Bd.returns] at h; cases h)
        refine ⟨_, _, W181 _ (retN X174 hx (t := .boolean) Bd.returns (by simp) (D_ at_184) hr), hrun, hended, _, _, rfl, ?_, ⟨_, rfl⟩, hW, hsame.mono (by decide) (by decide)⟩
        show Q_law Z a b c_ d_ sl oD kD zt kz zl zr h0 n0 _ T174.heap _
        rw [e174]
        exact ⟨rfl, Nl174, (Keep.trans (Keep.trans KA166 K171 all0) K174 all0)⟩
      ·
        have O182 : Old Z n0 T160.heap := ((O150.keep K151 all0).keep K160 (allS gn107 (allS gn158 all0)))
        obtain ⟨_, _, ⟨T183, L183, k183, n183⟩, -, X183, ⟨Lc183, hQ183, l183, y183, z183⟩, st183⟩ := Jvm.LawKit.callS X160 hx (y := yn2) hown (mvT hZ (w55 hw)) (mvT hZ (w56 hw)) (mvT hZ (w45 hw)) (mvT hZ (w57 hw)) (by decide) (backOf (W := 1) (rm_valJ l Z a0 hw [] x2 zt kz zl T160.heap n0 (Nat.le_trans z161 K160.1) O182 S_zt V_zt hzl hz (own_nmin (by rw [h_x2]; exact own_bd32 _ : Bn 1 x2) (by decide))) hZ (w57 hw) (w45 hw) (by decide) (by decide)) (g := (mkF m 113 #[.val (.int a), .val (.int b), .val (.int c_), .val (.int d_), .val (.int sl), .val (.int nn), .val (.int le), .val (.int ct), .val (.ref b101), .val (.ref b106), .unset, .unset, .unset] [(.long x2), (.ref b106)])) rfl (by rw [hml]; rfl) (argsL := [(.long x2)]) (rest := [(.ref b106)]) (lenOf pd2 rfl) rfl (wq rfl) (D_ at_113) (fun _ _ => ⟨rfl, rfl, (nb rfl), (nb rfl)⟩)
        dsimp only [Pt.U, Pt.locs, Pt.cells, Pt.slots] at X183 l183 y183 z183 st183 hQ183
        subst l183 y183 z183
        obtain ⟨r_184, rfl, Nq183, K183, P183_0⟩ := hQ183
        have N183 := Fr.app N160 Nq183
        have F185 : Fld Z T183.heap b106 "java/util/ArrayList" "size" "I" (.int (2 : Int32)) := (J163.keep K183 nin0)
        have F186 : Exa Z T183.heap b106 "java/util/ArrayList" := (P160_0.keep K183)
        have F187 : Fld Z T183.heap b106 "java/util/AbstractList" "modCount" "I" (.int (2 : Int32)) := (J164.keep K183 nin0)
        have F188 : Fld Z T183.heap b106 "java/util/ArrayList" "elementData" "[Ljava/lang/Object;" (.ref d_134) := (P160_1.keep K183 nin0)
        have F189 : Arv Z T183.heap d_134 kd_135 (.object "java/lang/Object") (10 : Int32) [(.ref r_126), (.ref r_152), .null, .null, .null, .null, .null, .null, .null, .null] .null := (J162.keep K183 nin0)
        have z191 : n0 ≤ T183.heap.size := (Nat.le_trans z161 (Nat.le_trans K160.1 K183.1))
        obtain ⟨cq190, kq190, q190a, q190b, q190c⟩ := isOf hZ rfl F186
        obtain ⟨_, _, ⟨T190, L190, k190, n190⟩, -, X190, ⟨Lc190, hQ190, l190, y190, z190⟩, st190⟩ := X183.virtualBack hx (y := yn24) (z := yn24) hown (mvT hZ (w69 hw)) (mvT hZ (w70 hw)) (notFace_of_selects (args := #[]) (mvT hZ (w72 hw))) (mvT hZ (w72 hw)) (mvT hZ (w71 hw)) (by decide) (backOf (W := 0) (rm_addk l Z a0 hw [] b106 r_184 d_134 (2 : Int32) 2 kd_135 [(.ref r_126), (.ref r_152), .null, .null, .null, .null, .null, .null, .null, .null] T183.heap n0 z191 F186 F187 F185 F188 F189 (nb rfl) rfl P132_6 gn107 gn158 ne159 P183_0.1) hZ (w73 hw) (w3 hw) (by decide) (by decide)) q190a q190c (g := (mkF m 116 #[.val (.int a), .val (.int b), .val (.int c_), .val (.int d_), .val (.int sl), .val (.int nn), .val (.int le), .val (.int ct), .val (.ref b101), .val (.ref b106), .unset, .unset, .unset] [(.ref r_184), (.ref b106)])) rfl (by rw [hml]; rfl) (Steps.refl _) (argsL := [(.ref r_184)]) (rest := []) (lenOf pd22 rfl) rfl (wq rfl) (D_ at_116) (fun _ _ => ⟨rfl, rfl, (nb rfl), (nb rfl)⟩)
        dsimp only [Pt.U, Pt.locs, Pt.cells, Pt.slots] at X190 l190 y190 z190 st190 hQ190
        subst l190 y190 z190
        obtain ⟨rfl, Nq190, K190, P190_0, P190_1, P190_2, P190_3, P190_4⟩ := hQ190
        have N190 := Fr.app N183 Nq190
        have J192 : Arv Z T190.heap d_134 kd_135 (.object "java/lang/Object") (10 : Int32) [(.ref r_126), (.ref r_152), (.ref r_184), .null, .null, .null, .null, .null, .null, .null] .null := P190_3
        have J193 : Fld Z T190.heap b106 "java/util/ArrayList" "size" "I" (.int (3 : Int32)) := P190_2
        have J194 : Fld Z T190.heap b106 "java/util/AbstractList" "modCount" "I" (.int (3 : Int32)) := P190_4
        have W195 : ∀ zQ, SS p e below T190 m 120 #[.val (.int a), .val (.int b), .val (.int c_), .val (.int d_), .val (.int sl), .val (.int nn), .val (.int le), .val (.int ct), .val (.ref b101), .val (.ref b106), .unset, .unset, .unset] [] zQ → Steps p.tables e below (s₁.setTop (entryFrame m #[(.int a), (.int b), (.int c_), (.int d_), (.int sl)] maxLocals)) zQ := by
          intro tt kt
          refine W165 tt ?_
          refine XS.iload X160.here hx rfl (D_ at_103) rfl ?_
          refine XS.iconst X160.here hx rfl (D_ at_105) ?_
          refine XS.icmpNo X160.here hx rfl (D_ at_106) rfl (tlt (by rcases hnn with h | h <;> rw [h] <;> decide)).2.2.2 ?_
          refine XS.aload X160.here hx rfl (D_ at_109) rfl rfl ?_
          refine XS.iloadN X160.here hx rfl (D_ at_111) rfl ?_
          refine XS.i2l X160.here hx rfl (D_ at_112) rfl ?_
          show SS p e below T160 m 113 #[.val (.int a), .val (.int b), .val (.int c_), .val (.int d_), .val (.int sl), .val (.int nn), .val (.int le), .val (.int ct), .val (.ref b101), .val (.ref b106), .unset, .unset, .unset] [(.long (c_.toInt64)), (.ref b106)] _
          rw [show (c_.toInt64) = x2 from h_x2.symm]
          refine st183 _ ?_
          refine st190.trans ?_
          refine XS.pop X190.here hx rfl (D_ at_119) rfl rfl ?_
          exact kt
        have KA196 : Keep h0 T190.heap [] := (Keep.trans (Keep.trans KA166 K183 all0) K190 (allS (Or.inr (Nat.le_trans (Nat.le_trans (Nat.le_trans (Nat.le_trans (Nat.le_trans K101.1 K102.1) K103.1) K104.1) K105.1) (Nat.le_of_eq g106.symm))) (allS (Or.inr (Nat.le_trans (Nat.le_trans (Nat.le_trans (Nat.le_trans (Nat.le_trans (Nat.le_trans (Nat.le_trans (Nat.le_trans K101.1 K102.1) K103.1) K104.1) K105.1) K106.1) K109.1) K125.1) P132_0)) all0)))
        rcases hnn with hnk | hnn
        ·
          have hcl : ct = (0 : Int32) ∨ (le = (1 : Int32) ∧ (ct = (1 : Int32) ∨ ct = (2 : Int32) ∨ ct = (3 : Int32))) ∨ (le = (2 : Int32) ∧ (ct = (1 : Int32))) ∨ (le = (3 : Int32) ∧ (ct = (1 : Int32))) := by rw [h_ct, hnk]; exact own_cl3 hlr
          have ne197 : r_126 ≠ b106 := (Exa.ne (((((P125_0.1.keep K132).keep K151).keep K160).keep K183).keep K190) P190_0 (by decide))
          have F198 : BD Z T190.heap r_126 x0 := (((((P125_0.keep K132 (ninS ne197 nin0)).keep K151 nin0).keep K160 (ninS ne197 (ninS (Nat.ne_of_lt (Nat.lt_of_lt_of_le P125_0.lt P132_0)) nin0))).keep K183 nin0).keep K190 (ninS ne197 (ninS (Nat.ne_of_lt (Nat.lt_of_lt_of_le P125_0.lt P132_0)) nin0)))
          have ne199 : r_152 ≠ d_134 := (Exa.neArv (((P151_0.1.keep K160).keep K183).keep K190) J192 (w138 hw))
          have ne200 : r_152 ≠ b106 := (Exa.ne (((P151_0.1.keep K160).keep K183).keep K190) P190_0 (by decide))
          have F201 : BD Z T190.heap r_152 x1 := (((P151_0.keep K160 (ninS ne200 (ninS ne199 nin0))).keep K183 nin0).keep K190 (ninS ne200 (ninS ne199 nin0)))
          have F202 : BD Z T190.heap r_184 x2 := (P183_0.keep K190 (ninS (Exa.ne (P183_0.1.keep K190) P190_0 (by decide)) (ninS (Exa.neArv (P183_0.1.keep K190) J192 (w138 hw)) nin0)))
          have O203 : Old Z n0 T190.heap := ((O182.keep K183 all0).keep K190 (allS gn107 (allS gn158 all0)))
          obtain ⟨_, _, ⟨T204, L204, k204, n204⟩, -, X204, ⟨Lc204, hQ204, l204, y204, z204⟩, st204⟩ := Jvm.LawKit.callS X190 hx (y := yn33) hown (mvT hZ (w27 hw)) (mvT hZ (w28 hw)) (mvT hZ (w29 hw)) (mvT hZ (w30 hw)) (by decide) (backOf (W := 0) (rm_tot3 l Z a0 hw [] b106 ct le d_134 kd_135 r_126 r_152 r_184 x0 x1 x2 x3 zt kz zl zr T190.heap n0 (Nat.le_trans z191 K190.1) O203 S_zt V_zt hzl hz S_z0 hz0 P190_0 J193 P190_1 J192 F198 F201 F202 (by rw [h_x0]; exact own_bd32 _) (by rw [h_x1]; exact own_bd32 _) (by rw [h_x2]; exact own_bd32 _) (by rw [h_x3]; exact own_bd32 _) hcl) hZ (w30 hw) (w29 hw) (by decide) (by decide)) (g := (mkF m 143 #[.val (.int a), .val (.int b), .val (.int c_), .val (.int d_), .val (.int sl), .val (.int (3 : Int32)), .val (.int le), .val (.int ct), .val (.ref b101), .val (.ref b106), .unset, .unset, .unset] [(.int le), (.int ct), (.ref b106)])) rfl (by rw [hml]; rfl) (argsL := [(.ref b106), (.int ct), (.int le)]) (rest := []) (lenOf pd21 rfl) rfl (wq rfl) (D_ at_143) (fun _ _ => ⟨rfl, rfl, (nb rfl), (nb rfl)⟩)
          dsimp only [Pt.U, Pt.locs, Pt.cells, Pt.slots] at X204 l204 y204 z204 st204 hQ204
          subst l204 y204 z204
          obtain ⟨r_205, v_206, rfl, Nq204, K204, P204_0, P204_1, P204_2⟩ := hQ204
          have N204 := Fr.app N190 Nq204
          have O208 : Old Z n0 T204.heap := (O203.keep K204 all0)
          have ne209 : b101 ≠ b106 := (Nat.ne_of_lt (Nat.lt_of_lt_of_le (Nat.lt_of_lt_of_le G101.lt (Nat.le_trans (Nat.le_trans (Nat.le_trans K102.1 K103.1) K104.1) K105.1)) (Nat.le_of_eq g106.symm)))
          have ne210 : b101 ≠ d_134 := (Nat.ne_of_lt (Nat.lt_of_lt_of_le (Nat.lt_of_lt_of_le G101.lt (Nat.le_trans (Nat.le_trans (Nat.le_trans (Nat.le_trans (Nat.le_trans (Nat.le_trans K102.1 K103.1) K104.1) K105.1) K106.1) K109.1) K125.1)) P132_0))
          have F211 : Arv Z T204.heap b101 k101 .long (4 : Int32) [(.long x0), (.long x1), (.long x2), (.long x3)] (.long (0 : Int64)) := (((((((((G105.keep K106 nin0).keep K109 (ninS ne209 nin0)).keep K125 nin0).keep K132 (ninS ne209 nin0)).keep K151 nin0).keep K160 (ninS ne209 (ninS ne210 nin0))).keep K183 nin0).keep K190 (ninS ne209 (ninS ne210 nin0))).keep K204 nin0)
          have z213 : n0 ≤ T204.heap.size := (Nat.le_trans z191 (Nat.le_trans K190.1 K204.1))
          obtain ⟨T207, L207, h207, X207, e207, e0__212, Nl207, K207, st207⟩ := rm_sgT hx hZ hw hby hml hown (by decide) (by decide) (by decide) (by decide) a b c_ d_ sl (3 : Int32) le ct b101 b106 r_205 v_206 k101 x0 x1 x2 x3 zt kz zl n0 S_zt V_zt hzl hz (by rw [h_x0]; exact own_bd32 _) (by rw [h_x1]; exact own_bd32 _) (by rw [h_x2]; exact own_bd32 _) (by rw [h_x3]; exact own_bd32 _) (own_cr3 hcl) P204_1 P204_2 T204 _ T204.heap X204 rfl N204 z213 O208 F211 P204_0
          have W214 : ∀ zQ, SS p e below T207 m 184 #[.val (.int a), .val (.int b), .val (.int c_), .val (.int d_), .val (.int sl), .val (.int (3 : Int32)), .val (.int le), .val (.int ct), .val (.ref b101), .val (.ref b106), .val (.ref r_205), .val (.long e0__212), .second] [(.int (1 : Int32))] zQ → Steps p.tables e below (s₁.setTop (entryFrame m #[(.int a), (.int b), (.int c_), (.int d_), (.int sl)] maxLocals)) zQ := by
            intro tt kt
            refine W195 tt ?_
            rw [show nn = (3 : Int32) from hnk]
            refine XS.iload X190.here hx rfl (D_ at_120) rfl ?_
            refine XS.iconst X190.here hx rfl (D_ at_122) ?_
            refine XS.icmpYes X190.here hx rfl (pc0 := 123) (pc' := 137) rfl (D_ at_123) rfl (flt (by decide)).2.2.2 (by decide) (by decide) ?_
            refine XS.aload X190.here hx rfl (D_ at_137) rfl rfl ?_
            refine XS.iload X190.here hx rfl (D_ at_139) rfl ?_
            refine XS.iload X190.here hx rfl (D_ at_141) rfl ?_
            refine st204 _ ?_
            refine st207 _ ?_
            refine XS.iconst X207.here hx rfl (D_ at_179) ?_
            refine XS.goto X207.here hx rfl (pc0 := 180) (pc' := 184) rfl (D_ at_180) (by decide) (by decide) ?_
            exact kt
          obtain ⟨fs, hr, hrun, hended, hW, hsame⟩ := X207.leave (v := some (.int (nar .boolean (1 : Int32)))) (fun h => by rw [Bd.returns] at h; cases h)
          refine ⟨_, _, W214 _ (retN X207 hx (t := .boolean) Bd.returns (by simp) (D_ at_184) hr), hrun, hended, _, _, rfl, ?_, ⟨_, rfl⟩, hW, hsame.mono (by decide) (by decide)⟩
          show Q_law Z a b c_ d_ sl oD kD zt kz zl zr h0 n0 _ T207.heap _
          rw [e207]
          exact ⟨rfl, Nl207, (Keep.trans (Keep.trans KA196 K204 all0) K207 all0)⟩
        ·
          have O215 : Old Z n0 T190.heap := ((O182.keep K183 all0).keep K190 (allS gn107 (allS gn158 all0)))
          obtain ⟨_, _, ⟨T216, L216, k216, n216⟩, -, X216, ⟨Lc216, hQ216, l216, y216, z216⟩, st216⟩ := Jvm.LawKit.callS X190 hx (y := yn2) hown (mvT hZ (w55 hw)) (mvT hZ (w56 hw)) (mvT hZ (w45 hw)) (mvT hZ (w57 hw)) (by decide) (backOf (W := 1) (rm_valJ l Z a0 hw [] x3 zt kz zl T190.heap n0 (Nat.le_trans z191 K190.1) O215 S_zt V_zt hzl hz (own_nmin (by rw [h_x3]; exact own_bd32 _ : Bn 1 x3) (by decide))) hZ (w57 hw) (w45 hw) (by decide) (by decide)) (g := (mkF m 130 #[.val (.int a), .val (.int b), .val (.int c_), .val (.int d_), .val (.int sl), .val (.int nn), .val (.int le), .val (.int ct), .val (.ref b101), .val (.ref b106), .unset, .unset, .unset] [(.long x3), (.ref b106)])) rfl (by rw [hml]; rfl) (argsL := [(.long x3)]) (rest := [(.ref b106)]) (lenOf pd2 rfl) rfl (wq rfl) (D_ at_130) (fun _ _ => ⟨rfl, rfl, (nb rfl), (nb rfl)⟩)
          dsimp only [Pt.U, Pt.locs, Pt.cells, Pt.slots] at X216 l216 y216 z216 st216 hQ216
          subst l216 y216 z216
          obtain ⟨r_217, rfl, Nq216, K216, P216_0⟩ := hQ216
          have N216 := Fr.app N190 Nq216
          have F218 : Fld Z T216.heap b106 "java/util/ArrayList" "size" "I" (.int (3 : Int32)) := (J193.keep K216 nin0)
          have F219 : Exa Z T216.heap b106 "java/util/ArrayList" := (P190_0.keep K216)
          have F220 : Fld Z T216.heap b106 "java/util/AbstractList" "modCount" "I" (.int (3 : Int32)) := (J194.keep K216 nin0)
          have F221 : Fld Z T216.heap b106 "java/util/ArrayList" "elementData" "[Ljava/lang/Object;" (.ref d_134) := (P190_1.keep K216 nin0)
          have F222 : Arv Z T216.heap d_134 kd_135 (.object "java/lang/Object") (10 : Int32) [(.ref r_126), (.ref r_152), (.ref r_184), .null, .null, .null, .null, .null, .null, .null] .null := (J192.keep K216 nin0)
          have z224 : n0 ≤ T216.heap.size := (Nat.le_trans z191 (Nat.le_trans K190.1 K216.1))
          obtain ⟨cq223, kq223, q223a, q223b, q223c⟩ := isOf hZ rfl F219
          obtain ⟨_, _, ⟨T223, L223, k223, n223⟩, -, X223, ⟨Lc223, hQ223, l223, y223, z223⟩, st223⟩ := X216.virtualBack hx (y := yn24) (z := yn24) hown (mvT hZ (w69 hw)) (mvT hZ (w70 hw)) (notFace_of_selects (args := #[]) (mvT hZ (w72 hw))) (mvT hZ (w72 hw)) (mvT hZ (w71 hw)) (by decide) (backOf (W := 0) (rm_addk l Z a0 hw [] b106 r_217 d_134 (3 : Int32) 3 kd_135 [(.ref r_126), (.ref r_152), (.ref r_184), .null, .null, .null, .null, .null, .null, .null] T216.heap n0 z224 F219 F220 F218 F221 F222 (nb rfl) rfl P132_6 gn107 gn158 ne159 P216_0.1) hZ (w73 hw) (w3 hw) (by decide) (by decide)) q223a q223c (g := (mkF m 133 #[.val (.int a), .val (.int b), .val (.int c_), .val (.int d_), .val (.int sl), .val (.int nn), .val (.int le), .val (.int ct), .val (.ref b101), .val (.ref b106), .unset, .unset, .unset] [(.ref r_217), (.ref b106)])) rfl (by rw [hml]; rfl) (Steps.refl _) (argsL := [(.ref r_217)]) (rest := []) (lenOf pd22 rfl) rfl (wq rfl) (D_ at_133) (fun _ _ => ⟨rfl, rfl, (nb rfl), (nb rfl)⟩)
          dsimp only [Pt.U, Pt.locs, Pt.cells, Pt.slots] at X223 l223 y223 z223 st223 hQ223
          subst l223 y223 z223
          obtain ⟨rfl, Nq223, K223, P223_0, P223_1, P223_2, P223_3, P223_4⟩ := hQ223
          have N223 := Fr.app N216 Nq223
          have J225 : Arv Z T223.heap d_134 kd_135 (.object "java/lang/Object") (10 : Int32) [(.ref r_126), (.ref r_152), (.ref r_184), (.ref r_217), .null, .null, .null, .null, .null, .null] .null := P223_3
          have J226 : Fld Z T223.heap b106 "java/util/ArrayList" "size" "I" (.int (4 : Int32)) := P223_2
          have J227 : Fld Z T223.heap b106 "java/util/AbstractList" "modCount" "I" (.int (4 : Int32)) := P223_4
          have hnk := hnn
          have hcl : ct = (0 : Int32) ∨ (le = (1 : Int32) ∧ (ct = (1 : Int32) ∨ ct = (2 : Int32) ∨ ct = (3 : Int32) ∨ ct = (4 : Int32))) ∨ (le = (2 : Int32) ∧ (ct = (1 : Int32) ∨ ct = (2 : Int32))) ∨ (le = (3 : Int32) ∧ (ct = (1 : Int32))) ∨ (le = (4 : Int32) ∧ (ct = (1 : Int32))) := by rw [h_ct, hnk]; exact own_cl4 hlr
          have ne228 : r_126 ≠ b106 := (Exa.ne (((((((P125_0.1.keep K132).keep K151).keep K160).keep K183).keep K190).keep K216).keep K223) P223_0 (by decide))
          have F229 : BD Z T223.heap r_126 x0 := (((((((P125_0.keep K132 (ninS ne228 nin0)).keep K151 nin0).keep K160 (ninS ne228 (ninS (Nat.ne_of_lt (Nat.lt_of_lt_of_le P125_0.lt P132_0)) nin0))).keep K183 nin0).keep K190 (ninS ne228 (ninS (Nat.ne_of_lt (Nat.lt_of_lt_of_le P125_0.lt P132_0)) nin0))).keep K216 nin0).keep K223 (ninS ne228 (ninS (Nat.ne_of_lt (Nat.lt_of_lt_of_le P125_0.lt P132_0)) nin0)))
          have ne230 : r_152 ≠ d_134 := (Exa.neArv (((((P151_0.1.keep K160).keep K183).keep K190).keep K216).keep K223) J225 (w138 hw))
          have ne231 : r_152 ≠ b106 := (Exa.ne (((((P151_0.1.keep K160).keep K183).keep K190).keep K216).keep K223) P223_0 (by decide))
          have F232 : BD Z T223.heap r_152 x1 := (((((P151_0.keep K160 (ninS ne231 (ninS ne230 nin0))).keep K183 nin0).keep K190 (ninS ne231 (ninS ne230 nin0))).keep K216 nin0).keep K223 (ninS ne231 (ninS ne230 nin0)))
          have ne233 : r_184 ≠ d_134 := (Exa.neArv (((P183_0.1.keep K190).keep K216).keep K223) J225 (w138 hw))
          have ne234 : r_184 ≠ b106 := (Exa.ne (((P183_0.1.keep K190).keep K216).keep K223) P223_0 (by decide))
          have F235 : BD Z T223.heap r_184 x2 := (((P183_0.keep K190 (ninS ne234 (ninS ne233 nin0))).keep K216 nin0).keep K223 (ninS ne234 (ninS ne233 nin0)))
          have F236 : BD Z T223.heap r_217 x3 := (P216_0.keep K223 (ninS (Exa.ne (P216_0.1.keep K223) P223_0 (by decide)) (ninS (Exa.neArv (P216_0.1.keep K223) J225 (w138 hw)) nin0)))
          have O237 : Old Z n0 T223.heap := ((O215.keep K216 all0).keep K223 (allS gn107 (allS gn158 all0)))
          obtain ⟨_, _, ⟨T238, L238, k238, n238⟩, -, X238, ⟨Lc238, hQ238, l238, y238, z238⟩, st238⟩ := Jvm.LawKit.callS X223 hx (y := yn33) hown (mvT hZ (w27 hw)) (mvT hZ (w28 hw)) (mvT hZ (w29 hw)) (mvT hZ (w30 hw)) (by decide) (backOf (W := 0) (rm_tot4 l Z a0 hw [] b106 ct le d_134 kd_135 r_126 r_152 r_184 r_217 x0 x1 x2 x3 zt kz zl zr T223.heap n0 (Nat.le_trans z224 K223.1) O237 S_zt V_zt hzl hz S_z0 hz0 P223_0 J226 P223_1 J225 F229 F232 F235 F236 (by rw [h_x0]; exact own_bd32 _) (by rw [h_x1]; exact own_bd32 _) (by rw [h_x2]; exact own_bd32 _) (by rw [h_x3]; exact own_bd32 _) hcl) hZ (w30 hw) (w29 hw) (by decide) (by decide)) (g := (mkF m 143 #[.val (.int a), .val (.int b), .val (.int c_), .val (.int d_), .val (.int sl), .val (.int (4 : Int32)), .val (.int le), .val (.int ct), .val (.ref b101), .val (.ref b106), .unset, .unset, .unset] [(.int le), (.int ct), (.ref b106)])) rfl (by rw [hml]; rfl) (argsL := [(.ref b106), (.int ct), (.int le)]) (rest := []) (lenOf pd21 rfl) rfl (wq rfl) (D_ at_143) (fun _ _ => ⟨rfl, rfl, (nb rfl), (nb rfl)⟩)
          dsimp only [Pt.U, Pt.locs, Pt.cells, Pt.slots] at X238 l238 y238 z238 st238 hQ238
          subst l238 y238 z238
          obtain ⟨r_239, v_240, rfl, Nq238, K238, P238_0, P238_1, P238_2⟩ := hQ238
          have N238 := Fr.app N223 Nq238
          have O242 : Old Z n0 T238.heap := (O237.keep K238 all0)
          have ne243 : b101 ≠ b106 := (Nat.ne_of_lt (Nat.lt_of_lt_of_le (Nat.lt_of_lt_of_le G101.lt (Nat.le_trans (Nat.le_trans (Nat.le_trans K102.1 K103.1) K104.1) K105.1)) (Nat.le_of_eq g106.symm)))
          have ne244 : b101 ≠ d_134 := (Nat.ne_of_lt (Nat.lt_of_lt_of_le (Nat.lt_of_lt_of_le G101.lt (Nat.le_trans (Nat.le_trans (Nat.le_trans (Nat.le_trans (Nat.le_trans (Nat.le_trans K102.1 K103.1) K104.1) K105.1) K106.1) K109.1) K125.1)) P132_0))
          have F245 : Arv Z T238.heap b101 k101 .long (4 : Int32) [(.long x0), (.long x1), (.long x2), (.long x3)] (.long (0 : Int64)) := (((((((((((G105.keep K106 nin0).keep K109 (ninS ne243 nin0)).keep K125 nin0).keep K132 (ninS ne243 nin0)).keep K151 nin0).keep K160 (ninS ne243 (ninS ne244 nin0))).keep K183 nin0).keep K190 (ninS ne243 (ninS ne244 nin0))).keep K216 nin0).keep K223 (ninS ne243 (ninS ne244 nin0))).keep K238 nin0)
          have z247 : n0 ≤ T238.heap.size := (Nat.le_trans z224 (Nat.le_trans K223.1 K238.1))
          obtain ⟨T241, L241, h241, X241, e241, e0__246, Nl241, K241, st241⟩ := rm_sgT hx hZ hw hby hml hown (by decide) (by decide) (by decide) (by decide) a b c_ d_ sl (4 : Int32) le ct b101 b106 r_239 v_240 k101 x0 x1 x2 x3 zt kz zl n0 S_zt V_zt hzl hz (by rw [h_x0]; exact own_bd32 _) (by rw [h_x1]; exact own_bd32 _) (by rw [h_x2]; exact own_bd32 _) (by rw [h_x3]; exact own_bd32 _) (own_cr4 hcl) P238_1 P238_2 T238 _ T238.heap X238 rfl N238 z247 O242 F245 P238_0
          have W248 : ∀ zQ, SS p e below T241 m 184 #[.val (.int a), .val (.int b), .val (.int c_), .val (.int d_), .val (.int sl), .val (.int (4 : Int32)), .val (.int le), .val (.int ct), .val (.ref b101), .val (.ref b106), .val (.ref r_239), .val (.long e0__246), .second] [(.int (1 : Int32))] zQ → Steps p.tables e below (s₁.setTop (entryFrame m #[(.int a), (.int b), (.int c_), (.int d_), (.int sl)] maxLocals)) zQ := by
            intro tt kt
            refine W195 tt ?_
            refine XS.iload X190.here hx rfl (D_ at_120) rfl ?_
            refine XS.iconst X190.here hx rfl (D_ at_122) ?_
            refine XS.icmpNo X190.here hx rfl (D_ at_123) rfl (tlt (by rw [hnn]; decide)).2.2.2 ?_
            refine XS.aload X190.here hx rfl (D_ at_126) rfl rfl ?_
            refine XS.iloadN X190.here hx rfl (D_ at_128) rfl ?_
            refine XS.i2l X190.here hx rfl (D_ at_129) rfl ?_
            show SS p e below T190 m 130 #[.val (.int a), .val (.int b), .val (.int c_), .val (.int d_), .val (.int sl), .val (.int nn), .val (.int le), .val (.int ct), .val (.ref b101), .val (.ref b106), .unset, .unset, .unset] [(.long (d_.toInt64)), (.ref b106)] _
            rw [show (d_.toInt64) = x3 from h_x3.symm]
            refine st216 _ ?_
            refine st223.trans ?_
            refine XS.pop X223.here hx rfl (D_ at_136) rfl rfl ?_
            show SS p e below T223 m 137 #[.val (.int a), .val (.int b), .val (.int c_), .val (.int d_), .val (.int sl), .val (.int nn), .val (.int le), .val (.int ct), .val (.ref b101), .val (.ref b106), .unset, .unset, .unset] [] _
            rw [show nn = (4 : Int32) from hnk]
            refine XS.aload X223.here hx rfl (D_ at_137) rfl rfl ?_
            refine XS.iload X223.here hx rfl (D_ at_139) rfl ?_
            refine XS.iload X223.here hx rfl (D_ at_141) rfl ?_
            refine st238 _ ?_
            refine st241 _ ?_
            refine XS.iconst X241.here hx rfl (D_ at_179) ?_
            refine XS.goto X241.here hx rfl (pc0 := 180) (pc' := 184) rfl (D_ at_180) (by decide) (by decide) ?_
            exact kt
          obtain ⟨fs, hr, hrun, hended, hW, hsame⟩ := X241.leave (v := some (.int (nar .boolean (1 : Int32)))) (fun h => by rw [Bd.returns] at h; cases h)
          refine ⟨_, _, W248 _ (retN X241 hx (t := .boolean) Bd.returns (by simp) (D_ at_184) hr), hrun, hended, _, _, rfl, ?_, ⟨_, rfl⟩, hW, hsame.mono (by decide) (by decide)⟩
          show Q_law Z a b c_ d_ sl oD kD zt kz zl zr h0 n0 _ T241.heap _
          rw [e241]
          exact ⟨rfl, Nl241, (Keep.trans (Keep.trans (Keep.trans (Keep.trans KA196 K216 all0) K223 (allS (Or.inr (Nat.le_trans (Nat.le_trans (Nat.le_trans (Nat.le_trans (Nat.le_trans K101.1 K102.1) K103.1) K104.1) K105.1) (Nat.le_of_eq g106.symm))) (allS (Or.inr (Nat.le_trans (Nat.le_trans (Nat.le_trans (Nat.le_trans (Nat.le_trans (Nat.le_trans (Nat.le_trans (Nat.le_trans K101.1 K102.1) K103.1) K104.1) K105.1) K106.1) K109.1) K125.1) P132_0)) all0))) K238 all0) K241 all0)⟩
theorem own_eqint {args : Array Value} {s : State} {t : Term} {n : Int32} (h : (Jvm.Cond.eq t (Jvm.Term.int n)).value args s none s [] = some true) : t.eval args s none [] s = some (.int n) := by
  simp only [Cond.value, Term.eval] at h
  cases ht : t.eval args s none [] s with
  | none => simp [ht] at h
  | some x => cases x <;> simp [ht] at h ⊢; exact h
theorem own_eqlong {args : Array Value} {s : State} {t : Term} {n : Int64} (h : (Jvm.Cond.eq t (Jvm.Term.long n)).value args s none s [] = some true) : t.eval args s none [] s = some (.long n) := by
  simp only [Cond.value, Term.eval] at h
  cases ht : t.eval args s none [] s with
  | none => simp [ht] at h
  | some x => cases x <;> simp [ht] at h ⊢; exact h
theorem own_neint {args : Array Value} {s : State} {t : Term} {n x : Int32} (h : (Jvm.Cond.not (Jvm.Cond.eq t (Jvm.Term.int n))).value args s none s [] = some true) (e : t.eval args s none [] s = some (.int x)) : ¬ (x = n) := by
  simpa [Cond.value, Term.eval, e] using h
theorem own_eqref {args : Array Value} {s : State} {t u : Term} {b : Addr} (h : (Jvm.Cond.eq t u).value args s none s [] = some true) (hu : u.eval args s none [] s = some (.ref b)) : t.eval args s none [] s = some (.ref b) := by
  simp only [Cond.value, hu] at h
  cases ht : t.eval args s none [] s with
  | none => simp [ht] at h
  | some x => cases x <;> simp [ht] at h ⊢; exact h
theorem own_arrlen {args : Array Value} {s : State} {t : Term} {a : Addr} {cl : Cell} {ty : FieldType} {z : Int32} (ev : t.eval args s none [] s = some (.ref a)) (A : Arr s s.heap a cl ty) (h : (Term.length t).eval args s none [] s = some (.int z)) : cl.slots.size < 2 ^ 31 ∧ cl.slots.size.toInt32 = z := by
  have e := Arr.fin (U := s) (Vm.Alike.refl _) A
  simp only [Term.eval, ev, Option.bind_eq_bind, Option.bind_some, e] at h
  by_cases q : cl.slots.size < 2 ^ 31
  · simp [q] at h; exact ⟨q, h⟩
  · simp [q] at h
theorem comes_1 {Post : Tables → Env → Array Value → State → Outcome → State → Prop} (hpost : ∀ tb e args s v u, (limb_1_1.after args s (.returned v) u = true ∧ limb_1_2.after args s (.returned v) u = true ∧ True) → FrameEnd s (.returned v) u (Jvm.fieldLocs frame_1_writes args s ++ Jvm.arrayLocs frame_1_arrays args s ++ Jvm.staticLocs frame_1_statics s) 88 448 → Post tb e args s (.returned v) u) :
    ArmFor flags0 classFile x code maxLocals ret World_1 tables_1 room_1 Calls_1 rest_1 Pre_1 Post := by
  intro l hfl _ _ p e ha hc hk s m args below hf hA hF happ hP
  obtain ⟨hcalls, hrest, hpre⟩ := hP
  obtain ⟨-, -, -, hnamed, -, -, -, hat⟩ := (Spec.applies_iff hf).mp happ
  obtain ⟨hg, hn⟩ := and_e (Cond.before_iff.mp (show (Jvm.Cond.and given_1 narrow_1).before args s = true from hpre))
  obtain ⟨g1, g2⟩ := and_e hg
  obtain ⟨g3, g4⟩ := and_e g2
  obtain ⟨g5, g6⟩ := and_e g4
  obtain ⟨g7, g8⟩ := and_e g6
  obtain ⟨g9, g10⟩ := and_e g8
  obtain ⟨w0, w1, w2, w3, w4, rfl⟩ : ∃ w0 w1 w2 w3 w4 : Value, args = #[w0, w1, w2, w3, w4] := by
    have hs : args.size = 5 := by simpa [Cond.value, given_1] using g1
    obtain ⟨L⟩ := args
    match L, hs with
    | [w0, w1, w2, w3, w4], _ => exact ⟨w0, w1, w2, w3, w4, rfl⟩
  have hw := fun d (hd : d ∈ tables_1) => atoms_spec (ws := Jvm.Cond.code x code maxLocals ret :: tables_1) hat d (List.mem_cons_of_mem _ hd)
  have hfit : Fit s := fun {y c} hc i hi => by
    obtain ⟨ha, rfl⟩ := Array.getElem?_eq_some_iff.mp hc
    have q := List.all_eq_true.mp ((Array.all_eq_true_iff_forall_mem.mp hF) _ (Array.getElem_mem ha)) i (List.mem_range.mpr hi)
    simpa [Array.getElem?_eq_getElem hi] using q
  obtain ⟨hsets, hown0⟩ := atoms_of _ (rest_1_c_eq ▸ (show rest_1_c.before _ s = true from hrest))
  obtain ⟨i0, ei0⟩ := is_v g3
  obtain rfl : w0 = (.int i0) := Option.some.inj ei0
  obtain ⟨i1, ei1⟩ := is_v g5
  obtain rfl : w1 = (.int i1) := Option.some.inj ei1
  obtain ⟨i2, ei2⟩ := is_v g7
  obtain rfl : w2 = (.int i2) := Option.some.inj ei2
  obtain ⟨i3, ei3⟩ := is_v g9
  obtain rfl : w3 = (.int i3) := Option.some.inj ei3
  obtain ⟨i4, ei4⟩ := is_v g10
  obtain rfl : w4 = (.int i4) := Option.some.inj ei4
  obtain ⟨A_oD, e11⟩ := exa_v (Cond.before_iff.mp (hsets _ (List.mem_of_getElem? (i := 7) rfl)))
  have B12 : Sta s s.heap "java/util/ArrayList" "DEFAULTCAPACITY_EMPTY_ELEMENTDATA" "[Ljava/lang/Object;" (.ref A_oD) := Sta.start e11 (Or.inr ⟨(w3 hw), (hsets _ (List.mem_of_getElem? (i := 2) rfl))⟩)
  obtain ⟨cl_oD, Ar_oD⟩ := Arr.start e11 (Cond.before_iff.mp (hsets _ (List.mem_of_getElem? (i := 6) rfl)))
  have ln_oD := own_arrlen e11 Ar_oD (own_eqint (Cond.before_iff.mp (hsets _ (List.mem_of_getElem? (i := 8) rfl))))
  have B13 : Arv s s.heap A_oD cl_oD.cls (.object "java/lang/Object") (0 : Int32) [] .null := Arv.start hfit Ar_oD ln_oD.1 ln_oD.2 (by decide) rfl trivial
  obtain ⟨A_zt, e14⟩ := exa_v (Cond.before_iff.mp (hsets _ (List.mem_of_getElem? (i := 41) rfl)))
  have B15 : Sta s s.heap "java/math/BigDecimal" "ZERO_THROUGH_TEN" "[Ljava/math/BigDecimal;" (.ref A_zt) := Sta.start e14 (Or.inl (hsets _ (List.mem_of_getElem? (i := 23) rfl)))
  obtain ⟨cl_zt, Ar_zt⟩ := Arr.start e14 (Cond.before_iff.mp (hsets _ (List.mem_of_getElem? (i := 40) rfl)))
  have ln_zt := own_arrlen e14 Ar_zt (own_eqint (Cond.before_iff.mp (hsets _ (List.mem_of_getElem? (i := 42) rfl))))
  obtain ⟨A_z0, ez0⟩ := exa_v (Cond.before_iff.mp (hsets _ (List.mem_of_getElem? (i := 44) rfl)))
  obtain ⟨A_z1, ez1⟩ := exa_v (Cond.before_iff.mp (hsets _ (List.mem_of_getElem? (i := 54) rfl)))
  obtain ⟨A_z2, ez2⟩ := exa_v (Cond.before_iff.mp (hsets _ (List.mem_of_getElem? (i := 64) rfl)))
  obtain ⟨A_z3, ez3⟩ := exa_v (Cond.before_iff.mp (hsets _ (List.mem_of_getElem? (i := 73) rfl)))
  obtain ⟨A_z4, ez4⟩ := exa_v (Cond.before_iff.mp (hsets _ (List.mem_of_getElem? (i := 81) rfl)))
  obtain ⟨A_z5, ez5⟩ := exa_v (Cond.before_iff.mp (hsets _ (List.mem_of_getElem? (i := 89) rfl)))
  obtain ⟨A_z6, ez6⟩ := exa_v (Cond.before_iff.mp (hsets _ (List.mem_of_getElem? (i := 97) rfl)))
  obtain ⟨A_z7, ez7⟩ := exa_v (Cond.before_iff.mp (hsets _ (List.mem_of_getElem? (i := 105) rfl)))
  obtain ⟨A_z8, ez8⟩ := exa_v (Cond.before_iff.mp (hsets _ (List.mem_of_getElem? (i := 113) rfl)))
  obtain ⟨A_z9, ez9⟩ := exa_v (Cond.before_iff.mp (hsets _ (List.mem_of_getElem? (i := 121) rfl)))
  obtain ⟨A_z10, ez10⟩ := exa_v (Cond.before_iff.mp (hsets _ (List.mem_of_getElem? (i := 130) rfl)))
  have V0zt : Arv s s.heap A_zt cl_zt.cls (.object "java/math/BigDecimal") (11 : Int32) [(.ref A_z0), (.ref A_z1), (.ref A_z2), (.ref A_z3), (.ref A_z4), (.ref A_z5), (.ref A_z6), (.ref A_z7), (.ref A_z8), (.ref A_z9), (.ref A_z10)] .null := Arv.start hfit Ar_zt ln_zt.1 ln_zt.2 (by decide) rfl ⟨(elem_in ez0 e14 (Term.int_eval (0)) Ar_zt.1).2, (elem_in ez1 e14 (Term.int_eval (1)) Ar_zt.1).2, (elem_in ez2 e14 (Term.int_eval (2)) Ar_zt.1).2, (elem_in ez3 e14 (Term.int_eval (3)) Ar_zt.1).2, (elem_in ez4 e14 (Term.int_eval (4)) Ar_zt.1).2, (elem_in ez5 e14 (Term.int_eval (5)) Ar_zt.1).2, (elem_in ez6 e14 (Term.int_eval (6)) Ar_zt.1).2, (elem_in ez7 e14 (Term.int_eval (7)) Ar_zt.1).2, (elem_in ez8 e14 (Term.int_eval (8)) Ar_zt.1).2, (elem_in ez9 e14 (Term.int_eval (9)) Ar_zt.1).2, (elem_in ez10 e14 (Term.int_eval (10)) Ar_zt.1).2, trivial⟩
  have B16 : Arv s s.heap A_zt cl_zt.cls (.object "java/math/BigDecimal") (11 : Int32) ([A_z0, A_z1, A_z2, A_z3, A_z4, A_z5, A_z6, A_z7, A_z8, A_z9, A_z10].map Value.ref) .null := V0zt
  have B17 : [A_z0, A_z1, A_z2, A_z3, A_z4, A_z5, A_z6, A_z7, A_z8, A_z9, A_z10].length = 11 := rfl
  have bz0 : BD s s.heap A_z0 (0 : Int64) := (⟨Exa.start ez0 (Cond.before_iff.mp (hsets _ (List.mem_of_getElem? (i := 44) rfl))), Fld.start ((fld_at ez0).symm.trans (own_eqint (Cond.before_iff.mp (hsets _ (List.mem_of_getElem? (i := 45) rfl))))), Fld.start ((fld_at ez0).symm.trans (own_eqlong (Cond.before_iff.mp (hsets _ (List.mem_of_getElem? (i := 46) rfl)))))⟩ : BD s s.heap _ _)
  have bz1 : BD s s.heap A_z1 (1 : Int64) := (⟨Exa.start ez1 (Cond.before_iff.mp (hsets _ (List.mem_of_getElem? (i := 54) rfl))), Fld.start ((fld_at ez1).symm.trans (own_eqint (Cond.before_iff.mp (hsets _ (List.mem_of_getElem? (i := 55) rfl))))), Fld.start ((fld_at ez1).symm.trans (own_eqlong (Cond.before_iff.mp (hsets _ (List.mem_of_getElem? (i := 56) rfl)))))⟩ : BD s s.heap _ _)
  have bz2 : BD s s.heap A_z2 (2 : Int64) := (⟨Exa.start ez2 (Cond.before_iff.mp (hsets _ (List.mem_of_getElem? (i := 64) rfl))), Fld.start ((fld_at ez2).symm.trans (own_eqint (Cond.before_iff.mp (hsets _ (List.mem_of_getElem? (i := 65) rfl))))), Fld.start ((fld_at ez2).symm.trans (own_eqlong (Cond.before_iff.mp (hsets _ (List.mem_of_getElem? (i := 66) rfl)))))⟩ : BD s s.heap _ _)
  have bz3 : BD s s.heap A_z3 (3 : Int64) := (⟨Exa.start ez3 (Cond.before_iff.mp (hsets _ (List.mem_of_getElem? (i := 73) rfl))), Fld.start ((fld_at ez3).symm.trans (own_eqint (Cond.before_iff.mp (hsets _ (List.mem_of_getElem? (i := 74) rfl))))), Fld.start ((fld_at ez3).symm.trans (own_eqlong (Cond.before_iff.mp (hsets _ (List.mem_of_getElem? (i := 75) rfl)))))⟩ : BD s s.heap _ _)
  have bz4 : BD s s.heap A_z4 (4 : Int64) := (⟨Exa.start ez4 (Cond.before_iff.mp (hsets _ (List.mem_of_getElem? (i := 81) rfl))), Fld.start ((fld_at ez4).symm.trans (own_eqint (Cond.before_iff.mp (hsets _ (List.mem_of_getElem? (i := 82) rfl))))), Fld.start ((fld_at ez4).symm.trans (own_eqlong (Cond.before_iff.mp (hsets _ (List.mem_of_getElem? (i := 83) rfl)))))⟩ : BD s s.heap _ _)
  have bz5 : BD s s.heap A_z5 (5 : Int64) := (⟨Exa.start ez5 (Cond.before_iff.mp (hsets _ (List.mem_of_getElem? (i := 89) rfl))), Fld.start ((fld_at ez5).symm.trans (own_eqint (Cond.before_iff.mp (hsets _ (List.mem_of_getElem? (i := 90) rfl))))), Fld.start ((fld_at ez5).symm.trans (own_eqlong (Cond.before_iff.mp (hsets _ (List.mem_of_getElem? (i := 91) rfl)))))⟩ : BD s s.heap _ _)
  have bz6 : BD s s.heap A_z6 (6 : Int64) := (⟨Exa.start ez6 (Cond.before_iff.mp (hsets _ (List.mem_of_getElem? (i := 97) rfl))), Fld.start ((fld_at ez6).symm.trans (own_eqint (Cond.before_iff.mp (hsets _ (List.mem_of_getElem? (i := 98) rfl))))), Fld.start ((fld_at ez6).symm.trans (own_eqlong (Cond.before_iff.mp (hsets _ (List.mem_of_getElem? (i := 99) rfl)))))⟩ : BD s s.heap _ _)
  have bz7 : BD s s.heap A_z7 (7 : Int64) := (⟨Exa.start ez7 (Cond.before_iff.mp (hsets _ (List.mem_of_getElem? (i := 105) rfl))), Fld.start ((fld_at ez7).symm.trans (own_eqint (Cond.before_iff.mp (hsets _ (List.mem_of_getElem? (i := 106) rfl))))), Fld.start ((fld_at ez7).symm.trans (own_eqlong (Cond.before_iff.mp (hsets _ (List.mem_of_getElem? (i := 107) rfl)))))⟩ : BD s s.heap _ _)
  have bz8 : BD s s.heap A_z8 (8 : Int64) := (⟨Exa.start ez8 (Cond.before_iff.mp (hsets _ (List.mem_of_getElem? (i := 113) rfl))), Fld.start ((fld_at ez8).symm.trans (own_eqint (Cond.before_iff.mp (hsets _ (List.mem_of_getElem? (i := 114) rfl))))), Fld.start ((fld_at ez8).symm.trans (own_eqlong (Cond.before_iff.mp (hsets _ (List.mem_of_getElem? (i := 115) rfl)))))⟩ : BD s s.heap _ _)
  have bz9 : BD s s.heap A_z9 (9 : Int64) := (⟨Exa.start ez9 (Cond.before_iff.mp (hsets _ (List.mem_of_getElem? (i := 121) rfl))), Fld.start ((fld_at ez9).symm.trans (own_eqint (Cond.before_iff.mp (hsets _ (List.mem_of_getElem? (i := 122) rfl))))), Fld.start ((fld_at ez9).symm.trans (own_eqlong (Cond.before_iff.mp (hsets _ (List.mem_of_getElem? (i := 123) rfl)))))⟩ : BD s s.heap _ _)
  have bz10 : BD s s.heap A_z10 (10 : Int64) := (⟨Exa.start ez10 (Cond.before_iff.mp (hsets _ (List.mem_of_getElem? (i := 130) rfl))), Fld.start ((fld_at ez10).symm.trans (own_eqint (Cond.before_iff.mp (hsets _ (List.mem_of_getElem? (i := 131) rfl))))), Fld.start ((fld_at ez10).symm.trans (own_eqlong (Cond.before_iff.mp (hsets _ (List.mem_of_getElem? (i := 132) rfl)))))⟩ : BD s s.heap _ _)
  have B18 : ∀ i, i < 11 → BD s s.heap ([A_z0, A_z1, A_z2, A_z3, A_z4, A_z5, A_z6, A_z7, A_z8, A_z9, A_z10].getD i 0) (Int64.ofNat i) := fun i hi => match i, hi with | 0, _ => bz0 | 1, _ => bz1 | 2, _ => bz2 | 3, _ => bz3 | 4, _ => bz4 | 5, _ => bz5 | 6, _ => bz6 | 7, _ => bz7 | 8, _ => bz8 | 9, _ => bz9 | 10, _ => bz10 | n + 11, h => absurd h (by omega)
  obtain ⟨A_zr, e19⟩ := exa_v (Cond.before_iff.mp (hsets _ (List.mem_of_getElem? (i := 13) rfl)))
  have B20 : Sta s s.heap "java/math/BigDecimal" "ZERO" "Ljava/math/BigDecimal;" (.ref A_zr) := Sta.start e19 (Or.inl (hsets _ (List.mem_of_getElem? (i := 10) rfl)))
  have B21 : BD s s.heap A_zr (0 : Int64) := (⟨Exa.start e19 (Cond.before_iff.mp (hsets _ (List.mem_of_getElem? (i := 13) rfl))), Fld.start ((fld_at e19).symm.trans (own_eqint (Cond.before_iff.mp (hsets _ (List.mem_of_getElem? (i := 14) rfl))))), Fld.start ((fld_at e19).symm.trans (own_eqlong (Cond.before_iff.mp (hsets _ (List.mem_of_getElem? (i := 15) rfl)))))⟩ : BD s s.heap _ _)
  obtain ⟨n, o, h1, h2, h3, _, L, rfl, ⟨rfl, N, _⟩, hq⟩ := rm_law l s _ hw tables_1 i0 i1 i2 i3 i4 A_oD cl_oD.cls A_zt cl_zt.cls [A_z0, A_z1, A_z2, A_z3, A_z4, A_z5, A_z6, A_z7, A_z8, A_z9, A_z10] A_zr s.heap s.heap.size (Nat.le_refl _) (Old.start s) B12 B13 B15 B16 B17 B18 B20 B21 p e ha hc hk s m _ below hf ((Spec.applies_iff_loose hf).mp happ).1 ⟨rfl, State.Warmed39.refl s, rfl⟩ trivial
  refine ⟨n, _, h1, h2, h3, hpost _ _ _ _ _ _ ⟨Cond.after_iff.mpr rfl, Cond.after_iff.mpr (eq_i res_at (Term.int_eval (1)) rfl), trivial⟩ ⟨hq.1, hq.2.1, (hq.2.2.sift fun y hy => Or.inr (N y hy)).mono (by decide) (by decide)⟩⟩
theorem main_1_1 : Claimed_1_1 := comes_1 fun _ _ _ _ _ _ h hF => ⟨h.1, hF⟩
theorem main_1_2 : Claimed_1_2 := comes_1 fun _ _ _ _ _ _ h hF => ⟨h.2.1, hF⟩

end Jvm.Pilot.@@N@@
namespace Jvm.Pilot.@@N@@
open Jvm Jvm.ClassFile Sem Op Lib Jvm.Free Jvm.Stand Jvm.Pilot.@@N@@.Jvm.D
/-! MADE BY PROGRAM (witnessworld.py) out of the Statement's table words and the real class files: 29 classes; the members and pool entries that the words name. The judged class is class 1, her method 1. -/
namespace start1
open Jvm.ClassFile
def u (s : String) : CpInfo := .utf8 (stringToUtf16 s)
/-- a pool by its gaps: so many unusable entries, then the entry; so many at the end -/
def gap : Nat → List CpInfo → List CpInfo
  | 0, r => r
  | n + 1, r => .unusable :: gap n r
def poolList (es : List (Nat × CpInfo)) (last : Nat) : List CpInfo := es.foldr (fun e r => gap e.1 (e.2 :: r)) (gap last [])
def pool (es : List (Nat × CpInfo)) (last : Nat) : Array CpInfo := ⟨poolList es last⟩
def fileOf (pool : Array CpInfo) (this : Nat) (attrs : Array Attribute := #[]) (ms : Array MethodInfo := #[]) (fl : Nat := 33) (sup : Nat := 0) (ifs : Array Nat := #[]) (fds : Array FieldInfo := #[]) : ClassFile where
  minorVersion := 0
  majorVersion := 65
  constantPool := pool
  accessFlags := fl
  thisClass := this
  superClass := sup
  interfaces := ifs
  fields := fds
  methods := ms
  attributes := attrs
def plain (name : String) (sup : Option ClassId) : Class where
  name := name
  kind := .ordinary
  loader := none
  accessFlags := 33
  super := sup
  interfaces := #[]
  cf := none
  fields := #[]
  methods := #[]
  instanceTypes := #[]
  staticTypes := #[]
  resolved := #[]
  callSites := []
  init := .initialized
  statics := none
  mirror := none

def pool0 : Array CpInfo := pool [(5, u "<init>"), (0, u "()V"), (1, .class_ 10), (1, u "java/lang/Object")] 113

def k0c0 : Code := { maxStack := 0, maxLocals := 1, code := object_method_1_code, exceptionTable := #[], attributes := #[] }
def k0m0 : Method := { name := "<init>", desc := "()V", sig := { parameters := [], returnType := none }, accessFlags := 1, code := some k0c0 }
/-- java/lang/Object -/
def k0 : Class := { plain "java/lang/Object" none with
  accessFlags := 33
  interfaces := #[]
  cf := some (fileOf pool0 8 #[] #[{ accessFlags := 1, nameIndex := 5, descriptorIndex := 6, attributes := #[] }] 33 0 #[] #[])
  fields := #[]
  methods := #[k0m0]
  instanceTypes := #[]
  staticTypes := #[]
  resolved := Array.replicate 124 none
  statics := none }

def pool1 : Array CpInfo := pool [(2, .class_ 4), (0, .nameAndType 5 6), (0, u "java/lang/Object"), (0, u "<init>"), (0, u "()V"), (0, .class_ 8), (0, u "java/util/ArrayList"), (0, .methodref 7 3), (0, .methodref 11 12), (0, .class_ 13), (0, .nameAndType 14 15), (0, u "java/math/BigDecimal"), (0, u "valueOf"), (0, u "(J)Ljava/math/BigDecimal;"), (0, .methodref 7 17), (0, .nameAndType 18 19), (0, u "add"), (0, u "(Ljava/lang/Object;)Z"), (0, .methodref 21 22), (0, .class_ 23), (0, .nameAndType 24 25), (0, u "com/example/vestline/vestline/finalaveragepay/BestPeriods"), (0, u "total"), (0, u "(Ljava/util/List;II)Ljava/math/BigDecimal;"), (0, .methodref 27 28), (0, .class_ 29), (0, .nameAndType 30 31), (0, u "com/example/vestline/vestline/finalaveragepay/BestPeriodsTotalPinLaw"), (0, u "reference"), (0, u "([JIII)J"), (0, .methodref 11 33), (0, .nameAndType 34 35), (0, u "compareTo"), (0, u "(Ljava/math/BigDecimal;)I"), (0, .methodref 27 37), (0, .nameAndType 38 39), (0, u "w"), (0, u "([JII)J"), (0, .methodref 41 42), (0, .class_ 43), (0, .nameAndType 44 45), (0, u "java/lang/Math"), (0, u "max"), (0, u "(JJ)J"), (0, .methodref 27 47), (0, .nameAndType 48 49), (0, u "one"), (0, u "([JIIIJ)J"), (0, .methodref 27 51), (0, .nameAndType 52 53), (0, u "two"), (0, u "([JIIIIJ)J"), (0, .methodref 41 55), (0, .nameAndType 56 45), (0, u "min"), (2, u "law"), (0, u "(IIIII)Z")] 5

def k1m0 : Method := { name := "<init>", desc := "()V", sig := { parameters := [], returnType := none }, accessFlags := 2, code := none }
def k1c1 : Code := { maxStack := 5, maxLocals := 13, code := code, exceptionTable := #[], attributes := #[] }
def k1m1 : Method := { name := "law", desc := "(IIIII)Z", sig := { parameters := [.int, .int, .int, .int, .int], returnType := some .boolean }, accessFlags := 9, code := some k1c1 }
def k1c2 : Code := { maxStack := 5, maxLocals := 5, code := method_3_code, exceptionTable := #[], attributes := #[] }
def k1m2 : Method := { name := "w", desc := "([JII)J", sig := { parameters := [(.array .long), .int, .int], returnType := some .long }, accessFlags := 10, code := some k1c2 }
def k1c3 : Code := { maxStack := 5, maxLocals := 6, code := method_4_code, exceptionTable := #[], attributes := #[] }
def k1m3 : Method := { name := "one", desc := "([JIIIJ)J", sig := { parameters := [(.array .long), .int, .int, .int, .long], returnType := some .long }, accessFlags := 10, code := some k1c3 }
def k1c4 : Code := { maxStack := 7, maxLocals := 7, code := method_5_code, exceptionTable := #[], attributes := #[] }
def k1m4 : Method := { name := "two", desc := "([JIIIIJ)J", sig := { parameters := [(.array .long), .int, .int, .int, .int, .long], returnType := some .long }, accessFlags := 10, code := some k1c4 }
def k1c5 : Code := { maxStack := 8, maxLocals := 6, code := method_6_code, exceptionTable := #[], attributes := #[] }
def k1m5 : Method := { name := "reference", desc := "([JIII)J", sig := { parameters := [(.array .long), .int, .int, .int], returnType := some .long }, accessFlags := 10, code := some k1c5 }
/-- com/example/vestline/vestline/finalaveragepay/BestPeriodsTotalPinLaw -/
def k1 : Class := { plain "com/example/vestline/vestline/finalaveragepay/BestPeriodsTotalPinLaw" (some 0) with
  accessFlags := 49
  interfaces := #[]
  cf := some (fileOf pool1 27 #[] #[{ accessFlags := 2, nameIndex := 5, descriptorIndex := 6, attributes := #[] }, { accessFlags := 9, nameIndex := 59, descriptorIndex := 60, attributes := #[] }, { accessFlags := 10, nameIndex := 38, descriptorIndex := 39, attributes := #[] }, { accessFlags := 10, nameIndex := 48, descriptorIndex := 49, attributes := #[] }, { accessFlags := 10, nameIndex := 52, descriptorIndex := 53, attributes := #[] }, { accessFlags := 10, nameIndex := 30, descriptorIndex := 31, attributes := #[] }] 49 2 #[] #[])
  fields := #[]
  methods := #[k1m0, k1m1, k1m2, k1m3, k1m4, k1m5]
  instanceTypes := #[]
  staticTypes := #[]
  resolved := Array.replicate 66 none
  statics := none }

def pool2 : Array CpInfo := pool [(8, .class_ 10), (1, u "java/lang/Iterable"), (24, .class_ 36), (0, u "java/lang/Object")] 25

/-- java/lang/Iterable -/
def k2 : Class := { plain "java/lang/Iterable" (some 0) with
  accessFlags := 1537
  interfaces := #[]
  cf := some (fileOf pool2 8 #[] #[] 1537 35 #[] #[])
  fields := #[]
  methods := #[]
  instanceTypes := #[]
  staticTypes := #[]
  resolved := Array.replicate 62 none
  statics := none }

def pool3 : Array CpInfo := pool [(10, .class_ 12), (1, u "java/util/Collection"), (47, .class_ 61), (0, u "java/lang/Object"), (0, .class_ 63), (0, u "java/lang/Iterable")] 51

/-- java/util/Collection -/
def k3 : Class := { plain "java/util/Collection" (some 0) with
  accessFlags := 1537
  interfaces := #[2]
  cf := some (fileOf pool3 10 #[] #[] 1537 60 #[62] #[])
  fields := #[]
  methods := #[]
  instanceTypes := #[]
  staticTypes := #[]
  resolved := Array.replicate 115 none
  statics := none }

def pool4 : Array CpInfo := pool [(1, .methodref 2 3), (0, .class_ 4), (0, .nameAndType 5 6), (0, u "java/lang/Object"), (0, u "<init>"), (0, u "()V"), (1, .class_ 10), (1, u "java/util/AbstractCollection"), (66, .class_ 78), (0, u "java/util/Collection")] 81

def k4c0 : Code := { maxStack := 1, maxLocals := 1, code := jdk_22_method_1_code, exceptionTable := #[], attributes := #[] }
def k4m0 : Method := { name := "<init>", desc := "()V", sig := { parameters := [], returnType := none }, accessFlags := 4, code := some k4c0 }
/-- java/util/AbstractCollection -/
def k4 : Class := { plain "java/util/AbstractCollection" (some 0) with
  accessFlags := 1057
  interfaces := #[3]
  cf := some (fileOf pool4 8 #[] #[{ accessFlags := 4, nameIndex := 5, descriptorIndex := 6, attributes := #[] }] 1057 2 #[77] #[])
  fields := #[]
  methods := #[k4m0]
  instanceTypes := #[]
  staticTypes := #[]
  resolved := Array.replicate 160 none
  statics := none }

def pool5 : Array CpInfo := pool [(8, .class_ 10), (1, u "java/util/SequencedCollection"), (15, .class_ 27), (0, u "java/lang/Object"), (0, .class_ 29), (0, u "java/util/Collection")] 27

/-- java/util/SequencedCollection -/
def k5 : Class := { plain "java/util/SequencedCollection" (some 0) with
  accessFlags := 1537
  interfaces := #[3]
  cf := some (fileOf pool5 8 #[] #[] 1537 26 #[28] #[])
  fields := #[]
  methods := #[]
  instanceTypes := #[]
  staticTypes := #[]
  resolved := Array.replicate 57 none
  statics := none }

def pool6 : Array CpInfo := pool [(8, .class_ 10), (1, u "java/util/List"), (64, u "get"), (0, u "(I)Ljava/lang/Object;"), (2, u "size"), (0, u "()I"), (22, .class_ 104), (0, u "java/lang/Object"), (15, .class_ 121), (0, u "java/util/SequencedCollection")] 129

def k6m0 : Method := { name := "size", desc := "()I", sig := { parameters := [], returnType := some .int }, accessFlags := 1025, code := none }
def k6m1 : Method := { name := "get", desc := "(I)Ljava/lang/Object;", sig := { parameters := [.int], returnType := some (.object "java/lang/Object") }, accessFlags := 1025, code := none }
/-- java/util/List -/
def k6 : Class := { plain "java/util/List" (some 0) with
  accessFlags := 1537
  interfaces := #[5]
  cf := some (fileOf pool6 8 #[] #[{ accessFlags := 1025, nameIndex := 79, descriptorIndex := 80, attributes := #[] }, { accessFlags := 1025, nameIndex := 75, descriptorIndex := 76, attributes := #[] }] 1537 103 #[120] #[])
  fields := #[]
  methods := #[k6m0, k6m1]
  instanceTypes := #[]
  staticTypes := #[]
  resolved := Array.replicate 251 none
  statics := none }

def pool7 : Array CpInfo := pool [(1, .methodref 2 3), (0, .class_ 4), (0, .nameAndType 5 6), (0, u "java/util/AbstractCollection"), (0, u "<init>"), (0, u "()V"), (0, .fieldref 8 9), (0, .class_ 10), (0, .nameAndType 11 12), (0, u "java/util/AbstractList"), (0, u "modCount"), (0, u "I"), (64, .class_ 78), (0, u "java/util/AbstractList$Itr"), (3, .class_ 83), (0, u "java/util/AbstractList$ListItr"), (9, .class_ 94), (0, u "java/util/AbstractList$RandomAccessSubList"), (3, .class_ 99), (0, u "java/util/AbstractList$SubList"), (33, .class_ 134), (0, u "java/util/List"), (73, .class_ 209), (0, u "java/util/AbstractList$SubList$1"), (0, .class_ 211), (0, u "java/util/AbstractList$RandomAccessSpliterator")] 6

def k7c0 : Code := { maxStack := 2, maxLocals := 1, code := jdk_39_method_1_code, exceptionTable := #[], attributes := #[] }
def k7m0 : Method := { name := "<init>", desc := "()V", sig := { parameters := [], returnType := none }, accessFlags := 4, code := some k7c0 }
/-- java/util/AbstractList -/
def k7 : Class := { plain "java/util/AbstractList" (some 4) with
  accessFlags := 1057
  interfaces := #[6]
  cf := some (fileOf pool7 8 #[.nestMembers #[93, 98, 208, 210, 82, 77]] #[{ accessFlags := 4, nameIndex := 5, descriptorIndex := 6, attributes := #[] }] 1057 2 #[133] #[{ accessFlags := 132, nameIndex := 11, descriptorIndex := 12, attributes := #[] }])
  fields := #[{ name := "modCount", type := .int, accessFlags := 132, slot := 0, constantValue := 0 }]
  methods := #[k7m0]
  instanceTypes := #[.int]
  staticTypes := #[]
  resolved := Array.replicate 218 none
  statics := none }

def pool8 : Array CpInfo := pool [(1, .class_ 2), (0, u "java/util/RandomAccess"), (0, .class_ 4), (0, u "java/lang/Object")] 2

/-- java/util/RandomAccess -/
def k8 : Class := { plain "java/util/RandomAccess" (some 0) with
  accessFlags := 1537
  interfaces := #[]
  cf := some (fileOf pool8 1 #[] #[] 1537 3 #[] #[])
  fields := #[]
  methods := #[]
  instanceTypes := #[]
  staticTypes := #[]
  resolved := Array.replicate 7 none
  statics := none }

def pool9 : Array CpInfo := pool [(1, .class_ 2), (0, u "java/lang/Cloneable"), (0, .class_ 4), (0, u "java/lang/Object")] 2

/-- java/lang/Cloneable -/
def k9 : Class := { plain "java/lang/Cloneable" (some 0) with
  accessFlags := 1537
  interfaces := #[]
  cf := some (fileOf pool9 1 #[] #[] 1537 3 #[] #[])
  fields := #[]
  methods := #[]
  instanceTypes := #[]
  staticTypes := #[]
  resolved := Array.replicate 7 none
  statics := none }

def pool10 : Array CpInfo := pool [(1, .class_ 2), (0, u "java/io/Serializable"), (0, .class_ 4), (0, u "java/lang/Object")] 2

/-- java/io/Serializable -/
def k10 : Class := { plain "java/io/Serializable" (some 0) with
  accessFlags := 1537
  interfaces := #[]
  cf := some (fileOf pool10 1 #[] #[] 1537 3 #[] #[])
  fields := #[]
  methods := #[]
  instanceTypes := #[]
  staticTypes := #[]
  resolved := Array.replicate 7 none
  statics := none }

def pool11 : Array CpInfo := pool [(1, .methodref 2 3), (0, .class_ 4), (0, .nameAndType 5 6), (0, u "java/util/AbstractList"), (0, u "<init>"), (0, u "()V"), (0, .class_ 8), (0, u "java/lang/Object"), (0, .fieldref 10 11), (0, .class_ 12), (0, .nameAndType 13 14), (0, u "java/util/ArrayList"), (0, u "elementData"), (0, u "[Ljava/lang/Object;"), (2, u "EMPTY_ELEMENTDATA"), (21, .fieldref 10 40), (0, .nameAndType 41 14), (0, u "DEFAULTCAPACITY_EMPTY_ELEMENTDATA"), (5, u "()[Ljava/lang/Object;"), (0, .fieldref 10 49), (0, .nameAndType 50 51), (0, u "size"), (0, u "I"), (11, .fieldref 10 64), (0, .nameAndType 65 51), (0, u "modCount"), (3, .methodref 10 70), (0, .nameAndType 71 72), (0, u "grow"), (0, u "(I)[Ljava/lang/Object;"), (6, .methodref 80 81), (0, .class_ 82), (0, .nameAndType 83 84), (0, u "java/lang/Math"), (0, u "max"), (0, u "(II)I"), (11, u "(Ljava/lang/Object;)Z"), (21, .methodref 119 120), (0, .class_ 121), (0, .nameAndType 122 84), (0, u "java/util/Objects"), (0, u "checkIndex"), (0, .methodref 10 124), (0, .nameAndType 13 125), (0, u "(I)Ljava/lang/Object;"), (3, .methodref 10 130), (0, .nameAndType 71 47), (0, .methodref 10 132), (0, .nameAndType 133 134), (0, u "add"), (0, u "(Ljava/lang/Object;[Ljava/lang/Object;I)V"), (13, .class_ 149), (0, u "java/util/List"), (36, u "()I"), (75, .class_ 263), (0, u "java/util/ArrayList$ListItr"), (3, .class_ 268), (0, u "java/util/ArrayList$Itr"), (7, .class_ 277), (0, u "java/util/ArrayList$SubList"), (12, .class_ 291), (0, u "java/util/ArrayList$ArrayListSpliterator"), (37, .class_ 330), (0, u "java/util/RandomAccess"), (0, .class_ 332), (0, u "java/lang/Cloneable"), (0, .class_ 334), (0, u "java/io/Serializable"), (0, u "serialVersionUID"), (0, u "J"), (3, u "DEFAULT_CAPACITY"), (40, u "get"), (118, .class_ 501), (0, u "java/util/ArrayList$SubList$2"), (0, .class_ 503), (0, u "java/util/ArrayList$SubList$1")] 5

def k11c0 : Code := { maxStack := 2, maxLocals := 1, code := jdk_38_method_2_code, exceptionTable := #[], attributes := #[] }
def k11m0 : Method := { name := "<init>", desc := "()V", sig := { parameters := [], returnType := none }, accessFlags := 1, code := some k11c0 }
def k11c1 : Code := { maxStack := 4, maxLocals := 4, code := jdk_38_method_6_code, exceptionTable := #[], attributes := #[] }
def k11m1 : Method := { name := "grow", desc := "(I)[Ljava/lang/Object;", sig := { parameters := [.int], returnType := some (.array (.object "java/lang/Object")) }, accessFlags := 2, code := some k11c1 }
def k11c2 : Code := { maxStack := 3, maxLocals := 1, code := jdk_38_method_7_code, exceptionTable := #[], attributes := #[] }
def k11m2 : Method := { name := "grow", desc := "()[Ljava/lang/Object;", sig := { parameters := [], returnType := some (.array (.object "java/lang/Object")) }, accessFlags := 2, code := some k11c2 }
def k11c3 : Code := { maxStack := 1, maxLocals := 1, code := jdk_38_method_8_code, exceptionTable := #[], attributes := #[] }
def k11m3 : Method := { name := "size", desc := "()I", sig := { parameters := [], returnType := some .int }, accessFlags := 1, code := some k11c3 }
def k11c4 : Code := { maxStack := 2, maxLocals := 2, code := jdk_38_method_18_code, exceptionTable := #[], attributes := #[] }
def k11m4 : Method := { name := "elementData", desc := "(I)Ljava/lang/Object;", sig := { parameters := [.int], returnType := some (.object "java/lang/Object") }, accessFlags := 0, code := some k11c4 }
def k11c5 : Code := { maxStack := 2, maxLocals := 2, code := jdk_38_method_20_code, exceptionTable := #[], attributes := #[] }
def k11m5 : Method := { name := "get", desc := "(I)Ljava/lang/Object;", sig := { parameters := [.int], returnType := some (.object "java/lang/Object") }, accessFlags := 1, code := some k11c5 }
def k11c6 : Code := { maxStack := 3, maxLocals := 4, code := jdk_38_method_24_code, exceptionTable := #[], attributes := #[] }
def k11m6 : Method := { name := "add", desc := "(Ljava/lang/Object;[Ljava/lang/Object;I)V", sig := { parameters := [(.object "java/lang/Object"), (.array (.object "java/lang/Object")), .int], returnType := none }, accessFlags := 2, code := some k11c6 }
def k11c7 : Code := { maxStack := 4, maxLocals := 2, code := jdk_38_method_25_code, exceptionTable := #[], attributes := #[] }
def k11m7 : Method := { name := "add", desc := "(Ljava/lang/Object;)Z", sig := { parameters := [(.object "java/lang/Object")], returnType := some .boolean }, accessFlags := 1, code := some k11c7 }
/-- java/util/ArrayList -/
def k11 : Class := { plain "java/util/ArrayList" (some 7) with
  accessFlags := 33
  interfaces := #[6, 8, 9, 10]
  cf := some (fileOf pool11 10 #[.nestMembers #[290, 276, 500, 502, 262, 267]] #[{ accessFlags := 1, nameIndex := 5, descriptorIndex := 6, attributes := #[] }, { accessFlags := 2, nameIndex := 71, descriptorIndex := 72, attributes := #[] }, { accessFlags := 2, nameIndex := 71, descriptorIndex := 47, attributes := #[] }, { accessFlags := 1, nameIndex := 50, descriptorIndex := 186, attributes := #[] }, { accessFlags := 0, nameIndex := 13, descriptorIndex := 125, attributes := #[] }, { accessFlags := 1, nameIndex := 381, descriptorIndex := 125, attributes := #[] }, { accessFlags := 2, nameIndex := 133, descriptorIndex := 134, attributes := #[] }, { accessFlags := 1, nameIndex := 133, descriptorIndex := 96, attributes := #[] }] 33 2 #[148, 329, 331, 333] #[{ accessFlags := 26, nameIndex := 335, descriptorIndex := 336, attributes := #[] }, { accessFlags := 26, nameIndex := 340, descriptorIndex := 51, attributes := #[] }, { accessFlags := 26, nameIndex := 17, descriptorIndex := 14, attributes := #[] }, { accessFlags := 26, nameIndex := 41, descriptorIndex := 14, attributes := #[] }, { accessFlags := 128, nameIndex := 13, descriptorIndex := 14, attributes := #[] }, { accessFlags := 2, nameIndex := 50, descriptorIndex := 51, attributes := #[] }])
  fields := #[{ name := "serialVersionUID", type := .long, accessFlags := 26, slot := 0, constantValue := 0 }, { name := "DEFAULT_CAPACITY", type := .int, accessFlags := 26, slot := 1, constantValue := 0 }, { name := "EMPTY_ELEMENTDATA", type := (.array (.object "java/lang/Object")), accessFlags := 26, slot := 2, constantValue := 0 }, { name := "DEFAULTCAPACITY_EMPTY_ELEMENTDATA", type := (.array (.object "java/lang/Object")), accessFlags := 26, slot := 3, constantValue := 0 }, { name := "elementData", type := (.array (.object "java/lang/Object")), accessFlags := 128, slot := 1, constantValue := 0 }, { name := "size", type := .int, accessFlags := 2, slot := 2, constantValue := 0 }]
  methods := #[k11m0, k11m1, k11m2, k11m3, k11m4, k11m5, k11m6, k11m7]
  instanceTypes := #[.int, (.array (.object "java/lang/Object")), .int]
  staticTypes := #[.long, .int, (.array (.object "java/lang/Object")), (.array (.object "java/lang/Object"))]
  resolved := Array.replicate 509 none
  statics := some 0 }

def pool12 : Array CpInfo := pool [(2, .class_ 4), (1, u "java/lang/Object"), (0, u "<init>"), (0, u "()V"), (0, .interfaceMethodref 8 9), (0, .class_ 10), (0, .nameAndType 11 12), (0, u "java/util/List"), (0, u "size"), (0, u "()I"), (0, .class_ 14), (0, u "java/math/BigDecimal"), (0, .fieldref 13 16), (0, .nameAndType 17 18), (0, u "ZERO"), (0, u "Ljava/math/BigDecimal;"), (0, .interfaceMethodref 8 20), (0, .nameAndType 21 22), (0, u "get"), (0, u "(I)Ljava/lang/Object;"), (0, .methodref 13 24), (0, .nameAndType 25 26), (0, u "add"), (0, u "(Ljava/math/BigDecimal;)Ljava/math/BigDecimal;"), (0, .methodref 28 29), (0, .class_ 30), (0, .nameAndType 31 32), (0, u "java/util/Arrays"), (0, u "fill"), (0, u "([Ljava/lang/Object;Ljava/lang/Object;)V"), (0, .methodref 13 34), (0, .nameAndType 35 26), (0, u "subtract"), (0, .methodref 13 37), (0, .nameAndType 38 26), (0, u "max"), (0, .class_ 40), (0, u "com/example/vestline/vestline/finalaveragepay/BestPeriods"), (2, u "total"), (0, u "(Ljava/util/List;II)Ljava/math/BigDecimal;")] 7

def k12m0 : Method := { name := "<init>", desc := "()V", sig := { parameters := [], returnType := none }, accessFlags := 2, code := none }
def k12c1 : Code := { maxStack := 5, maxLocals := 10, code := prog_2_method_2_code, exceptionTable := #[], attributes := #[] }
def k12m1 : Method := { name := "total", desc := "(Ljava/util/List;II)Ljava/math/BigDecimal;", sig := { parameters := [(.object "java/util/List"), .int, .int], returnType := some (.object "java/math/BigDecimal") }, accessFlags := 9, code := some k12c1 }
/-- com/example/vestline/vestline/finalaveragepay/BestPeriods -/
def k12 : Class := { plain "com/example/vestline/vestline/finalaveragepay/BestPeriods" (some 0) with
  accessFlags := 49
  interfaces := #[]
  cf := some (fileOf pool12 39 #[] #[{ accessFlags := 2, nameIndex := 5, descriptorIndex := 6, attributes := #[] }, { accessFlags := 9, nameIndex := 43, descriptorIndex := 44, attributes := #[] }] 49 2 #[] #[])
  fields := #[]
  methods := #[k12m0, k12m1]
  instanceTypes := #[]
  staticTypes := #[]
  resolved := Array.replicate 52 none
  statics := none }

def pool13 : Array CpInfo := pool [(1, .methodref 2 3), (0, .class_ 4), (0, .nameAndType 5 6), (0, u "java/lang/Object"), (0, u "<init>"), (0, u "()V"), (1, .class_ 10), (1, u "java/lang/Number"), (2, .class_ 14), (0, u "java/io/Serializable"), (0, u "serialVersionUID"), (0, u "J")] 20

def k13c0 : Code := { maxStack := 1, maxLocals := 1, code := jdk_18_method_1_code, exceptionTable := #[], attributes := #[] }
def k13m0 : Method := { name := "<init>", desc := "()V", sig := { parameters := [], returnType := none }, accessFlags := 1, code := some k13c0 }
/-- java/lang/Number -/
def k13 : Class := { plain "java/lang/Number" (some 0) with
  accessFlags := 1057
  interfaces := #[10]
  cf := some (fileOf pool13 8 #[] #[{ accessFlags := 1, nameIndex := 5, descriptorIndex := 6, attributes := #[] }] 1057 2 #[13] #[{ accessFlags := 26, nameIndex := 15, descriptorIndex := 16, attributes := #[] }])
  fields := #[{ name := "serialVersionUID", type := .long, accessFlags := 26, slot := 0, constantValue := 0 }]
  methods := #[k13m0]
  instanceTypes := #[]
  staticTypes := #[.long]
  resolved := Array.replicate 37 none
  statics := none }

def pool14 : Array CpInfo := pool [(1, .class_ 2), (0, u "java/lang/Comparable"), (0, .class_ 4), (0, u "java/lang/Object")] 7

/-- java/lang/Comparable -/
def k14 : Class := { plain "java/lang/Comparable" (some 0) with
  accessFlags := 1537
  interfaces := #[]
  cf := some (fileOf pool14 1 #[] #[] 1537 3 #[] #[])
  fields := #[]
  methods := #[]
  instanceTypes := #[]
  staticTypes := #[]
  resolved := Array.replicate 12 none
  statics := none }

def pool15 : Array CpInfo := pool [(3, .class_ 4), (0, u "java/math/BigDecimal"), (6, .methodref 12 13), (0, .class_ 14), (0, .nameAndType 15 16), (0, u "java/lang/Number"), (0, u "<init>"), (0, u "()V"), (0, .fieldref 3 18), (0, .nameAndType 19 20), (0, u "scale"), (0, u "I"), (0, .fieldref 3 22), (0, .nameAndType 23 20), (0, u "precision"), (0, .fieldref 3 25), (0, .nameAndType 26 27), (0, u "intCompact"), (0, u "J"), (0, .fieldref 3 29), (0, .nameAndType 30 31), (0, u "intVal"), (0, u "Ljava/math/BigInteger;"), (65, u "LONG_TEN_POWERS_TABLE"), (0, u "[J"), (26, .long 9223372036854775808), (61, u "ZERO"), (2, u "INFLATED_BIGINT"), (4, u "valueOf"), (10, u "TWO"), (29, .methodref 3 237), (0, .nameAndType 195 238), (0, u "(J)Ljava/math/BigDecimal;"), (4, .methodref 3 244), (0, .nameAndType 15 245), (0, u "(Ljava/math/BigInteger;JII)V"), (0, .fieldref 3 247), (0, .nameAndType 248 249), (0, u "ZERO_THROUGH_TEN"), (0, u "[Ljava/math/BigDecimal;"), (2, u "ZERO_SCALED_BY"), (4, .methodref 3 258), (0, .nameAndType 259 260), (0, u "add"), (0, u "(JIJI)Ljava/math/BigDecimal;"), (8, u "(Ljava/math/BigDecimal;)Ljava/math/BigDecimal;"), (9, u "max"), (33, u "$assertionsDisabled"), (0, u "Z"), (7, u "(JJ)J"), (5, .methodref 3 329), (0, .nameAndType 195 330), (0, u "(JI)Ljava/math/BigDecimal;"), (5, u "subtract"), (7, u "(JJI)Ljava/math/BigDecimal;"), (94, u "(Ljava/math/BigDecimal;)I"), (38, u "ONE_TENTH"), (0, u "Ljava/math/BigDecimal;"), (0, .methodref 3 481), (0, .nameAndType 482 439), (0, u "compareTo"), (2, u "TEN"), (14, .class_ 502), (1, u "java/math/BigDecimal$1"), (15, u "ONE_HALF"), (16, u "ONE"), (107, u "stringCache"), (0, u "Ljava/lang/String;"), (52, .class_ 699), (1, u "java/math/BigDecimal$LongOverflow"), (8, u "FLOAT_10_POW"), (0, u "[F"), (39, u "DOUBLE_10_POW"), (0, u "[D"), (19, .class_ 772), (1, u "java/math/BigDecimal$StringBuilderHelper"), (35, u "BIG_TEN_POWERS_TABLE_MAX"), (2, u "BIG_TEN_POWERS_TABLE"), (0, u "[Ljava/math/BigInteger;"), (14, u "THRESHOLDS_TABLE"), (23, .class_ 853), (1, u "java/math/BigDecimal$UnsafeHolder"), (142, .methodref 3 997), (0, .nameAndType 259 322), (2, .methodref 3 1001), (0, .nameAndType 259 344), (66, u "LONGLONG_TEN_POWERS_TABLE"), (0, u "[[J"), (112, u "BIG_TEN_POWERS_TABLE_INITLEN"), (113, .class_ 1297), (0, u "java/lang/Comparable"), (0, u "L"), (0, u "D"), (1, u "P_F"), (1, u "Q_MIN_F"), (1, u "Q_MAX_F"), (1, u "P_D"), (1, u "Q_MIN_D"), (1, u "Q_MAX_D"), (1, u "INFLATED"), (0, u "MAX_COMPACT_DIGITS"), (1, u "serialVersionUID"), (2, u "HALF_LONG_MAX_VALUE"), (0, u "HALF_LONG_MIN_VALUE"), (0, u "ROUND_UP"), (6, u "ROUND_DOWN"), (1, u "ROUND_CEILING"), (1, u "ROUND_FLOOR"), (1, u "ROUND_HALF_UP"), (1, u "ROUND_HALF_DOWN"), (1, u "ROUND_HALF_EVEN"), (1, u "ROUND_UNNECESSARY"), (1, u "DIV_NUM_BASE")] 294

def k15c0 : Code := { maxStack := 3, maxLocals := 6, code := jdk_17_method_1_code, exceptionTable := #[], attributes := #[] }
def k15m0 : Method := { name := "<init>", desc := "(Ljava/math/BigInteger;JII)V", sig := { parameters := [(.object "java/math/BigInteger"), .long, .int, .int], returnType := none }, accessFlags := 0, code := some k15c0 }
def k15c1 : Code := { maxStack := 7, maxLocals := 3, code := jdk_17_method_20_code, exceptionTable := #[], attributes := #[] }
def k15m1 : Method := { name := "valueOf", desc := "(JI)Ljava/math/BigDecimal;", sig := { parameters := [.long, .int], returnType := some (.object "java/math/BigDecimal") }, accessFlags := 9, code := some k15c1 }
def k15c2 : Code := { maxStack := 7, maxLocals := 2, code := jdk_17_method_21_code, exceptionTable := #[], attributes := #[] }
def k15m2 : Method := { name := "valueOf", desc := "(J)Ljava/math/BigDecimal;", sig := { parameters := [.long], returnType := some (.object "java/math/BigDecimal") }, accessFlags := 9, code := some k15c2 }
def k15c3 : Code := { maxStack := 6, maxLocals := 2, code := jdk_17_method_26_code, exceptionTable := #[], attributes := #[] }
def k15m3 : Method := { name := "add", desc := "(Ljava/math/BigDecimal;)Ljava/math/BigDecimal;", sig := { parameters := [(.object "java/math/BigDecimal")], returnType := some (.object "java/math/BigDecimal") }, accessFlags := 1, code := some k15c3 }
def k15c4 : Code := { maxStack := 6, maxLocals := 2, code := jdk_17_method_29_code, exceptionTable := #[], attributes := #[] }
def k15m4 : Method := { name := "subtract", desc := "(Ljava/math/BigDecimal;)Ljava/math/BigDecimal;", sig := { parameters := [(.object "java/math/BigDecimal")], returnType := some (.object "java/math/BigDecimal") }, accessFlags := 1, code := some k15c4 }
def k15c5 : Code := { maxStack := 4, maxLocals := 6, code := jdk_17_method_70_code, exceptionTable := #[], attributes := #[] }
def k15m5 : Method := { name := "compareTo", desc := "(Ljava/math/BigDecimal;)I", sig := { parameters := [(.object "java/math/BigDecimal")], returnType := some .int }, accessFlags := 1, code := some k15c5 }
def k15c6 : Code := { maxStack := 2, maxLocals := 2, code := jdk_17_method_74_code, exceptionTable := #[], attributes := #[] }
def k15m6 : Method := { name := "max", desc := "(Ljava/math/BigDecimal;)Ljava/math/BigDecimal;", sig := { parameters := [(.object "java/math/BigDecimal")], returnType := some (.object "java/math/BigDecimal") }, accessFlags := 1, code := some k15c6 }
def k15c7 : Code := { maxStack := 6, maxLocals := 6, code := jdk_17_method_132_code, exceptionTable := #[], attributes := #[] }
def k15m7 : Method := { name := "add", desc := "(JJ)J", sig := { parameters := [.long, .long], returnType := some .long }, accessFlags := 10, code := some k15c7 }
def k15c8 : Code := { maxStack := 5, maxLocals := 7, code := jdk_17_method_133_code, exceptionTable := #[], attributes := #[] }
def k15m8 : Method := { name := "add", desc := "(JJI)Ljava/math/BigDecimal;", sig := { parameters := [.long, .long, .int], returnType := some (.object "java/math/BigDecimal") }, accessFlags := 10, code := some k15c8 }
def k15c9 : Code := { maxStack := 7, maxLocals := 12, code := jdk_17_method_134_code, exceptionTable := #[], attributes := #[] }
def k15m9 : Method := { name := "add", desc := "(JIJI)Ljava/math/BigDecimal;", sig := { parameters := [.long, .int, .long, .int], returnType := some (.object "java/math/BigDecimal") }, accessFlags := 10, code := some k15c9 }
/-- java/math/BigDecimal -/
def k15 : Class := { plain "java/math/BigDecimal" (some 13) with
  accessFlags := 33
  interfaces := #[14]
  cf := some (fileOf pool15 3 #[.nestMembers #[500, 851, 770, 697]] #[{ accessFlags := 0, nameIndex := 15, descriptorIndex := 245, attributes := #[] }, { accessFlags := 9, nameIndex := 195, descriptorIndex := 330, attributes := #[] }, { accessFlags := 9, nameIndex := 195, descriptorIndex := 238, attributes := #[] }, { accessFlags := 1, nameIndex := 259, descriptorIndex := 269, attributes := #[] }, { accessFlags := 1, nameIndex := 336, descriptorIndex := 269, attributes := #[] }, { accessFlags := 1, nameIndex := 482, descriptorIndex := 439, attributes := #[] }, { accessFlags := 1, nameIndex := 279, descriptorIndex := 269, attributes := #[] }, { accessFlags := 10, nameIndex := 259, descriptorIndex := 322, attributes := #[] }, { accessFlags := 10, nameIndex := 259, descriptorIndex := 344, attributes := #[] }, { accessFlags := 10, nameIndex := 259, descriptorIndex := 260, attributes := #[] }] 33 12 #[1296] #[{ accessFlags := 26, nameIndex := 1298, descriptorIndex := 1299, attributes := #[] }, { accessFlags := 26, nameIndex := 1301, descriptorIndex := 20, attributes := #[] }, { accessFlags := 26, nameIndex := 1303, descriptorIndex := 20, attributes := #[] }, { accessFlags := 26, nameIndex := 1305, descriptorIndex := 20, attributes := #[] }, { accessFlags := 26, nameIndex := 1307, descriptorIndex := 20, attributes := #[] }, { accessFlags := 26, nameIndex := 1309, descriptorIndex := 20, attributes := #[] }, { accessFlags := 26, nameIndex := 1311, descriptorIndex := 20, attributes := #[] }, { accessFlags := 18, nameIndex := 30, descriptorIndex := 31, attributes := #[] }, { accessFlags := 18, nameIndex := 19, descriptorIndex := 20, attributes := #[] }, { accessFlags := 130, nameIndex := 23, descriptorIndex := 20, attributes := #[] }, { accessFlags := 130, nameIndex := 643, descriptorIndex := 644, attributes := #[] }, { accessFlags := 24, nameIndex := 1313, descriptorIndex := 27, attributes := #[] }, { accessFlags := 26, nameIndex := 190, descriptorIndex := 31, attributes := #[] }, { accessFlags := 146, nameIndex := 26, descriptorIndex := 27, attributes := #[] }, { accessFlags := 26, nameIndex := 1314, descriptorIndex := 20, attributes := #[] }, { accessFlags := 26, nameIndex := 1316, descriptorIndex := 27, attributes := #[] }, { accessFlags := 26, nameIndex := 248, descriptorIndex := 249, attributes := #[] }, { accessFlags := 26, nameIndex := 252, descriptorIndex := 249, attributes := #[] }, { accessFlags := 26, nameIndex := 1319, descriptorIndex := 27, attributes := #[] }, { accessFlags := 26, nameIndex := 1320, descriptorIndex := 27, attributes := #[] }, { accessFlags := 25, nameIndex := 187, descriptorIndex := 479, attributes := #[] }, { accessFlags := 25, nameIndex := 535, descriptorIndex := 479, attributes := #[] }, { accessFlags := 25, nameIndex := 206, descriptorIndex := 479, attributes := #[] }, { accessFlags := 25, nameIndex := 485, descriptorIndex := 479, attributes := #[] }, { accessFlags := 26, nameIndex := 478, descriptorIndex := 479, attributes := #[] }, { accessFlags := 26, nameIndex := 518, descriptorIndex := 479, attributes := #[] }, { accessFlags := 25, nameIndex := 1321, descriptorIndex := 20, attributes := #[] }, { accessFlags := 25, nameIndex := 1328, descriptorIndex := 20, attributes := #[] }, { accessFlags := 25, nameIndex := 1330, descriptorIndex := 20, attributes := #[] }, { accessFlags := 25, nameIndex := 1332, descriptorIndex := 20, attributes := #[] }, { accessFlags := 25, nameIndex := 1334, descriptorIndex := 20, attributes := #[] }, { accessFlags := 25, nameIndex := 1336, descriptorIndex := 20, attributes := #[] }, { accessFlags := 25, nameIndex := 1338, descriptorIndex := 20, attributes := #[] }, { accessFlags := 25, nameIndex := 1340, descriptorIndex := 20, attributes := #[] }, { accessFlags := 26, nameIndex := 749, descriptorIndex := 750, attributes := #[] }, { accessFlags := 26, nameIndex := 708, descriptorIndex := 709, attributes := #[] }, { accessFlags := 26, nameIndex := 97, descriptorIndex := 98, attributes := #[] }, { accessFlags := 74, nameIndex := 811, descriptorIndex := 812, attributes := #[] }, { accessFlags := 26, nameIndex := 1182, descriptorIndex := 20, attributes := #[] }, { accessFlags := 26, nameIndex := 808, descriptorIndex := 20, attributes := #[] }, { accessFlags := 26, nameIndex := 827, descriptorIndex := 98, attributes := #[] }, { accessFlags := 26, nameIndex := 1342, descriptorIndex := 27, attributes := #[] }, { accessFlags := 26, nameIndex := 1068, descriptorIndex := 1069, attributes := #[] }, { accessFlags := 4120, nameIndex := 313, descriptorIndex := 314, attributes := #[] }])
  fields := #[{ name := "L", type := .double, accessFlags := 26, slot := 0, constantValue := 0 }, { name := "P_F", type := .int, accessFlags := 26, slot := 1, constantValue := 0 }, { name := "Q_MIN_F", type := .int, accessFlags := 26, slot := 2, constantValue := 0 }, { name := "Q_MAX_F", type := .int, accessFlags := 26, slot := 3, constantValue := 0 }, { name := "P_D", type := .int, accessFlags := 26, slot := 4, constantValue := 0 }, { name := "Q_MIN_D", type := .int, accessFlags := 26, slot := 5, constantValue := 0 }, { name := "Q_MAX_D", type := .int, accessFlags := 26, slot := 6, constantValue := 0 }, { name := "intVal", type := (.object "java/math/BigInteger"), accessFlags := 18, slot := 0, constantValue := 0 }, { name := "scale", type := .int, accessFlags := 18, slot := 1, constantValue := 0 }, { name := "precision", type := .int, accessFlags := 130, slot := 2, constantValue := 0 }, { name := "stringCache", type := (.object "java/lang/String"), accessFlags := 130, slot := 3, constantValue := 0 }, { name := "INFLATED", type := .long, accessFlags := 24, slot := 7, constantValue := 0 }, { name := "INFLATED_BIGINT", type := (.object "java/math/BigInteger"), accessFlags := 26, slot := 8, constantValue := 0 }, { name := "intCompact", type := .long, accessFlags := 146, slot := 4, constantValue := 0 }, { name := "MAX_COMPACT_DIGITS", type := .int, accessFlags := 26, slot := 9, constantValue := 0 }, { name := "serialVersionUID", type := .long, accessFlags := 26, slot := 10, constantValue := 0 }, { name := "ZERO_THROUGH_TEN", type := (.array (.object "java/math/BigDecimal")), accessFlags := 26, slot := 11, constantValue := 0 }, { name := "ZERO_SCALED_BY", type := (.array (.object "java/math/BigDecimal")), accessFlags := 26, slot := 12, constantValue := 0 }, { name := "HALF_LONG_MAX_VALUE", type := .long, accessFlags := 26, slot := 13, constantValue := 0 }, { name := "HALF_LONG_MIN_VALUE", type := .long, accessFlags := 26, slot := 14, constantValue := 0 }, { name := "ZERO", type := (.object "java/math/BigDecimal"), accessFlags := 25, slot := 15, constantValue := 0 }, { name := "ONE", type := (.object "java/math/BigDecimal"), accessFlags := 25, slot := 16, constantValue := 0 }, { name := "TWO", type := (.object "java/math/BigDecimal"), accessFlags := 25, slot := 17, constantValue := 0 }, { name := "TEN", type := (.object "java/math/BigDecimal"), accessFlags := 25, slot := 18, constantValue := 0 }, { name := "ONE_TENTH", type := (.object "java/math/BigDecimal"), accessFlags := 26, slot := 19, constantValue := 0 }, { name := "ONE_HALF", type := (.object "java/math/BigDecimal"), accessFlags := 26, slot := 20, constantValue := 0 }, { name := "ROUND_UP", type := .int, accessFlags := 25, slot := 21, constantValue := 0 }, { name := "ROUND_DOWN", type := .int, accessFlags := 25, slot := 22, constantValue := 0 }, { name := "ROUND_CEILING", type := .int, accessFlags := 25, slot := 23, constantValue := 0 }, { name := "ROUND_FLOOR", type := .int, accessFlags := 25, slot := 24, constantValue := 0 }, { name := "ROUND_HALF_UP", type := .int, accessFlags := 25, slot := 25, constantValue := 0 }, { name := "ROUND_HALF_DOWN", type := .int, accessFlags := 25, slot := 26, constantValue := 0 }, { name := "ROUND_HALF_EVEN", type := .int, accessFlags := 25, slot := 27, constantValue := 0 }, { name := "ROUND_UNNECESSARY", type := .int, accessFlags := 25, slot := 28, constantValue := 0 }, { name := "DOUBLE_10_POW", type := (.array .double), accessFlags := 26, slot := 29, constantValue := 0 }, { name := "FLOAT_10_POW", type := (.array .float), accessFlags := 26, slot := 30, constantValue := 0 }, { name := "LONG_TEN_POWERS_TABLE", type := (.array .long), accessFlags := 26, slot := 31, constantValue := 0 }, { name := "BIG_TEN_POWERS_TABLE", type := (.array (.object "java/math/BigInteger")), accessFlags := 74, slot := 32, constantValue := 0 }, { name := "BIG_TEN_POWERS_TABLE_INITLEN", type := .int, accessFlags := 26, slot := 33, constantValue := 0 }, { name := "BIG_TEN_POWERS_TABLE_MAX", type := .int, accessFlags := 26, slot := 34, constantValue := 0 }, { name := "THRESHOLDS_TABLE", type := (.array .long), accessFlags := 26, slot := 35, constantValue := 0 }, { name := "DIV_NUM_BASE", type := .long, accessFlags := 26, slot := 36, constantValue := 0 }, { name := "LONGLONG_TEN_POWERS_TABLE", type := (.array (.array .long)), accessFlags := 26, slot := 37, constantValue := 0 }, { name := "$assertionsDisabled", type := .boolean, accessFlags := 4120, slot := 38, constantValue := 0 }]
  methods := #[k15m0, k15m1, k15m2, k15m3, k15m4, k15m5, k15m6, k15m7, k15m8, k15m9]
  instanceTypes := #[(.object "java/math/BigInteger"), .int, .int, (.object "java/lang/String"), .long]
  staticTypes := #[.double, .int, .int, .int, .int, .int, .int, .long, (.object "java/math/BigInteger"), .int, .long, (.array (.object "java/math/BigDecimal")), (.array (.object "java/math/BigDecimal")), .long, .long, (.object "java/math/BigDecimal"), (.object "java/math/BigDecimal"), (.object "java/math/BigDecimal"), (.object "java/math/BigDecimal"), (.object "java/math/BigDecimal"), (.object "java/math/BigDecimal"), .int, .int, .int, .int, .int, .int, .int, .int, (.array .double), (.array .float), (.array .long), (.array (.object "java/math/BigInteger")), .int, .int, (.array .long), .long, (.array (.array .long)), .boolean]
  resolved := Array.replicate 1637 none
  statics := some 1 }

def pool16 : Array CpInfo := pool [(2, .class_ 4), (1, u "java/lang/Object"), (0, u "<init>"), (0, u "()V"), (7, .class_ 16), (1, u "java/util/Arrays"), (57, .class_ 76), (1, u "java/util/Arrays$NaturalOrder"), (36, .class_ 115), (1, u "java/util/Arrays$LegacyMergeSort"), (1, u "Z"), (257, .class_ 376), (0, u "java/util/Arrays$ArrayList"), (68, u "$assertionsDisabled"), (269, u "MIN_ARRAY_SORT_GRAN"), (0, u "I"), (2, u "INSERTIONSORT_THRESHOLD"), (120, u "fill"), (17, u "([Ljava/lang/Object;Ljava/lang/Object;)V"), (116, .class_ 976), (0, u "java/util/Arrays$ArrayItr")] 52

def k16m0 : Method := { name := "<init>", desc := "()V", sig := { parameters := [], returnType := none }, accessFlags := 2, code := none }
def k16c1 : Code := { maxStack := 3, maxLocals := 4, code := jdk_65_method_117_code, exceptionTable := #[], attributes := #[] }
def k16m1 : Method := { name := "fill", desc := "([Ljava/lang/Object;Ljava/lang/Object;)V", sig := { parameters := [(.array (.object "java/lang/Object")), (.object "java/lang/Object")], returnType := none }, accessFlags := 9, code := some k16c1 }
/-- java/util/Arrays -/
def k16 : Class := { plain "java/util/Arrays" (some 0) with
  accessFlags := 49
  interfaces := #[]
  cf := some (fileOf pool16 14 #[.nestMembers #[975, 375, 113, 74]] #[{ accessFlags := 2, nameIndex := 5, descriptorIndex := 6, attributes := #[] }, { accessFlags := 9, nameIndex := 840, descriptorIndex := 858, attributes := #[] }] 49 2 #[] #[{ accessFlags := 26, nameIndex := 715, descriptorIndex := 716, attributes := #[] }, { accessFlags := 26, nameIndex := 719, descriptorIndex := 716, attributes := #[] }, { accessFlags := 4120, nameIndex := 445, descriptorIndex := 117, attributes := #[] }])
  fields := #[{ name := "MIN_ARRAY_SORT_GRAN", type := .int, accessFlags := 26, slot := 0, constantValue := 0 }, { name := "INSERTIONSORT_THRESHOLD", type := .int, accessFlags := 26, slot := 1, constantValue := 0 }, { name := "$assertionsDisabled", type := .boolean, accessFlags := 4120, slot := 2, constantValue := 0 }]
  methods := #[k16m0, k16m1]
  instanceTypes := #[]
  staticTypes := #[.int, .int, .boolean]
  resolved := Array.replicate 1029 none
  statics := none }

def pool17 : Array CpInfo := pool [(1, .class_ 2), (0, u "java/lang/Math"), (1, .class_ 6), (1, u "java/lang/Object"), (0, u "<init>"), (0, u "()V"), (89, .class_ 100), (1, u "java/lang/Math$RandomNumberGeneratorHolder"), (20, u "(JJ)J"), (50, u "negativeZeroFloatBits"), (0, u "J"), (2, u "negativeZeroDoubleBits"), (21, u "max"), (2, u "min"), (43, u "$assertionsDisabled"), (0, u "Z"), (88, u "(II)I"), (2, u "twoToTheDoubleScaleDown"), (0, u "D"), (4, u "twoToTheDoubleScaleUp"), (9, u "E"), (3, u "PI"), (2, u "TAU"), (2, u "DEGREES_TO_RADIANS"), (0, u "RADIANS_TO_DEGREES")] 94

def k17m0 : Method := { name := "<init>", desc := "()V", sig := { parameters := [], returnType := none }, accessFlags := 2, code := none }
def k17c1 : Code := { maxStack := 2, maxLocals := 2, code := jdk_29_method_65_code, exceptionTable := #[], attributes := #[] }
def k17m1 : Method := { name := "max", desc := "(II)I", sig := { parameters := [.int, .int], returnType := some .int }, accessFlags := 9, code := some k17c1 }
def k17c2 : Code := { maxStack := 4, maxLocals := 4, code := jdk_29_method_66_code, exceptionTable := #[], attributes := #[] }
def k17m2 : Method := { name := "max", desc := "(JJ)J", sig := { parameters := [.long, .long], returnType := some .long }, accessFlags := 9, code := some k17c2 }
def k17c3 : Code := { maxStack := 4, maxLocals := 4, code := jdk_29_method_70_code, exceptionTable := #[], attributes := #[] }
def k17m3 : Method := { name := "min", desc := "(JJ)J", sig := { parameters := [.long, .long], returnType := some .long }, accessFlags := 9, code := some k17c3 }
/-- java/lang/Math -/
def k17 : Class := { plain "java/lang/Math" (some 0) with
  accessFlags := 49
  interfaces := #[]
  cf := some (fileOf pool17 1 #[.nestMembers #[98]] #[{ accessFlags := 2, nameIndex := 7, descriptorIndex := 8, attributes := #[] }, { accessFlags := 9, nameIndex := 198, descriptorIndex := 335, attributes := #[] }, { accessFlags := 9, nameIndex := 198, descriptorIndex := 121, attributes := #[] }, { accessFlags := 9, nameIndex := 201, descriptorIndex := 121, attributes := #[] }] 49 4 #[] #[{ accessFlags := 25, nameIndex := 354, descriptorIndex := 339, attributes := #[] }, { accessFlags := 25, nameIndex := 358, descriptorIndex := 339, attributes := #[] }, { accessFlags := 25, nameIndex := 361, descriptorIndex := 339, attributes := #[] }, { accessFlags := 26, nameIndex := 364, descriptorIndex := 339, attributes := #[] }, { accessFlags := 26, nameIndex := 365, descriptorIndex := 339, attributes := #[] }, { accessFlags := 26, nameIndex := 172, descriptorIndex := 173, attributes := #[] }, { accessFlags := 26, nameIndex := 176, descriptorIndex := 173, attributes := #[] }, { accessFlags := 8, nameIndex := 344, descriptorIndex := 339, attributes := #[] }, { accessFlags := 8, nameIndex := 338, descriptorIndex := 339, attributes := #[] }, { accessFlags := 4120, nameIndex := 245, descriptorIndex := 246, attributes := #[] }])
  fields := #[{ name := "E", type := .double, accessFlags := 25, slot := 0, constantValue := 0 }, { name := "PI", type := .double, accessFlags := 25, slot := 1, constantValue := 0 }, { name := "TAU", type := .double, accessFlags := 25, slot := 2, constantValue := 0 }, { name := "DEGREES_TO_RADIANS", type := .double, accessFlags := 26, slot := 3, constantValue := 0 }, { name := "RADIANS_TO_DEGREES", type := .double, accessFlags := 26, slot := 4, constantValue := 0 }, { name := "negativeZeroFloatBits", type := .long, accessFlags := 26, slot := 5, constantValue := 0 }, { name := "negativeZeroDoubleBits", type := .long, accessFlags := 26, slot := 6, constantValue := 0 }, { name := "twoToTheDoubleScaleUp", type := .double, accessFlags := 8, slot := 7, constantValue := 0 }, { name := "twoToTheDoubleScaleDown", type := .double, accessFlags := 8, slot := 8, constantValue := 0 }, { name := "$assertionsDisabled", type := .boolean, accessFlags := 4120, slot := 9, constantValue := 0 }]
  methods := #[k17m0, k17m1, k17m2, k17m3]
  instanceTypes := #[]
  staticTypes := #[.double, .double, .double, .double, .double, .long, .long, .double, .double, .boolean]
  resolved := Array.replicate 460 none
  statics := none }

def pool18 : Array CpInfo := pool [(2, .class_ 4), (1, u "java/lang/Object"), (0, u "<init>"), (0, u "()V"), (35, .class_ 44), (1, u "java/util/Objects"), (60, .methodref 106 107), (0, .class_ 108), (0, .nameAndType 109 110), (0, u "jdk/internal/util/Preconditions"), (0, u "checkIndex"), (0, u "(IILjava/util/function/BiFunction;)I"), (60, u "(II)I")] 12

def k18m0 : Method := { name := "<init>", desc := "()V", sig := { parameters := [], returnType := none }, accessFlags := 2, code := none }
def k18c1 : Code := { maxStack := 3, maxLocals := 2, code := jdk_31_method_17_code, exceptionTable := #[], attributes := #[] }
def k18m1 : Method := { name := "checkIndex", desc := "(II)I", sig := { parameters := [.int, .int], returnType := some .int }, accessFlags := 9, code := some k18c1 }
/-- java/util/Objects -/
def k18 : Class := { plain "java/util/Objects" (some 0) with
  accessFlags := 49
  interfaces := #[]
  cf := some (fileOf pool18 42 #[] #[{ accessFlags := 2, nameIndex := 5, descriptorIndex := 6, attributes := #[] }, { accessFlags := 9, nameIndex := 109, descriptorIndex := 171, attributes := #[] }] 49 2 #[] #[])
  fields := #[]
  methods := #[k18m0, k18m1]
  instanceTypes := #[]
  staticTypes := #[]
  resolved := Array.replicate 184 none
  statics := none }

def pool19 : Array CpInfo := pool [(2, .class_ 4), (1, u "java/lang/Object"), (0, u "<init>"), (0, u "()V"), (17, .class_ 26), (1, u "jdk/internal/util/Preconditions"), (6, u "checkIndex"), (21, .class_ 56), (0, u "jdk/internal/util/Preconditions$4"), (57, .class_ 115), (0, u "jdk/internal/util/Preconditions$1"), (7, u "SIOOBE_FORMATTER"), (0, u "Ljava/util/function/BiFunction;"), (0, .class_ 126), (0, u "jdk/internal/util/Preconditions$2"), (3, u "AIOOBE_FORMATTER"), (0, .class_ 132), (0, u "jdk/internal/util/Preconditions$3"), (3, u "IOOBE_FORMATTER"), (41, u "(IILjava/util/function/BiFunction;)I")] 15

def k19m0 : Method := { name := "<init>", desc := "()V", sig := { parameters := [], returnType := none }, accessFlags := 1, code := none }
def k19c1 : Code := { maxStack := 3, maxLocals := 3, code := jdk_41_method_11_code, exceptionTable := #[], attributes := #[] }
def k19m1 : Method := { name := "checkIndex", desc := "(IILjava/util/function/BiFunction;)I", sig := { parameters := [.int, .int, (.object "java/util/function/BiFunction")], returnType := some .int }, accessFlags := 9, code := some k19c1 }
/-- jdk/internal/util/Preconditions -/
def k19 : Class := { plain "jdk/internal/util/Preconditions" (some 0) with
  accessFlags := 33
  interfaces := #[]
  cf := some (fileOf pool19 24 #[.nestMembers #[55, 131, 125, 114]] #[{ accessFlags := 1, nameIndex := 5, descriptorIndex := 6, attributes := #[] }, { accessFlags := 9, nameIndex := 33, descriptorIndex := 178, attributes := #[] }] 33 2 #[] #[{ accessFlags := 25, nameIndex := 123, descriptorIndex := 124, attributes := #[] }, { accessFlags := 25, nameIndex := 130, descriptorIndex := 124, attributes := #[] }, { accessFlags := 25, nameIndex := 136, descriptorIndex := 124, attributes := #[] }])
  fields := #[{ name := "SIOOBE_FORMATTER", type := (.object "java/util/function/BiFunction"), accessFlags := 25, slot := 0, constantValue := 0 }, { name := "AIOOBE_FORMATTER", type := (.object "java/util/function/BiFunction"), accessFlags := 25, slot := 1, constantValue := 0 }, { name := "IOOBE_FORMATTER", type := (.object "java/util/function/BiFunction"), accessFlags := 25, slot := 2, constantValue := 0 }]
  methods := #[k19m0, k19m1]
  instanceTypes := #[]
  staticTypes := #[(.object "java/util/function/BiFunction"), (.object "java/util/function/BiFunction"), (.object "java/util/function/BiFunction")]
  resolved := Array.replicate 194 none
  statics := none }

def pool20 : Array CpInfo := pool [(4, .class_ 6), (1, u "java/lang/Number"), (16, .class_ 25), (1, u "java/math/BigInteger"), (0, u "ZERO"), (0, u "Ljava/math/BigInteger;"), (2, u "mag"), (0, u "[I"), (2, u "signum"), (0, u "I"), (59, u "bitsPerDigit"), (0, u "[J"), (9, u "digitsPerInt"), (12, u "intRadix"), (60, u "SMALL_PRIME_PRODUCT"), (79, u "ONE"), (6, u "TWO"), (43, u "$assertionsDisabled"), (0, u "Z"), (36, u "posConst"), (0, u "[Ljava/math/BigInteger;"), (4, u "negConst"), (116, .class_ 474), (1, u "java/math/BigInteger$RecursiveOp"), (106, u "NEGATIVE_ONE"), (91, u "bnExpModThreshTable"), (72, u "lowestSetBitPlusTwo"), (2, u "bitLengthPlusOne"), (2, u "bitCountPlusOne"), (6, u "LOG_TWO"), (0, u "D"), (2, u "logCache"), (0, u "[D"), (13, u "NUM_ZEROS"), (2, u "ZEROS"), (0, u "Ljava/lang/String;"), (9, u "longRadix"), (5, u "digitsPerLong"), (22, u "powerCache"), (0, u "[[Ljava/math/BigInteger;"), (45, u "firstNonzeroIntNumPlusTwo"), (38, .class_ 909), (1, u "java/math/BigInteger$UnsafeHolder"), (141, u "TEN"), (106, u "serialPersistentFields"), (0, u "[Ljava/io/ObjectStreamField;"), (0, .class_ 1161), (0, u "java/lang/Comparable"), (0, u "LONG_MASK"), (0, u "J"), (1, u "MAX_MAG_LENGTH"), (0, u "PRIME_SEARCH_BIT_LENGTH_LIMIT"), (1, u "KARATSUBA_THRESHOLD"), (1, u "TOOM_COOK_THRESHOLD"), (1, u "KARATSUBA_SQUARE_THRESHOLD"), (1, u "TOOM_COOK_SQUARE_THRESHOLD"), (1, u "BURNIKEL_ZIEGLER_THRESHOLD"), (0, u "BURNIKEL_ZIEGLER_OFFSET"), (1, u "SCHOENHAGE_BASE_CONVERSION_THRESHOLD"), (1, u "MULTIPLY_SQUARE_THRESHOLD"), (0, u "MONTGOMERY_INTRINSIC_THRESHOLD"), (1, u "SMALL_PRIME_THRESHOLD"), (1, u "DEFAULT_PRIME_CERTAINTY"), (1, u "MAX_CONSTANT"), (3, u "serialVersionUID"), (338, .class_ 1532), (0, u "java/math/BigInteger$RecursiveOp$RecursiveSquare"), (0, .class_ 1534), (0, u "java/math/BigInteger$RecursiveOp$RecursiveMultiply")] 7

/-- java/math/BigInteger -/
def k20 : Class := { plain "java/math/BigInteger" (some 13) with
  accessFlags := 33
  interfaces := #[14]
  cf := some (fileOf pool20 23 #[.nestMembers #[907, 472, 1531, 1533]] #[] 33 4 #[1160] #[{ accessFlags := 16, nameIndex := 34, descriptorIndex := 35, attributes := #[] }, { accessFlags := 16, nameIndex := 30, descriptorIndex := 31, attributes := #[] }, { accessFlags := 2, nameIndex := 752, descriptorIndex := 35, attributes := #[] }, { accessFlags := 2, nameIndex := 749, descriptorIndex := 35, attributes := #[] }, { accessFlags := 2, nameIndex := 746, descriptorIndex := 35, attributes := #[] }, { accessFlags := 2, nameIndex := 868, descriptorIndex := 35, attributes := #[] }, { accessFlags := 24, nameIndex := 1162, descriptorIndex := 1163, attributes := #[] }, { accessFlags := 26, nameIndex := 1165, descriptorIndex := 35, attributes := #[] }, { accessFlags := 26, nameIndex := 1166, descriptorIndex := 35, attributes := #[] }, { accessFlags := 26, nameIndex := 1168, descriptorIndex := 35, attributes := #[] }, { accessFlags := 26, nameIndex := 1170, descriptorIndex := 35, attributes := #[] }, { accessFlags := 26, nameIndex := 1172, descriptorIndex := 35, attributes := #[] }, { accessFlags := 26, nameIndex := 1174, descriptorIndex := 35, attributes := #[] }, { accessFlags := 24, nameIndex := 1176, descriptorIndex := 35, attributes := #[] }, { accessFlags := 24, nameIndex := 1177, descriptorIndex := 35, attributes := #[] }, { accessFlags := 26, nameIndex := 1179, descriptorIndex := 35, attributes := #[] }, { accessFlags := 26, nameIndex := 1181, descriptorIndex := 35, attributes := #[] }, { accessFlags := 26, nameIndex := 1182, descriptorIndex := 35, attributes := #[] }, { accessFlags := 10, nameIndex := 95, descriptorIndex := 96, attributes := #[] }, { accessFlags := 26, nameIndex := 1184, descriptorIndex := 35, attributes := #[] }, { accessFlags := 26, nameIndex := 1186, descriptorIndex := 35, attributes := #[] }, { accessFlags := 26, nameIndex := 180, descriptorIndex := 27, attributes := #[] }, { accessFlags := 26, nameIndex := 1188, descriptorIndex := 35, attributes := #[] }, { accessFlags := 26, nameIndex := 349, descriptorIndex := 350, attributes := #[] }, { accessFlags := 26, nameIndex := 355, descriptorIndex := 350, attributes := #[] }, { accessFlags := 74, nameIndex := 821, descriptorIndex := 822, attributes := #[] }, { accessFlags := 26, nameIndex := 763, descriptorIndex := 764, attributes := #[] }, { accessFlags := 26, nameIndex := 759, descriptorIndex := 760, attributes := #[] }, { accessFlags := 25, nameIndex := 26, descriptorIndex := 27, attributes := #[] }, { accessFlags := 25, nameIndex := 260, descriptorIndex := 27, attributes := #[] }, { accessFlags := 25, nameIndex := 267, descriptorIndex := 27, attributes := #[] }, { accessFlags := 26, nameIndex := 581, descriptorIndex := 27, attributes := #[] }, { accessFlags := 25, nameIndex := 1051, descriptorIndex := 27, attributes := #[] }, { accessFlags := 8, nameIndex := 673, descriptorIndex := 31, attributes := #[] }, { accessFlags := 10, nameIndex := 778, descriptorIndex := 35, attributes := #[] }, { accessFlags := 26, nameIndex := 781, descriptorIndex := 782, attributes := #[] }, { accessFlags := 10, nameIndex := 798, descriptorIndex := 31, attributes := #[] }, { accessFlags := 10, nameIndex := 792, descriptorIndex := 350, attributes := #[] }, { accessFlags := 10, nameIndex := 106, descriptorIndex := 31, attributes := #[] }, { accessFlags := 10, nameIndex := 119, descriptorIndex := 31, attributes := #[] }, { accessFlags := 26, nameIndex := 1192, descriptorIndex := 1163, attributes := #[] }, { accessFlags := 26, nameIndex := 1158, descriptorIndex := 1159, attributes := #[] }, { accessFlags := 4120, nameIndex := 311, descriptorIndex := 312, attributes := #[] }])
  fields := #[{ name := "signum", type := .int, accessFlags := 16, slot := 0, constantValue := 0 }, { name := "mag", type := (.array .int), accessFlags := 16, slot := 1, constantValue := 0 }, { name := "bitCountPlusOne", type := .int, accessFlags := 2, slot := 2, constantValue := 0 }, { name := "bitLengthPlusOne", type := .int, accessFlags := 2, slot := 3, constantValue := 0 }, { name := "lowestSetBitPlusTwo", type := .int, accessFlags := 2, slot := 4, constantValue := 0 }, { name := "firstNonzeroIntNumPlusTwo", type := .int, accessFlags := 2, slot := 5, constantValue := 0 }, { name := "LONG_MASK", type := .long, accessFlags := 24, slot := 0, constantValue := 0 }, { name := "MAX_MAG_LENGTH", type := .int, accessFlags := 26, slot := 1, constantValue := 0 }, { name := "PRIME_SEARCH_BIT_LENGTH_LIMIT", type := .int, accessFlags := 26, slot := 2, constantValue := 0 }, { name := "KARATSUBA_THRESHOLD", type := .int, accessFlags := 26, slot := 3, constantValue := 0 }, { name := "TOOM_COOK_THRESHOLD", type := .int, accessFlags := 26, slot := 4, constantValue := 0 }, { name := "KARATSUBA_SQUARE_THRESHOLD", type := .int, accessFlags := 26, slot := 5, constantValue := 0 }, { name := "TOOM_COOK_SQUARE_THRESHOLD", type := .int, accessFlags := 26, slot := 6, constantValue := 0 }, { name := "BURNIKEL_ZIEGLER_THRESHOLD", type := .int, accessFlags := 24, slot := 7, constantValue := 0 }, { name := "BURNIKEL_ZIEGLER_OFFSET", type := .int, accessFlags := 24, slot := 8, constantValue := 0 }, { name := "SCHOENHAGE_BASE_CONVERSION_THRESHOLD", type := .int, accessFlags := 26, slot := 9, constantValue := 0 }, { name := "MULTIPLY_SQUARE_THRESHOLD", type := .int, accessFlags := 26, slot := 10, constantValue := 0 }, { name := "MONTGOMERY_INTRINSIC_THRESHOLD", type := .int, accessFlags := 26, slot := 11, constantValue := 0 }, { name := "bitsPerDigit", type := (.array .long), accessFlags := 10, slot := 12, constantValue := 0 }, { name := "SMALL_PRIME_THRESHOLD", type := .int, accessFlags := 26, slot := 13, constantValue := 0 }, { name := "DEFAULT_PRIME_CERTAINTY", type := .int, accessFlags := 26, slot := 14, constantValue := 0 }, { name := "SMALL_PRIME_PRODUCT", type := (.object "java/math/BigInteger"), accessFlags := 26, slot := 15, constantValue := 0 }, { name := "MAX_CONSTANT", type := .int, accessFlags := 26, slot := 16, constantValue := 0 }, { name := "posConst", type := (.array (.object "java/math/BigInteger")), accessFlags := 26, slot := 17, constantValue := 0 }, { name := "negConst", type := (.array (.object "java/math/BigInteger")), accessFlags := 26, slot := 18, constantValue := 0 }, { name := "powerCache", type := (.array (.array (.object "java/math/BigInteger"))), accessFlags := 74, slot := 19, constantValue := 0 }, { name := "logCache", type := (.array .double), accessFlags := 26, slot := 20, constantValue := 0 }, { name := "LOG_TWO", type := .double, accessFlags := 26, slot := 21, constantValue := 0 }, { name := "ZERO", type := (.object "java/math/BigInteger"), accessFlags := 25, slot := 22, constantValue := 0 }, { name := "ONE", type := (.object "java/math/BigInteger"), accessFlags := 25, slot := 23, constantValue := 0 }, { name := "TWO", type := (.object "java/math/BigInteger"), accessFlags := 25, slot := 24, constantValue := 0 }, { name := "NEGATIVE_ONE", type := (.object "java/math/BigInteger"), accessFlags := 26, slot := 25, constantValue := 0 }, { name := "TEN", type := (.object "java/math/BigInteger"), accessFlags := 25, slot := 26, constantValue := 0 }, { name := "bnExpModThreshTable", type := (.array .int), accessFlags := 8, slot := 27, constantValue := 0 }, { name := "NUM_ZEROS", type := .int, accessFlags := 10, slot := 28, constantValue := 0 }, { name := "ZEROS", type := (.object "java/lang/String"), accessFlags := 26, slot := 29, constantValue := 0 }, { name := "digitsPerLong", type := (.array .int), accessFlags := 10, slot := 30, constantValue := 0 }, { name := "longRadix", type := (.array (.object "java/math/BigInteger")), accessFlags := 10, slot := 31, constantValue := 0 }, { name := "digitsPerInt", type := (.array .int), accessFlags := 10, slot := 32, constantValue := 0 }, { name := "intRadix", type := (.array .int), accessFlags := 10, slot := 33, constantValue := 0 }, { name := "serialVersionUID", type := .long, accessFlags := 26, slot := 34, constantValue := 0 }, { name := "serialPersistentFields", type := (.array (.object "java/io/ObjectStreamField")), accessFlags := 26, slot := 35, constantValue := 0 }, { name := "$assertionsDisabled", type := .boolean, accessFlags := 4120, slot := 36, constantValue := 0 }]
  methods := #[]
  instanceTypes := #[.int, (.array .int), .int, .int, .int, .int]
  staticTypes := #[.long, .int, .int, .int, .int, .int, .int, .int, .int, .int, .int, .int, (.array .long), .int, .int, (.object "java/math/BigInteger"), .int, (.array (.object "java/math/BigInteger")), (.array (.object "java/math/BigInteger")), (.array (.array (.object "java/math/BigInteger"))), (.array .double), .double, (.object "java/math/BigInteger"), (.object "java/math/BigInteger"), (.object "java/math/BigInteger"), (.object "java/math/BigInteger"), (.object "java/math/BigInteger"), (.array .int), .int, (.object "java/lang/String"), (.array .int), (.array (.object "java/math/BigInteger")), (.array .int), (.array .int), .long, (.array (.object "java/io/ObjectStreamField")), .boolean]
  resolved := Array.replicate 1542 none
  statics := some 2 }

/-- the primitive byte -/
def k21 : Class := { plain "byte" none with kind := .primitive 'B', accessFlags := 0x411 }
/-- [B -/
def k22 : Class := { plain "[B" (some 0) with kind := .array 21 .byte, interfaces := #[9, 10], accessFlags := 1041 }

/-- the primitive int -/
def k23 : Class := { plain "int" none with kind := .primitive 'I', accessFlags := 0x411 }
/-- [I -/
def k24 : Class := { plain "[I" (some 0) with kind := .array 23 .int, interfaces := #[9, 10], accessFlags := 1041 }

/-- the primitive long -/
def k25 : Class := { plain "long" none with kind := .primitive 'J', accessFlags := 0x411 }
/-- [J -/
def k26 : Class := { plain "[J" (some 0) with kind := .array 25 .long, interfaces := #[9, 10], accessFlags := 1041 }

/-- [Ljava/lang/Object; -/
def k27 : Class := { plain "[Ljava/lang/Object;" (some 0) with kind := .array 0 (.object "java/lang/Object"), interfaces := #[9, 10], accessFlags := 1041 }

/-- [Ljava/math/BigDecimal; -/
def k28 : Class := { plain "[Ljava/math/BigDecimal;" (some 0) with kind := .array 15 (.object "java/math/BigDecimal"), interfaces := #[9, 10], accessFlags := 1041 }

def heap : Heap := #[{ cls := 11, slots := #[.long 0, .int 0, .ref 38, .ref 39], vm := .statics 11 },
  { cls := 15, slots := #[.double 0, .int 0, .int 0, .int 0, .int 0, .int 0, .int 0, .long 0, .null, .int 0, .long 0, .ref 6, .null, .long 0, .long 0, .ref 3, .ref 8, .ref 11, .ref 35, .null, .null, .int 0, .int 0, .int 0, .int 0, .int 0, .int 0, .int 0, .int 0, .null, .null, .null, .null, .int 0, .int 0, .null, .long 0, .null, .int 0], vm := .statics 15 },
  { cls := 20, slots := #[.long 0, .int 0, .int 0, .int 0, .int 0, .int 0, .int 0, .int 0, .int 0, .int 0, .int 0, .int 0, .null, .int 0, .int 0, .null, .int 0, .null, .null, .null, .null, .double 0, .ref 4, .ref 9, .ref 12, .null, .ref 36, .null, .int 0, .null, .null, .null, .null, .null, .long 0, .null, .int 0], vm := .statics 20 },
  { cls := 15, slots := #[.ref 4, .int 0, .int 0, .null, .long 0], vm := .none },
  { cls := 20, slots := #[.int 0, .ref 7, .int 0, .int 0, .int 0, .int 0], vm := .none },
  { cls := 24, slots := #[], vm := .none },
  { cls := 28, slots := #[.ref 3, .ref 8, .ref 11, .ref 14, .ref 17, .ref 20, .ref 23, .ref 26, .ref 29, .ref 32, .ref 35], vm := .none },
  { cls := 24, slots := #[], vm := .none },
  { cls := 15, slots := #[.ref 9, .int 0, .int 0, .null, .long 1], vm := .none },
  { cls := 20, slots := #[.int 1, .ref 10, .int 0, .int 0, .int 0, .int 0], vm := .none },
  { cls := 24, slots := #[.int 0], vm := .none },
  { cls := 15, slots := #[.ref 12, .int 0, .int 0, .null, .long 2], vm := .none },
  { cls := 20, slots := #[.int 1, .ref 13, .int 0, .int 0, .int 0, .int 0], vm := .none },
  { cls := 24, slots := #[.int 0], vm := .none },
  { cls := 15, slots := #[.ref 15, .int 0, .int 0, .null, .long 3], vm := .none },
  { cls := 20, slots := #[.int 1, .ref 16, .int 0, .int 0, .int 0, .int 0], vm := .none },
  { cls := 24, slots := #[.int 0], vm := .none },
  { cls := 15, slots := #[.ref 18, .int 0, .int 0, .null, .long 4], vm := .none },
  { cls := 20, slots := #[.int 1, .ref 19, .int 0, .int 0, .int 0, .int 0], vm := .none },
  { cls := 24, slots := #[.int 0], vm := .none },
  { cls := 15, slots := #[.ref 21, .int 0, .int 0, .null, .long 5], vm := .none },
  { cls := 20, slots := #[.int 1, .ref 22, .int 0, .int 0, .int 0, .int 0], vm := .none },
  { cls := 24, slots := #[.int 0], vm := .none },
  { cls := 15, slots := #[.ref 24, .int 0, .int 0, .null, .long 6], vm := .none },
  { cls := 20, slots := #[.int 1, .ref 25, .int 0, .int 0, .int 0, .int 0], vm := .none },
  { cls := 24, slots := #[.int 0], vm := .none },
  { cls := 15, slots := #[.ref 27, .int 0, .int 0, .null, .long 7], vm := .none },
  { cls := 20, slots := #[.int 1, .ref 28, .int 0, .int 0, .int 0, .int 0], vm := .none },
  { cls := 24, slots := #[.int 0], vm := .none },
  { cls := 15, slots := #[.ref 30, .int 0, .int 0, .null, .long 8], vm := .none },
  { cls := 20, slots := #[.int 1, .ref 31, .int 0, .int 0, .int 0, .int 0], vm := .none },
  { cls := 24, slots := #[.int 0], vm := .none },
  { cls := 15, slots := #[.ref 33, .int 0, .int 0, .null, .long 9], vm := .none },
  { cls := 20, slots := #[.int 1, .ref 34, .int 0, .int 0, .int 0, .int 0], vm := .none },
  { cls := 24, slots := #[.int 0], vm := .none },
  { cls := 15, slots := #[.ref 36, .int 0, .int 0, .null, .long 10], vm := .none },
  { cls := 20, slots := #[.int 1, .ref 37, .int 0, .int 0, .int 0, .int 0], vm := .none },
  { cls := 24, slots := #[.int 0], vm := .none },
  { cls := 27, slots := #[], vm := .none },
  { cls := 27, slots := #[], vm := .none }]
def classes : Array Class := #[k0, k1, k2, k3, k4, k5, k6, k7, k8, k9, k10, k11, k12, k13, k14, k15, k16, k17, k18, k19, k20, k21, k22, k23, k24, k25, k26, k27, k28]
def interned : List (Array UInt16 × Addr) := []
def slotsUsed : Nat := 222
def theMethod : MethodId := ⟨1, 1⟩
def args0 : Array Value := #[.int 5, .int 5, .int 5, .int 5, .int 5]
def aboutOver (below : List Frame) : State where
  vm := { classes := classes, interned := interned.toArray }
  heap := heap
  slotsUsed := slotsUsed
  threads := #[{ frames := .invoking theMethod args0 :: below }]
def below0 : List Frame := [.native { method := ⟨0, 0⟩, args := #[] }]
def about1 : State := aboutOver below0
def p0 : Program := .bare "" "" ""
def e0 : Env := launch0.env 0 0 0
theorem w_frames : about1.frames = Frame.invoking theMethod args0 :: below0 := rfl
set_option maxRecDepth 65536 in
theorem w_args : argsFit about1.vm theMethod args0 = true := by decide +kernel
set_option maxRecDepth 65536 in
theorem w_heap : heapFits about1 = true := by decide +kernel
set_option maxRecDepth 65536 in
theorem w_runnable : about1.curStatus? = some .runnable := by decide +kernel
set_option maxRecDepth 65536 in
theorem w_alone : about1.alone = true := by decide +kernel
set_option maxRecDepth 65536 in
theorem w_named : about1.methodNamed? x = some theMethod := by decide +kernel
set_option maxRecDepth 65536 in
theorem w_hears : about1.hears theMethod below0 = true := by decide +kernel
set_option maxRecDepth 65536 in
theorem w_ripe : about1.ripe theMethod args0 below0 = true := by decide +kernel
theorem w_running : about1.status = .running := rfl
set_option maxRecDepth 65536 in
theorem w_room : about1.hasRoom e0.platform room_1 = true :=
  launch0.hasRoom_least _ room_1 (by decide +kernel) (by decide +kernel) (by decide +kernel) (by decide +kernel) (by decide +kernel) (by decide +kernel)
theorem allAtoms_all (ts : List Jvm.Cond) (a : Array Jvm.Value) (st : Jvm.State) : (allAtoms ts).before a st = ts.all (fun c => c.before a st) := by
  induction ts with
  | nil => rfl
  | cons c t ih =>
    show (Jvm.Cond.and c (allAtoms t)).before a st = _
    rw [Jvm.Cond.before_and, ih, List.all_cons]
def words1 : List Jvm.Cond := Jvm.Cond.code x code maxLocals ret :: tables_1
/-- a 'code' word, met by the world's own term for the bytes: nothing is compared byte by byte -/
theorem code_word {y : MethodName} {bytes : ByteArray} {mx : Nat} {rt : Option FieldType} {a : Array Value} {s : State} {m : MethodId} {meth : Method} {c : Code} (h1 : s.methodNamed? y = some m) (h2 : s.vm.method? m = some meth) (h3 : meth.code = some c) (h4 : c.code = bytes)
    (h5 : (c.maxLocals == mx && c.exceptionTable.isEmpty && decide (c.maxStack ≤ mostOperands) && decide (meth.sig.returnType = rt) && !meth.locks && decide (parseMethodDescriptor y.desc = some meth.sig)) = true) : (Jvm.Cond.code y bytes mx rt).before a s = true := by
  simp only [Bool.and_eq_true, beq_iff_eq, Bool.not_eq_true', decide_eq_true_eq] at h5
  obtain ⟨⟨⟨⟨⟨g1, g2⟩, g3⟩, g4⟩, g5⟩, g6⟩ := h5
  simp [Cond.before, Cond.holds, Cond.value, h1, h2, h3, h4, g1, g2, g3, g4, g5, g6]
def isCode : Jvm.Cond → Bool
  | .code _ _ _ _ => true
  | _ => false
theorem all_split {L : List Jvm.Cond} {P : Jvm.Cond → Bool} (h1 : L.all (fun c => isCode c || P c) = true) (h2 : ∀ c ∈ L.filter isCode, P c = true) : L.all P = true := by
  refine List.all_eq_true.mpr fun c hc => ?_
  have h := List.all_eq_true.mp h1 c hc
  rcases Bool.eq_false_or_eq_true (isCode c) with hi | hi
  · exact h2 c (List.mem_filter.mpr ⟨hc, hi⟩)
  · simpa [hi] using h
set_option maxRecDepth 65536 in
theorem w_c0 : (Jvm.Cond.code x code maxLocals ret).before args0 about1 = true := code_word (m := ⟨1, 1⟩) (meth := k1m1) (c := k1c1) (by decide +kernel) rfl rfl rfl (by decide +kernel)
set_option maxRecDepth 65536 in
theorem w_c1 : (Jvm.Cond.code ({ cls := "java/util/ArrayList", name := "<init>", desc := "()V" } : Jvm.MethodName) jdk_38_method_2_code (1 : Nat) (Option.none : Option Jvm.ClassFile.FieldType)).before args0 about1 = true := code_word (m := ⟨11, 0⟩) (meth := k11m0) (c := k11c0) (by decide +kernel) rfl rfl rfl (by decide +kernel)
set_option maxRecDepth 65536 in
theorem w_c2 : (Jvm.Cond.code ({ cls := "java/util/AbstractList", name := "<init>", desc := "()V" } : Jvm.MethodName) jdk_39_method_1_code (1 : Nat) (Option.none : Option Jvm.ClassFile.FieldType)).before args0 about1 = true := code_word (m := ⟨7, 0⟩) (meth := k7m0) (c := k7c0) (by decide +kernel) rfl rfl rfl (by decide +kernel)
set_option maxRecDepth 65536 in
theorem w_c3 : (Jvm.Cond.code ({ cls := "java/util/AbstractCollection", name := "<init>", desc := "()V" } : Jvm.MethodName) jdk_22_method_1_code (1 : Nat) (Option.none : Option Jvm.ClassFile.FieldType)).before args0 about1 = true := code_word (m := ⟨4, 0⟩) (meth := k4m0) (c := k4c0) (by decide +kernel) rfl rfl rfl (by decide +kernel)
set_option maxRecDepth 65536 in
theorem w_c4 : (Jvm.Cond.code ({ cls := "java/lang/Object", name := "<init>", desc := "()V" } : Jvm.MethodName) object_method_1_code (1 : Nat) (Option.none : Option Jvm.ClassFile.FieldType)).before args0 about1 = true := code_word (m := ⟨0, 0⟩) (meth := k0m0) (c := k0c0) (by decide +kernel) rfl rfl rfl (by decide +kernel)
set_option maxRecDepth 65536 in
theorem w_c5 : (Jvm.Cond.code ({ cls := "com/example/vestline/vestline/finalaveragepay/BestPeriods", name := "total", desc := "(Ljava/util/List;II)Ljava/math/BigDecimal;" } : Jvm.MethodName) prog_2_method_2_code (10 : Nat) (Option.some (Jvm.ClassFile.FieldType.object "java/math/BigDecimal"))).before args0 about1 = true := code_word (m := ⟨12, 1⟩) (meth := k12m1) (c := k12c1) (by decide +kernel) rfl rfl rfl (by decide +kernel)
set_option maxRecDepth 65536 in
theorem w_c6 : (Jvm.Cond.code ({ cls := "java/util/ArrayList", name := "size", desc := "()I" } : Jvm.MethodName) jdk_38_method_8_code (1 : Nat) (Option.some Jvm.ClassFile.FieldType.int)).before args0 about1 = true := code_word (m := ⟨11, 3⟩) (meth := k11m3) (c := k11c3) (by decide +kernel) rfl rfl rfl (by decide +kernel)
set_option maxRecDepth 65536 in
theorem w_c7 : (Jvm.Cond.code ({ cls := "java/util/Arrays", name := "fill", desc := "([Ljava/lang/Object;Ljava/lang/Object;)V" } : Jvm.MethodName) jdk_65_method_117_code (4 : Nat) (Option.none : Option Jvm.ClassFile.FieldType)).before args0 about1 = true := code_word (m := ⟨16, 1⟩) (meth := k16m1) (c := k16c1) (by decide +kernel) rfl rfl rfl (by decide +kernel)
set_option maxRecDepth 65536 in
theorem w_c8 : (Jvm.Cond.code ({ cls := "com/example/vestline/vestline/finalaveragepay/BestPeriodsTotalPinLaw", name := "reference", desc := "([JIII)J" } : Jvm.MethodName) method_6_code (6 : Nat) (Option.some Jvm.ClassFile.FieldType.long)).before args0 about1 = true := code_word (m := ⟨1, 5⟩) (meth := k1m5) (c := k1c5) (by decide +kernel) rfl rfl rfl (by decide +kernel)
set_option maxRecDepth 65536 in
theorem w_c9 : (Jvm.Cond.code ({ cls := "java/math/BigDecimal", name := "valueOf", desc := "(J)Ljava/math/BigDecimal;" } : Jvm.MethodName) jdk_17_method_21_code (2 : Nat) (Option.some (Jvm.ClassFile.FieldType.object "java/math/BigDecimal"))).before args0 about1 = true := code_word (m := ⟨15, 2⟩) (meth := k15m2) (c := k15c2) (by decide +kernel) rfl rfl rfl (by decide +kernel)
set_option maxRecDepth 65536 in
theorem w_c10 : (Jvm.Cond.code ({ cls := "java/math/BigDecimal", name := "compareTo", desc := "(Ljava/math/BigDecimal;)I" } : Jvm.MethodName) jdk_17_method_70_code (6 : Nat) (Option.some Jvm.ClassFile.FieldType.int)).before args0 about1 = true := code_word (m := ⟨15, 5⟩) (meth := k15m5) (c := k15c5) (by decide +kernel) rfl rfl rfl (by decide +kernel)
set_option maxRecDepth 65536 in
theorem w_c11 : (Jvm.Cond.code ({ cls := "java/util/ArrayList", name := "add", desc := "(Ljava/lang/Object;)Z" } : Jvm.MethodName) jdk_38_method_25_code (2 : Nat) (Option.some Jvm.ClassFile.FieldType.boolean)).before args0 about1 = true := code_word (m := ⟨11, 7⟩) (meth := k11m7) (c := k11c7) (by decide +kernel) rfl rfl rfl (by decide +kernel)
set_option maxRecDepth 65536 in
theorem w_c12 : (Jvm.Cond.code ({ cls := "java/util/ArrayList", name := "add", desc := "(Ljava/lang/Object;[Ljava/lang/Object;I)V" } : Jvm.MethodName) jdk_38_method_24_code (4 : Nat) (Option.none : Option Jvm.ClassFile.FieldType)).before args0 about1 = true := code_word (m := ⟨11, 6⟩) (meth := k11m6) (c := k11c6) (by decide +kernel) rfl rfl rfl (by decide +kernel)
set_option maxRecDepth 65536 in
theorem w_c13 : (Jvm.Cond.code ({ cls := "java/util/ArrayList", name := "grow", desc := "()[Ljava/lang/Object;" } : Jvm.MethodName) jdk_38_method_7_code (1 : Nat) (Option.some (Jvm.ClassFile.FieldType.array (Jvm.ClassFile.FieldType.object "java/lang/Object")))).before args0 about1 = true := code_word (m := ⟨11, 2⟩) (meth := k11m2) (c := k11c2) (by decide +kernel) rfl rfl rfl (by decide +kernel)
set_option maxRecDepth 65536 in
theorem w_c14 : (Jvm.Cond.code ({ cls := "java/util/ArrayList", name := "grow", desc := "(I)[Ljava/lang/Object;" } : Jvm.MethodName) jdk_38_method_6_code (4 : Nat) (Option.some (Jvm.ClassFile.FieldType.array (Jvm.ClassFile.FieldType.object "java/lang/Object")))).before args0 about1 = true := code_word (m := ⟨11, 1⟩) (meth := k11m1) (c := k11c1) (by decide +kernel) rfl rfl rfl (by decide +kernel)
set_option maxRecDepth 65536 in
theorem w_c15 : (Jvm.Cond.code ({ cls := "java/lang/Math", name := "max", desc := "(II)I" } : Jvm.MethodName) jdk_29_method_65_code (2 : Nat) (Option.some Jvm.ClassFile.FieldType.int)).before args0 about1 = true := code_word (m := ⟨17, 1⟩) (meth := k17m1) (c := k17c1) (by decide +kernel) rfl rfl rfl (by decide +kernel)
set_option maxRecDepth 65536 in
theorem w_c16 : (Jvm.Cond.code ({ cls := "java/util/ArrayList", name := "get", desc := "(I)Ljava/lang/Object;" } : Jvm.MethodName) jdk_38_method_20_code (2 : Nat) (Option.some (Jvm.ClassFile.FieldType.object "java/lang/Object"))).before args0 about1 = true := code_word (m := ⟨11, 5⟩) (meth := k11m5) (c := k11c5) (by decide +kernel) rfl rfl rfl (by decide +kernel)
set_option maxRecDepth 65536 in
theorem w_c17 : (Jvm.Cond.code ({ cls := "java/util/Objects", name := "checkIndex", desc := "(II)I" } : Jvm.MethodName) jdk_31_method_17_code (2 : Nat) (Option.some Jvm.ClassFile.FieldType.int)).before args0 about1 = true := code_word (m := ⟨18, 1⟩) (meth := k18m1) (c := k18c1) (by decide +kernel) rfl rfl rfl (by decide +kernel)
set_option maxRecDepth 65536 in
theorem w_c18 : (Jvm.Cond.code ({ cls := "jdk/internal/util/Preconditions", name := "checkIndex", desc := "(IILjava/util/function/BiFunction;)I" } : Jvm.MethodName) jdk_41_method_11_code (3 : Nat) (Option.some Jvm.ClassFile.FieldType.int)).before args0 about1 = true := code_word (m := ⟨19, 1⟩) (meth := k19m1) (c := k19c1) (by decide +kernel) rfl rfl rfl (by decide +kernel)
set_option maxRecDepth 65536 in
theorem w_c19 : (Jvm.Cond.code ({ cls := "java/util/ArrayList", name := "elementData", desc := "(I)Ljava/lang/Object;" } : Jvm.MethodName) jdk_38_method_18_code (2 : Nat) (Option.some (Jvm.ClassFile.FieldType.object "java/lang/Object"))).before args0 about1 = true := code_word (m := ⟨11, 4⟩) (meth := k11m4) (c := k11c4) (by decide +kernel) rfl rfl rfl (by decide +kernel)
set_option maxRecDepth 65536 in
theorem w_c20 : (Jvm.Cond.code ({ cls := "java/math/BigDecimal", name := "add", desc := "(Ljava/math/BigDecimal;)Ljava/math/BigDecimal;" } : Jvm.MethodName) jdk_17_method_26_code (2 : Nat) (Option.some (Jvm.ClassFile.FieldType.object "java/math/BigDecimal"))).before args0 about1 = true := code_word (m := ⟨15, 3⟩) (meth := k15m3) (c := k15c3) (by decide +kernel) rfl rfl rfl (by decide +kernel)
set_option maxRecDepth 65536 in
theorem w_c21 : (Jvm.Cond.code ({ cls := "java/math/BigDecimal", name := "add", desc := "(JIJI)Ljava/math/BigDecimal;" } : Jvm.MethodName) jdk_17_method_134_code (12 : Nat) (Option.some (Jvm.ClassFile.FieldType.object "java/math/BigDecimal"))).before args0 about1 = true := code_word (m := ⟨15, 9⟩) (meth := k15m9) (c := k15c9) (by decide +kernel) rfl rfl rfl (by decide +kernel)
set_option maxRecDepth 65536 in
theorem w_c22 : (Jvm.Cond.code ({ cls := "java/math/BigDecimal", name := "add", desc := "(JJI)Ljava/math/BigDecimal;" } : Jvm.MethodName) jdk_17_method_133_code (7 : Nat) (Option.some (Jvm.ClassFile.FieldType.object "java/math/BigDecimal"))).before args0 about1 = true := code_word (m := ⟨15, 8⟩) (meth := k15m8) (c := k15c8) (by decide +kernel) rfl rfl rfl (by decide +kernel)
set_option maxRecDepth 65536 in
theorem w_c23 : (Jvm.Cond.code ({ cls := "java/math/BigDecimal", name := "add", desc := "(JJ)J" } : Jvm.MethodName) jdk_17_method_132_code (6 : Nat) (Option.some Jvm.ClassFile.FieldType.long)).before args0 about1 = true := code_word (m := ⟨15, 7⟩) (meth := k15m7) (c := k15c7) (by decide +kernel) rfl rfl rfl (by decide +kernel)
set_option maxRecDepth 65536 in
theorem w_c24 : (Jvm.Cond.code ({ cls := "java/math/BigDecimal", name := "valueOf", desc := "(JI)Ljava/math/BigDecimal;" } : Jvm.MethodName) jdk_17_method_20_code (3 : Nat) (Option.some (Jvm.ClassFile.FieldType.object "java/math/BigDecimal"))).before args0 about1 = true := code_word (m := ⟨15, 1⟩) (meth := k15m1) (c := k15c1) (by decide +kernel) rfl rfl rfl (by decide +kernel)
set_option maxRecDepth 65536 in
theorem w_c25 : (Jvm.Cond.code ({ cls := "java/math/BigDecimal", name := "<init>", desc := "(Ljava/math/BigInteger;JII)V" } : Jvm.MethodName) jdk_17_method_1_code (6 : Nat) (Option.none : Option Jvm.ClassFile.FieldType)).before args0 about1 = true := code_word (m := ⟨15, 0⟩) (meth := k15m0) (c := k15c0) (by decide +kernel) rfl rfl rfl (by decide +kernel)
set_option maxRecDepth 65536 in
theorem w_c26 : (Jvm.Cond.code ({ cls := "java/lang/Number", name := "<init>", desc := "()V" } : Jvm.MethodName) jdk_18_method_1_code (1 : Nat) (Option.none : Option Jvm.ClassFile.FieldType)).before args0 about1 = true := code_word (m := ⟨13, 0⟩) (meth := k13m0) (c := k13c0) (by decide +kernel) rfl rfl rfl (by decide +kernel)
set_option maxRecDepth 65536 in
theorem w_c27 : (Jvm.Cond.code ({ cls := "java/math/BigDecimal", name := "subtract", desc := "(Ljava/math/BigDecimal;)Ljava/math/BigDecimal;" } : Jvm.MethodName) jdk_17_method_29_code (2 : Nat) (Option.some (Jvm.ClassFile.FieldType.object "java/math/BigDecimal"))).before args0 about1 = true := code_word (m := ⟨15, 4⟩) (meth := k15m4) (c := k15c4) (by decide +kernel) rfl rfl rfl (by decide +kernel)
set_option maxRecDepth 65536 in
theorem w_c28 : (Jvm.Cond.code ({ cls := "java/math/BigDecimal", name := "max", desc := "(Ljava/math/BigDecimal;)Ljava/math/BigDecimal;" } : Jvm.MethodName) jdk_17_method_74_code (2 : Nat) (Option.some (Jvm.ClassFile.FieldType.object "java/math/BigDecimal"))).before args0 about1 = true := code_word (m := ⟨15, 6⟩) (meth := k15m6) (c := k15c6) (by decide +kernel) rfl rfl rfl (by decide +kernel)
set_option maxRecDepth 65536 in
theorem w_c29 : (Jvm.Cond.code ({ cls := "com/example/vestline/vestline/finalaveragepay/BestPeriodsTotalPinLaw", name := "w", desc := "([JII)J" } : Jvm.MethodName) method_3_code (5 : Nat) (Option.some Jvm.ClassFile.FieldType.long)).before args0 about1 = true := code_word (m := ⟨1, 2⟩) (meth := k1m2) (c := k1c2) (by decide +kernel) rfl rfl rfl (by decide +kernel)
set_option maxRecDepth 65536 in
theorem w_c30 : (Jvm.Cond.code ({ cls := "com/example/vestline/vestline/finalaveragepay/BestPeriodsTotalPinLaw", name := "one", desc := "([JIIIJ)J" } : Jvm.MethodName) method_4_code (6 : Nat) (Option.some Jvm.ClassFile.FieldType.long)).before args0 about1 = true := code_word (m := ⟨1, 3⟩) (meth := k1m3) (c := k1c3) (by decide +kernel) rfl rfl rfl (by decide +kernel)
set_option maxRecDepth 65536 in
theorem w_c31 : (Jvm.Cond.code ({ cls := "java/lang/Math", name := "max", desc := "(JJ)J" } : Jvm.MethodName) jdk_29_method_66_code (4 : Nat) (Option.some Jvm.ClassFile.FieldType.long)).before args0 about1 = true := code_word (m := ⟨17, 2⟩) (meth := k17m2) (c := k17c2) (by decide +kernel) rfl rfl rfl (by decide +kernel)
set_option maxRecDepth 65536 in
theorem w_c32 : (Jvm.Cond.code ({ cls := "com/example/vestline/vestline/finalaveragepay/BestPeriodsTotalPinLaw", name := "two", desc := "([JIIIIJ)J" } : Jvm.MethodName) method_5_code (7 : Nat) (Option.some Jvm.ClassFile.FieldType.long)).before args0 about1 = true := code_word (m := ⟨1, 4⟩) (meth := k1m4) (c := k1c4) (by decide +kernel) rfl rfl rfl (by decide +kernel)
set_option maxRecDepth 65536 in
theorem w_c33 : (Jvm.Cond.code ({ cls := "java/lang/Math", name := "min", desc := "(JJ)J" } : Jvm.MethodName) jdk_29_method_70_code (4 : Nat) (Option.some Jvm.ClassFile.FieldType.long)).before args0 about1 = true := code_word (m := ⟨17, 3⟩) (meth := k17m3) (c := k17c3) (by decide +kernel) rfl rfl rfl (by decide +kernel)
def codes1 : List Jvm.Cond := [Jvm.Cond.code x code maxLocals ret, Jvm.Cond.code ({ cls := "java/util/ArrayList", name := "<init>", desc := "()V" } : Jvm.MethodName) jdk_38_method_2_code (1 : Nat) (Option.none : Option Jvm.ClassFile.FieldType), Jvm.Cond.code ({ cls := "java/util/AbstractList", name := "<init>", desc := "()V" } : Jvm.MethodName) jdk_39_method_1_code (1 : Nat) (Option.none : Option Jvm.ClassFile.FieldType), Jvm.Cond.code ({ cls := "java/util/AbstractCollection", name := "<init>", desc := "()V" } : Jvm.MethodName) jdk_22_method_1_code (1 : Nat) (Option.none : Option Jvm.ClassFile.FieldType), Jvm.Cond.code ({ cls := "java/lang/Object", name := "<init>", desc := "()V" } : Jvm.MethodName) object_method_1_code (1 : Nat) (Option.none : Option Jvm.ClassFile.FieldType), Jvm.Cond.code ({ cls := "com/example/vestline/vestline/finalaveragepay/BestPeriods", name := "total", desc := "(Ljava/util/List;II)Ljava/math/BigDecimal;" } : Jvm.MethodName) prog_2_method_2_code (10 : Nat) (Option.some (Jvm.ClassFile.FieldType.object "java/math/BigDecimal")), Jvm.Cond.code ({ cls := "java/util/ArrayList", name := "size", desc := "()I" } : Jvm.MethodName) jdk_38_method_8_code (1 : Nat) (Option.some Jvm.ClassFile.FieldType.int), Jvm.Cond.code ({ cls := "java/util/Arrays", name := "fill", desc := "([Ljava/lang/Object;Ljava/lang/Object;)V" } : Jvm.MethodName) jdk_65_method_117_code (4 : Nat) (Option.none : Option Jvm.ClassFile.FieldType), Jvm.Cond.code ({ cls := "com/example/vestline/vestline/finalaveragepay/BestPeriodsTotalPinLaw", name := "reference", desc := "([JIII)J" } : Jvm.MethodName) method_6_code (6 : Nat) (Option.some Jvm.ClassFile.FieldType.long), Jvm.Cond.code ({ cls := "java/math/BigDecimal", name := "valueOf", desc := "(J)Ljava/math/BigDecimal;" } : Jvm.MethodName) jdk_17_method_21_code (2 : Nat) (Option.some (Jvm.ClassFile.FieldType.object "java/math/BigDecimal")), Jvm.Cond.code ({ cls := "java/math/BigDecimal", name := "compareTo", desc := "(Ljava/math/BigDecimal;)I" } : Jvm.MethodName) jdk_17_method_70_code (6 : Nat) (Option.some Jvm.ClassFile.FieldType.int), Jvm.Cond.code ({ cls := "java/util/ArrayList", name := "add", desc := "(Ljava/lang/Object;)Z" } : Jvm.MethodName) jdk_38_method_25_code (2 : Nat) (Option.some Jvm.ClassFile.FieldType.boolean), Jvm.Cond.code ({ cls := "java/util/ArrayList", name := "add", desc := "(Ljava/lang/Object;[Ljava/lang/Object;I)V" } : Jvm.MethodName) jdk_38_method_24_code (4 : Nat) (Option.none : Option Jvm.ClassFile.FieldType), Jvm.Cond.code ({ cls := "java/util/ArrayList", name := "grow", desc := "()[Ljava/lang/Object;" } : Jvm.MethodName) jdk_38_method_7_code (1 : Nat) (Option.some (Jvm.ClassFile.FieldType.array (Jvm.ClassFile.FieldType.object "java/lang/Object"))), Jvm.Cond.code ({ cls := "java/util/ArrayList", name := "grow", desc := "(I)[Ljava/lang/Object;" } : Jvm.MethodName) jdk_38_method_6_code (4 : Nat) (Option.some (Jvm.ClassFile.FieldType.array (Jvm.ClassFile.FieldType.object "java/lang/Object"))), Jvm.Cond.code ({ cls := "java/lang/Math", name := "max", desc := "(II)I" } : Jvm.MethodName) jdk_29_method_65_code (2 : Nat) (Option.some Jvm.ClassFile.FieldType.int), Jvm.Cond.code ({ cls := "java/util/ArrayList", name := "get", desc := "(I)Ljava/lang/Object;" } : Jvm.MethodName) jdk_38_method_20_code (2 : Nat) (Option.some (Jvm.ClassFile.FieldType.object "java/lang/Object")), Jvm.Cond.code ({ cls := "java/util/Objects", name := "checkIndex", desc := "(II)I" } : Jvm.MethodName) jdk_31_method_17_code (2 : Nat) (Option.some Jvm.ClassFile.FieldType.int), Jvm.Cond.code ({ cls := "jdk/internal/util/Preconditions", name := "checkIndex", desc := "(IILjava/util/function/BiFunction;)I" } : Jvm.MethodName) jdk_41_method_11_code (3 : Nat) (Option.some Jvm.ClassFile.FieldType.int), Jvm.Cond.code ({ cls := "java/util/ArrayList", name := "elementData", desc := "(I)Ljava/lang/Object;" } : Jvm.MethodName) jdk_38_method_18_code (2 : Nat) (Option.some (Jvm.ClassFile.FieldType.object "java/lang/Object")), Jvm.Cond.code ({ cls := "java/math/BigDecimal", name := "add", desc := "(Ljava/math/BigDecimal;)Ljava/math/BigDecimal;" } : Jvm.MethodName) jdk_17_method_26_code (2 : Nat) (Option.some (Jvm.ClassFile.FieldType.object "java/math/BigDecimal")), Jvm.Cond.code ({ cls := "java/math/BigDecimal", name := "add", desc := "(JIJI)Ljava/math/BigDecimal;" } : Jvm.MethodName) jdk_17_method_134_code (12 : Nat) (Option.some (Jvm.ClassFile.FieldType.object "java/math/BigDecimal")), Jvm.Cond.code ({ cls := "java/math/BigDecimal", name := "add", desc := "(JJI)Ljava/math/BigDecimal;" } : Jvm.MethodName) jdk_17_method_133_code (7 : Nat) (Option.some (Jvm.ClassFile.FieldType.object "java/math/BigDecimal")), Jvm.Cond.code ({ cls := "java/math/BigDecimal", name := "add", desc := "(JJ)J" } : Jvm.MethodName) jdk_17_method_132_code (6 : Nat) (Option.some Jvm.ClassFile.FieldType.long), Jvm.Cond.code ({ cls := "java/math/BigDecimal", name := "valueOf", desc := "(JI)Ljava/math/BigDecimal;" } : Jvm.MethodName) jdk_17_method_20_code (3 : Nat) (Option.some (Jvm.ClassFile.FieldType.object "java/math/BigDecimal")), Jvm.Cond.code ({ cls := "java/math/BigDecimal", name := "<init>", desc := "(Ljava/math/BigInteger;JII)V" } : Jvm.MethodName) jdk_17_method_1_code (6 : Nat) (Option.none : Option Jvm.ClassFile.FieldType), Jvm.Cond.code ({ cls := "java/lang/Number", name := "<init>", desc := "()V" } : Jvm.MethodName) jdk_18_method_1_code (1 : Nat) (Option.none : Option Jvm.ClassFile.FieldType), Jvm.Cond.code ({ cls := "java/math/BigDecimal", name := "subtract", desc := "(Ljava/math/BigDecimal;)Ljava/math/BigDecimal;" } : Jvm.MethodName) jdk_17_method_29_code (2 : Nat) (Option.some (Jvm.ClassFile.FieldType.object "java/math/BigDecimal")), Jvm.Cond.code ({ cls := "java/math/BigDecimal", name := "max", desc := "(Ljava/math/BigDecimal;)Ljava/math/BigDecimal;" } : Jvm.MethodName) jdk_17_method_74_code (2 : Nat) (Option.some (Jvm.ClassFile.FieldType.object "java/math/BigDecimal")), Jvm.Cond.code ({ cls := "com/example/vestline/vestline/finalaveragepay/BestPeriodsTotalPinLaw", name := "w", desc := "([JII)J" } : Jvm.MethodName) method_3_code (5 : Nat) (Option.some Jvm.ClassFile.FieldType.long), Jvm.Cond.code ({ cls := "com/example/vestline/vestline/finalaveragepay/BestPeriodsTotalPinLaw", name := "one", desc := "([JIIIJ)J" } : Jvm.MethodName) method_4_code (6 : Nat) (Option.some Jvm.ClassFile.FieldType.long), Jvm.Cond.code ({ cls := "java/lang/Math", name := "max", desc := "(JJ)J" } : Jvm.MethodName) jdk_29_method_66_code (4 : Nat) (Option.some Jvm.ClassFile.FieldType.long), Jvm.Cond.code ({ cls := "com/example/vestline/vestline/finalaveragepay/BestPeriodsTotalPinLaw", name := "two", desc := "([JIIIIJ)J" } : Jvm.MethodName) method_5_code (7 : Nat) (Option.some Jvm.ClassFile.FieldType.long), Jvm.Cond.code ({ cls := "java/lang/Math", name := "min", desc := "(JJ)J" } : Jvm.MethodName) jdk_29_method_70_code (4 : Nat) (Option.some Jvm.ClassFile.FieldType.long)]
set_option maxRecDepth 65536 in
theorem codes_eq : words1.filter isCode = codes1 := rfl
theorem w_codes : ∀ c ∈ words1.filter isCode, c.before args0 about1 = true := by
  rw [codes_eq]
  intro c hc
  simp only [codes1, List.mem_cons, List.not_mem_nil, or_false] at hc
  rcases hc with rfl | rfl | rfl | rfl | rfl | rfl | rfl | rfl | rfl | rfl | rfl | rfl | rfl | rfl | rfl | rfl | rfl | rfl | rfl | rfl | rfl | rfl | rfl | rfl | rfl | rfl | rfl | rfl | rfl | rfl | rfl | rfl | rfl | rfl
  · exact w_c0
  · exact w_c1
  · exact w_c2
  · exact w_c3
  · exact w_c4
  · exact w_c5
  · exact w_c6
  · exact w_c7
  · exact w_c8
  · exact w_c9
  · exact w_c10
  · exact w_c11
  · exact w_c12
  · exact w_c13
  · exact w_c14
  · exact w_c15
  · exact w_c16
  · exact w_c17
  · exact w_c18
  · exact w_c19
  · exact w_c20
  · exact w_c21
  · exact w_c22
  · exact w_c23
  · exact w_c24
  · exact w_c25
  · exact w_c26
  · exact w_c27
  · exact w_c28
  · exact w_c29
  · exact w_c30
  · exact w_c31
  · exact w_c32
  · exact w_c33
set_option maxRecDepth 65536 in
theorem w_t1 : (words1.take 24).all (fun c => isCode c || c.before args0 about1) = true := by decide +kernel
set_option maxRecDepth 65536 in
theorem w_t2 : ((words1.drop 24).take 24).all (fun c => isCode c || c.before args0 about1) = true := by decide +kernel
set_option maxRecDepth 65536 in
theorem w_t3 : (((words1.drop 24).drop 24).take 24).all (fun c => isCode c || c.before args0 about1) = true := by decide +kernel
set_option maxRecDepth 65536 in
theorem w_t4 : ((((words1.drop 24).drop 24).drop 24).take 24).all (fun c => isCode c || c.before args0 about1) = true := by decide +kernel
set_option maxRecDepth 65536 in
theorem w_t5 : (((((words1.drop 24).drop 24).drop 24).drop 24).take 24).all (fun c => isCode c || c.before args0 about1) = true := by decide +kernel
set_option maxRecDepth 65536 in
theorem w_t6 : ((((((words1.drop 24).drop 24).drop 24).drop 24).drop 24).take 24).all (fun c => isCode c || c.before args0 about1) = true := by decide +kernel
set_option maxRecDepth 65536 in
theorem w_t7 : (((((((words1.drop 24).drop 24).drop 24).drop 24).drop 24).drop 24).take 24).all (fun c => isCode c || c.before args0 about1) = true := by decide +kernel
set_option maxRecDepth 65536 in
theorem w_t8 : (((((((words1.drop 24).drop 24).drop 24).drop 24).drop 24).drop 24).drop 24).all (fun c => isCode c || c.before args0 about1) = true := by decide +kernel
theorem w_tables : (allAtoms (Jvm.Cond.code x code maxLocals ret :: tables_1)).before args0 about1 = true := by
  rw [allAtoms_all]
  show words1.all (fun c => c.before args0 about1) = true
  refine all_split ?_ w_codes
  rw [← List.take_append_drop 24 words1, List.all_append, w_t1, ← List.take_append_drop 24 (words1.drop 24), List.all_append, w_t2, ← List.take_append_drop 24 ((words1.drop 24).drop 24), List.all_append, w_t3, ← List.take_append_drop 24 (((words1.drop 24).drop 24).drop 24), List.all_append, w_t4, ← List.take_append_drop 24 ((((words1.drop 24).drop 24).drop 24).drop 24), List.all_append, w_t5, ← List.take_append_drop 24 (((((words1.drop 24).drop 24).drop 24).drop 24).drop 24), List.all_append, w_t6, ← List.take_append_drop 24 ((((((words1.drop 24).drop 24).drop 24).drop 24).drop 24).drop 24), List.all_append, w_t7, w_t8]
  rfl
set_option maxRecDepth 65536 in
theorem w_rest : rest_1_c.before args0 about1 = true := by decide +kernel
set_option maxRecDepth 65536 in
theorem w_case : (Jvm.Cond.and given_1 narrow_1).before args0 about1 = true := by decide +kernel
theorem w_applies : (headSpec (Jvm.Cond.code x code maxLocals ret :: tables_1) room_1).applies x e0.platform about1 = true :=
  (Spec.applies_iff w_frames).mpr ⟨w_running, w_runnable, w_alone, w_named, w_hears, w_ripe, w_room, w_tables⟩
theorem atStart : AtStart classFile x code maxLocals ret World_1 tables_1 room_1 Calls_1 rest_1 Pre_1 launch0 p0 e0 about1 theMethod args0 below0 :=
  ⟨lists_1, trivial, launch0.admits_env _ _ _, launch0.least_env, fairChoices_fair.cas, fairChoices_fair.clock, w_frames, w_args, w_heap, w_applies, trivial, w_rest, w_case⟩
end start1
theorem witness_1 : WitnessClaimed_1 := ⟨start1.p0, start1.e0, start1.about1, start1.theMethod, start1.args0, start1.below0, start1.atStart⟩
end Jvm.Pilot.@@N@@
