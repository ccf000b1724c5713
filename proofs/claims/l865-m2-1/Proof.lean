import JvmDerived
import JvmDerived.Pilot.@@N@@Statement
import JvmDerived.Pilot.@@N@@Code
set_option linter.unusedVariables false
set_option linter.unusedSimpArgs false
namespace Jvm.RoadKit
open Sem ClassFile Op Lib Jvm.Stand Jvm.Free Jvm.LawKit
section New
variable {p : Program} {l : Launch} {e : Env} {R : Room} {s : State} {m : MethodId} {args : Array Value} {below : List Frame} {meth : Method} {c : Code} {T : State} {locs : List Loc} {cells slots : Nat}
theorem retI (X : Stand p l e R s m args below meth c T locs cells slots) (hx : p.tables.exec = Jvm.exec) {pc : Nat} {Ls : Array Slot} {z : Int32} {rest : List Value} (hret : meth.sig.returnType = some .int) (hd : decode c.code pc = .ok (.ireturn, 1)) {fs : List Frame}
    (hl : ∀ (f : JFrame) (acts : List Action), f.method = m → f.locked = none → f.entered = [] → (doReturn e (T.setTop f) acts (some (.int z))).1 = T.setFrames fs) : Steps p.tables e below (T.setTop (mkF m pc Ls (.int z :: rest))) (T.setFrames fs) := by
  have hm' : T.vm.method? m = some meth := X.method'
  have hn : narrow .int (.int z) = .int z := rfl
  show Steps p.tables e below (T.setTop { method := m, pc := pc, locals := Ls, stack := _ :: rest, locked := none }) _
  jvm_step X.here [X.here.top, hx, hd, hm', hret, hn]
  first | (intro acts; rw [hl _ acts rfl rfl rfl]) | rw [hl _ _ rfl rfl rfl]
  exact Steps.refl _
theorem own_retJ (X : Stand p l e R s m args below meth c T locs cells slots) (hx : p.tables.exec = Jvm.exec) {pc : Nat} {Ls : Array Slot} {z : Int64} {rest : List Value} (hret : meth.sig.returnType = some .long) (hd : decode c.code pc = .ok (.lreturn, 1)) {fs : List Frame}
    (hl : ∀ (f : JFrame) (acts : List Action), f.method = m → f.locked = none → f.entered = [] → (doReturn e (T.setTop f) acts (some (.long z))).1 = T.setFrames fs) : Steps p.tables e below (T.setTop (mkF m pc Ls (.long z :: rest))) (T.setFrames fs) := by
  have hm' : T.vm.method? m = some meth := X.method'
  have hn : narrow .long (.long z) = .long z := rfl
  show Steps p.tables e below (T.setTop { method := m, pc := pc, locals := Ls, stack := _ :: rest, locked := none }) _
  jvm_step X.here [X.here.top, hx, hd, hm', hret, hn]
  first | (intro acts; rw [hl _ acts rfl rfl rfl]) | rw [hl _ _ rfl rfl rfl]
  exact Steps.refl _
theorem own_retD (X : Stand p l e R s m args below meth c T locs cells slots) (hx : p.tables.exec = Jvm.exec) {pc : Nat} {Ls : Array Slot} {z : UInt64} {rest : List Value} (hret : meth.sig.returnType = some .double) (hd : decode c.code pc = .ok (.dreturn, 1)) {fs : List Frame}
    (hl : ∀ (f : JFrame) (acts : List Action), f.method = m → f.locked = none → f.entered = [] → (doReturn e (T.setTop f) acts (some (.double z))).1 = T.setFrames fs) : Steps p.tables e below (T.setTop (mkF m pc Ls (.double z :: rest))) (T.setFrames fs) := by
  have hm' : T.vm.method? m = some meth := X.method'
  have hn : narrow .double (.double z) = .double z := rfl
  show Steps p.tables e below (T.setTop { method := m, pc := pc, locals := Ls, stack := _ :: rest, locked := none }) _
  jvm_step X.here [X.here.top, hx, hd, hm', hret, hn]
  first | (intro acts; rw [hl _ acts rfl rfl rfl]) | rw [hl _ _ rfl rfl rfl]
  exact Steps.refl _
theorem own_retR (X : Stand p l e R s m args below meth c T locs cells slots) (hx : p.tables.exec = Jvm.exec) {pc : Nat} {Ls : Array Slot} {w : Value} {t : FieldType} {rest : List Value} (hret : meth.sig.returnType = some t) (ht : t.isReference = true) (hw : w.isRef = true) (hd : decode c.code pc = .ok (.areturn, 1)) {fs : List Frame}
    (hl : ∀ (f : JFrame) (acts : List Action), f.method = m → f.locked = none → f.entered = [] → (doReturn e (T.setTop f) acts (some w)).1 = T.setFrames fs) : Steps p.tables e below (T.setTop (mkF m pc Ls (w :: rest))) (T.setFrames fs) := by
  have hm' : T.vm.method? m = some meth := X.method'
  rcases ref_cases hw with rfl | ⟨a, rfl⟩
  all_goals
    show Steps p.tables e below (T.setTop { method := m, pc := pc, locals := Ls, stack := _ :: rest, locked := none }) _
    jvm_step X.here [X.here.top, hx, hd, hm', hret, ht, Value.isRef]
    first | (intro acts; rw [hl _ acts rfl rfl rfl]) | rw [hl _ _ rfl rfl rfl]
    exact Steps.refl _
end New
end Jvm.RoadKit
namespace Jvm.Pilot.@@N@@
open Jvm Jvm.ClassFile Sem Op Lib Jvm.Free Jvm.Stand Jvm.LawKit Jvm.RoadKit Bundle Jvm.Pilot.@@N@@.Jvm.D
abbrev SS (p : Program) (e : Env) (below : List Frame) (T : State) (m : MethodId) (pc : Nat) (ls : Array Slot) (st : List Value) (t : State) : Prop := Steps p.tables e below (T.setTop (mkF m pc ls st)) t
theorem own_bool {P : Prop} [Decidable P] : nar .boolean (if P then (1 : Int32) else (0 : Int32)) = if P then (1 : Int32) else (0 : Int32) := by split <;> decide
theorem w0 {a0 : Array Value} {Z : State} (hw : ∀ d ∈ tables_1, d.before a0 Z = true) : (Jvm.Cond.constantLong "com/example/evenkeel/evenkeel/cli/PickCostBytesPerPickPinLaw" (7 : Nat) (1048575 : Int64)).before a0 Z = true := hw _ (List.mem_of_getElem? (i := 0) rfl)
theorem w1 {a0 : Array Value} {Z : State} (hw : ∀ d ∈ tables_1, d.before a0 Z = true) : (Jvm.Cond.constantLong "com/example/evenkeel/evenkeel/cli/PickCostBytesPerPickPinLaw" (9 : Nat) (2147483647 : Int64)).before a0 Z = true := hw _ (List.mem_of_getElem? (i := 1) rfl)
theorem w2 {a0 : Array Value} {Z : State} (hw : ∀ d ∈ tables_1, d.before a0 Z = true) : (Jvm.Cond.classLink "com/example/evenkeel/evenkeel/cli/PickCostBytesPerPickPinLaw" (11 : Nat) "com/example/evenkeel/evenkeel/cli/PickCost").before a0 Z = true := hw _ (List.mem_of_getElem? (i := 2) rfl)
theorem w3 {a0 : Array Value} {Z : State} (hw : ∀ d ∈ tables_1, d.before a0 Z = true) : (Jvm.Cond.instantiable "com/example/evenkeel/evenkeel/cli/PickCost" (3 : Nat)).before a0 Z = true := hw _ (List.mem_of_getElem? (i := 3) rfl)
theorem w4 {a0 : Array Value} {Z : State} (hw : ∀ d ∈ tables_1, d.before a0 Z = true) : (Jvm.Cond.initialized "com/example/evenkeel/evenkeel/cli/PickCost").before a0 Z = true := hw _ (List.mem_of_getElem? (i := 4) rfl)
theorem w5 {a0 : Array Value} {Z : State} (hw : ∀ d ∈ tables_1, d.before a0 Z = true) : (Jvm.Cond.methodLink "com/example/evenkeel/evenkeel/cli/PickCostBytesPerPickPinLaw" (13 : Nat) ({ cls := "com/example/evenkeel/evenkeel/cli/PickCost", name := "<init>", desc := "(JJJ)V" } : Jvm.MethodName)).before a0 Z = true := hw _ (List.mem_of_getElem? (i := 5) rfl)
theorem w6 {a0 : Array Value} {Z : State} (hw : ∀ d ∈ tables_1, d.before a0 Z = true) : (Jvm.Cond.instanceMethod ({ cls := "com/example/evenkeel/evenkeel/cli/PickCost", name := "<init>", desc := "(JJJ)V" } : Jvm.MethodName)).before a0 Z = true := hw _ (List.mem_of_getElem? (i := 6) rfl)
theorem w7 {a0 : Array Value} {Z : State} (hw : ∀ d ∈ tables_1, d.before a0 Z = true) : (Jvm.Cond.code ({ cls := "com/example/evenkeel/evenkeel/cli/PickCost", name := "<init>", desc := "(JJJ)V" } : Jvm.MethodName) prog_22_method_1_code (7 : Nat) (Option.none : Option Jvm.ClassFile.FieldType)).before a0 Z = true := hw _ (List.mem_of_getElem? (i := 7) rfl)
theorem w8 {a0 : Array Value} {Z : State} (hw : ∀ d ∈ tables_1, d.before a0 Z = true) : (Jvm.Cond.methodLink "com/example/evenkeel/evenkeel/cli/PickCost" (1 : Nat) ({ cls := "java/lang/Record", name := "<init>", desc := "()V" } : Jvm.MethodName)).before a0 Z = true := hw _ (List.mem_of_getElem? (i := 8) rfl)
theorem w9 {a0 : Array Value} {Z : State} (hw : ∀ d ∈ tables_1, d.before a0 Z = true) : (Jvm.Cond.instanceMethod ({ cls := "java/lang/Record", name := "<init>", desc := "()V" } : Jvm.MethodName)).before a0 Z = true := hw _ (List.mem_of_getElem? (i := 9) rfl)
theorem w11 {a0 : Array Value} {Z : State} (hw : ∀ d ∈ tables_1, d.before a0 Z = true) : (Jvm.Cond.initialized "java/lang/Record").before a0 Z = true := hw _ (List.mem_of_getElem? (i := 11) rfl)
theorem w12 {a0 : Array Value} {Z : State} (hw : ∀ d ∈ tables_1, d.before a0 Z = true) : (Jvm.Cond.code ({ cls := "java/lang/Record", name := "<init>", desc := "()V" } : Jvm.MethodName) jdk_30_method_1_code (1 : Nat) (Option.none : Option Jvm.ClassFile.FieldType)).before a0 Z = true := hw _ (List.mem_of_getElem? (i := 12) rfl)
theorem w13 {a0 : Array Value} {Z : State} (hw : ∀ d ∈ tables_1, d.before a0 Z = true) : (Jvm.Cond.methodLink "java/lang/Record" (1 : Nat) ({ cls := "java/lang/Object", name := "<init>", desc := "()V" } : Jvm.MethodName)).before a0 Z = true := hw _ (List.mem_of_getElem? (i := 13) rfl)
theorem w14 {a0 : Array Value} {Z : State} (hw : ∀ d ∈ tables_1, d.before a0 Z = true) : (Jvm.Cond.instanceMethod ({ cls := "java/lang/Object", name := "<init>", desc := "()V" } : Jvm.MethodName)).before a0 Z = true := hw _ (List.mem_of_getElem? (i := 14) rfl)
theorem w15 {a0 : Array Value} {Z : State} (hw : ∀ d ∈ tables_1, d.before a0 Z = true) : (Jvm.Cond.code ({ cls := "java/lang/Object", name := "<init>", desc := "()V" } : Jvm.MethodName) object_method_1_code (1 : Nat) (Option.none : Option Jvm.ClassFile.FieldType)).before a0 Z = true := hw _ (List.mem_of_getElem? (i := 15) rfl)
theorem w16 {a0 : Array Value} {Z : State} (hw : ∀ d ∈ tables_1, d.before a0 Z = true) : (Jvm.Cond.fieldLink "com/example/evenkeel/evenkeel/cli/PickCost" (7 : Nat) "com/example/evenkeel/evenkeel/cli/PickCost" "picks" "J").before a0 Z = true := hw _ (List.mem_of_getElem? (i := 16) rfl)
theorem w17 {a0 : Array Value} {Z : State} (hw : ∀ d ∈ tables_1, d.before a0 Z = true) : (Jvm.Cond.laysFinal "com/example/evenkeel/evenkeel/cli/PickCost" "com/example/evenkeel/evenkeel/cli/PickCost" "picks" "J").before a0 Z = true := hw _ (List.mem_of_getElem? (i := 17) rfl)
theorem w18 {a0 : Array Value} {Z : State} (hw : ∀ d ∈ tables_1, d.before a0 Z = true) : (Jvm.Cond.fieldLink "com/example/evenkeel/evenkeel/cli/PickCost" (13 : Nat) "com/example/evenkeel/evenkeel/cli/PickCost" "nanos" "J").before a0 Z = true := hw _ (List.mem_of_getElem? (i := 18) rfl)
theorem w19 {a0 : Array Value} {Z : State} (hw : ∀ d ∈ tables_1, d.before a0 Z = true) : (Jvm.Cond.laysFinal "com/example/evenkeel/evenkeel/cli/PickCost" "com/example/evenkeel/evenkeel/cli/PickCost" "nanos" "J").before a0 Z = true := hw _ (List.mem_of_getElem? (i := 19) rfl)
theorem w20 {a0 : Array Value} {Z : State} (hw : ∀ d ∈ tables_1, d.before a0 Z = true) : (Jvm.Cond.fieldLink "com/example/evenkeel/evenkeel/cli/PickCost" (16 : Nat) "com/example/evenkeel/evenkeel/cli/PickCost" "bytes" "J").before a0 Z = true := hw _ (List.mem_of_getElem? (i := 20) rfl)
theorem w21 {a0 : Array Value} {Z : State} (hw : ∀ d ∈ tables_1, d.before a0 Z = true) : (Jvm.Cond.laysFinal "com/example/evenkeel/evenkeel/cli/PickCost" "com/example/evenkeel/evenkeel/cli/PickCost" "bytes" "J").before a0 Z = true := hw _ (List.mem_of_getElem? (i := 21) rfl)
theorem w22 {a0 : Array Value} {Z : State} (hw : ∀ d ∈ tables_1, d.before a0 Z = true) : (Jvm.Cond.methodLink "com/example/evenkeel/evenkeel/cli/PickCostBytesPerPickPinLaw" (16 : Nat) ({ cls := "com/example/evenkeel/evenkeel/cli/PickCost", name := "bytesPerPick", desc := "()D" } : Jvm.MethodName)).before a0 Z = true := hw _ (List.mem_of_getElem? (i := 22) rfl)
theorem w23 {a0 : Array Value} {Z : State} (hw : ∀ d ∈ tables_1, d.before a0 Z = true) : (Jvm.Cond.declares ({ cls := "com/example/evenkeel/evenkeel/cli/PickCost", name := "bytesPerPick", desc := "()D" } : Jvm.MethodName)).before a0 Z = true := hw _ (List.mem_of_getElem? (i := 23) rfl)
theorem w24 {a0 : Array Value} {Z : State} (hw : ∀ d ∈ tables_1, d.before a0 Z = true) : (Jvm.Cond.instanceMethod ({ cls := "com/example/evenkeel/evenkeel/cli/PickCost", name := "bytesPerPick", desc := "()D" } : Jvm.MethodName)).before a0 Z = true := hw _ (List.mem_of_getElem? (i := 24) rfl)
theorem w25 {a0 : Array Value} {Z : State} (hw : ∀ d ∈ tables_1, d.before a0 Z = true) : (Jvm.Cond.selects "com/example/evenkeel/evenkeel/cli/PickCost" ({ cls := "com/example/evenkeel/evenkeel/cli/PickCost", name := "bytesPerPick", desc := "()D" } : Jvm.MethodName) ({ cls := "com/example/evenkeel/evenkeel/cli/PickCost", name := "bytesPerPick", desc := "()D" } : Jvm.MethodName)).before a0 Z = true := hw _ (List.mem_of_getElem? (i := 25) rfl)
theorem w26 {a0 : Array Value} {Z : State} (hw : ∀ d ∈ tables_1, d.before a0 Z = true) : (Jvm.Cond.code ({ cls := "com/example/evenkeel/evenkeel/cli/PickCost", name := "bytesPerPick", desc := "()D" } : Jvm.MethodName) prog_22_method_3_code (1 : Nat) (Option.some Jvm.ClassFile.FieldType.double)).before a0 Z = true := hw _ (List.mem_of_getElem? (i := 26) rfl)
theorem w27 {a0 : Array Value} {Z : State} (hw : ∀ d ∈ tables_1, d.before a0 Z = true) : (Jvm.Cond.constantDouble "com/example/evenkeel/evenkeel/cli/PickCostBytesPerPickPinLaw" (20 : Nat) (4602678819172646912 : UInt64)).before a0 Z = true := hw _ (List.mem_of_getElem? (i := 27) rfl)
theorem w28 {a0 : Array Value} {Z : State} (hw : ∀ d ∈ tables_1, d.before a0 Z = true) : (Jvm.Cond.constantLong "com/example/evenkeel/evenkeel/cli/PickCostBytesPerPickPinLaw" (22 : Nat) (2 : Int64)).before a0 Z = true := hw _ (List.mem_of_getElem? (i := 28) rfl)
theorem ef_recinit (m : MethodId) (x0 : Addr) : entryFrame m #[(.ref x0)] 1 = mkF m 0 #[.val (.ref x0)] [] := by first | (simp [entryFrame, mkF, argsToLocals, Value.category]; done) | rfl
theorem pn_java_lang_Record : plainName "java/lang/Record" = true := by first | (simp [plainName, overriddenIn]; done) | decide +kernel
theorem d_jdk_30_method_1_0 : decode jdk_30_method_1_code 0 = .ok (.aload_n 0, 1) := by decide +kernel
theorem d_jdk_30_method_1_1 : decode jdk_30_method_1_code 1 = .ok (.invokespecial 1, 3) := by decide +kernel
theorem d_jdk_30_method_1_4 : decode jdk_30_method_1_code 4 = .ok (.return_, 1) := by decide +kernel
theorem ef_pcinit (m : MethodId) (x0 : Addr) (x1 : Int64) (x2 : Int64) (x3 : Int64) : entryFrame m #[(.ref x0), (.long x1), (.long x2), (.long x3)] 7 = mkF m 0 #[.val (.ref x0), .val (.long x1), .second, .val (.long x2), .second, .val (.long x3), .second] [] := by first | (simp [entryFrame, mkF, argsToLocals, Value.category]; done) | rfl
theorem pn_com_example_evenkeel_evenkeel_cli_PickCost : plainName "com/example/evenkeel/evenkeel/cli/PickCost" = true := by first | (simp [plainName, overriddenIn]; done) | decide +kernel
theorem d_prog_22_method_1_0 : decode prog_22_method_1_code 0 = .ok (.aload_n 0, 1) := by decide +kernel
theorem d_prog_22_method_1_1 : decode prog_22_method_1_code 1 = .ok (.invokespecial 1, 3) := by decide +kernel
theorem pd__28__29_V : parseMethodDescriptor "()V" = some ⟨[], none⟩ := by decide +kernel
theorem d_prog_22_method_1_4 : decode prog_22_method_1_code 4 = .ok (.aload_n 0, 1) := by decide +kernel
theorem d_prog_22_method_1_5 : decode prog_22_method_1_code 5 = .ok (.lload_n 1, 1) := by decide +kernel
theorem d_prog_22_method_1_6 : decode prog_22_method_1_code 6 = .ok (.putfield 7, 3) := by decide +kernel
theorem d_prog_22_method_1_9 : decode prog_22_method_1_code 9 = .ok (.aload_n 0, 1) := by decide +kernel
theorem d_prog_22_method_1_10 : decode prog_22_method_1_code 10 = .ok (.lload_n 3, 1) := by decide +kernel
theorem d_prog_22_method_1_11 : decode prog_22_method_1_code 11 = .ok (.putfield 13, 3) := by decide +kernel
theorem d_prog_22_method_1_14 : decode prog_22_method_1_code 14 = .ok (.aload_n 0, 1) := by decide +kernel
theorem d_prog_22_method_1_15 : decode prog_22_method_1_code 15 = .ok (.lload 5, 2) := by decide +kernel
theorem d_prog_22_method_1_17 : decode prog_22_method_1_code 17 = .ok (.putfield 16, 3) := by decide +kernel
theorem d_prog_22_method_1_20 : decode prog_22_method_1_code 20 = .ok (.return_, 1) := by decide +kernel
theorem ef_per (m : MethodId) (x0 : Addr) : entryFrame m #[(.ref x0)] 1 = mkF m 0 #[.val (.ref x0)] [] := by first | (simp [entryFrame, mkF, argsToLocals, Value.category]; done) | rfl
theorem d_prog_22_method_3_0 : decode prog_22_method_3_code 0 = .ok (.aload_n 0, 1) := by decide +kernel
theorem d_prog_22_method_3_1 : decode prog_22_method_3_code 1 = .ok (.getfield 16, 3) := by decide +kernel
theorem d_prog_22_method_3_4 : decode prog_22_method_3_code 4 = .ok (.l2d, 1) := by decide +kernel
theorem d_prog_22_method_3_5 : decode prog_22_method_3_code 5 = .ok (.aload_n 0, 1) := by decide +kernel
theorem d_prog_22_method_3_6 : decode prog_22_method_3_code 6 = .ok (.getfield 7, 3) := by decide +kernel
theorem d_prog_22_method_3_9 : decode prog_22_method_3_code 9 = .ok (.l2d, 1) := by decide +kernel
theorem d_prog_22_method_3_10 : decode prog_22_method_3_code 10 = .ok (.ddiv, 1) := by decide +kernel
theorem d_prog_22_method_3_11 : decode prog_22_method_3_code 11 = .ok (.dreturn, 1) := by decide +kernel
theorem ef_law (m : MethodId) (x0 : Int64) (x1 : Int64) (x2 : Int64) (x3 : Int64) (x4 : Int32) : entryFrame m #[(.long x0), (.long x1), (.long x2), (.long x3), (.int x4)] maxLocals = mkF m 0 #[.val (.long x0), .second, .val (.long x1), .second, .val (.long x2), .second, .val (.long x3), .second, .val (.int x4), .unset, .unset, .unset, .unset, .unset, .unset, .unset, .unset, .unset, .unset, .unset, .unset, .unset, .unset, .unset, .unset, .unset, .unset, .unset] [] := by first | (simp [entryFrame, mkF, argsToLocals, Value.category, maxLocals]; done) | rfl
theorem pn_com_example_evenkeel_evenkeel_cli_PickCostBytesPerPickPinLaw : plainName "com/example/evenkeel/evenkeel/cli/PickCostBytesPerPickPinLaw" = true := by first | (simp [plainName, overriddenIn]; done) | decide +kernel
theorem pd__28_JJJ_29_V : parseMethodDescriptor "(JJJ)V" = some ⟨[.long, .long, .long], none⟩ := by decide +kernel
theorem pd__28__29_D : parseMethodDescriptor "()D" = some ⟨[], some .double⟩ := by decide +kernel
section OwnFP
open Jvm.FP.Core
theorem own_shape {N : Int64} (h0 : 0 ≤ N.toInt) (h1 : N.toInt < 9007199254740992) : ∃ c q, val64 (FP.l2d N) = .fin false c q ∧ c * 2 ^ q.toNat = N.toInt.natAbs * 2 ^ (-q).toNat := by
  obtain ⟨c, q, h⟩ := l2d_shape N
  have hw : Whole N.toInt (val64 (l2d N)) := l2d_whole ⟨by omega, h1⟩
  rw [decide_eq_false (by omega : ¬ N.toInt < 0)] at h
  rw [h] at hw
  refine ⟨c, q, h, ?_⟩
  have e1 : ((c * 2 ^ q.toNat : Nat) : Int) = N.toInt * ((2 ^ (-q).toNat : Nat) : Int) := hw
  have e2 : N.toInt = (N.toInt.natAbs : Int) := by omega
  rw [e2, ← Int.natCast_mul] at e1
  exact Int.ofNat.inj e1
theorem own_pow_move {a b : Nat} (E1 E2 d1 d2 : Nat) (h : a * 2 ^ E1 = b * 2 ^ E2) (he : E1 + d2 = E2 + d1) : a * 2 ^ d1 = b * 2 ^ d2 := by
  refine Nat.eq_of_mul_eq_mul_right (Nat.two_pow_pos E1) ?_
  calc a * 2 ^ d1 * 2 ^ E1 = (a * 2 ^ E1) * 2 ^ d1 := by ac_rfl
    _ = b * (2 ^ E2 * 2 ^ d1) := by rw [h]; ac_rfl
    _ = b * (2 ^ E1 * 2 ^ d2) := by rw [← Nat.pow_add, ← Nat.pow_add, he]
    _ = b * 2 ^ d2 * 2 ^ E1 := by ac_rfl
theorem own_quot {N P : Int64} (hN : 0 ≤ N.toInt) (hN2 : N.toInt < 9007199254740992) (hP : 0 < P.toInt) (hP2 : P.toInt < 9007199254740992) : val64 (FP.ddiv (FP.l2d N) (FP.l2d P)) = roundRatio b64 false N.toInt.natAbs P.toInt.natAbs 0 := by
  obtain ⟨c, q, hc, ec⟩ := own_shape hN hN2
  obtain ⟨d, r, hd, ed⟩ := own_shape (Int.le_of_lt hP) hP2
  have e : val64 (FP.ddiv (FP.l2d N) (FP.l2d P)) = quotient b64 (val64 (FP.l2d N)) (val64 (FP.l2d P)) := val64_ddiv _ _
  have d0 : d ≠ 0 := by
    intro z; subst z; rw [Nat.zero_mul] at ed
    have := Nat.mul_pos (show 0 < P.toInt.natAbs by omega) (Nat.two_pow_pos (-r).toNat); omega
  rw [e, hc, hd]
  show (if d = 0 then _ else roundRatio b64 false c d (q - r)) = _
  rw [if_neg d0]
  refine roundRatio_congr (Nat.pos_of_ne_zero d0) (by omega) ?_
  refine own_pow_move (q.toNat + (-r).toNat) ((-q).toNat + r.toNat) _ _ ?_ (by omega)
  calc c * P.toInt.natAbs * 2 ^ (q.toNat + (-r).toNat) = (c * 2 ^ q.toNat) * (P.toInt.natAbs * 2 ^ (-r).toNat) := by rw [Nat.pow_add]; ac_rfl
    _ = (N.toInt.natAbs * 2 ^ (-q).toNat) * (d * 2 ^ r.toNat) := by rw [ec, ed]
    _ = N.toInt.natAbs * d * 2 ^ ((-q).toNat + r.toNat) := by rw [Nat.pow_add]; ac_rfl
theorem own_q_zval {N P : Int64} (hN : 0 ≤ N.toInt) (hN2 : N.toInt < 9007199254740992) (hP : 0 < P.toInt) (hP2 : P.toInt < 9007199254740992) : zval b64 (val64 (FP.ddiv (FP.l2d N) (FP.l2d P))) = ((zmag b64 (val64 (FP.ddiv (FP.l2d N) (FP.l2d P))) : Nat) : Int) := by
  rw [own_quot hN hN2 hP hP2]; unfold zval; rw [sgn_roundRatio]; rfl
theorem own_q_nan {N P : Int64} (hN : 0 ≤ N.toInt) (hN2 : N.toInt < 9007199254740992) (hP : 0 < P.toInt) (hP2 : P.toInt < 9007199254740992) : val64 (FP.ddiv (FP.l2d N) (FP.l2d P)) ≠ .nan := by
  rw [own_quot hN hN2 hP hP2]; exact roundRatio_ne_nan _ _ _ _ _
theorem own_zmag_of {V : UInt64} (h : 0 ≤ zval b64 (val64 V)) : ((zmag b64 (val64 V) : Nat) : Int) = zval b64 (val64 V) := by
  unfold zval at h ⊢
  generalize sgn (val64 V) = t at *
  cases t <;> simp only [signed, if_true, Bool.false_eq_true, if_false] at h ⊢ <;> omega
theorem own_le {N P : Int64} (hN : 0 ≤ N.toInt) (hN2 : N.toInt < 9007199254740992) (hP : 0 < P.toInt) (hP2 : P.toInt < 9007199254740992) {V : UInt64} (hV : val64 V ≠ .nan) (h0 : 0 ≤ zval b64 (val64 V))
    (h : N.toInt * (one64 : Int) ≤ zval b64 (val64 V) * P.toInt) : zval b64 (val64 (FP.ddiv (FP.l2d N) (FP.l2d P))) ≤ zval b64 (val64 V) := by
  rw [own_q_zval hN hN2 hP hP2, ← own_zmag_of h0, own_quot hN hN2 hP hP2]
  rw [← own_zmag_of h0] at h
  have e1 : N.toInt = (N.toInt.natAbs : Int) := by omega
  have e2 : P.toInt = (P.toInt.natAbs : Int) := by omega
  rw [e1, e2, ← Int.natCast_mul, ← Int.natCast_mul] at h
  refine Int.ofNat_le.mpr (zmag_roundRatio_le good_b64 (by omega) (val64_fits V) hV (e0 := b64.qmin) (Int.le_refl _) (by decide +kernel) ?_)
  have z : (b64.qmin - b64.qmin).toNat = 0 := by rw [Int.sub_self]; rfl
  rw [z, Nat.pow_zero, Nat.mul_one]
  show N.toInt.natAbs * 2 ^ (0 - b64.qmin).toNat ≤ _
  rw [show (0 - b64.qmin) = -b64.qmin from Int.zero_sub _, pow_qmin64]
  exact Int.ofNat_le.mp h
theorem own_ge {N P : Int64} (hN : 0 ≤ N.toInt) (hN2 : N.toInt < 9007199254740992) (hP : 0 < P.toInt) (hP2 : P.toInt < 9007199254740992) {V : UInt64} (h0 : 0 ≤ zval b64 (val64 V))
    (h : zval b64 (val64 V) * P.toInt ≤ N.toInt * (one64 : Int)) : zval b64 (val64 V) ≤ zval b64 (val64 (FP.ddiv (FP.l2d N) (FP.l2d P))) := by
  rw [own_q_zval hN hN2 hP hP2, ← own_zmag_of h0, own_quot hN hN2 hP hP2]
  rw [← own_zmag_of h0] at h
  have e1 : N.toInt = (N.toInt.natAbs : Int) := by omega
  have e2 : P.toInt = (P.toInt.natAbs : Int) := by omega
  rw [e1, e2, ← Int.natCast_mul, ← Int.natCast_mul] at h
  refine Int.ofNat_le.mpr (zmag_roundRatio_ge good_b64 (by omega) (val64_fits V) (e0 := b64.qmin) (Int.le_refl _) (by decide +kernel) ?_)
  have z : (b64.qmin - b64.qmin).toNat = 0 := by rw [Int.sub_self]; rfl
  rw [z, Nat.pow_zero, Nat.mul_one]
  show _ ≤ N.toInt.natAbs * 2 ^ (0 - b64.qmin).toNat
  rw [show (0 - b64.qmin) = -b64.qmin from Int.zero_sub _, pow_qmin64]
  exact Int.ofNat_le.mp h
/-- a whole number over a power of two is exact -/
theorem own_exact {M K : Int64} (k : Nat) (hk : k ≤ 50) (hM : 0 < M.toInt) (hM2 : M.toInt < 9007199254740992) (hK : K.toInt = ((2 ^ k : Nat) : Int)) : zval b64 (val64 (FP.ddiv (FP.l2d M) (FP.l2d K))) * K.toInt = M.toInt * (one64 : Int) := by
  have k1 : (2 : Nat) ^ k ≤ 2 ^ 50 := Nat.pow_le_pow_right (by decide) hk
  have k0 := Nat.two_pow_pos k
  have hK0 : 0 < K.toInt := by omega
  have hK2 : K.toInt < 9007199254740992 := by omega
  obtain ⟨c, q, hc, ec⟩ := own_shape (Int.le_of_lt hM) hM2
  have hf : Jvm.FP.Core.fits b64 (.fin false c q) := hc ▸ val64_fits (FP.l2d M)
  obtain ⟨f1, f2, f3, f4⟩ := hf
  have q1 : b64.qmin = -1074 := by decide +kernel
  have q2 : b64.qmax = 971 := by decide +kernel
  have p53 : (2 : Nat) ^ b64.p = 9007199254740992 := by decide +kernel
  rw [p53] at f1
  rw [q1] at f2 f4
  rw [q2] at f3
  have hn : 0 < M.toInt.natAbs := by omega
  have hq : -53 < q := by
    refine Int.lt_of_not_ge fun h => ?_
    have : q.toNat = 0 := by omega
    rw [this, Nat.pow_zero, Nat.mul_one] at ec
    have h2 : (2 : Nat) ^ 53 ≤ 2 ^ (-q).toNat := Nat.pow_le_pow_right (by decide) (by omega)
    have h3 : 2 ^ (-q).toNat ≤ M.toInt.natAbs * 2 ^ (-q).toNat := Nat.le_mul_of_pos_left _ hn
    have h4 : (2 : Nat) ^ 53 = 9007199254740992 := by decide
    omega
  have hd : Jvm.FP.Core.fits b64 (.fin false c (q - k)) := ⟨by rw [p53]; exact f1, by rw [q1]; omega, by rw [q2]; omega, Or.inr (f4.elim (fun h => absurd h (by omega)) id)⟩
  have eK : K.toInt.natAbs = 2 ^ k := by rw [hK]; rfl
  have hR : roundRatio b64 false M.toInt.natAbs K.toInt.natAbs 0 = .fin false c (q - k) := by
    refine roundRatio_exact good_b64 (by omega) hd ?_
    rw [eK, Nat.mul_assoc, ← Nat.pow_add]
    exact own_pow_move (-q).toNat q.toNat _ _ ec.symm (by omega)
  rw [own_q_zval (Int.le_of_lt hM) hM2 hK0 hK2, own_quot (Int.le_of_lt hM) hM2 hK0 hK2, hR]
  have z : zmag b64 (.fin false c (q - k)) = c * 2 ^ (q - (k : Int) - b64.qmin).toNat := rfl
  have fin : c * 2 ^ (q - (k : Int) - b64.qmin).toNat * 2 ^ k = M.toInt.natAbs * one64 := by
    rw [Nat.mul_assoc, ← Nat.pow_add, ← pow_qmin64]
    exact own_pow_move q.toNat (-q).toNat _ _ ec (by rw [q1]; omega)
  have e2 : M.toInt = (M.toInt.natAbs : Int) := by omega
  rw [z, hK, e2, ← Int.natCast_mul, ← Int.natCast_mul]
  exact congrArg _ fin
theorem own_grid {M : Int} (h0 : 0 < M) (h1 : M < 9007199254740992) : ∃ V : UInt64, val64 V ≠ .nan ∧ 0 ≤ zval b64 (val64 V) ∧ zval b64 (val64 V) * 2097152 = M * (one64 : Int) := by
  have e : (Int64.ofInt M).toInt = M := Int64.toInt_ofInt_of_le (by omega) (by omega)
  have k : (2097152 : Int64).toInt = ((2 ^ 21 : Nat) : Int) := by decide
  have q := own_exact 21 (by decide) (e.symm ▸ h0) (e.symm ▸ h1) k
  have n := own_q_nan (N := Int64.ofInt M) (P := 2097152) (by omega) (by omega) (by decide) (by decide)
  have z := own_q_zval (N := Int64.ofInt M) (P := 2097152) (by omega) (by omega) (by decide) (by decide)
  exact ⟨_, n, by rw [z]; exact Int.natCast_nonneg _, by rw [e] at q; exact q⟩
theorem own_O : 0 < (one64 : Int) := Int.natCast_pos.mpr one64_pos
theorem own_leM {N P : Int64} (hN : 0 ≤ N.toInt) (hN2 : N.toInt < 9007199254740992) (hP : 0 < P.toInt) (hP2 : P.toInt < 9007199254740992) {M : Int} (h0 : 0 < M) (h1 : M < 9007199254740992) (h : N.toInt * 2097152 ≤ M * P.toInt) :
    zval b64 (val64 (FP.ddiv (FP.l2d N) (FP.l2d P))) * 2097152 ≤ M * (one64 : Int) := by
  obtain ⟨V, n, z, e⟩ := own_grid h0 h1
  have := own_le hN hN2 hP hP2 n z (by
    refine Int.le_of_mul_le_mul_right (a := 2097152) ?_ (by decide)
    rw [Int.mul_right_comm _ P.toInt, e, Int.mul_right_comm, Int.mul_right_comm M]
    exact Int.mul_le_mul_of_nonneg_right h (Int.le_of_lt own_O))
  rw [← e]; omega
theorem own_geM {N P : Int64} (hN : 0 ≤ N.toInt) (hN2 : N.toInt < 9007199254740992) (hP : 0 < P.toInt) (hP2 : P.toInt < 9007199254740992) {M : Int} (h0 : 0 < M) (h1 : M < 9007199254740992) (h : M * P.toInt ≤ N.toInt * 2097152) :
    M * (one64 : Int) ≤ zval b64 (val64 (FP.ddiv (FP.l2d N) (FP.l2d P))) * 2097152 := by
  obtain ⟨V, n, z, e⟩ := own_grid h0 h1
  have := own_ge hN hN2 hP hP2 z (by
    refine Int.le_of_mul_le_mul_right (a := 2097152) ?_ (by decide)
    rw [Int.mul_right_comm _ P.toInt, e, Int.mul_right_comm _ _ 2097152, Int.mul_right_comm M]
    exact Int.mul_le_mul_of_nonneg_right h (Int.le_of_lt own_O))
  rw [← e]; omega
theorem own_z0 : val64 (0 : UInt64) ≠ .nan := by rw [ne_nan]; decide
theorem own_zc {N P Q R : Int64} (hP : 0 < P.toInt) (hP2 : P.toInt ≤ 1048576) (hQ : 0 ≤ Q.toInt) (hQ2 : Q.toInt < 2147483648) (hR : 0 ≤ R.toInt) (hR2 : R.toInt < P.toInt) (hN : N.toInt = Q.toInt * P.toInt + R.toInt) :
    ∃ Z : Int, Z = zval b64 (val64 (FP.ddiv (FP.l2d N) (FP.l2d P))) ∧ val64 (FP.ddiv (FP.l2d N) (FP.l2d P)) ≠ .nan ∧ Q.toInt * (one64 : Int) ≤ Z ∧ Z < Q.toInt * (one64 : Int) + (one64 : Int) ∧ (R.toInt = 0 → Z = Q.toInt * (one64 : Int)) ∧ (2 * R.toInt < P.toInt → 2 * Z < 2 * (Q.toInt * (one64 : Int)) + (one64 : Int)) ∧ (2 * R.toInt = P.toInt → 2 * Z = 2 * (Q.toInt * (one64 : Int)) + (one64 : Int)) ∧ (P.toInt < 2 * R.toInt → 2 * (Q.toInt * (one64 : Int)) + (one64 : Int) < 2 * Z) := by
  have m1 : 0 ≤ Q.toInt * P.toInt := Int.mul_nonneg hQ (Int.le_of_lt hP)
  have m2 : Q.toInt * P.toInt ≤ 2147483648 * 1048576 := Int.mul_le_mul (Int.le_of_lt hQ2) hP2 (Int.le_of_lt hP) (by decide)
  have a1 : 0 ≤ N.toInt := by omega
  have a2 : N.toInt < 9007199254740992 := by omega
  have a3 : P.toInt < 9007199254740992 := by omega
  have eP : ∀ k : Int, (Q.toInt * 2097152 + k) * P.toInt = Q.toInt * P.toInt * 2097152 + k * P.toInt := fun k => by rw [Int.add_mul, Int.mul_right_comm]
  have eO : ∀ k : Int, (Q.toInt * 2097152 + k) * (one64 : Int) = Q.toInt * (one64 : Int) * 2097152 + k * (one64 : Int) := fun k => by rw [Int.add_mul, Int.mul_right_comm]
  have O0 := own_O
  have le := fun k (u : 0 < Q.toInt * 2097152 + k) (v : k < 2097152) (w : (Q.toInt * P.toInt + R.toInt) * 2097152 ≤ Q.toInt * P.toInt * 2097152 + k * P.toInt) => eO k ▸ own_leM a1 a2 hP a3 u (by omega) (by rw [eP, hN]; exact w)
  have ge := fun k (u : 0 < Q.toInt * 2097152 + k) (v : k < 2097152) (w : Q.toInt * P.toInt * 2097152 + k * P.toInt ≤ (Q.toInt * P.toInt + R.toInt) * 2097152) => eO k ▸ own_geM a1 a2 hP a3 u (by omega) (by rw [eP, hN]; exact w)
  have g0 := own_ge a1 a2 hP a3 (V := 0) (by rw [zval64_zero]; exact Int.le_refl _) (by rw [zval64_zero, Int.zero_mul]; exact Int.mul_nonneg a1 (Int.le_of_lt O0))
  rw [zval64_zero] at g0
  have l0 : N.toInt = 0 → zval b64 (val64 (FP.ddiv (FP.l2d N) (FP.l2d P))) ≤ 0 := fun h => by
    have := own_le a1 a2 hP a3 (V := 0) own_z0 (by rw [zval64_zero]; exact Int.le_refl _) (by rw [zval64_zero, h, Int.zero_mul, Int.zero_mul]; exact Int.le_refl _)
    rw [zval64_zero] at this; exact this
  have nn := own_q_nan a1 a2 hP a3
  refine ⟨_, rfl, nn, ?_⟩
  generalize zval b64 (val64 (FP.ddiv (FP.l2d N) (FP.l2d P))) = Z at *
  generalize (one64 : Int) = O at *
  have c1 : Q.toInt * O ≤ Z := by
    by_cases hz : Q.toInt = 0
    · rw [hz, Int.zero_mul]; exact g0
    · have := ge 0 (by omega) (by omega) (by omega); omega
  refine ⟨c1, ?_, fun h => ?_, fun h => ?_, fun h => ?_, fun h => ?_⟩
  · have := le 2097151 (by omega) (by omega) (by omega); omega
  · by_cases hz : Q.toInt = 0
    · have := l0 (by rw [hN, hz, h, Int.zero_mul]; rfl); rw [hz, Int.zero_mul]; omega
    · have := le 0 (by omega) (by omega) (by omega); omega
  · have := le 1048575 (by omega) (by omega) (by omega); omega
  · have := le 1048576 (by omega) (by omega) (by omega); have := ge 1048576 (by omega) (by omega) (by omega); omega
  · have := ge 1048577 (by omega) (by omega) (by omega); omega
theorem own_l2d_z {Q : Int64} (hQ : 0 ≤ Q.toInt) (hQ2 : Q.toInt < 9007199254740992) : val64 (FP.l2d Q) ≠ .nan ∧ zval b64 (val64 (FP.l2d Q)) = Q.toInt * (one64 : Int) := by
  have h : DInt Q.toInt (l2d Q) := l2d_whole ⟨by omega, hQ2⟩
  exact ⟨DInt_ne_nan h, DInt_zval h⟩
theorem own_halfc : val64 (4602678819172646912 : UInt64) ≠ .nan ∧ DFin (4602678819172646912 : UInt64) ∧ 2 * zval b64 (val64 (4602678819172646912 : UInt64)) = (one64 : Int) := by
  refine ⟨by rw [ne_nan]; decide, by rw [fin_bits]; decide, by decide +kernel⟩
theorem own_half {Q : Int64} (hQ : 0 ≤ Q.toInt) (hQ2 : Q.toInt < 2147483648) : val64 (FP.dadd (FP.l2d Q) (4602678819172646912 : UInt64)) ≠ .nan ∧ 2 * zval b64 (val64 (FP.dadd (FP.l2d Q) (4602678819172646912 : UInt64))) = 2 * (Q.toInt * (one64 : Int)) + (one64 : Int) := by
  obtain ⟨b1, b2, b3⟩ := own_halfc
  obtain ⟨q1, q2⟩ := own_l2d_z hQ (by omega)
  refine ⟨(notNaN_iff _).mp (dadd_out' (l2d_fin Q) ((notNaN_iff _).mpr b1)), ?_⟩
  obtain ⟨V, n, z, e⟩ := own_grid (M := Q.toInt * 2097152 + 1048576) (by omega) (by omega)
  rw [Int.add_mul, Int.mul_right_comm] at e
  have hs := sum_le good_b64 (l2d_fin Q) b2 (val64_fits _) (val64_fits _) (val64_fits V) n (by rw [q2]; omega)
  have hg := sum_ge good_b64 (l2d_fin Q) b2 (val64_fits _) (val64_fits _) (val64_fits V) n (by rw [q2]; omega)
  rw [← val64_dadd] at hs hg
  show 2 * zval b64 (val64 (dadd (l2d Q) _)) = _
  omega
theorem own_nn {x : UInt64} (h : val64 x ≠ .nan) : Jvm.Free.Fl.NoNaN64 x := Jvm.Free.Fl.val64_no.mpr h
theorem own_clt {a b : UInt64} (ha : val64 a ≠ .nan) (hb : val64 b ≠ .nan) (h : zval b64 (val64 a) < zval b64 (val64 b)) (o : CmpOp) : cmpValue (FP.dcmp a b) o = -1 := by
  have e : FP.dcmp a b = some .lt := dcmp_lt.mpr ⟨ha, hb, h⟩
  rw [e]; rfl
theorem own_cgt {a b : UInt64} (ha : val64 a ≠ .nan) (hb : val64 b ≠ .nan) (h : zval b64 (val64 b) < zval b64 (val64 a)) (o : CmpOp) : cmpValue (FP.dcmp a b) o = 1 := by
  have e : FP.dcmp a b = some .gt := dcmp_gt.mpr ⟨ha, hb, h⟩
  rw [e]; rfl
theorem own_ceq {a b : UInt64} (ha : val64 a ≠ .nan) (hb : val64 b ≠ .nan) (h : zval b64 (val64 a) = zval b64 (val64 b)) (o : CmpOp) : cmpValue (FP.dcmp a b) o = 0 := by
  have e : FP.dcmp a b = some .eq := dcmp_eq.mpr ⟨ha, hb, h⟩
  rw [e]; rfl
theorem own_cle {a b : UInt64} (ha : val64 a ≠ .nan) (hb : val64 b ≠ .nan) (h : zval b64 (val64 a) ≤ zval b64 (val64 b)) (o : CmpOp) : ¬ ((0 : Int32) < cmpValue (FP.dcmp a b) o) := by
  rcases Int.lt_or_eq_of_le h with h | h
  · rw [own_clt ha hb h]; decide
  · rw [own_ceq ha hb h]; decide
theorem own_cge {a b : UInt64} (ha : val64 a ≠ .nan) (hb : val64 b ≠ .nan) (h : zval b64 (val64 b) ≤ zval b64 (val64 a)) (o : CmpOp) : ¬ (cmpValue (FP.dcmp a b) o < (0 : Int32)) := by
  rcases Int.lt_or_eq_of_le h with h | h
  · rw [own_cgt ha hb h]; decide
  · rw [own_ceq ha hb h.symm]; decide
theorem own_2R {R : Int64} (h0 : 0 ≤ R.toInt) (h1 : R.toInt ≤ 1048576) : ((2 : Int64) * R).toInt = 2 * R.toInt := by
  have := c_lmul 2 R; have k : (2 : Int64).toInt = 2 := rfl; rw [k] at this
  have a := ((2 : Int64) * R).toInt_lt; have b := ((2 : Int64) * R).le_toInt; omega
theorem own_mag {P Q R : Int64} (hP : 0 < P.toInt ∧ P.toInt ≤ 1048576) (hQ : 0 ≤ Q.toInt ∧ Q.toInt < 2147483648) (hR : 0 ≤ R.toInt ∧ R.toInt < P.toInt) : ((Q * P) + R).toInt = Q.toInt * P.toInt + R.toInt := by
  have m1 : 0 ≤ Q.toInt * P.toInt := Int.mul_nonneg hQ.1 (Int.le_of_lt hP.1)
  have m2 : Q.toInt * P.toInt ≤ 2147483648 * 1048576 := Int.mul_le_mul (Int.le_of_lt hQ.2) hP.2 (Int.le_of_lt hP.1) (by decide)
  have x1 := c_lmul Q P; have a := (Q * P).toInt_lt; have b := (Q * P).le_toInt
  have e : (Q * P).toInt = Q.toInt * P.toInt := by omega
  have x2 := c_ladd (Q * P) R; have c := ((Q * P) + R).toInt_lt; have d := ((Q * P) + R).le_toInt
  omega
theorem own_rR {P R X : Int64} (hP : 0 < P.toInt ∧ P.toInt ≤ 1048576) (hX : 0 ≤ X.toInt) (h : R = X - X / P * P) : 0 ≤ R.toInt ∧ R.toInt < P.toInt := by
  rw [h, (c_lrem X P P.toInt rfl).1 hX]; exact ⟨Int.emod_nonneg _ (by omega), Int.emod_lt_of_pos _ hP.1⟩
theorem own_nz {P : Int64} (hP : 0 < P.toInt ∧ P.toInt ≤ 1048576) : P ≠ 0 := fun h => by rw [h] at hP; exact absurd hP.1 (by decide)
theorem own_core (P Q R : Int64) (hP : 0 < P.toInt ∧ P.toInt ≤ 1048576) (hQ : 0 ≤ Q.toInt ∧ Q.toInt < 1048576) (hR : 0 ≤ R.toInt ∧ R.toInt < P.toInt) :
    let x := FP.ddiv (FP.l2d ((Q * P) + R)) (FP.l2d P)
    Jvm.Free.Fl.NoNaN64 x ∧ ¬ ((0 : Int32) < cmpValue (FP.dcmp (FP.l2d Q) x) .g) ∧ cmpValue (FP.dcmp x (FP.l2d (Q + (1 : Int64)))) .g < (0 : Int32) ∧ Jvm.Free.Fl.NoNaN64 (FP.dadd (FP.l2d Q) (4602678819172646912 : UInt64)) ∧
      (((2 : Int64) * R) < P → cmpValue (FP.dcmp x (FP.dadd (FP.l2d Q) (4602678819172646912 : UInt64))) .l < (0 : Int32)) ∧ (¬ (((2 : Int64) * R) < P) → ¬ (cmpValue (FP.dcmp x (FP.dadd (FP.l2d Q) (4602678819172646912 : UInt64))) .l < (0 : Int32))) ∧ (R = (0 : Int64) → cmpValue (FP.dcmp x (FP.l2d Q)) .l = (0 : Int32)) := by
  intro x
  obtain ⟨Z, hZ, n, c1, c2, c3, c4, c5, c6⟩ := own_zc hP.1 hP.2 hQ.1 (by omega) hR.1 hR.2 (own_mag hP ⟨hQ.1, by omega⟩ hR)
  obtain ⟨q1, q2⟩ := own_l2d_z hQ.1 (by omega)
  have e1 : (Q + (1 : Int64)).toInt = Q.toInt + 1 := by
    have := c_ladd Q 1; have k : (1 : Int64).toInt = 1 := rfl; rw [k] at this
    have a := (Q + (1 : Int64)).toInt_lt; have b := (Q + (1 : Int64)).le_toInt; omega
  obtain ⟨s1, s2⟩ := own_l2d_z (Q := Q + 1) (by omega) (by omega)
  obtain ⟨h1, h2⟩ := own_half hQ.1 (by omega)
  have r2 := own_2R hR.1 (by omega)
  rw [e1, Int.add_mul, Int.one_mul] at s2
  refine ⟨own_nn n, own_cle q1 n (by rw [q2, ← hZ]; exact c1) _, ?_, own_nn h1, fun h => ?_, fun h => ?_, fun h => ?_⟩
  · rw [own_clt n s1 (by rw [s2, ← hZ]; exact c2)]; decide
  · rw [Int64.lt_iff_toInt_lt, r2] at h
    rw [own_clt n h1 (by have := c4 h; omega)]; decide
  · rw [Int64.lt_iff_toInt_lt, r2] at h
    refine own_cge n h1 ?_ _
    by_cases g : 2 * R.toInt = P.toInt
    · have := c5 g; omega
    · have := c6 (by omega); omega
  · exact own_ceq n q1 (by rw [q2, ← hZ]; exact c3 (by rw [h]; rfl)) _
theorem own_one (n : Int64) : Jvm.Free.Fl.NoNaN64 (FP.ddiv (FP.l2d n) (FP.l2d (1 : Int64))) ∧ cmpValue (FP.dcmp (FP.ddiv (FP.l2d n) (FP.l2d (1 : Int64))) (FP.l2d n)) .l = (0 : Int32) := by
  have f : val64 (l2d n) ≠ .nan := (l2d_fin n).ne_nan
  have o : FP.l2d (1 : Int64) = dconst1 := by decide +kernel
  have e : FP.ddiv (FP.l2d n) (FP.l2d (1 : Int64)) = FP.l2d n := by rw [o]; exact ddiv_one f
  rw [e]; exact ⟨own_nn f, own_ceq f f rfl _⟩
theorem own_rP {x : Int32} {P : Int64} (h : P = ((x &&& (1048575 : Int32)).toInt64) + (1 : Int64)) : 0 < P.toInt ∧ P.toInt ≤ 1048576 := by
  have a := c_and x 1048575 (by decide); have b := c_i2l (x &&& 1048575); have c := c_ladd (x &&& 1048575).toInt64 1
  have k : (1 : Int64).toInt = 1 := rfl; have k2 : (1048575 : Int32).toInt = 1048575 := rfl
  have d := ((x &&& (1048575 : Int32)).toInt64 + (1 : Int64)).toInt_lt; have e := ((x &&& (1048575 : Int32)).toInt64 + (1 : Int64)).le_toInt
  rw [h]; omega
theorem own_rQ {x : Int32} {Q : Int64} (h : Q = ((x &&& (1048575 : Int32)).toInt64)) : 0 ≤ Q.toInt ∧ Q.toInt < 1048576 := by
  have a := c_and x 1048575 (by decide); have b := c_i2l (x &&& 1048575); have k2 : (1048575 : Int32).toInt = 1048575 := rfl
  rw [h]; omega
theorem own_rX (x : Int32) : 0 ≤ ((x &&& (2147483647 : Int32)).toInt64).toInt := by
  have a := c_and x 2147483647 (by decide); have b := c_i2l (x &&& 2147483647); omega
end OwnFP
section OwnFP2
open Jvm.FP.Core
theorem own_land (x m : Int64) (hm : 0 ≤ m.toInt) : 0 ≤ (x &&& m).toInt ∧ (x &&& m).toInt ≤ m.toInt := by
  have h1 : (x &&& m).toBitVec.toNat ≤ m.toBitVec.toNat := by
    rw [show (x &&& m).toBitVec = x.toBitVec &&& m.toBitVec from rfl, BitVec.toNat_and]; exact Nat.and_le_right
  have e : ∀ z : Int64, z.toInt = if 2 * z.toBitVec.toNat < 2 ^ 64 then (z.toBitVec.toNat : Int) else (z.toBitVec.toNat : Int) - ((2 ^ 64 : Nat) : Int) := fun z => BitVec.toInt_eq_toNat_cond z.toBitVec
  have h2 := m.toBitVec.isLt
  rw [e] at hm
  rw [e, e]
  split at hm <;> split <;> (try split) <;> omega
theorem own_rP2 {x P : Int64} (h : P = (x &&& (1048575 : Int64)) + (1 : Int64)) : 0 < P.toInt ∧ P.toInt ≤ 1048576 := by
  have a := own_land x 1048575 (by decide); have c := c_ladd (x &&& 1048575) 1
  have k : (1 : Int64).toInt = 1 := rfl; have k2 : (1048575 : Int64).toInt = 1048575 := rfl
  have d := ((x &&& (1048575 : Int64)) + (1 : Int64)).toInt_lt; have e := ((x &&& (1048575 : Int64)) + (1 : Int64)).le_toInt
  rw [h]; omega
theorem own_rQ2 {x Q : Int64} (h : Q = x &&& (2147483647 : Int64)) : 0 ≤ Q.toInt ∧ Q.toInt < 2147483648 := by
  have a := own_land x 2147483647 (by decide); have k2 : (2147483647 : Int64).toInt = 2147483647 := rfl
  rw [h]; omega
theorem own_dn {x : UInt64} (h : val64 x ≠ .nan) : FP.dneg x = dneg x := Jvm.FP.dneg_core ((notNaN_iff x).mpr h)
theorem own_neg {N P : Int64} (h1 : 0 ≤ N.toInt) (h2 : N.toInt < 9007199254740992) (hP : 0 < P.toInt) (hP2 : P.toInt < 9007199254740992) :
    val64 (FP.ddiv (FP.l2d (-N)) (FP.l2d P)) ≠ .nan ∧ zval b64 (val64 (FP.dneg (FP.ddiv (FP.l2d (-N)) (FP.l2d P)))) = zval b64 (val64 (FP.ddiv (FP.l2d N) (FP.l2d P))) := by
  have n := own_q_nan h1 h2 hP hP2
  by_cases hz : N = 0
  · subst hz
    have g0 := own_ge (N := 0) h1 h2 hP hP2 (V := 0) (by rw [zval64_zero]; exact Int.le_refl _) (by rw [zval64_zero, Int.zero_mul]; exact Int.mul_nonneg h1 (Int.le_of_lt own_O))
    have l0 := own_le (N := 0) h1 h2 hP hP2 (V := 0) own_z0 (by rw [zval64_zero]; exact Int.le_refl _) (by rw [zval64_zero, show (0 : Int64).toInt = 0 from rfl, Int.zero_mul, Int.zero_mul]; exact Int.le_refl _)
    rw [zval64_zero] at g0 l0
    have e : -(0 : Int64) = 0 := by decide
    rw [e]
    refine ⟨n, ?_⟩
    rw [own_dn n, val64_dneg, zval_negate]; omega
  · have e : FP.l2d (-N) = dneg (l2d N) := l2d_neg hz (by omega)
    have e2 : FP.ddiv (FP.l2d (-N)) (FP.l2d P) = dneg (ddiv (l2d N) (l2d P)) := by rw [e]; exact ddiv_dneg _ _
    rw [e2]
    have n2 : val64 (dneg (ddiv (l2d N) (l2d P))) ≠ .nan := by rw [val64_dneg]; exact negate_ne_nan n
    refine ⟨n2, ?_⟩
    rw [own_dn n2, dneg_dneg n]
theorem own_core2 {P Q R N : Int64} (hP : 0 < P.toInt ∧ P.toInt ≤ 1048576) (hQ : 0 ≤ Q.toInt ∧ Q.toInt < 2147483648) (hR : 0 ≤ R.toInt ∧ R.toInt < P.toInt) (hN : N = (Q * P) + R) :
    Jvm.Free.Fl.NoNaN64 (FP.ddiv (FP.l2d N) (FP.l2d P)) ∧ Jvm.Free.Fl.NoNaN64 (FP.ddiv (FP.l2d (-N)) (FP.l2d P)) ∧ Jvm.Free.Fl.NoNaN64 (FP.dadd (FP.l2d Q) (4602678819172646912 : UInt64)) ∧ Jvm.Free.Fl.NoNaN64 (FP.dadd (FP.l2d Q) FP.dconst1) ∧
    ∀ m : UInt64, (m = FP.ddiv (FP.l2d N) (FP.l2d P) ∨ m = FP.dneg (FP.ddiv (FP.l2d (-N)) (FP.l2d P))) →
      ¬ (cmpValue (FP.dcmp m (FP.l2d Q)) .l < (0 : Int32)) ∧ cmpValue (FP.dcmp m (FP.dadd (FP.l2d Q) FP.dconst1)) .g < (0 : Int32) ∧ (R = (0 : Int64) → cmpValue (FP.dcmp m (FP.l2d Q)) .l = (0 : Int32)) ∧
      (((2 : Int64) * R) = P → cmpValue (FP.dcmp m (FP.dadd (FP.l2d Q) (4602678819172646912 : UInt64))) .l = (0 : Int32)) ∧ (((2 : Int64) * R) < P → cmpValue (FP.dcmp m (FP.dadd (FP.l2d Q) (4602678819172646912 : UInt64))) .g < (0 : Int32)) ∧
      (P < ((2 : Int64) * R) → (0 : Int32) < cmpValue (FP.dcmp m (FP.dadd (FP.l2d Q) (4602678819172646912 : UInt64))) .l) := by
  have eN := own_mag hP hQ hR
  rw [← hN] at eN
  have m1 : 0 ≤ Q.toInt * P.toInt := Int.mul_nonneg hQ.1 (Int.le_of_lt hP.1)
  have m2 : Q.toInt * P.toInt ≤ 2147483648 * 1048576 := Int.mul_le_mul (Int.le_of_lt hQ.2) hP.2 (Int.le_of_lt hP.1) (by decide)
  obtain ⟨Z, hZ, n, c1, c2, c3, c4, c5, c6⟩ := own_zc hP.1 hP.2 hQ.1 hQ.2 hR.1 hR.2 eN
  obtain ⟨n', g⟩ := own_neg (N := N) (P := P) (by omega) (by omega) hP.1 (by omega)
  obtain ⟨q1, q2⟩ := own_l2d_z hQ.1 (by omega)
  obtain ⟨h1, h2⟩ := own_half hQ.1 hQ.2
  have r2 := own_2R hR.1 (by omega)
  have d1 : DInt 1 dconst1 := by unfold DInt; rw [val64_dconst1]; unfold Whole; decide +kernel
  have s0 : DInt (Q.toInt + 1) (dadd (l2d Q) dconst1) := dadd_int (l2d_whole ⟨by omega, by omega⟩) d1 (by omega)
  have s1 : val64 (FP.dadd (FP.l2d Q) FP.dconst1) ≠ .nan := DInt_ne_nan s0
  have s2 : zval b64 (val64 (FP.dadd (FP.l2d Q) FP.dconst1)) = Q.toInt * (one64 : Int) + (one64 : Int) := by have := DInt_zval s0; rw [Int.add_mul, Int.one_mul] at this; exact this
  refine ⟨own_nn n, own_nn n', own_nn h1, own_nn s1, fun m hm => ?_⟩
  have hmm : val64 m ≠ .nan ∧ zval b64 (val64 m) = Z := by
    rcases hm with rfl | rfl
    · exact ⟨n, hZ.symm⟩
    · exact ⟨by rw [own_dn n', val64_dneg]; exact negate_ne_nan n', g.trans hZ.symm⟩
  obtain ⟨mn, mz⟩ := hmm
  refine ⟨own_cge mn q1 (by rw [q2, mz]; exact c1) _, ?_, fun h => ?_, fun h => ?_, fun h => ?_, fun h => ?_⟩
  · rw [own_clt mn s1 (by rw [s2, mz]; exact c2)]; decide
  · exact own_ceq mn q1 (by rw [q2, mz]; exact c3 (by rw [h]; rfl)) _
  · have h := congrArg Int64.toInt h; rw [r2] at h
    exact own_ceq mn h1 (by have := c5 h; omega) _
  · rw [Int64.lt_iff_toInt_lt, r2] at h
    rw [own_clt mn h1 (by have := c4 h; omega)]; decide
  · rw [Int64.lt_iff_toInt_lt, r2] at h
    rw [own_cgt mn h1 (by have := c6 h; omega)]; decide
end OwnFP2
def Q_recinit (Z : State) (a : Addr) (h0 : Heap) (n0 : Nat) (vQ_ : Option Value) (hQ_ : Heap) (LQ_ : List Loc) : Prop := vQ_ = none ∧ Fr n0 LQ_ ∧ hQ_ = h0
set_option maxRecDepth 65536 in
set_option maxHeartbeats 40000000 in
theorem rm_recinit (l : Launch) (Z : State) (a0 : Array Value) (hw : ∀ d ∈ tables_1, d.before a0 Z = true) (ws : List Jvm.Cond) (a : Addr) (h0 : Heap) (n0 : Nat) (Z0 : n0 ≤ h0.size)  :
    MetFree l (⟨"java/lang/Record", "<init>", "()V"⟩ : MethodName) (head1 (Jvm.Cond.code (⟨"java/lang/Record", "<init>", "()V"⟩ : MethodName) jdk_30_method_1_code 1 none :: ws) ({ frames := 1, cells := 0, slots := 0, locals := 12 } : Room)) (fun aQ_ UQ => aQ_ = #[(.ref a)] ∧ Z.Warmed39 UQ.vm ∧ UQ.heap = h0) (fun _ _ _ _ _ => True) (fun _ UQ oQ UQ' => ∃ vQ_ LQ_, oQ = .returned vQ_ ∧ Q_recinit Z a h0 n0 vQ_ UQ'.heap LQ_ ∧ FrameEnd UQ oQ UQ' LQ_ ({ frames := 1, cells := 0, slots := 0, locals := 12 } : Room).cells ({ frames := 1, cells := 0, slots := 0, locals := 12 } : Room).slots) := by
  refine MetFree.of_bodySF (plainFor_of_name pn_java_lang_Record) hisR ?_
  intro p e s m args below meth cO s₁ Bd hml0 hP hK
  obtain ⟨rfl, hZ, hh⟩ := hP
  have hx := Bd.exec
  have hby := Bd.bytes
  have hml : cO.maxLocals = 1 := hml0
  have hown : s.vm.findClass "java/lang/Record" = some m.cls := findClass_of_methodNamed Bd.named
  have hnm := (name_of_methodNamed Bd.named Bd.method).1
  have X0 : Stand p l e ({ frames := 1, cells := 0, slots := 0, locals := 12 } : Room) s m #[(.ref a)] below meth cO s₁ [] 0 0 := Stand.of_body Bd
  have e0 : s₁.heap = h0 := by rw [← hh, Bd.state]; rfl
  have N0 := Fr.nil n0
  have W0 : ∀ zQ, SS p e below s₁ m 0 #[.val (.ref a)] [] zQ → Steps p.tables e below (s₁.setTop (entryFrame m #[(.ref a)] 1)) zQ := fun tt kt => castTop (ef_recinit m a) kt
  obtain ⟨T101, X101, e101, st101⟩ := initO X0 hx hZ hown (w13 hw) (w14 hw) (w15 hw) e0 (g := (mkF m 1 #[.val (.ref a)] [(.ref a)])) rfl (by rw [hml]; rfl) rfl (hb hby d_jdk_30_method_1_1) (by decide) (W := 0) (by show 2 * 0 + _ ≤ _; exact Nat.le_of_eq rfl) (by decide)
  have W102 : ∀ zQ, SS p e below T101 m 4 #[.val (.ref a)] [] zQ → Steps p.tables e below (s₁.setTop (entryFrame m #[(.ref a)] 1)) zQ := by
    intro tt kt
    refine W0 tt ?_
    refine XS.aloadN X0.here hx rfl (hb hby d_jdk_30_method_1_0) rfl rfl ?_
    show SS p e below s₁ m 1 #[.val (.ref a)] [(.ref a)] _
    refine st101 _ ?_
    show SS p e below T101 m 4 #[.val (.ref a)] [] _
    exact kt
  obtain ⟨fs, hr, hrun, hended, hW, hsame⟩ := X101.leave (v := none) (fun _ => rfl)
  refine ⟨_, _, W102 _ (X101.returnOut hx Bd.returns (hb hby d_jdk_30_method_1_4) hr), hrun, hended, _, _, rfl, ?_, ⟨_, rfl⟩, hW, hsame.mono (by decide) (by decide)⟩
  show Q_recinit Z a h0 n0 _ T101.heap _
  rw [e101]
  exact ⟨rfl, N0, rfl⟩
def Q_pcinit (Z : State) (a : Addr) (c1 : Int64) (c2 : Int64) (c3 : Int64) (h0 : Heap) (n0 : Nat) (vQ_ : Option Value) (hQ_ : Heap) (LQ_ : List Loc) : Prop := vQ_ = none ∧ Fr n0 LQ_ ∧ Keep h0 hQ_ [a] ∧ Exa Z hQ_ a "com/example/evenkeel/evenkeel/cli/PickCost" ∧ Fld Z hQ_ a "com/example/evenkeel/evenkeel/cli/PickCost" "picks" "J" (.long c1) ∧ Fld Z hQ_ a "com/example/evenkeel/evenkeel/cli/PickCost" "nanos" "J" (.long c2) ∧ Fld Z hQ_ a "com/example/evenkeel/evenkeel/cli/PickCost" "bytes" "J" (.long c3)
set_option maxRecDepth 65536 in
set_option maxHeartbeats 40000000 in
theorem rm_pcinit (l : Launch) (Z : State) (a0 : Array Value) (hw : ∀ d ∈ tables_1, d.before a0 Z = true) (ws : List Jvm.Cond) (a : Addr) (c1 : Int64) (c2 : Int64) (c3 : Int64) (h0 : Heap) (n0 : Nat) (Z0 : n0 ≤ h0.size) (E1 : Exa Z h0 a "com/example/evenkeel/evenkeel/cli/PickCost") (F1 : Fld Z h0 a "com/example/evenkeel/evenkeel/cli/PickCost" "picks" "J" (.long (0 : Int64))) (F2 : Fld Z h0 a "com/example/evenkeel/evenkeel/cli/PickCost" "nanos" "J" (.long (0 : Int64))) (F3 : Fld Z h0 a "com/example/evenkeel/evenkeel/cli/PickCost" "bytes" "J" (.long (0 : Int64))) (g1 : n0 ≤ a) :
    MetFree l (⟨"com/example/evenkeel/evenkeel/cli/PickCost", "<init>", "(JJJ)V"⟩ : MethodName) (head1 (Jvm.Cond.code (⟨"com/example/evenkeel/evenkeel/cli/PickCost", "<init>", "(JJJ)V"⟩ : MethodName) prog_22_method_1_code 7 none :: ws) ({ frames := 2, cells := 0, slots := 0, locals := 24 } : Room)) (fun aQ_ UQ => aQ_ = #[(.ref a), (.long c1), (.long c2), (.long c3)] ∧ Z.Warmed39 UQ.vm ∧ UQ.heap = h0) (fun _ _ _ _ _ => True) (fun _ UQ oQ UQ' => ∃ vQ_ LQ_, oQ = .returned vQ_ ∧ Q_pcinit Z a c1 c2 c3 h0 n0 vQ_ UQ'.heap LQ_ ∧ FrameEnd UQ oQ UQ' LQ_ ({ frames := 2, cells := 0, slots := 0, locals := 24 } : Room).cells ({ frames := 2, cells := 0, slots := 0, locals := 24 } : Room).slots) := by
  refine MetFree.of_bodySF (plainFor_of_name pn_com_example_evenkeel_evenkeel_cli_PickCost) hisR ?_
  intro p e s m args below meth cO s₁ Bd hml0 hP hK
  obtain ⟨rfl, hZ, hh⟩ := hP
  have hx := Bd.exec
  have hby := Bd.bytes
  have hml : cO.maxLocals = 7 := hml0
  have hown : s.vm.findClass "com/example/evenkeel/evenkeel/cli/PickCost" = some m.cls := findClass_of_methodNamed Bd.named
  have hnm := (name_of_methodNamed Bd.named Bd.method).1
  have X0 : Stand p l e ({ frames := 2, cells := 0, slots := 0, locals := 24 } : Room) s m #[(.ref a), (.long c1), (.long c2), (.long c3)] below meth cO s₁ [] 0 0 := Stand.of_body Bd
  have e0 : s₁.heap = h0 := by rw [← hh, Bd.state]; rfl
  have N0 := Fr.nil n0
  have W0 : ∀ zQ, SS p e below s₁ m 0 #[.val (.ref a), .val (.long c1), .second, .val (.long c2), .second, .val (.long c3), .second] [] zQ → Steps p.tables e below (s₁.setTop (entryFrame m #[(.ref a), (.long c1), (.long c2), (.long c3)] 7)) zQ := fun tt kt => castTop (ef_pcinit m a c1 c2 c3) kt
  obtain ⟨_, _, ⟨T101, L101, k101, n101⟩, -, X101, ⟨Lc101, hQ101, l101, y101, z101⟩, st101⟩ := X0.specialBack hx (y := (⟨"java/lang/Record", "<init>", "()V"⟩ : MethodName)) rfl hown (mvT hZ (w8 hw)) (mvT hZ (w9 hw)) (mvT hZ (w12 hw)) (by decide) (backOf (W := 0) (rm_recinit l Z a0 hw [] a h0 n0 Z0 ) hZ (w12 hw) (w11 hw) (by decide) (by decide)) (g := (mkF m 1 #[.val (.ref a), .val (.long c1), .second, .val (.long c2), .second, .val (.long c3), .second] [(.ref a)])) rfl (by rw [hml]; rfl) (Steps.refl _) (a := a) (argsL := []) (rest := []) (lenOf pd__28__29_V rfl) rfl (by show 2 * 0 + _ ≤ _; exact Nat.le_of_eq rfl) (hb hby d_prog_22_method_1_1) (fun _ _ => ⟨rfl, e0, (Nat.le_of_ble_eq_true rfl), (Nat.le_of_ble_eq_true rfl)⟩)
  dsimp only [Pt.U, Pt.locs, Pt.cells, Pt.slots] at X101 l101 y101 z101 st101 hQ101
  subst l101 y101 z101
  obtain ⟨rfl, Nq101, eq101⟩ := hQ101
  have N101 := Fr.app N0 Nq101
  obtain ⟨T102, h102, X102, e102, Wr102, st102⟩ := putF X101 hx hZ hown (host := "") (Or.inl (w16 hw)) Via.refl eq101 F1 E1 (Or.inr ⟨(w17 hw), rfl, hnm⟩) (w3 hw) (ty := .long) (by decide) rfl rfl (g := (mkF m 6 #[.val (.ref a), .val (.long c1), .second, .val (.long c2), .second, .val (.long c3), .second] [(.long c1), (.ref a)])) rfl rfl (hb hby d_prog_22_method_1_6)
  have K102 := Keep.of_wr Wr102
  have G102 := F1.same Wr102
  have N102 := Fr.snoc X102 N101 g1
  have F103 : Exa Z h102 a "com/example/evenkeel/evenkeel/cli/PickCost" := (E1.keep K102)
  have F104 : Fld Z h102 a "com/example/evenkeel/evenkeel/cli/PickCost" "nanos" "J" (.long (0 : Int64)) := (Fld.other Wr102 F2 (Or.inr (slot_ne (Or.inr (w19 hw)) (Or.inr (w17 hw)) (by decide) (t := .long) (t' := .long) (by decide) (by decide))))
  obtain ⟨T105, h105, X105, e105, Wr105, st105⟩ := putF X102 hx hZ hown (host := "") (Or.inl (w18 hw)) Via.refl e102 F104 F103 (Or.inr ⟨(w19 hw), rfl, hnm⟩) (w3 hw) (ty := .long) (by decide) rfl rfl (g := (mkF m 11 #[.val (.ref a), .val (.long c1), .second, .val (.long c2), .second, .val (.long c3), .second] [(.long c2), (.ref a)])) rfl rfl (hb hby d_prog_22_method_1_11)
  have K105 := Keep.of_wr Wr105
  have G105 := F104.same Wr105
  have N105 := Fr.snoc X105 N102 g1
  have F106 : Exa Z h105 a "com/example/evenkeel/evenkeel/cli/PickCost" := (F103.keep K105)
  have F107 : Fld Z h105 a "com/example/evenkeel/evenkeel/cli/PickCost" "bytes" "J" (.long (0 : Int64)) := (Fld.other Wr105 (Fld.other Wr102 F3 (Or.inr (slot_ne (Or.inr (w21 hw)) (Or.inr (w17 hw)) (by decide) (t := .long) (t' := .long) (by decide) (by decide)))) (Or.inr (slot_ne (Or.inr (w21 hw)) (Or.inr (w19 hw)) (by decide) (t := .long) (t' := .long) (by decide) (by decide))))
  obtain ⟨T108, h108, X108, e108, Wr108, st108⟩ := putF X105 hx hZ hown (host := "") (Or.inl (w20 hw)) Via.refl e105 F107 F106 (Or.inr ⟨(w21 hw), rfl, hnm⟩) (w3 hw) (ty := .long) (by decide) rfl rfl (g := (mkF m 17 #[.val (.ref a), .val (.long c1), .second, .val (.long c2), .second, .val (.long c3), .second] [(.long c3), (.ref a)])) rfl rfl (hb hby d_prog_22_method_1_17)
  have K108 := Keep.of_wr Wr108
  have G108 := F107.same Wr108
  have N108 := Fr.snoc X108 N105 g1
  have W109 : ∀ zQ, SS p e below T108 m 20 #[.val (.ref a), .val (.long c1), .second, .val (.long c2), .second, .val (.long c3), .second] [] zQ → Steps p.tables e below (s₁.setTop (entryFrame m #[(.ref a), (.long c1), (.long c2), (.long c3)] 7)) zQ := by
    intro tt kt
    refine W0 tt ?_
    refine XS.aloadN X0.here hx rfl (hb hby d_prog_22_method_1_0) rfl rfl ?_
    show SS p e below s₁ m 1 #[.val (.ref a), .val (.long c1), .second, .val (.long c2), .second, .val (.long c3), .second] [(.ref a)] _
    refine st101.trans ?_
    show SS p e below T101 m 4 #[.val (.ref a), .val (.long c1), .second, .val (.long c2), .second, .val (.long c3), .second] [] _
    refine XS.aloadN X101.here hx rfl (hb hby d_prog_22_method_1_4) rfl rfl ?_
    show SS p e below T101 m 5 #[.val (.ref a), .val (.long c1), .second, .val (.long c2), .second, .val (.long c3), .second] [(.ref a)] _
    refine XS.lloadN X101.here hx rfl (hb hby d_prog_22_method_1_5) rfl ?_
    show SS p e below T101 m 6 #[.val (.ref a), .val (.long c1), .second, .val (.long c2), .second, .val (.long c3), .second] [(.long c1), (.ref a)] _
    refine st102 _ ?_
    show SS p e below T102 m 9 #[.val (.ref a), .val (.long c1), .second, .val (.long c2), .second, .val (.long c3), .second] [] _
    refine XS.aloadN X102.here hx rfl (hb hby d_prog_22_method_1_9) rfl rfl ?_
    show SS p e below T102 m 10 #[.val (.ref a), .val (.long c1), .second, .val (.long c2), .second, .val (.long c3), .second] [(.ref a)] _
    refine XS.lloadN X102.here hx rfl (hb hby d_prog_22_method_1_10) rfl ?_
    show SS p e below T102 m 11 #[.val (.ref a), .val (.long c1), .second, .val (.long c2), .second, .val (.long c3), .second] [(.long c2), (.ref a)] _
    refine st105 _ ?_
    show SS p e below T105 m 14 #[.val (.ref a), .val (.long c1), .second, .val (.long c2), .second, .val (.long c3), .second] [] _
    refine XS.aloadN X105.here hx rfl (hb hby d_prog_22_method_1_14) rfl rfl ?_
    show SS p e below T105 m 15 #[.val (.ref a), .val (.long c1), .second, .val (.long c2), .second, .val (.long c3), .second] [(.ref a)] _
    refine XS.lload X105.here hx rfl (hb hby d_prog_22_method_1_15) rfl ?_
    show SS p e below T105 m 17 #[.val (.ref a), .val (.long c1), .second, .val (.long c2), .second, .val (.long c3), .second] [(.long c3), (.ref a)] _
    refine st108 _ ?_
    show SS p e below T108 m 20 #[.val (.ref a), .val (.long c1), .second, .val (.long c2), .second, .val (.long c3), .second] [] _
    exact kt
  have F110 : Exa Z h108 a "com/example/evenkeel/evenkeel/cli/PickCost" := (F106.keep K108)
  have F111 : Fld Z h108 a "com/example/evenkeel/evenkeel/cli/PickCost" "picks" "J" (.long c1) := (Fld.other Wr108 (Fld.other Wr105 G102 (Or.inr (slot_ne (Or.inr (w17 hw)) (Or.inr (w19 hw)) (by decide) (t := .long) (t' := .long) (by decide) (by decide)))) (Or.inr (slot_ne (Or.inr (w17 hw)) (Or.inr (w21 hw)) (by decide) (t := .long) (t' := .long) (by decide) (by decide))))
  have F112 : Fld Z h108 a "com/example/evenkeel/evenkeel/cli/PickCost" "nanos" "J" (.long c2) := (Fld.other Wr108 G105 (Or.inr (slot_ne (Or.inr (w19 hw)) (Or.inr (w21 hw)) (by decide) (t := .long) (t' := .long) (by decide) (by decide))))
  obtain ⟨fs, hr, hrun, hended, hW, hsame⟩ := X108.leave (v := none) (fun _ => rfl)
  refine ⟨_, _, W109 _ (X108.returnOut hx Bd.returns (hb hby d_prog_22_method_1_20) hr), hrun, hended, _, _, rfl, ?_, ⟨_, rfl⟩, hW, hsame.mono (by decide) (by decide)⟩
  show Q_pcinit Z a c1 c2 c3 h0 n0 _ T108.heap _
  rw [e108]
  exact ⟨rfl, N108, (Keep.trans (Keep.trans (Keep.trans (Keep.refl h0 [a]) K102 (allS (Or.inl (List.mem_of_getElem? (i := 0) rfl)) all0)) K105 (allS (Or.inl (List.mem_of_getElem? (i := 0) rfl)) all0)) K108 (allS (Or.inl (List.mem_of_getElem? (i := 0) rfl)) all0)), F110, F111, F112, G108⟩
def Q_per (Z : State) (a : Addr) (nv : Int64) (pv : Int64) (h0 : Heap) (n0 : Nat) (vQ_ : Option Value) (hQ_ : Heap) (LQ_ : List Loc) : Prop := vQ_ = some (.double (FP.ddiv (FP.l2d nv) (FP.l2d pv))) ∧ Fr n0 LQ_ ∧ hQ_ = h0
set_option maxRecDepth 65536 in
set_option maxHeartbeats 40000000 in
theorem rm_per (l : Launch) (Z : State) (a0 : Array Value) (hw : ∀ d ∈ tables_1, d.before a0 Z = true) (ws : List Jvm.Cond) (a : Addr) (nv : Int64) (pv : Int64) (h0 : Heap) (n0 : Nat) (Z0 : n0 ≤ h0.size) (F1 : Fld Z h0 a "com/example/evenkeel/evenkeel/cli/PickCost" "bytes" "J" (.long nv)) (F2 : Fld Z h0 a "com/example/evenkeel/evenkeel/cli/PickCost" "picks" "J" (.long pv)) (hn : Jvm.Free.Fl.NoNaN64 (FP.ddiv (FP.l2d nv) (FP.l2d pv))) :
    MetFree l (⟨"com/example/evenkeel/evenkeel/cli/PickCost", "bytesPerPick", "()D"⟩ : MethodName) (head1 (Jvm.Cond.code (⟨"com/example/evenkeel/evenkeel/cli/PickCost", "bytesPerPick", "()D"⟩ : MethodName) prog_22_method_3_code 1 (some .double) :: ws) ({ frames := 0, cells := 0, slots := 0, locals := 0 } : Room)) (fun aQ_ UQ => aQ_ = #[(.ref a)] ∧ Z.Warmed39 UQ.vm ∧ UQ.heap = h0) (fun _ _ _ _ _ => True) (fun _ UQ oQ UQ' => ∃ vQ_ LQ_, oQ = .returned vQ_ ∧ Q_per Z a nv pv h0 n0 vQ_ UQ'.heap LQ_ ∧ FrameEnd UQ oQ UQ' LQ_ ({ frames := 0, cells := 0, slots := 0, locals := 0 } : Room).cells ({ frames := 0, cells := 0, slots := 0, locals := 0 } : Room).slots) := by
  refine MetFree.of_bodySF (plainFor_of_name pn_com_example_evenkeel_evenkeel_cli_PickCost) hisR ?_
  intro p e s m args below meth cO s₁ Bd hml0 hP hK
  obtain ⟨rfl, hZ, hh⟩ := hP
  have hx := Bd.exec
  have hby := Bd.bytes
  have hml : cO.maxLocals = 1 := hml0
  have hown : s.vm.findClass "com/example/evenkeel/evenkeel/cli/PickCost" = some m.cls := findClass_of_methodNamed Bd.named
  have hnm := (name_of_methodNamed Bd.named Bd.method).1
  have X0 : Stand p l e ({ frames := 0, cells := 0, slots := 0, locals := 0 } : Room) s m #[(.ref a)] below meth cO s₁ [] 0 0 := Stand.of_body Bd
  have e0 : s₁.heap = h0 := by rw [← hh, Bd.state]; rfl
  have N0 := Fr.nil n0
  have W0 : ∀ zQ, SS p e below s₁ m 0 #[.val (.ref a)] [] zQ → Steps p.tables e below (s₁.setTop (entryFrame m #[(.ref a)] 1)) zQ := fun tt kt => castTop (ef_per m a) kt
  obtain ⟨T101, X101, e101, st101⟩ := getF X0 hx hZ hown (host := "") (Or.inl (w20 hw)) Via.refl e0 F1 (g := (mkF m 1 #[.val (.ref a)] [(.ref a)])) rfl rfl (hb hby d_prog_22_method_3_1)
  obtain ⟨T102, X102, e102, st102⟩ := getF X101 hx hZ hown (host := "") (Or.inl (w16 hw)) Via.refl e101 F2 (g := (mkF m 6 #[.val (.ref a)] [(.ref a), (.double (FP.l2d nv))])) rfl rfl (hb hby d_prog_22_method_3_6)
  have W103 : ∀ zQ, SS p e below T102 m 11 #[.val (.ref a)] [(.double (FP.ddiv (FP.l2d nv) (FP.l2d pv)))] zQ → Steps p.tables e below (s₁.setTop (entryFrame m #[(.ref a)] 1)) zQ := by
    intro tt kt
    refine W0 tt ?_
    refine XS.aloadN X0.here hx rfl (hb hby d_prog_22_method_3_0) rfl rfl ?_
    show SS p e below s₁ m 1 #[.val (.ref a)] [(.ref a)] _
    refine st101 _ ?_
    show SS p e below T101 m 4 #[.val (.ref a)] [(.long nv)] _
    refine XS.l2dS X101.here hx rfl (hb hby d_prog_22_method_3_4) rfl rfl ?_
    show SS p e below T101 m 5 #[.val (.ref a)] [(.double (FP.l2d nv))] _
    refine XS.aloadN X101.here hx rfl (hb hby d_prog_22_method_3_5) rfl rfl ?_
    show SS p e below T101 m 6 #[.val (.ref a)] [(.ref a), (.double (FP.l2d nv))] _
    refine st102 _ ?_
    show SS p e below T102 m 9 #[.val (.ref a)] [(.long pv), (.double (FP.l2d nv))] _
    refine XS.l2dS X102.here hx rfl (hb hby d_prog_22_method_3_9) rfl rfl ?_
    show SS p e below T102 m 10 #[.val (.ref a)] [(.double (FP.l2d pv)), (.double (FP.l2d nv))] _
    refine XS.ddivS X102.here hx rfl (hb hby d_prog_22_method_3_10) rfl hn rfl ?_
    show SS p e below T102 m 11 #[.val (.ref a)] [(.double (FP.ddiv (FP.l2d nv) (FP.l2d pv)))] _
    exact kt
  obtain ⟨fs, hr, hrun, hended, hW, hsame⟩ := X102.leave (v := some (.double (FP.ddiv (FP.l2d nv) (FP.l2d pv)))) (fun h => by rw [Bd.returns] at h; cases h)
  refine ⟨_, _, W103 _ (own_retD X102 hx Bd.returns (hb hby d_prog_22_method_3_11) hr), hrun, hended, _, _, rfl, ?_, ⟨_, rfl⟩, hW, hsame.mono (by decide) (by decide)⟩
  show Q_per Z a nv pv h0 n0 _ T102.heap _
  rw [e102]
  exact ⟨rfl, N0, rfl⟩
def Q_law (Z : State) (a : Int64) (bb : Int64) (cc : Int64) (nanos : Int64) (sign : Int32) (h0 : Heap) (n0 : Nat) (vQ_ : Option Value) (hQ_ : Heap) (LQ_ : List Loc) : Prop := vQ_ = some (.int (1 : Int32)) ∧ Fr n0 LQ_ ∧ Keep h0 hQ_ []
set_option maxRecDepth 65536 in
set_option maxHeartbeats 40000000 in
theorem rm_law (l : Launch) (Z : State) (a0 : Array Value) (hw : ∀ d ∈ tables_1, d.before a0 Z = true) (ws : List Jvm.Cond) (a : Int64) (bb : Int64) (cc : Int64) (nanos : Int64) (sign : Int32) (h0 : Heap) (n0 : Nat) (Z0 : n0 ≤ h0.size)  :
    MetFree l x (head1 (Jvm.Cond.code x code maxLocals ret :: ws) room_1) (fun aQ_ UQ => aQ_ = #[(.long a), (.long bb), (.long cc), (.long nanos), (.int sign)] ∧ Z.Warmed39 UQ.vm ∧ UQ.heap = h0) (fun _ _ _ _ _ => True) (fun _ UQ oQ UQ' => ∃ vQ_ LQ_, oQ = .returned vQ_ ∧ Q_law Z a bb cc nanos sign h0 n0 vQ_ UQ'.heap LQ_ ∧ FrameEnd UQ oQ UQ' LQ_ room_1.cells room_1.slots) := by
  refine MetFree.of_bodySF (plainFor_of_name pn_com_example_evenkeel_evenkeel_cli_PickCostBytesPerPickPinLaw) hisR ?_
  intro p e s m args below meth cO s₁ Bd hml0 hP hK
  obtain ⟨rfl, hZ, hh⟩ := hP
  have hx := Bd.exec
  have hby := Bd.bytes
  have hml : cO.maxLocals = 28 := hml0
  have hown : s.vm.findClass "com/example/evenkeel/evenkeel/cli/PickCostBytesPerPickPinLaw" = some m.cls := findClass_of_methodNamed Bd.named
  have hnm := (name_of_methodNamed Bd.named Bd.method).1
  have X0 : Stand p l e room_1 s m #[(.long a), (.long bb), (.long cc), (.long nanos), (.int sign)] below meth cO s₁ [] 0 0 := Stand.of_body Bd
  have e0 : s₁.heap = h0 := by rw [← hh, Bd.state]; rfl
  have N0 := Fr.nil n0
  have W0 : ∀ zQ, SS p e below s₁ m 0 #[.val (.long a), .second, .val (.long bb), .second, .val (.long cc), .second, .val (.long nanos), .second, .val (.int sign), .unset, .unset, .unset, .unset, .unset, .unset, .unset, .unset, .unset, .unset, .unset, .unset, .unset, .unset, .unset, .unset, .unset, .unset, .unset] [] zQ → Steps p.tables e below (s₁.setTop (entryFrame m #[(.long a), (.long bb), (.long cc), (.long nanos), (.int sign)] maxLocals)) zQ := fun tt kt => castTop (ef_law m a bb cc nanos sign) kt
  obtain ⟨P, h_P⟩ : ∃ z : Int64, z = ((a &&& (1048575 : Int64)) + (1 : Int64)) := ⟨_, rfl⟩
  obtain ⟨Q, h_Q⟩ : ∃ z : Int64, z = (bb &&& (2147483647 : Int64)) := ⟨_, rfl⟩
  obtain ⟨R, h_R⟩ : ∃ z : Int64, z = ((cc &&& (2147483647 : Int64)) - (cc &&& (2147483647 : Int64)) / P * P) := ⟨_, rfl⟩
  obtain ⟨mg, h_mg⟩ : ∃ z : Int64, z = ((Q * P) + R) := ⟨_, rfl⟩
  have hP := own_rP2 h_P
  have hQ := own_rQ2 h_Q
  have hR := own_rR hP (own_rQ2 rfl).1 h_R
  have hC := own_core2 hP hQ hR h_mg
  have W101 : ∀ zQ, SS p e below s₁ m 41 #[.val (.long a), .second, .val (.long bb), .second, .val (.long cc), .second, .val (.long nanos), .second, .val (.int sign), .val (.long P), .second, .val (.long Q), .second, .val (.long R), .second, .val (.long mg), .second, .unset, .unset, .unset, .unset, .unset, .unset, .unset, .unset, .unset, .unset, .unset] [(.int (sign &&& (1 : Int32)))] zQ → Steps p.tables e below (s₁.setTop (entryFrame m #[(.long a), (.long bb), (.long cc), (.long nanos), (.int sign)] maxLocals)) zQ := by
    intro tt kt
    refine W0 tt ?_
    refine XS.lloadN X0.here hx rfl (hb hby at_0) rfl ?_
    show SS p e below s₁ m 1 #[.val (.long a), .second, .val (.long bb), .second, .val (.long cc), .second, .val (.long nanos), .second, .val (.int sign), .unset, .unset, .unset, .unset, .unset, .unset, .unset, .unset, .unset, .unset, .unset, .unset, .unset, .unset, .unset, .unset, .unset, .unset, .unset] [(.long a)] _
    refine X0.ldc2Long hx hown (mvT hZ (w0 hw)) (g := (mkF m 1 #[.val (.long a), .second, .val (.long bb), .second, .val (.long cc), .second, .val (.long nanos), .second, .val (.int sign), .unset, .unset, .unset, .unset, .unset, .unset, .unset, .unset, .unset, .unset, .unset, .unset, .unset, .unset, .unset, .unset, .unset, .unset, .unset] [(.long a)])) rfl (hb hby at_1) _ ?_
    show SS p e below s₁ m 4 #[.val (.long a), .second, .val (.long bb), .second, .val (.long cc), .second, .val (.long nanos), .second, .val (.int sign), .unset, .unset, .unset, .unset, .unset, .unset, .unset, .unset, .unset, .unset, .unset, .unset, .unset, .unset, .unset, .unset, .unset, .unset, .unset] [(.long (1048575 : Int64)), (.long a)] _
    refine XS.land X0.here hx rfl (hb hby at_4) rfl ?_
    show SS p e below s₁ m 5 #[.val (.long a), .second, .val (.long bb), .second, .val (.long cc), .second, .val (.long nanos), .second, .val (.int sign), .unset, .unset, .unset, .unset, .unset, .unset, .unset, .unset, .unset, .unset, .unset, .unset, .unset, .unset, .unset, .unset, .unset, .unset, .unset] [(.long (a &&& (1048575 : Int64)))] _
    refine XS.lconst X0.here hx rfl (hb hby at_5) ?_
    show SS p e below s₁ m 6 #[.val (.long a), .second, .val (.long bb), .second, .val (.long cc), .second, .val (.long nanos), .second, .val (.int sign), .unset, .unset, .unset, .unset, .unset, .unset, .unset, .unset, .unset, .unset, .unset, .unset, .unset, .unset, .unset, .unset, .unset, .unset, .unset] [(.long (1 : Int64)), (.long (a &&& (1048575 : Int64)))] _
    refine XS.ladd X0.here hx rfl (hb hby at_6) rfl ?_
    show SS p e below s₁ m 7 #[.val (.long a), .second, .val (.long bb), .second, .val (.long cc), .second, .val (.long nanos), .second, .val (.int sign), .unset, .unset, .unset, .unset, .unset, .unset, .unset, .unset, .unset, .unset, .unset, .unset, .unset, .unset, .unset, .unset, .unset, .unset, .unset] [(.long ((a &&& (1048575 : Int64)) + (1 : Int64)))] _
    rw [← h_P]
    show SS p e below s₁ m 7 #[.val (.long a), .second, .val (.long bb), .second, .val (.long cc), .second, .val (.long nanos), .second, .val (.int sign), .unset, .unset, .unset, .unset, .unset, .unset, .unset, .unset, .unset, .unset, .unset, .unset, .unset, .unset, .unset, .unset, .unset, .unset, .unset] [(.long P)] _
    refine XS.lstore X0.here hx rfl (hb hby at_7) rfl (l' := #[.val (.long a), .second, .val (.long bb), .second, .val (.long cc), .second, .val (.long nanos), .second, .val (.int sign), .val (.long P), .second, .unset, .unset, .unset, .unset, .unset, .unset, .unset, .unset, .unset, .unset, .unset, .unset, .unset, .unset, .unset, .unset, .unset]) rfl ?_
    show SS p e below s₁ m 9 #[.val (.long a), .second, .val (.long bb), .second, .val (.long cc), .second, .val (.long nanos), .second, .val (.int sign), .val (.long P), .second, .unset, .unset, .unset, .unset, .unset, .unset, .unset, .unset, .unset, .unset, .unset, .unset, .unset, .unset, .unset, .unset, .unset] [] _
    refine XS.lloadN X0.here hx rfl (hb hby at_9) rfl ?_
    show SS p e below s₁ m 10 #[.val (.long a), .second, .val (.long bb), .second, .val (.long cc), .second, .val (.long nanos), .second, .val (.int sign), .val (.long P), .second, .unset, .unset, .unset, .unset, .unset, .unset, .unset, .unset, .unset, .unset, .unset, .unset, .unset, .unset, .unset, .unset, .unset] [(.long bb)] _
    refine X0.ldc2Long hx hown (mvT hZ (w1 hw)) (g := (mkF m 10 #[.val (.long a), .second, .val (.long bb), .second, .val (.long cc), .second, .val (.long nanos), .second, .val (.int sign), .val (.long P), .second, .unset, .unset, .unset, .unset, .unset, .unset, .unset, .unset, .unset, .unset, .unset, .unset, .unset, .unset, .unset, .unset, .unset] [(.long bb)])) rfl (hb hby at_10) _ ?_
    show SS p e below s₁ m 13 #[.val (.long a), .second, .val (.long bb), .second, .val (.long cc), .second, .val (.long nanos), .second, .val (.int sign), .val (.long P), .second, .unset, .unset, .unset, .unset, .unset, .unset, .unset, .unset, .unset, .unset, .unset, .unset, .unset, .unset, .unset, .unset, .unset] [(.long (2147483647 : Int64)), (.long bb)] _
    refine XS.land X0.here hx rfl (hb hby at_13) rfl ?_
    show SS p e below s₁ m 14 #[.val (.long a), .second, .val (.long bb), .second, .val (.long cc), .second, .val (.long nanos), .second, .val (.int sign), .val (.long P), .second, .unset, .unset, .unset, .unset, .unset, .unset, .unset, .unset, .unset, .unset, .unset, .unset, .unset, .unset, .unset, .unset, .unset] [(.long (bb &&& (2147483647 : Int64)))] _
    rw [← h_Q]
    show SS p e below s₁ m 14 #[.val (.long a), .second, .val (.long bb), .second, .val (.long cc), .second, .val (.long nanos), .second, .val (.int sign), .val (.long P), .second, .unset, .unset, .unset, .unset, .unset, .unset, .unset, .unset, .unset, .unset, .unset, .unset, .unset, .unset, .unset, .unset, .unset] [(.long Q)] _
    refine XS.lstore X0.here hx rfl (hb hby at_14) rfl (l' := #[.val (.long a), .second, .val (.long bb), .second, .val (.long cc), .second, .val (.long nanos), .second, .val (.int sign), .val (.long P), .second, .val (.long Q), .second, .unset, .unset, .unset, .unset, .unset, .unset, .unset, .unset, .unset, .unset, .unset, .unset, .unset, .unset, .unset]) rfl ?_
    show SS p e below s₁ m 16 #[.val (.long a), .second, .val (.long bb), .second, .val (.long cc), .second, .val (.long nanos), .second, .val (.int sign), .val (.long P), .second, .val (.long Q), .second, .unset, .unset, .unset, .unset, .unset, .unset, .unset, .unset, .unset, .unset, .unset, .unset, .unset, .unset, .unset] [] _
    refine XS.lload X0.here hx rfl (hb hby at_16) rfl ?_
    show SS p e below s₁ m 18 #[.val (.long a), .second, .val (.long bb), .second, .val (.long cc), .second, .val (.long nanos), .second, .val (.int sign), .val (.long P), .second, .val (.long Q), .second, .unset, .unset, .unset, .unset, .unset, .unset, .unset, .unset, .unset, .unset, .unset, .unset, .unset, .unset, .unset] [(.long cc)] _
    refine X0.ldc2Long hx hown (mvT hZ (w1 hw)) (g := (mkF m 18 #[.val (.long a), .second, .val (.long bb), .second, .val (.long cc), .second, .val (.long nanos), .second, .val (.int sign), .val (.long P), .second, .val (.long Q), .second, .unset, .unset, .unset, .unset, .unset, .unset, .unset, .unset, .unset, .unset, .unset, .unset, .unset, .unset, .unset] [(.long cc)])) rfl (hb hby at_18) _ ?_
    show SS p e below s₁ m 21 #[.val (.long a), .second, .val (.long bb), .second, .val (.long cc), .second, .val (.long nanos), .second, .val (.int sign), .val (.long P), .second, .val (.long Q), .second, .unset, .unset, .unset, .unset, .unset, .unset, .unset, .unset, .unset, .unset, .unset, .unset, .unset, .unset, .unset] [(.long (2147483647 : Int64)), (.long cc)] _
    refine XS.land X0.here hx rfl (hb hby at_21) rfl ?_
    show SS p e below s₁ m 22 #[.val (.long a), .second, .val (.long bb), .second, .val (.long cc), .second, .val (.long nanos), .second, .val (.int sign), .val (.long P), .second, .val (.long Q), .second, .unset, .unset, .unset, .unset, .unset, .unset, .unset, .unset, .unset, .unset, .unset, .unset, .unset, .unset, .unset] [(.long (cc &&& (2147483647 : Int64)))] _
    refine XS.lload X0.here hx rfl (hb hby at_22) rfl ?_
    show SS p e below s₁ m 24 #[.val (.long a), .second, .val (.long bb), .second, .val (.long cc), .second, .val (.long nanos), .second, .val (.int sign), .val (.long P), .second, .val (.long Q), .second, .unset, .unset, .unset, .unset, .unset, .unset, .unset, .unset, .unset, .unset, .unset, .unset, .unset, .unset, .unset] [(.long P), (.long (cc &&& (2147483647 : Int64)))] _
    refine XS.lrem X0.here hx rfl (hb hby at_24) rfl (own_nz (own_rP2 h_P)) ?_
    show SS p e below s₁ m 25 #[.val (.long a), .second, .val (.long bb), .second, .val (.long cc), .second, .val (.long nanos), .second, .val (.int sign), .val (.long P), .second, .val (.long Q), .second, .unset, .unset, .unset, .unset, .unset, .unset, .unset, .unset, .unset, .unset, .unset, .unset, .unset, .unset, .unset] [(.long ((cc &&& (2147483647 : Int64)) - (cc &&& (2147483647 : Int64)) / P * P))] _
    rw [← h_R]
    show SS p e below s₁ m 25 #[.val (.long a), .second, .val (.long bb), .second, .val (.long cc), .second, .val (.long nanos), .second, .val (.int sign), .val (.long P), .second, .val (.long Q), .second, .unset, .unset, .unset, .unset, .unset, .unset, .unset, .unset, .unset, .unset, .unset, .unset, .unset, .unset, .unset] [(.long R)] _
    refine XS.lstore X0.here hx rfl (hb hby at_25) rfl (l' := #[.val (.long a), .second, .val (.long bb), .second, .val (.long cc), .second, .val (.long nanos), .second, .val (.int sign), .val (.long P), .second, .val (.long Q), .second, .val (.long R), .second, .unset, .unset, .unset, .unset, .unset, .unset, .unset, .unset, .unset, .unset, .unset, .unset, .unset]) rfl ?_
    show SS p e below s₁ m 27 #[.val (.long a), .second, .val (.long bb), .second, .val (.long cc), .second, .val (.long nanos), .second, .val (.int sign), .val (.long P), .second, .val (.long Q), .second, .val (.long R), .second, .unset, .unset, .unset, .unset, .unset, .unset, .unset, .unset, .unset, .unset, .unset, .unset, .unset] [] _
    refine XS.lload X0.here hx rfl (hb hby at_27) rfl ?_
    show SS p e below s₁ m 29 #[.val (.long a), .second, .val (.long bb), .second, .val (.long cc), .second, .val (.long nanos), .second, .val (.int sign), .val (.long P), .second, .val (.long Q), .second, .val (.long R), .second, .unset, .unset, .unset, .unset, .unset, .unset, .unset, .unset, .unset, .unset, .unset, .unset, .unset] [(.long Q)] _
    refine XS.lload X0.here hx rfl (hb hby at_29) rfl ?_
    show SS p e below s₁ m 31 #[.val (.long a), .second, .val (.long bb), .second, .val (.long cc), .second, .val (.long nanos), .second, .val (.int sign), .val (.long P), .second, .val (.long Q), .second, .val (.long R), .second, .unset, .unset, .unset, .unset, .unset, .unset, .unset, .unset, .unset, .unset, .unset, .unset, .unset] [(.long P), (.long Q)] _
    refine XS.lmul X0.here hx rfl (hb hby at_31) rfl ?_
    show SS p e below s₁ m 32 #[.val (.long a), .second, .val (.long bb), .second, .val (.long cc), .second, .val (.long nanos), .second, .val (.int sign), .val (.long P), .second, .val (.long Q), .second, .val (.long R), .second, .unset, .unset, .unset, .unset, .unset, .unset, .unset, .unset, .unset, .unset, .unset, .unset, .unset] [(.long (Q * P))] _
    refine XS.lload X0.here hx rfl (hb hby at_32) rfl ?_
    show SS p e below s₁ m 34 #[.val (.long a), .second, .val (.long bb), .second, .val (.long cc), .second, .val (.long nanos), .second, .val (.int sign), .val (.long P), .second, .val (.long Q), .second, .val (.long R), .second, .unset, .unset, .unset, .unset, .unset, .unset, .unset, .unset, .unset, .unset, .unset, .unset, .unset] [(.long R), (.long (Q * P))] _
    refine XS.ladd X0.here hx rfl (hb hby at_34) rfl ?_
    show SS p e below s₁ m 35 #[.val (.long a), .second, .val (.long bb), .second, .val (.long cc), .second, .val (.long nanos), .second, .val (.int sign), .val (.long P), .second, .val (.long Q), .second, .val (.long R), .second, .unset, .unset, .unset, .unset, .unset, .unset, .unset, .unset, .unset, .unset, .unset, .unset, .unset] [(.long ((Q * P) + R))] _
    rw [← h_mg]
    show SS p e below s₁ m 35 #[.val (.long a), .second, .val (.long bb), .second, .val (.long cc), .second, .val (.long nanos), .second, .val (.int sign), .val (.long P), .second, .val (.long Q), .second, .val (.long R), .second, .unset, .unset, .unset, .unset, .unset, .unset, .unset, .unset, .unset, .unset, .unset, .unset, .unset] [(.long mg)] _
    refine XS.lstore X0.here hx rfl (hb hby at_35) rfl (l' := #[.val (.long a), .second, .val (.long bb), .second, .val (.long cc), .second, .val (.long nanos), .second, .val (.int sign), .val (.long P), .second, .val (.long Q), .second, .val (.long R), .second, .val (.long mg), .second, .unset, .unset, .unset, .unset, .unset, .unset, .unset, .unset, .unset, .unset, .unset]) rfl ?_
    show SS p e below s₁ m 37 #[.val (.long a), .second, .val (.long bb), .second, .val (.long cc), .second, .val (.long nanos), .second, .val (.int sign), .val (.long P), .second, .val (.long Q), .second, .val (.long R), .second, .val (.long mg), .second, .unset, .unset, .unset, .unset, .unset, .unset, .unset, .unset, .unset, .unset, .unset] [] _
    refine XS.iload X0.here hx rfl (hb hby at_37) rfl ?_
    show SS p e below s₁ m 39 #[.val (.long a), .second, .val (.long bb), .second, .val (.long cc), .second, .val (.long nanos), .second, .val (.int sign), .val (.long P), .second, .val (.long Q), .second, .val (.long R), .second, .val (.long mg), .second, .unset, .unset, .unset, .unset, .unset, .unset, .unset, .unset, .unset, .unset, .unset] [(.int sign)] _
    refine XS.iconst X0.here hx rfl (hb hby at_39) ?_
    show SS p e below s₁ m 40 #[.val (.long a), .second, .val (.long bb), .second, .val (.long cc), .second, .val (.long nanos), .second, .val (.int sign), .val (.long P), .second, .val (.long Q), .second, .val (.long R), .second, .val (.long mg), .second, .unset, .unset, .unset, .unset, .unset, .unset, .unset, .unset, .unset, .unset, .unset] [(.int (1 : Int32)), (.int sign)] _
    refine XS.iand X0.here hx rfl (hb hby at_40) rfl ?_
    show SS p e below s₁ m 41 #[.val (.long a), .second, .val (.long bb), .second, .val (.long cc), .second, .val (.long nanos), .second, .val (.int sign), .val (.long P), .second, .val (.long Q), .second, .val (.long R), .second, .val (.long mg), .second, .unset, .unset, .unset, .unset, .unset, .unset, .unset, .unset, .unset, .unset, .unset] [(.int (sign &&& (1 : Int32)))] _
    exact kt
  by_cases hc102 : (sign &&& (1 : Int32)) = (0 : Int32)
  ·
    obtain ⟨T103, h103, X103, e103, E103, A103, D103, U103, st103⟩ := newO X0 hx hZ hown (w2 hw) (w3 hw) (w4 hw) e0 (g := (mkF m 66 #[.val (.long a), .second, .val (.long bb), .second, .val (.long cc), .second, .val (.long nanos), .second, .val (.int sign), .val (.long P), .second, .val (.long Q), .second, .val (.long R), .second, .val (.long mg), .second, .val (.int (0 : Int32)), .val (.long mg), .second, .unset, .unset, .unset, .unset, .unset, .unset, .unset, .unset] [])) rfl (hb hby at_66) (by decide) (by decide)
    obtain ⟨b103, g103⟩ : ∃ z, z = h0.size := ⟨_, rfl⟩
    rw [← g103] at A103 D103 U103 st103
    have K103 := (Keep.refl h0 []).ext E103
    have G103_picks : Fld Z h103 b103 "com/example/evenkeel/evenkeel/cli/PickCost" "picks" "J" (.long (0 : Int64)) := D103 (Or.inr (w17 hw)) (ty := .long) (by decide)
    have G103_nanos : Fld Z h103 b103 "com/example/evenkeel/evenkeel/cli/PickCost" "nanos" "J" (.long (0 : Int64)) := D103 (Or.inr (w19 hw)) (ty := .long) (by decide)
    have G103_bytes : Fld Z h103 b103 "com/example/evenkeel/evenkeel/cli/PickCost" "bytes" "J" (.long (0 : Int64)) := D103 (Or.inr (w21 hw)) (ty := .long) (by decide)
    obtain ⟨_, _, ⟨T104, L104, k104, n104⟩, -, X104, ⟨Lc104, hQ104, l104, y104, z104⟩, st104⟩ := X103.specialBack hx (y := (⟨"com/example/evenkeel/evenkeel/cli/PickCost", "<init>", "(JJJ)V"⟩ : MethodName)) rfl hown (mvT hZ (w5 hw)) (mvT hZ (w6 hw)) (mvT hZ (w7 hw)) (by decide) (backOf (W := 1) (rm_pcinit l Z a0 hw [] b103 P nanos mg h103 n0 (Nat.le_trans Z0 K103.1) A103 G103_picks G103_nanos G103_bytes (Nat.le_trans Z0 (Nat.le_of_eq g103.symm))) hZ (w7 hw) (w4 hw) (by decide) (by decide)) (g := (mkF m 76 #[.val (.long a), .second, .val (.long bb), .second, .val (.long cc), .second, .val (.long nanos), .second, .val (.int sign), .val (.long P), .second, .val (.long Q), .second, .val (.long R), .second, .val (.long mg), .second, .val (.int (0 : Int32)), .val (.long mg), .second, .unset, .unset, .unset, .unset, .unset, .unset, .unset, .unset] [(.long mg), (.long nanos), (.long P), (.ref b103), (.ref b103)])) rfl (by rw [hml]; rfl) (Steps.refl _) (a := b103) (argsL := [(.long P), (.long nanos), (.long mg)]) (rest := [(.ref b103)]) (lenOf pd__28_JJJ_29_V rfl) rfl (by show 2 * 0 + _ ≤ _; exact Nat.le_of_eq rfl) (hb hby at_76) (fun _ _ => ⟨rfl, e103, (Nat.le_of_ble_eq_true rfl), (Nat.le_of_ble_eq_true rfl)⟩)
    dsimp only [Pt.U, Pt.locs, Pt.cells, Pt.slots] at X104 l104 y104 z104 st104 hQ104
    subst l104 y104 z104
    obtain ⟨rfl, Nq104, K104, P104_0, P104_1, P104_2, P104_3⟩ := hQ104
    have N104 := Fr.app N0 Nq104
    obtain ⟨cq105, kq105, q105a, q105b, q105c⟩ := isOf hZ rfl P104_0
    obtain ⟨_, _, ⟨T105, L105, k105, n105⟩, -, X105, ⟨Lc105, hQ105, l105, y105, z105⟩, st105⟩ := X104.virtualBack hx (y := (⟨"com/example/evenkeel/evenkeel/cli/PickCost", "bytesPerPick", "()D"⟩ : MethodName)) (z := (⟨"com/example/evenkeel/evenkeel/cli/PickCost", "bytesPerPick", "()D"⟩ : MethodName)) hown (mvT hZ (w22 hw)) (mvT hZ (w23 hw)) (notFace_of_selects (args := #[]) (mvT hZ (w25 hw))) (mvT hZ (w25 hw)) (mvT hZ (w24 hw)) (by decide) (backOf (W := 0) (rm_per l Z a0 hw [] b103 mg P T104.heap n0 (Nat.le_trans Z0 (Nat.le_trans K103.1 K104.1)) P104_3 P104_1 hC.1) hZ (w26 hw) (w4 hw) (by decide) (by decide)) q105a q105c (g := (mkF m 79 #[.val (.long a), .second, .val (.long bb), .second, .val (.long cc), .second, .val (.long nanos), .second, .val (.int sign), .val (.long P), .second, .val (.long Q), .second, .val (.long R), .second, .val (.long mg), .second, .val (.int (0 : Int32)), .val (.long mg), .second, .unset, .unset, .unset, .unset, .unset, .unset, .unset, .unset] [(.ref b103)])) rfl (by rw [hml]; rfl) (Steps.refl _) (argsL := []) (rest := []) (lenOf pd__28__29_D rfl) rfl (by show 2 * 0 + _ ≤ _; exact Nat.le_of_eq rfl) (hb hby at_79) (fun _ _ => ⟨rfl, rfl, (Nat.le_of_ble_eq_true rfl), (Nat.le_of_ble_eq_true rfl)⟩)
    dsimp only [Pt.U, Pt.locs, Pt.cells, Pt.slots] at X105 l105 y105 z105 st105 hQ105
    subst l105 y105 z105
    obtain ⟨rfl, Nq105, eq105⟩ := hQ105
    have N105 := Fr.app N104 Nq105
    obtain ⟨mm, h_mm⟩ : ∃ z : UInt64, z = (FP.ddiv (FP.l2d mg) (FP.l2d P)) := ⟨_, rfl⟩
    have hD := hC.2.2.2.2 mm (Or.inl h_mm)
    have W106 : ∀ zQ, SS p e below T105 m 136 #[.val (.long a), .second, .val (.long bb), .second, .val (.long cc), .second, .val (.long nanos), .second, .val (.int sign), .val (.long P), .second, .val (.long Q), .second, .val (.long R), .second, .val (.long mg), .second, .val (.int (0 : Int32)), .val (.long mg), .second, .val (.double mm), .second, .val (.double mm), .second, .val (.double (FP.l2d Q)), .second, .val (.double (FP.dadd (FP.l2d Q) (4602678819172646912 : UInt64))), .second] [(.int (lcmpW R (0 : Int64)))] zQ → Steps p.tables e below (s₁.setTop (entryFrame m #[(.long a), (.long bb), (.long cc), (.long nanos), (.int sign)] maxLocals)) zQ := by
      intro tt kt
      refine W101 tt ?_
      refine XS.ifYes X0.here hx rfl (pc0 := 41) (pc' := 48) rfl (hb hby at_41) rfl ((if0 _ _).trans (teq hc102).1) (by decide) (by decide) ?_
      show SS p e below s₁ m 48 #[.val (.long a), .second, .val (.long bb), .second, .val (.long cc), .second, .val (.long nanos), .second, .val (.int sign), .val (.long P), .second, .val (.long Q), .second, .val (.long R), .second, .val (.long mg), .second, .unset, .unset, .unset, .unset, .unset, .unset, .unset, .unset, .unset, .unset, .unset] [] _
      refine XS.iconst X0.here hx rfl (hb hby at_48) ?_
      show SS p e below s₁ m 49 #[.val (.long a), .second, .val (.long bb), .second, .val (.long cc), .second, .val (.long nanos), .second, .val (.int sign), .val (.long P), .second, .val (.long Q), .second, .val (.long R), .second, .val (.long mg), .second, .unset, .unset, .unset, .unset, .unset, .unset, .unset, .unset, .unset, .unset, .unset] [(.int (0 : Int32))] _
      refine XS.istore X0.here hx rfl (hb hby at_49) rfl (l' := #[.val (.long a), .second, .val (.long bb), .second, .val (.long cc), .second, .val (.long nanos), .second, .val (.int sign), .val (.long P), .second, .val (.long Q), .second, .val (.long R), .second, .val (.long mg), .second, .val (.int (0 : Int32)), .unset, .unset, .unset, .unset, .unset, .unset, .unset, .unset, .unset, .unset]) rfl ?_
      show SS p e below s₁ m 51 #[.val (.long a), .second, .val (.long bb), .second, .val (.long cc), .second, .val (.long nanos), .second, .val (.int sign), .val (.long P), .second, .val (.long Q), .second, .val (.long R), .second, .val (.long mg), .second, .val (.int (0 : Int32)), .unset, .unset, .unset, .unset, .unset, .unset, .unset, .unset, .unset, .unset] [] _
      refine XS.iload X0.here hx rfl (hb hby at_51) rfl ?_
      show SS p e below s₁ m 53 #[.val (.long a), .second, .val (.long bb), .second, .val (.long cc), .second, .val (.long nanos), .second, .val (.int sign), .val (.long P), .second, .val (.long Q), .second, .val (.long R), .second, .val (.long mg), .second, .val (.int (0 : Int32)), .unset, .unset, .unset, .unset, .unset, .unset, .unset, .unset, .unset, .unset] [(.int (0 : Int32))] _
      refine XS.ifYes X0.here hx rfl (pc0 := 53) (pc' := 62) rfl (hb hby at_53) rfl ((if0 _ _).trans (teq (by decide)).1) (by decide) (by decide) ?_
      show SS p e below s₁ m 62 #[.val (.long a), .second, .val (.long bb), .second, .val (.long cc), .second, .val (.long nanos), .second, .val (.int sign), .val (.long P), .second, .val (.long Q), .second, .val (.long R), .second, .val (.long mg), .second, .val (.int (0 : Int32)), .unset, .unset, .unset, .unset, .unset, .unset, .unset, .unset, .unset, .unset] [] _
      refine XS.lload X0.here hx rfl (hb hby at_62) rfl ?_
      show SS p e below s₁ m 64 #[.val (.long a), .second, .val (.long bb), .second, .val (.long cc), .second, .val (.long nanos), .second, .val (.int sign), .val (.long P), .second, .val (.long Q), .second, .val (.long R), .second, .val (.long mg), .second, .val (.int (0 : Int32)), .unset, .unset, .unset, .unset, .unset, .unset, .unset, .unset, .unset, .unset] [(.long mg)] _
      refine XS.lstore X0.here hx rfl (hb hby at_64) rfl (l' := #[.val (.long a), .second, .val (.long bb), .second, .val (.long cc), .second, .val (.long nanos), .second, .val (.int sign), .val (.long P), .second, .val (.long Q), .second, .val (.long R), .second, .val (.long mg), .second, .val (.int (0 : Int32)), .val (.long mg), .second, .unset, .unset, .unset, .unset, .unset, .unset, .unset, .unset]) rfl ?_
      show SS p e below s₁ m 66 #[.val (.long a), .second, .val (.long bb), .second, .val (.long cc), .second, .val (.long nanos), .second, .val (.int sign), .val (.long P), .second, .val (.long Q), .second, .val (.long R), .second, .val (.long mg), .second, .val (.int (0 : Int32)), .val (.long mg), .second, .unset, .unset, .unset, .unset, .unset, .unset, .unset, .unset] [] _
      refine st103 _ ?_
      show SS p e below T103 m 69 #[.val (.long a), .second, .val (.long bb), .second, .val (.long cc), .second, .val (.long nanos), .second, .val (.int sign), .val (.long P), .second, .val (.long Q), .second, .val (.long R), .second, .val (.long mg), .second, .val (.int (0 : Int32)), .val (.long mg), .second, .unset, .unset, .unset, .unset, .unset, .unset, .unset, .unset] [(.ref b103)] _
      refine XS.dup X103.here hx rfl (hb hby at_69) rfl rfl ?_
      show SS p e below T103 m 70 #[.val (.long a), .second, .val (.long bb), .second, .val (.long cc), .second, .val (.long nanos), .second, .val (.int sign), .val (.long P), .second, .val (.long Q), .second, .val (.long R), .second, .val (.long mg), .second, .val (.int (0 : Int32)), .val (.long mg), .second, .unset, .unset, .unset, .unset, .unset, .unset, .unset, .unset] [(.ref b103), (.ref b103)] _
      refine XS.lload X103.here hx rfl (hb hby at_70) rfl ?_
      show SS p e below T103 m 72 #[.val (.long a), .second, .val (.long bb), .second, .val (.long cc), .second, .val (.long nanos), .second, .val (.int sign), .val (.long P), .second, .val (.long Q), .second, .val (.long R), .second, .val (.long mg), .second, .val (.int (0 : Int32)), .val (.long mg), .second, .unset, .unset, .unset, .unset, .unset, .unset, .unset, .unset] [(.long P), (.ref b103), (.ref b103)] _
      refine XS.lload X103.here hx rfl (hb hby at_72) rfl ?_
      show SS p e below T103 m 74 #[.val (.long a), .second, .val (.long bb), .second, .val (.long cc), .second, .val (.long nanos), .second, .val (.int sign), .val (.long P), .second, .val (.long Q), .second, .val (.long R), .second, .val (.long mg), .second, .val (.int (0 : Int32)), .val (.long mg), .second, .unset, .unset, .unset, .unset, .unset, .unset, .unset, .unset] [(.long nanos), (.long P), (.ref b103), (.ref b103)] _
      refine XS.lload X103.here hx rfl (hb hby at_74) rfl ?_
      show SS p e below T103 m 76 #[.val (.long a), .second, .val (.long bb), .second, .val (.long cc), .second, .val (.long nanos), .second, .val (.int sign), .val (.long P), .second, .val (.long Q), .second, .val (.long R), .second, .val (.long mg), .second, .val (.int (0 : Int32)), .val (.long mg), .second, .unset, .unset, .unset, .unset, .unset, .unset, .unset, .unset] [(.long mg), (.long nanos), (.long P), (.ref b103), (.ref b103)] _
      refine st104.trans ?_
      show SS p e below T104 m 79 #[.val (.long a), .second, .val (.long bb), .second, .val (.long cc), .second, .val (.long nanos), .second, .val (.int sign), .val (.long P), .second, .val (.long Q), .second, .val (.long R), .second, .val (.long mg), .second, .val (.int (0 : Int32)), .val (.long mg), .second, .unset, .unset, .unset, .unset, .unset, .unset, .unset, .unset] [(.ref b103)] _
      refine st105.trans ?_
      show SS p e below T105 m 82 #[.val (.long a), .second, .val (.long bb), .second, .val (.long cc), .second, .val (.long nanos), .second, .val (.int sign), .val (.long P), .second, .val (.long Q), .second, .val (.long R), .second, .val (.long mg), .second, .val (.int (0 : Int32)), .val (.long mg), .second, .unset, .unset, .unset, .unset, .unset, .unset, .unset, .unset] [(.double (FP.ddiv (FP.l2d mg) (FP.l2d P)))] _
      refine XS.dstore X105.here hx rfl (hb hby at_82) rfl (l' := #[.val (.long a), .second, .val (.long bb), .second, .val (.long cc), .second, .val (.long nanos), .second, .val (.int sign), .val (.long P), .second, .val (.long Q), .second, .val (.long R), .second, .val (.long mg), .second, .val (.int (0 : Int32)), .val (.long mg), .second, .val (.double (FP.ddiv (FP.l2d mg) (FP.l2d P))), .second, .unset, .unset, .unset, .unset, .unset, .unset]) rfl ?_
      show SS p e below T105 m 84 #[.val (.long a), .second, .val (.long bb), .second, .val (.long cc), .second, .val (.long nanos), .second, .val (.int sign), .val (.long P), .second, .val (.long Q), .second, .val (.long R), .second, .val (.long mg), .second, .val (.int (0 : Int32)), .val (.long mg), .second, .val (.double (FP.ddiv (FP.l2d mg) (FP.l2d P))), .second, .unset, .unset, .unset, .unset, .unset, .unset] [] _
      refine XS.iload X105.here hx rfl (hb hby at_84) rfl ?_
      show SS p e below T105 m 86 #[.val (.long a), .second, .val (.long bb), .second, .val (.long cc), .second, .val (.long nanos), .second, .val (.int sign), .val (.long P), .second, .val (.long Q), .second, .val (.long R), .second, .val (.long mg), .second, .val (.int (0 : Int32)), .val (.long mg), .second, .val (.double (FP.ddiv (FP.l2d mg) (FP.l2d P))), .second, .unset, .unset, .unset, .unset, .unset, .unset] [(.int (0 : Int32))] _
      refine XS.ifYes X105.here hx rfl (pc0 := 86) (pc' := 95) rfl (hb hby at_86) rfl ((if0 _ _).trans (teq (by decide)).1) (by decide) (by decide) ?_
      show SS p e below T105 m 95 #[.val (.long a), .second, .val (.long bb), .second, .val (.long cc), .second, .val (.long nanos), .second, .val (.int sign), .val (.long P), .second, .val (.long Q), .second, .val (.long R), .second, .val (.long mg), .second, .val (.int (0 : Int32)), .val (.long mg), .second, .val (.double (FP.ddiv (FP.l2d mg) (FP.l2d P))), .second, .unset, .unset, .unset, .unset, .unset, .unset] [] _
      refine XS.dload X105.here hx rfl (hb hby at_95) rfl ?_
      show SS p e below T105 m 97 #[.val (.long a), .second, .val (.long bb), .second, .val (.long cc), .second, .val (.long nanos), .second, .val (.int sign), .val (.long P), .second, .val (.long Q), .second, .val (.long R), .second, .val (.long mg), .second, .val (.int (0 : Int32)), .val (.long mg), .second, .val (.double (FP.ddiv (FP.l2d mg) (FP.l2d P))), .second, .unset, .unset, .unset, .unset, .unset, .unset] [(.double (FP.ddiv (FP.l2d mg) (FP.l2d P)))] _
      rw [← h_mm]
      show SS p e below T105 m 97 #[.val (.long a), .second, .val (.long bb), .second, .val (.long cc), .second, .val (.long nanos), .second, .val (.int sign), .val (.long P), .second, .val (.long Q), .second, .val (.long R), .second, .val (.long mg), .second, .val (.int (0 : Int32)), .val (.long mg), .second, .val (.double mm), .second, .unset, .unset, .unset, .unset, .unset, .unset] [(.double mm)] _
      refine XS.dstore X105.here hx rfl (hb hby at_97) rfl (l' := #[.val (.long a), .second, .val (.long bb), .second, .val (.long cc), .second, .val (.long nanos), .second, .val (.int sign), .val (.long P), .second, .val (.long Q), .second, .val (.long R), .second, .val (.long mg), .second, .val (.int (0 : Int32)), .val (.long mg), .second, .val (.double mm), .second, .val (.double mm), .second, .unset, .unset, .unset, .unset]) rfl ?_
      show SS p e below T105 m 99 #[.val (.long a), .second, .val (.long bb), .second, .val (.long cc), .second, .val (.long nanos), .second, .val (.int sign), .val (.long P), .second, .val (.long Q), .second, .val (.long R), .second, .val (.long mg), .second, .val (.int (0 : Int32)), .val (.long mg), .second, .val (.double mm), .second, .val (.double mm), .second, .unset, .unset, .unset, .unset] [] _
      refine XS.lload X105.here hx rfl (hb hby at_99) rfl ?_
      show SS p e below T105 m 101 #[.val (.long a), .second, .val (.long bb), .second, .val (.long cc), .second, .val (.long nanos), .second, .val (.int sign), .val (.long P), .second, .val (.long Q), .second, .val (.long R), .second, .val (.long mg), .second, .val (.int (0 : Int32)), .val (.long mg), .second, .val (.double mm), .second, .val (.double mm), .second, .unset, .unset, .unset, .unset] [(.long Q)] _
      refine XS.l2dS X105.here hx rfl (hb hby at_101) rfl rfl ?_
      show SS p e below T105 m 102 #[.val (.long a), .second, .val (.long bb), .second, .val (.long cc), .second, .val (.long nanos), .second, .val (.int sign), .val (.long P), .second, .val (.long Q), .second, .val (.long R), .second, .val (.long mg), .second, .val (.int (0 : Int32)), .val (.long mg), .second, .val (.double mm), .second, .val (.double mm), .second, .unset, .unset, .unset, .unset] [(.double (FP.l2d Q))] _
      refine XS.dstore X105.here hx rfl (hb hby at_102) rfl (l' := #[.val (.long a), .second, .val (.long bb), .second, .val (.long cc), .second, .val (.long nanos), .second, .val (.int sign), .val (.long P), .second, .val (.long Q), .second, .val (.long R), .second, .val (.long mg), .second, .val (.int (0 : Int32)), .val (.long mg), .second, .val (.double mm), .second, .val (.double mm), .second, .val (.double (FP.l2d Q)), .second, .unset, .unset]) rfl ?_
      show SS p e below T105 m 104 #[.val (.long a), .second, .val (.long bb), .second, .val (.long cc), .second, .val (.long nanos), .second, .val (.int sign), .val (.long P), .second, .val (.long Q), .second, .val (.long R), .second, .val (.long mg), .second, .val (.int (0 : Int32)), .val (.long mg), .second, .val (.double mm), .second, .val (.double mm), .second, .val (.double (FP.l2d Q)), .second, .unset, .unset] [] _
      refine XS.dload X105.here hx rfl (hb hby at_104) rfl ?_
      show SS p e below T105 m 106 #[.val (.long a), .second, .val (.long bb), .second, .val (.long cc), .second, .val (.long nanos), .second, .val (.int sign), .val (.long P), .second, .val (.long Q), .second, .val (.long R), .second, .val (.long mg), .second, .val (.int (0 : Int32)), .val (.long mg), .second, .val (.double mm), .second, .val (.double mm), .second, .val (.double (FP.l2d Q)), .second, .unset, .unset] [(.double (FP.l2d Q))] _
      refine X105.ldc2DoubleC hx hown (mvT hZ (w27 hw)) (g := (mkF m 106 #[.val (.long a), .second, .val (.long bb), .second, .val (.long cc), .second, .val (.long nanos), .second, .val (.int sign), .val (.long P), .second, .val (.long Q), .second, .val (.long R), .second, .val (.long mg), .second, .val (.int (0 : Int32)), .val (.long mg), .second, .val (.double mm), .second, .val (.double mm), .second, .val (.double (FP.l2d Q)), .second, .unset, .unset] [(.double (FP.l2d Q))])) rfl (hb hby at_106) _ ?_
      show SS p e below T105 m 109 #[.val (.long a), .second, .val (.long bb), .second, .val (.long cc), .second, .val (.long nanos), .second, .val (.int sign), .val (.long P), .second, .val (.long Q), .second, .val (.long R), .second, .val (.long mg), .second, .val (.int (0 : Int32)), .val (.long mg), .second, .val (.double mm), .second, .val (.double mm), .second, .val (.double (FP.l2d Q)), .second, .unset, .unset] [(.double (4602678819172646912 : UInt64)), (.double (FP.l2d Q))] _
      refine XS.daddS X105.here hx rfl (hb hby at_109) rfl hC.2.2.1 rfl ?_
      show SS p e below T105 m 110 #[.val (.long a), .second, .val (.long bb), .second, .val (.long cc), .second, .val (.long nanos), .second, .val (.int sign), .val (.long P), .second, .val (.long Q), .second, .val (.long R), .second, .val (.long mg), .second, .val (.int (0 : Int32)), .val (.long mg), .second, .val (.double mm), .second, .val (.double mm), .second, .val (.double (FP.l2d Q)), .second, .unset, .unset] [(.double (FP.dadd (FP.l2d Q) (4602678819172646912 : UInt64)))] _
      refine XS.dstore X105.here hx rfl (hb hby at_110) rfl (l' := #[.val (.long a), .second, .val (.long bb), .second, .val (.long cc), .second, .val (.long nanos), .second, .val (.int sign), .val (.long P), .second, .val (.long Q), .second, .val (.long R), .second, .val (.long mg), .second, .val (.int (0 : Int32)), .val (.long mg), .second, .val (.double mm), .second, .val (.double mm), .second, .val (.double (FP.l2d Q)), .second, .val (.double (FP.dadd (FP.l2d Q) (4602678819172646912 : UInt64))), .second]) rfl ?_
      show SS p e below T105 m 112 #[.val (.long a), .second, .val (.long bb), .second, .val (.long cc), .second, .val (.long nanos), .second, .val (.int sign), .val (.long P), .second, .val (.long Q), .second, .val (.long R), .second, .val (.long mg), .second, .val (.int (0 : Int32)), .val (.long mg), .second, .val (.double mm), .second, .val (.double mm), .second, .val (.double (FP.l2d Q)), .second, .val (.double (FP.dadd (FP.l2d Q) (4602678819172646912 : UInt64))), .second] [] _
      refine XS.dload X105.here hx rfl (hb hby at_112) rfl ?_
      show SS p e below T105 m 114 #[.val (.long a), .second, .val (.long bb), .second, .val (.long cc), .second, .val (.long nanos), .second, .val (.int sign), .val (.long P), .second, .val (.long Q), .second, .val (.long R), .second, .val (.long mg), .second, .val (.int (0 : Int32)), .val (.long mg), .second, .val (.double mm), .second, .val (.double mm), .second, .val (.double (FP.l2d Q)), .second, .val (.double (FP.dadd (FP.l2d Q) (4602678819172646912 : UInt64))), .second] [(.double mm)] _
      refine XS.dload X105.here hx rfl (hb hby at_114) rfl ?_
      show SS p e below T105 m 116 #[.val (.long a), .second, .val (.long bb), .second, .val (.long cc), .second, .val (.long nanos), .second, .val (.int sign), .val (.long P), .second, .val (.long Q), .second, .val (.long R), .second, .val (.long mg), .second, .val (.int (0 : Int32)), .val (.long mg), .second, .val (.double mm), .second, .val (.double mm), .second, .val (.double (FP.l2d Q)), .second, .val (.double (FP.dadd (FP.l2d Q) (4602678819172646912 : UInt64))), .second] [(.double (FP.l2d Q)), (.double mm)] _
      refine XS.dcmpS X105.here hx rfl (hb hby at_116) rfl rfl ?_
      show SS p e below T105 m 117 #[.val (.long a), .second, .val (.long bb), .second, .val (.long cc), .second, .val (.long nanos), .second, .val (.int sign), .val (.long P), .second, .val (.long Q), .second, .val (.long R), .second, .val (.long mg), .second, .val (.int (0 : Int32)), .val (.long mg), .second, .val (.double mm), .second, .val (.double mm), .second, .val (.double (FP.l2d Q)), .second, .val (.double (FP.dadd (FP.l2d Q) (4602678819172646912 : UInt64))), .second] [(.int (cmpValue (FP.dcmp mm (FP.l2d Q)) .l))] _
      refine XS.ifNo X105.here hx rfl (hb hby at_117) rfl ((if0 _ _).trans (flt hD.1).1) ?_
      show SS p e below T105 m 120 #[.val (.long a), .second, .val (.long bb), .second, .val (.long cc), .second, .val (.long nanos), .second, .val (.int sign), .val (.long P), .second, .val (.long Q), .second, .val (.long R), .second, .val (.long mg), .second, .val (.int (0 : Int32)), .val (.long mg), .second, .val (.double mm), .second, .val (.double mm), .second, .val (.double (FP.l2d Q)), .second, .val (.double (FP.dadd (FP.l2d Q) (4602678819172646912 : UInt64))), .second] [] _
      refine XS.dload X105.here hx rfl (hb hby at_120) rfl ?_
      show SS p e below T105 m 122 #[.val (.long a), .second, .val (.long bb), .second, .val (.long cc), .second, .val (.long nanos), .second, .val (.int sign), .val (.long P), .second, .val (.long Q), .second, .val (.long R), .second, .val (.long mg), .second, .val (.int (0 : Int32)), .val (.long mg), .second, .val (.double mm), .second, .val (.double mm), .second, .val (.double (FP.l2d Q)), .second, .val (.double (FP.dadd (FP.l2d Q) (4602678819172646912 : UInt64))), .second] [(.double mm)] _
      refine XS.dload X105.here hx rfl (hb hby at_122) rfl ?_
      show SS p e below T105 m 124 #[.val (.long a), .second, .val (.long bb), .second, .val (.long cc), .second, .val (.long nanos), .second, .val (.int sign), .val (.long P), .second, .val (.long Q), .second, .val (.long R), .second, .val (.long mg), .second, .val (.int (0 : Int32)), .val (.long mg), .second, .val (.double mm), .second, .val (.double mm), .second, .val (.double (FP.l2d Q)), .second, .val (.double (FP.dadd (FP.l2d Q) (4602678819172646912 : UInt64))), .second] [(.double (FP.l2d Q)), (.double mm)] _
      refine XS.dconst1 X105.here hx rfl (hb hby at_124) rfl ?_
      show SS p e below T105 m 125 #[.val (.long a), .second, .val (.long bb), .second, .val (.long cc), .second, .val (.long nanos), .second, .val (.int sign), .val (.long P), .second, .val (.long Q), .second, .val (.long R), .second, .val (.long mg), .second, .val (.int (0 : Int32)), .val (.long mg), .second, .val (.double mm), .second, .val (.double mm), .second, .val (.double (FP.l2d Q)), .second, .val (.double (FP.dadd (FP.l2d Q) (4602678819172646912 : UInt64))), .second] [(.double FP.dconst1), (.double (FP.l2d Q)), (.double mm)] _
      refine XS.daddS X105.here hx rfl (hb hby at_125) rfl hC.2.2.2.1 rfl ?_
      show SS p e below T105 m 126 #[.val (.long a), .second, .val (.long bb), .second, .val (.long cc), .second, .val (.long nanos), .second, .val (.int sign), .val (.long P), .second, .val (.long Q), .second, .val (.long R), .second, .val (.long mg), .second, .val (.int (0 : Int32)), .val (.long mg), .second, .val (.double mm), .second, .val (.double mm), .second, .val (.double (FP.l2d Q)), .second, .val (.double (FP.dadd (FP.l2d Q) (4602678819172646912 : UInt64))), .second] [(.double (FP.dadd (FP.l2d Q) FP.dconst1)), (.double mm)] _
      refine XS.dcmpS X105.here hx rfl (hb hby at_126) rfl rfl ?_
      show SS p e below T105 m 127 #[.val (.long a), .second, .val (.long bb), .second, .val (.long cc), .second, .val (.long nanos), .second, .val (.int sign), .val (.long P), .second, .val (.long Q), .second, .val (.long R), .second, .val (.long mg), .second, .val (.int (0 : Int32)), .val (.long mg), .second, .val (.double mm), .second, .val (.double mm), .second, .val (.double (FP.l2d Q)), .second, .val (.double (FP.dadd (FP.l2d Q) (4602678819172646912 : UInt64))), .second] [(.int (cmpValue (FP.dcmp mm (FP.dadd (FP.l2d Q) FP.dconst1)) .g))] _
      refine XS.ifYes X105.here hx rfl (pc0 := 127) (pc' := 132) rfl (hb hby at_127) rfl ((if0 _ _).trans (tlt hD.2.1).1) (by decide) (by decide) ?_
      show SS p e below T105 m 132 #[.val (.long a), .second, .val (.long bb), .second, .val (.long cc), .second, .val (.long nanos), .second, .val (.int sign), .val (.long P), .second, .val (.long Q), .second, .val (.long R), .second, .val (.long mg), .second, .val (.int (0 : Int32)), .val (.long mg), .second, .val (.double mm), .second, .val (.double mm), .second, .val (.double (FP.l2d Q)), .second, .val (.double (FP.dadd (FP.l2d Q) (4602678819172646912 : UInt64))), .second] [] _
      refine XS.lload X105.here hx rfl (hb hby at_132) rfl ?_
      show SS p e below T105 m 134 #[.val (.long a), .second, .val (.long bb), .second, .val (.long cc), .second, .val (.long nanos), .second, .val (.int sign), .val (.long P), .second, .val (.long Q), .second, .val (.long R), .second, .val (.long mg), .second, .val (.int (0 : Int32)), .val (.long mg), .second, .val (.double mm), .second, .val (.double mm), .second, .val (.double (FP.l2d Q)), .second, .val (.double (FP.dadd (FP.l2d Q) (4602678819172646912 : UInt64))), .second] [(.long R)] _
      refine XS.lconst X105.here hx rfl (hb hby at_134) ?_
      show SS p e below T105 m 135 #[.val (.long a), .second, .val (.long bb), .second, .val (.long cc), .second, .val (.long nanos), .second, .val (.int sign), .val (.long P), .second, .val (.long Q), .second, .val (.long R), .second, .val (.long mg), .second, .val (.int (0 : Int32)), .val (.long mg), .second, .val (.double mm), .second, .val (.double mm), .second, .val (.double (FP.l2d Q)), .second, .val (.double (FP.dadd (FP.l2d Q) (4602678819172646912 : UInt64))), .second] [(.long (0 : Int64)), (.long R)] _
      refine XS.lcmp X105.here hx rfl (hb hby at_135) rfl ?_
      show SS p e below T105 m 136 #[.val (.long a), .second, .val (.long bb), .second, .val (.long cc), .second, .val (.long nanos), .second, .val (.int sign), .val (.long P), .second, .val (.long Q), .second, .val (.long R), .second, .val (.long mg), .second, .val (.int (0 : Int32)), .val (.long mg), .second, .val (.double mm), .second, .val (.double mm), .second, .val (.double (FP.l2d Q)), .second, .val (.double (FP.dadd (FP.l2d Q) (4602678819172646912 : UInt64))), .second] [(.int (lcmpW R (0 : Int64)))] _
      exact kt
    by_cases hc107 : R = (0 : Int64)
    ·
      have W108 : ∀ zQ, SS p e below T105 m 158 #[.val (.long a), .second, .val (.long bb), .second, .val (.long cc), .second, .val (.long nanos), .second, .val (.int sign), .val (.long P), .second, .val (.long Q), .second, .val (.long R), .second, .val (.long mg), .second, .val (.int (0 : Int32)), .val (.long mg), .second, .val (.double mm), .second, .val (.double mm), .second, .val (.double (FP.l2d Q)), .second, .val (.double (FP.dadd (FP.l2d Q) (4602678819172646912 : UInt64))), .second] [(.int (lcmpW ((2 : Int64) * R) P))] zQ → Steps p.tables e below (s₁.setTop (entryFrame m #[(.long a), (.long bb), (.long cc), (.long nanos), (.int sign)] maxLocals)) zQ := by
        intro tt kt
        refine W106 tt ?_
        refine XS.ifNo X105.here hx rfl (hb hby at_136) rfl ((if0 _ _).trans (teq ((lw_eq _ _).mpr hc107)).2) ?_
        show SS p e below T105 m 139 #[.val (.long a), .second, .val (.long bb), .second, .val (.long cc), .second, .val (.long nanos), .second, .val (.int sign), .val (.long P), .second, .val (.long Q), .second, .val (.long R), .second, .val (.long mg), .second, .val (.int (0 : Int32)), .val (.long mg), .second, .val (.double mm), .second, .val (.double mm), .second, .val (.double (FP.l2d Q)), .second, .val (.double (FP.dadd (FP.l2d Q) (4602678819172646912 : UInt64))), .second] [] _
        refine XS.dload X105.here hx rfl (hb hby at_139) rfl ?_
        show SS p e below T105 m 141 #[.val (.long a), .second, .val (.long bb), .second, .val (.long cc), .second, .val (.long nanos), .second, .val (.int sign), .val (.long P), .second, .val (.long Q), .second, .val (.long R), .second, .val (.long mg), .second, .val (.int (0 : Int32)), .val (.long mg), .second, .val (.double mm), .second, .val (.double mm), .second, .val (.double (FP.l2d Q)), .second, .val (.double (FP.dadd (FP.l2d Q) (4602678819172646912 : UInt64))), .second] [(.double mm)] _
        refine XS.dload X105.here hx rfl (hb hby at_141) rfl ?_
        show SS p e below T105 m 143 #[.val (.long a), .second, .val (.long bb), .second, .val (.long cc), .second, .val (.long nanos), .second, .val (.int sign), .val (.long P), .second, .val (.long Q), .second, .val (.long R), .second, .val (.long mg), .second, .val (.int (0 : Int32)), .val (.long mg), .second, .val (.double mm), .second, .val (.double mm), .second, .val (.double (FP.l2d Q)), .second, .val (.double (FP.dadd (FP.l2d Q) (4602678819172646912 : UInt64))), .second] [(.double (FP.l2d Q)), (.double mm)] _
        refine XS.dcmpS X105.here hx rfl (hb hby at_143) rfl rfl ?_
        show SS p e below T105 m 144 #[.val (.long a), .second, .val (.long bb), .second, .val (.long cc), .second, .val (.long nanos), .second, .val (.int sign), .val (.long P), .second, .val (.long Q), .second, .val (.long R), .second, .val (.long mg), .second, .val (.int (0 : Int32)), .val (.long mg), .second, .val (.double mm), .second, .val (.double mm), .second, .val (.double (FP.l2d Q)), .second, .val (.double (FP.dadd (FP.l2d Q) (4602678819172646912 : UInt64))), .second] [(.int (cmpValue (FP.dcmp mm (FP.l2d Q)) .l))] _
        refine XS.ifYes X105.here hx rfl (pc0 := 144) (pc' := 149) rfl (hb hby at_144) rfl ((if0 _ _).trans (teq (hD.2.2.1 hc107)).1) (by decide) (by decide) ?_
        show SS p e below T105 m 149 #[.val (.long a), .second, .val (.long bb), .second, .val (.long cc), .second, .val (.long nanos), .second, .val (.int sign), .val (.long P), .second, .val (.long Q), .second, .val (.long R), .second, .val (.long mg), .second, .val (.int (0 : Int32)), .val (.long mg), .second, .val (.double mm), .second, .val (.double mm), .second, .val (.double (FP.l2d Q)), .second, .val (.double (FP.dadd (FP.l2d Q) (4602678819172646912 : UInt64))), .second] [] _
        refine X105.ldc2Long hx hown (mvT hZ (w28 hw)) (g := (mkF m 149 #[.val (.long a), .second, .val (.long bb), .second, .val (.long cc), .second, .val (.long nanos), .second, .val (.int sign), .val (.long P), .second, .val (.long Q), .second, .val (.long R), .second, .val (.long mg), .second, .val (.int (0 : Int32)), .val (.long mg), .second, .val (.double mm), .second, .val (.double mm), .second, .val (.double (FP.l2d Q)), .second, .val (.double (FP.dadd (FP.l2d Q) (4602678819172646912 : UInt64))), .second] [])) rfl (hb hby at_149) _ ?_
        show SS p e below T105 m 152 #[.val (.long a), .second, .val (.long bb), .second, .val (.long cc), .second, .val (.long nanos), .second, .val (.int sign), .val (.long P), .second, .val (.long Q), .second, .val (.long R), .second, .val (.long mg), .second, .val (.int (0 : Int32)), .val (.long mg), .second, .val (.double mm), .second, .val (.double mm), .second, .val (.double (FP.l2d Q)), .second, .val (.double (FP.dadd (FP.l2d Q) (4602678819172646912 : UInt64))), .second] [(.long (2 : Int64))] _
        refine XS.lload X105.here hx rfl (hb hby at_152) rfl ?_
        show SS p e below T105 m 154 #[.val (.long a), .second, .val (.long bb), .second, .val (.long cc), .second, .val (.long nanos), .second, .val (.int sign), .val (.long P), .second, .val (.long Q), .second, .val (.long R), .second, .val (.long mg), .second, .val (.int (0 : Int32)), .val (.long mg), .second, .val (.double mm), .second, .val (.double mm), .second, .val (.double (FP.l2d Q)), .second, .val (.double (FP.dadd (FP.l2d Q) (4602678819172646912 : UInt64))), .second] [(.long R), (.long (2 : Int64))] _
        refine XS.lmul X105.here hx rfl (hb hby at_154) rfl ?_
        show SS p e below T105 m 155 #[.val (.long a), .second, .val (.long bb), .second, .val (.long cc), .second, .val (.long nanos), .second, .val (.int sign), .val (.long P), .second, .val (.long Q), .second, .val (.long R), .second, .val (.long mg), .second, .val (.int (0 : Int32)), .val (.long mg), .second, .val (.double mm), .second, .val (.double mm), .second, .val (.double (FP.l2d Q)), .second, .val (.double (FP.dadd (FP.l2d Q) (4602678819172646912 : UInt64))), .second] [(.long ((2 : Int64) * R))] _
        refine XS.lload X105.here hx rfl (hb hby at_155) rfl ?_
        show SS p e below T105 m 157 #[.val (.long a), .second, .val (.long bb), .second, .val (.long cc), .second, .val (.long nanos), .second, .val (.int sign), .val (.long P), .second, .val (.long Q), .second, .val (.long R), .second, .val (.long mg), .second, .val (.int (0 : Int32)), .val (.long mg), .second, .val (.double mm), .second, .val (.double mm), .second, .val (.double (FP.l2d Q)), .second, .val (.double (FP.dadd (FP.l2d Q) (4602678819172646912 : UInt64))), .second] [(.long P), (.long ((2 : Int64) * R))] _
        refine XS.lcmp X105.here hx rfl (hb hby at_157) rfl ?_
        show SS p e below T105 m 158 #[.val (.long a), .second, .val (.long bb), .second, .val (.long cc), .second, .val (.long nanos), .second, .val (.int sign), .val (.long P), .second, .val (.long Q), .second, .val (.long R), .second, .val (.long mg), .second, .val (.int (0 : Int32)), .val (.long mg), .second, .val (.double mm), .second, .val (.double mm), .second, .val (.double (FP.l2d Q)), .second, .val (.double (FP.dadd (FP.l2d Q) (4602678819172646912 : UInt64))), .second] [(.int (lcmpW ((2 : Int64) * R) P))] _
        exact kt
      by_cases hc109 : ((2 : Int64) * R) = P
      ·
        have W110 : ∀ zQ, SS p e below T105 m 180 #[.val (.long a), .second, .val (.long bb), .second, .val (.long cc), .second, .val (.long nanos), .second, .val (.int sign), .val (.long P), .second, .val (.long Q), .second, .val (.long R), .second, .val (.long mg), .second, .val (.int (0 : Int32)), .val (.long mg), .second, .val (.double mm), .second, .val (.double mm), .second, .val (.double (FP.l2d Q)), .second, .val (.double (FP.dadd (FP.l2d Q) (4602678819172646912 : UInt64))), .second] [(.int (lcmpW ((2 : Int64) * R) P))] zQ → Steps p.tables e below (s₁.setTop (entryFrame m #[(.long a), (.long bb), (.long cc), (.long nanos), (.int sign)] maxLocals)) zQ := by
          intro tt kt
          refine W108 tt ?_
          refine XS.ifNo X105.here hx rfl (hb hby at_158) rfl ((if0 _ _).trans (teq ((lw_eq _ _).mpr hc109)).2) ?_
          show SS p e below T105 m 161 #[.val (.long a), .second, .val (.long bb), .second, .val (.long cc), .second, .val (.long nanos), .second, .val (.int sign), .val (.long P), .second, .val (.long Q), .second, .val (.long R), .second, .val (.long mg), .second, .val (.int (0 : Int32)), .val (.long mg), .second, .val (.double mm), .second, .val (.double mm), .second, .val (.double (FP.l2d Q)), .second, .val (.double (FP.dadd (FP.l2d Q) (4602678819172646912 : UInt64))), .second] [] _
          refine XS.dload X105.here hx rfl (hb hby at_161) rfl ?_
          show SS p e below T105 m 163 #[.val (.long a), .second, .val (.long bb), .second, .val (.long cc), .second, .val (.long nanos), .second, .val (.int sign), .val (.long P), .second, .val (.long Q), .second, .val (.long R), .second, .val (.long mg), .second, .val (.int (0 : Int32)), .val (.long mg), .second, .val (.double mm), .second, .val (.double mm), .second, .val (.double (FP.l2d Q)), .second, .val (.double (FP.dadd (FP.l2d Q) (4602678819172646912 : UInt64))), .second] [(.double mm)] _
          refine XS.dload X105.here hx rfl (hb hby at_163) rfl ?_
          show SS p e below T105 m 165 #[.val (.long a), .second, .val (.long bb), .second, .val (.long cc), .second, .val (.long nanos), .second, .val (.int sign), .val (.long P), .second, .val (.long Q), .second, .val (.long R), .second, .val (.long mg), .second, .val (.int (0 : Int32)), .val (.long mg), .second, .val (.double mm), .second, .val (.double mm), .second, .val (.double (FP.l2d Q)), .second, .val (.double (FP.dadd (FP.l2d Q) (4602678819172646912 : UInt64))), .second] [(.double (FP.dadd (FP.l2d Q) (4602678819172646912 : UInt64))), (.double mm)] _
          refine XS.dcmpS X105.here hx rfl (hb hby at_165) rfl rfl ?_
          show SS p e below T105 m 166 #[.val (.long a), .second, .val (.long bb), .second, .val (.long cc), .second, .val (.long nanos), .second, .val (.int sign), .val (.long P), .second, .val (.long Q), .second, .val (.long R), .second, .val (.long mg), .second, .val (.int (0 : Int32)), .val (.long mg), .second, .val (.double mm), .second, .val (.double mm), .second, .val (.double (FP.l2d Q)), .second, .val (.double (FP.dadd (FP.l2d Q) (4602678819172646912 : UInt64))), .second] [(.int (cmpValue (FP.dcmp mm (FP.dadd (FP.l2d Q) (4602678819172646912 : UInt64))) .l))] _
          refine XS.ifYes X105.here hx rfl (pc0 := 166) (pc' := 171) rfl (hb hby at_166) rfl ((if0 _ _).trans (teq (hD.2.2.2.1 hc109)).1) (by decide) (by decide) ?_
          show SS p e below T105 m 171 #[.val (.long a), .second, .val (.long bb), .second, .val (.long cc), .second, .val (.long nanos), .second, .val (.int sign), .val (.long P), .second, .val (.long Q), .second, .val (.long R), .second, .val (.long mg), .second, .val (.int (0 : Int32)), .val (.long mg), .second, .val (.double mm), .second, .val (.double mm), .second, .val (.double (FP.l2d Q)), .second, .val (.double (FP.dadd (FP.l2d Q) (4602678819172646912 : UInt64))), .second] [] _
          refine X105.ldc2Long hx hown (mvT hZ (w28 hw)) (g := (mkF m 171 #[.val (.long a), .second, .val (.long bb), .second, .val (.long cc), .second, .val (.long nanos), .second, .val (.int sign), .val (.long P), .second, .val (.long Q), .second, .val (.long R), .second, .val (.long mg), .second, .val (.int (0 : Int32)), .val (.long mg), .second, .val (.double mm), .second, .val (.double mm), .second, .val (.double (FP.l2d Q)), .second, .val (.double (FP.dadd (FP.l2d Q) (4602678819172646912 : UInt64))), .second] [])) rfl (hb hby at_171) _ ?_
          show SS p e below T105 m 174 #[.val (.long a), .second, .val (.long bb), .second, .val (.long cc), .second, .val (.long nanos), .second, .val (.int sign), .val (.long P), .second, .val (.long Q), .second, .val (.long R), .second, .val (.long mg), .second, .val (.int (0 : Int32)), .val (.long mg), .second, .val (.double mm), .second, .val (.double mm), .second, .val (.double (FP.l2d Q)), .second, .val (.double (FP.dadd (FP.l2d Q) (4602678819172646912 : UInt64))), .second] [(.long (2 : Int64))] _
          refine XS.lload X105.here hx rfl (hb hby at_174) rfl ?_
          show SS p e below T105 m 176 #[.val (.long a), .second, .val (.long bb), .second, .val (.long cc), .second, .val (.long nanos), .second, .val (.int sign), .val (.long P), .second, .val (.long Q), .second, .val (.long R), .second, .val (.long mg), .second, .val (.int (0 : Int32)), .val (.long mg), .second, .val (.double mm), .second, .val (.double mm), .second, .val (.double (FP.l2d Q)), .second, .val (.double (FP.dadd (FP.l2d Q) (4602678819172646912 : UInt64))), .second] [(.long R), (.long (2 : Int64))] _
          refine XS.lmul X105.here hx rfl (hb hby at_176) rfl ?_
          show SS p e below T105 m 177 #[.val (.long a), .second, .val (.long bb), .second, .val (.long cc), .second, .val (.long nanos), .second, .val (.int sign), .val (.long P), .second, .val (.long Q), .second, .val (.long R), .second, .val (.long mg), .second, .val (.int (0 : Int32)), .val (.long mg), .second, .val (.double mm), .second, .val (.double mm), .second, .val (.double (FP.l2d Q)), .second, .val (.double (FP.dadd (FP.l2d Q) (4602678819172646912 : UInt64))), .second] [(.long ((2 : Int64) * R))] _
          refine XS.lload X105.here hx rfl (hb hby at_177) rfl ?_
          show SS p e below T105 m 179 #[.val (.long a), .second, .val (.long bb), .second, .val (.long cc), .second, .val (.long nanos), .second, .val (.int sign), .val (.long P), .second, .val (.long Q), .second, .val (.long R), .second, .val (.long mg), .second, .val (.int (0 : Int32)), .val (.long mg), .second, .val (.double mm), .second, .val (.double mm), .second, .val (.double (FP.l2d Q)), .second, .val (.double (FP.dadd (FP.l2d Q) (4602678819172646912 : UInt64))), .second] [(.long P), (.long ((2 : Int64) * R))] _
          refine XS.lcmp X105.here hx rfl (hb hby at_179) rfl ?_
          show SS p e below T105 m 180 #[.val (.long a), .second, .val (.long bb), .second, .val (.long cc), .second, .val (.long nanos), .second, .val (.int sign), .val (.long P), .second, .val (.long Q), .second, .val (.long R), .second, .val (.long mg), .second, .val (.int (0 : Int32)), .val (.long mg), .second, .val (.double mm), .second, .val (.double mm), .second, .val (.double (FP.l2d Q)), .second, .val (.double (FP.dadd (FP.l2d Q) (4602678819172646912 : UInt64))), .second] [(.int (lcmpW ((2 : Int64) * R) P))] _
          exact kt
        by_cases hc111 : ((2 : Int64) * R) < P
        ·
          have W112 : ∀ zQ, SS p e below T105 m 202 #[.val (.long a), .second, .val (.long bb), .second, .val (.long cc), .second, .val (.long nanos), .second, .val (.int sign), .val (.long P), .second, .val (.long Q), .second, .val (.long R), .second, .val (.long mg), .second, .val (.int (0 : Int32)), .val (.long mg), .second, .val (.double mm), .second, .val (.double mm), .second, .val (.double (FP.l2d Q)), .second, .val (.double (FP.dadd (FP.l2d Q) (4602678819172646912 : UInt64))), .second] [(.int (lcmpW ((2 : Int64) * R) P))] zQ → Steps p.tables e below (s₁.setTop (entryFrame m #[(.long a), (.long bb), (.long cc), (.long nanos), (.int sign)] maxLocals)) zQ := by
            intro tt kt
            refine W110 tt ?_
            refine XS.ifNo X105.here hx rfl (hb hby at_180) rfl ((if0 _ _).trans (tlt ((lw_lt _ _).mpr hc111)).2.1) ?_
            show SS p e below T105 m 183 #[.val (.long a), .second, .val (.long bb), .second, .val (.long cc), .second, .val (.long nanos), .second, .val (.int sign), .val (.long P), .second, .val (.long Q), .second, .val (.long R), .second, .val (.long mg), .second, .val (.int (0 : Int32)), .val (.long mg), .second, .val (.double mm), .second, .val (.double mm), .second, .val (.double (FP.l2d Q)), .second, .val (.double (FP.dadd (FP.l2d Q) (4602678819172646912 : UInt64))), .second] [] _
            refine XS.dload X105.here hx rfl (hb hby at_183) rfl ?_
            show SS p e below T105 m 185 #[.val (.long a), .second, .val (.long bb), .second, .val (.long cc), .second, .val (.long nanos), .second, .val (.int sign), .val (.long P), .second, .val (.long Q), .second, .val (.long R), .second, .val (.long mg), .second, .val (.int (0 : Int32)), .val (.long mg), .second, .val (.double mm), .second, .val (.double mm), .second, .val (.double (FP.l2d Q)), .second, .val (.double (FP.dadd (FP.l2d Q) (4602678819172646912 : UInt64))), .second] [(.double mm)] _
            refine XS.dload X105.here hx rfl (hb hby at_185) rfl ?_
            show SS p e below T105 m 187 #[.val (.long a), .second, .val (.long bb), .second, .val (.long cc), .second, .val (.long nanos), .second, .val (.int sign), .val (.long P), .second, .val (.long Q), .second, .val (.long R), .second, .val (.long mg), .second, .val (.int (0 : Int32)), .val (.long mg), .second, .val (.double mm), .second, .val (.double mm), .second, .val (.double (FP.l2d Q)), .second, .val (.double (FP.dadd (FP.l2d Q) (4602678819172646912 : UInt64))), .second] [(.double (FP.dadd (FP.l2d Q) (4602678819172646912 : UInt64))), (.double mm)] _
            refine XS.dcmpS X105.here hx rfl (hb hby at_187) rfl rfl ?_
            show SS p e below T105 m 188 #[.val (.long a), .second, .val (.long bb), .second, .val (.long cc), .second, .val (.long nanos), .second, .val (.int sign), .val (.long P), .second, .val (.long Q), .second, .val (.long R), .second, .val (.long mg), .second, .val (.int (0 : Int32)), .val (.long mg), .second, .val (.double mm), .second, .val (.double mm), .second, .val (.double (FP.l2d Q)), .second, .val (.double (FP.dadd (FP.l2d Q) (4602678819172646912 : UInt64))), .second] [(.int (cmpValue (FP.dcmp mm (FP.dadd (FP.l2d Q) (4602678819172646912 : UInt64))) .g))] _
            refine XS.ifYes X105.here hx rfl (pc0 := 188) (pc' := 193) rfl (hb hby at_188) rfl ((if0 _ _).trans (tlt (hD.2.2.2.2.1 hc111)).1) (by decide) (by decide) ?_
            show SS p e below T105 m 193 #[.val (.long a), .second, .val (.long bb), .second, .val (.long cc), .second, .val (.long nanos), .second, .val (.int sign), .val (.long P), .second, .val (.long Q), .second, .val (.long R), .second, .val (.long mg), .second, .val (.int (0 : Int32)), .val (.long mg), .second, .val (.double mm), .second, .val (.double mm), .second, .val (.double (FP.l2d Q)), .second, .val (.double (FP.dadd (FP.l2d Q) (4602678819172646912 : UInt64))), .second] [] _
            refine X105.ldc2Long hx hown (mvT hZ (w28 hw)) (g := (mkF m 193 #[.val (.long a), .second, .val (.long bb), .second, .val (.long cc), .second, .val (.long nanos), .second, .val (.int sign), .val (.long P), .second, .val (.long Q), .second, .val (.long R), .second, .val (.long mg), .second, .val (.int (0 : Int32)), .val (.long mg), .second, .val (.double mm), .second, .val (.double mm), .second, .val (.double (FP.l2d Q)), .second, .val (.double (FP.dadd (FP.l2d Q) (4602678819172646912 : UInt64))), .second] [])) rfl (hb hby at_193) _ ?_
            show SS p e below T105 m 196 #[.val (.long a), .second, .val (.long bb), .second, .val (.long cc), .second, .val (.long nanos), .second, .val (.int sign), .val (.long P), .second, .val (.long Q), .second, .val (.long R), .second, .val (.long mg), .second, .val (.int (0 : Int32)), .val (.long mg), .second, .val (.double mm), .second, .val (.double mm), .second, .val (.double (FP.l2d Q)), .second, .val (.double (FP.dadd (FP.l2d Q) (4602678819172646912 : UInt64))), .second] [(.long (2 : Int64))] _
            refine XS.lload X105.here hx rfl (hb hby at_196) rfl ?_
            show SS p e below T105 m 198 #[.val (.long a), .second, .val (.long bb), .second, .val (.long cc), .second, .val (.long nanos), .second, .val (.int sign), .val (.long P), .second, .val (.long Q), .second, .val (.long R), .second, .val (.long mg), .second, .val (.int (0 : Int32)), .val (.long mg), .second, .val (.double mm), .second, .val (.double mm), .second, .val (.double (FP.l2d Q)), .second, .val (.double (FP.dadd (FP.l2d Q) (4602678819172646912 : UInt64))), .second] [(.long R), (.long (2 : Int64))] _
            refine XS.lmul X105.here hx rfl (hb hby at_198) rfl ?_
            show SS p e below T105 m 199 #[.val (.long a), .second, .val (.long bb), .second, .val (.long cc), .second, .val (.long nanos), .second, .val (.int sign), .val (.long P), .second, .val (.long Q), .second, .val (.long R), .second, .val (.long mg), .second, .val (.int (0 : Int32)), .val (.long mg), .second, .val (.double mm), .second, .val (.double mm), .second, .val (.double (FP.l2d Q)), .second, .val (.double (FP.dadd (FP.l2d Q) (4602678819172646912 : UInt64))), .second] [(.long ((2 : Int64) * R))] _
            refine XS.lload X105.here hx rfl (hb hby at_199) rfl ?_
            show SS p e below T105 m 201 #[.val (.long a), .second, .val (.long bb), .second, .val (.long cc), .second, .val (.long nanos), .second, .val (.int sign), .val (.long P), .second, .val (.long Q), .second, .val (.long R), .second, .val (.long mg), .second, .val (.int (0 : Int32)), .val (.long mg), .second, .val (.double mm), .second, .val (.double mm), .second, .val (.double (FP.l2d Q)), .second, .val (.double (FP.dadd (FP.l2d Q) (4602678819172646912 : UInt64))), .second] [(.long P), (.long ((2 : Int64) * R))] _
            refine XS.lcmp X105.here hx rfl (hb hby at_201) rfl ?_
            show SS p e below T105 m 202 #[.val (.long a), .second, .val (.long bb), .second, .val (.long cc), .second, .val (.long nanos), .second, .val (.int sign), .val (.long P), .second, .val (.long Q), .second, .val (.long R), .second, .val (.long mg), .second, .val (.int (0 : Int32)), .val (.long mg), .second, .val (.double mm), .second, .val (.double mm), .second, .val (.double (FP.l2d Q)), .second, .val (.double (FP.dadd (FP.l2d Q) (4602678819172646912 : UInt64))), .second] [(.int (lcmpW ((2 : Int64) * R) P))] _
            exact kt
          by_cases hc113 : P < ((2 : Int64) * R)
          ·
            have W114 : ∀ zQ, SS p e below T105 m 216 #[.val (.long a), .second, .val (.long bb), .second, .val (.long cc), .second, .val (.long nanos), .second, .val (.int sign), .val (.long P), .second, .val (.long Q), .second, .val (.long R), .second, .val (.long mg), .second, .val (.int (0 : Int32)), .val (.long mg), .second, .val (.double mm), .second, .val (.double mm), .second, .val (.double (FP.l2d Q)), .second, .val (.double (FP.dadd (FP.l2d Q) (4602678819172646912 : UInt64))), .second] [(.int (1 : Int32))] zQ → Steps p.tables e below (s₁.setTop (entryFrame m #[(.long a), (.long bb), (.long cc), (.long nanos), (.int sign)] maxLocals)) zQ := by
              intro tt kt
              refine W112 tt ?_
              refine XS.ifNo X105.here hx rfl (hb hby at_202) rfl ((if0 _ _).trans (tlt ((lw_gt _ _).mpr hc113)).2.2.2) ?_
              show SS p e below T105 m 205 #[.val (.long a), .second, .val (.long bb), .second, .val (.long cc), .second, .val (.long nanos), .second, .val (.int sign), .val (.long P), .second, .val (.long Q), .second, .val (.long R), .second, .val (.long mg), .second, .val (.int (0 : Int32)), .val (.long mg), .second, .val (.double mm), .second, .val (.double mm), .second, .val (.double (FP.l2d Q)), .second, .val (.double (FP.dadd (FP.l2d Q) (4602678819172646912 : UInt64))), .second] [] _
              refine XS.dload X105.here hx rfl (hb hby at_205) rfl ?_
              show SS p e below T105 m 207 #[.val (.long a), .second, .val (.long bb), .second, .val (.long cc), .second, .val (.long nanos), .second, .val (.int sign), .val (.long P), .second, .val (.long Q), .second, .val (.long R), .second, .val (.long mg), .second, .val (.int (0 : Int32)), .val (.long mg), .second, .val (.double mm), .second, .val (.double mm), .second, .val (.double (FP.l2d Q)), .second, .val (.double (FP.dadd (FP.l2d Q) (4602678819172646912 : UInt64))), .second] [(.double mm)] _
              refine XS.dload X105.here hx rfl (hb hby at_207) rfl ?_
              show SS p e below T105 m 209 #[.val (.long a), .second, .val (.long bb), .second, .val (.long cc), .second, .val (.long nanos), .second, .val (.int sign), .val (.long P), .second, .val (.long Q), .second, .val (.long R), .second, .val (.long mg), .second, .val (.int (0 : Int32)), .val (.long mg), .second, .val (.double mm), .second, .val (.double mm), .second, .val (.double (FP.l2d Q)), .second, .val (.double (FP.dadd (FP.l2d Q) (4602678819172646912 : UInt64))), .second] [(.double (FP.dadd (FP.l2d Q) (4602678819172646912 : UInt64))), (.double mm)] _
              refine XS.dcmpS X105.here hx rfl (hb hby at_209) rfl rfl ?_
              show SS p e below T105 m 210 #[.val (.long a), .second, .val (.long bb), .second, .val (.long cc), .second, .val (.long nanos), .second, .val (.int sign), .val (.long P), .second, .val (.long Q), .second, .val (.long R), .second, .val (.long mg), .second, .val (.int (0 : Int32)), .val (.long mg), .second, .val (.double mm), .second, .val (.double mm), .second, .val (.double (FP.l2d Q)), .second, .val (.double (FP.dadd (FP.l2d Q) (4602678819172646912 : UInt64))), .second] [(.int (cmpValue (FP.dcmp mm (FP.dadd (FP.l2d Q) (4602678819172646912 : UInt64))) .l))] _
              refine XS.ifYes X105.here hx rfl (pc0 := 210) (pc' := 215) rfl (hb hby at_210) rfl ((if0 _ _).trans (tlt (hD.2.2.2.2.2 hc113)).2.2.1) (by decide) (by decide) ?_
              show SS p e below T105 m 215 #[.val (.long a), .second, .val (.long bb), .second, .val (.long cc), .second, .val (.long nanos), .second, .val (.int sign), .val (.long P), .second, .val (.long Q), .second, .val (.long R), .second, .val (.long mg), .second, .val (.int (0 : Int32)), .val (.long mg), .second, .val (.double mm), .second, .val (.double mm), .second, .val (.double (FP.l2d Q)), .second, .val (.double (FP.dadd (FP.l2d Q) (4602678819172646912 : UInt64))), .second] [] _
              refine XS.iconst X105.here hx rfl (hb hby at_215) ?_
              show SS p e below T105 m 216 #[.val (.long a), .second, .val (.long bb), .second, .val (.long cc), .second, .val (.long nanos), .second, .val (.int sign), .val (.long P), .second, .val (.long Q), .second, .val (.long R), .second, .val (.long mg), .second, .val (.int (0 : Int32)), .val (.long mg), .second, .val (.double mm), .second, .val (.double mm), .second, .val (.double (FP.l2d Q)), .second, .val (.double (FP.dadd (FP.l2d Q) (4602678819172646912 : UInt64))), .second] [(.int (1 : Int32))] _
              exact kt
            obtain ⟨fs, hr, hrun, hended, hW, hsame⟩ := X105.leave (v := some (.int (nar .boolean (1 : Int32)))) (fun h => by rw [Bd.returns] at h; cases h)
            refine ⟨_, _, W114 _ (retN X105 hx (t := .boolean) Bd.returns (by simp) (hb hby at_216) hr), hrun, hended, _, _, rfl, ?_, ⟨_, rfl⟩, hW, hsame.mono (by decide) (by decide)⟩
            show Q_law Z a bb cc nanos sign h0 n0 _ T105.heap _
            rw [eq105]
            exact ⟨rfl, N105, (Keep.trans (Keep.trans (Keep.refl h0 []) K103 all0) K104 (allS (Or.inr (Nat.le_of_eq g103.symm)) all0))⟩
          ·
            have W115 : ∀ zQ, SS p e below T105 m 216 #[.val (.long a), .second, .val (.long bb), .second, .val (.long cc), .second, .val (.long nanos), .second, .val (.int sign), .val (.long P), .second, .val (.long Q), .second, .val (.long R), .second, .val (.long mg), .second, .val (.int (0 : Int32)), .val (.long mg), .second, .val (.double mm), .second, .val (.double mm), .second, .val (.double (FP.l2d Q)), .second, .val (.double (FP.dadd (FP.l2d Q) (4602678819172646912 : UInt64))), .second] [(.int (1 : Int32))] zQ → Steps p.tables e below (s₁.setTop (entryFrame m #[(.long a), (.long bb), (.long cc), (.long nanos), (.int sign)] maxLocals)) zQ := by
              intro tt kt
              refine W112 tt ?_
              refine XS.ifYes X105.here hx rfl (pc0 := 202) (pc' := 215) rfl (hb hby at_202) rfl ((if0 _ _).trans (flt (fun q => hc113 ((lw_gt _ _).mp q))).2.2.2) (by decide) (by decide) ?_
              show SS p e below T105 m 215 #[.val (.long a), .second, .val (.long bb), .second, .val (.long cc), .second, .val (.long nanos), .second, .val (.int sign), .val (.long P), .second, .val (.long Q), .second, .val (.long R), .second, .val (.long mg), .second, .val (.int (0 : Int32)), .val (.long mg), .second, .val (.double mm), .second, .val (.double mm), .second, .val (.double (FP.l2d Q)), .second, .val (.double (FP.dadd (FP.l2d Q) (4602678819172646912 : UInt64))), .second] [] _
              refine XS.iconst X105.here hx rfl (hb hby at_215) ?_
              show SS p e below T105 m 216 #[.val (.long a), .second, .val (.long bb), .second, .val (.long cc), .second, .val (.long nanos), .second, .val (.int sign), .val (.long P), .second, .val (.long Q), .second, .val (.long R), .second, .val (.long mg), .second, .val (.int (0 : Int32)), .val (.long mg), .second, .val (.double mm), .second, .val (.double mm), .second, .val (.double (FP.l2d Q)), .second, .val (.double (FP.dadd (FP.l2d Q) (4602678819172646912 : UInt64))), .second] [(.int (1 : Int32))] _
              exact kt
            obtain ⟨fs, hr, hrun, hended, hW, hsame⟩ := X105.leave (v := some (.int (nar .boolean (1 : Int32)))) (fun h => by rw [Bd.returns] at h; cases h)
            refine ⟨_, _, W115 _ (retN X105 hx (t := .boolean) Bd.returns (by simp) (hb hby at_216) hr), hrun, hended, _, _, rfl, ?_, ⟨_, rfl⟩, hW, hsame.mono (by decide) (by decide)⟩
            show Q_law Z a bb cc nanos sign h0 n0 _ T105.heap _
            rw [eq105]
            exact ⟨rfl, N105, (Keep.trans (Keep.trans (Keep.refl h0 []) K103 all0) K104 (allS (Or.inr (Nat.le_of_eq g103.symm)) all0))⟩
        ·
          have W116 : ∀ zQ, SS p e below T105 m 202 #[.val (.long a), .second, .val (.long bb), .second, .val (.long cc), .second, .val (.long nanos), .second, .val (.int sign), .val (.long P), .second, .val (.long Q), .second, .val (.long R), .second, .val (.long mg), .second, .val (.int (0 : Int32)), .val (.long mg), .second, .val (.double mm), .second, .val (.double mm), .second, .val (.double (FP.l2d Q)), .second, .val (.double (FP.dadd (FP.l2d Q) (4602678819172646912 : UInt64))), .second] [(.int (lcmpW ((2 : Int64) * R) P))] zQ → Steps p.tables e below (s₁.setTop (entryFrame m #[(.long a), (.long bb), (.long cc), (.long nanos), (.int sign)] maxLocals)) zQ := by
            intro tt kt
            refine W110 tt ?_
            refine XS.ifYes X105.here hx rfl (pc0 := 180) (pc' := 193) rfl (hb hby at_180) rfl ((if0 _ _).trans (flt (fun q => hc111 ((lw_lt _ _).mp q))).2.1) (by decide) (by decide) ?_
            show SS p e below T105 m 193 #[.val (.long a), .second, .val (.long bb), .second, .val (.long cc), .second, .val (.long nanos), .second, .val (.int sign), .val (.long P), .second, .val (.long Q), .second, .val (.long R), .second, .val (.long mg), .second, .val (.int (0 : Int32)), .val (.long mg), .second, .val (.double mm), .second, .val (.double mm), .second, .val (.double (FP.l2d Q)), .second, .val (.double (FP.dadd (FP.l2d Q) (4602678819172646912 : UInt64))), .second] [] _
            refine X105.ldc2Long hx hown (mvT hZ (w28 hw)) (g := (mkF m 193 #[.val (.long a), .second, .val (.long bb), .second, .val (.long cc), .second, .val (.long nanos), .second, .val (.int sign), .val (.long P), .second, .val (.long Q), .second, .val (.long R), .second, .val (.long mg), .second, .val (.int (0 : Int32)), .val (.long mg), .second, .val (.double mm), .second, .val (.double mm), .second, .val (.double (FP.l2d Q)), .second, .val (.double (FP.dadd (FP.l2d Q) (4602678819172646912 : UInt64))), .second] [])) rfl (hb hby at_193) _ ?_
            show SS p e below T105 m 196 #[.val (.long a), .second, .val (.long bb), .second, .val (.long cc), .second, .val (.long nanos), .second, .val (.int sign), .val (.long P), .second, .val (.long Q), .second, .val (.long R), .second, .val (.long mg), .second, .val (.int (0 : Int32)), .val (.long mg), .second, .val (.double mm), .second, .val (.double mm), .second, .val (.double (FP.l2d Q)), .second, .val (.double (FP.dadd (FP.l2d Q) (4602678819172646912 : UInt64))), .second] [(.long (2 : Int64))] _
            refine XS.lload X105.here hx rfl (hb hby at_196) rfl ?_
            show SS p e below T105 m 198 #[.val (.long a), .second, .val (.long bb), .second, .val (.long cc), .second, .val (.long nanos), .second, .val (.int sign), .val (.long P), .second, .val (.long Q), .second, .val (.long R), .second, .val (.long mg), .second, .val (.int (0 : Int32)), .val (.long mg), .second, .val (.double mm), .second, .val (.double mm), .second, .val (.double (FP.l2d Q)), .second, .val (.double (FP.dadd (FP.l2d Q) (4602678819172646912 : UInt64))), .second] [(.long R), (.long (2 : Int64))] _
            refine XS.lmul X105.here hx rfl (hb hby at_198) rfl ?_
            show SS p e below T105 m 199 #[.val (.long a), .second, .val (.long bb), .second, .val (.long cc), .second, .val (.long nanos), .second, .val (.int sign), .val (.long P), .second, .val (.long Q), .second, .val (.long R), .second, .val (.long mg), .second, .val (.int (0 : Int32)), .val (.long mg), .second, .val (.double mm), .second, .val (.double mm), .second, .val (.double (FP.l2d Q)), .second, .val (.double (FP.dadd (FP.l2d Q) (4602678819172646912 : UInt64))), .second] [(.long ((2 : Int64) * R))] _
            refine XS.lload X105.here hx rfl (hb hby at_199) rfl ?_
            show SS p e below T105 m 201 #[.val (.long a), .second, .val (.long bb), .second, .val (.long cc), .second, .val (.long nanos), .second, .val (.int sign), .val (.long P), .second, .val (.long Q), .second, .val (.long R), .second, .val (.long mg), .second, .val (.int (0 : Int32)), .val (.long mg), .second, .val (.double mm), .second, .val (.double mm), .second, .val (.double (FP.l2d Q)), .second, .val (.double (FP.dadd (FP.l2d Q) (4602678819172646912 : UInt64))), .second] [(.long P), (.long ((2 : Int64) * R))] _
            refine XS.lcmp X105.here hx rfl (hb hby at_201) rfl ?_
            show SS p e below T105 m 202 #[.val (.long a), .second, .val (.long bb), .second, .val (.long cc), .second, .val (.long nanos), .second, .val (.int sign), .val (.long P), .second, .val (.long Q), .second, .val (.long R), .second, .val (.long mg), .second, .val (.int (0 : Int32)), .val (.long mg), .second, .val (.double mm), .second, .val (.double mm), .second, .val (.double (FP.l2d Q)), .second, .val (.double (FP.dadd (FP.l2d Q) (4602678819172646912 : UInt64))), .second] [(.int (lcmpW ((2 : Int64) * R) P))] _
            exact kt
          by_cases hc117 : P < ((2 : Int64) * R)
          ·
            have W118 : ∀ zQ, SS p e below T105 m 216 #[.val (.long a), .second, .val (.long bb), .second, .val (.long cc), .second, .val (.long nanos), .second, .val (.int sign), .val (.long P), .second, .val (.long Q), .second, .val (.long R), .second, .val (.long mg), .second, .val (.int (0 : Int32)), .val (.long mg), .second, .val (.double mm), .second, .val (.double mm), .second, .val (.double (FP.l2d Q)), .second, .val (.double (FP.dadd (FP.l2d Q) (4602678819172646912 : UInt64))), .second] [(.int (1 : Int32))] zQ → Steps p.tables e below (s₁.setTop (entryFrame m #[(.long a), (.long bb), (.long cc), (.long nanos), (.int sign)] maxLocals)) zQ := by
              intro tt kt
              refine W116 tt ?_
              refine XS.ifNo X105.here hx rfl (hb hby at_202) rfl ((if0 _ _).trans (tlt ((lw_gt _ _).mpr hc117)).2.2.2) ?_
              show SS p e below T105 m 205 #[.val (.long a), .second, .val (.long bb), .second, .val (.long cc), .second, .val (.long nanos), .second, .val (.int sign), .val (.long P), .second, .val (.long Q), .second, .val (.long R), .second, .val (.long mg), .second, .val (.int (0 : Int32)), .val (.long mg), .second, .val (.double mm), .second, .val (.double mm), .second, .val (.double (FP.l2d Q)), .second, .val (.double (FP.dadd (FP.l2d Q) (4602678819172646912 : UInt64))), .second] [] _
              refine XS.dload X105.here hx rfl (hb hby at_205) rfl ?_
              show SS p e below T105 m 207 #[.val (.long a), .second, .val (.long bb), .second, .val (.long cc), .second, .val (.long nanos), .second, .val (.int sign), .val (.long P), .second, .val (.long Q), .second, .val (.long R), .second, .val (.long mg), .second, .val (.int (0 : Int32)), .val (.long mg), .second, .val (.double mm), .second, .val (.double mm), .second, .val (.double (FP.l2d Q)), .second, .val (.double (FP.dadd (FP.l2d Q) (4602678819172646912 : UInt64))), .second] [(.double mm)] _
              refine XS.dload X105.here hx rfl (hb hby at_207) rfl ?_
              show SS p e below T105 m 209 #[.val (.long a), .second, .val (.long bb), .second, .val (.long cc), .second, .val (.long nanos), .second, .val (.int sign), .val (.long P), .second, .val (.long Q), .second, .val (.long R), .second, .val (.long mg), .second, .val (.int (0 : Int32)), .val (.long mg), .second, .val (.double mm), .second, .val (.double mm), .second, .val (.double (FP.l2d Q)), .second, .val (.double (FP.dadd (FP.l2d Q) (4602678819172646912 : UInt64))), .second] [(.double (FP.dadd (FP.l2d Q) (4602678819172646912 : UInt64))), (.double mm)] _
              refine XS.dcmpS X105.here hx rfl (hb hby at_209) rfl rfl ?_
              show SS p e below T105 m 210 #[.val (.long a), .second, .val (.long bb), .second, .val (.long cc), .second, .val (.long nanos), .second, .val (.int sign), .val (.long P), .second, .val (.long Q), .second, .val (.long R), .second, .val (.long mg), .second, .val (.int (0 : Int32)), .val (.long mg), .second, .val (.double mm), .second, .val (.double mm), .second, .val (.double (FP.l2d Q)), .second, .val (.double (FP.dadd (FP.l2d Q) (4602678819172646912 : UInt64))), .second] [(.int (cmpValue (FP.dcmp mm (FP.dadd (FP.l2d Q) (4602678819172646912 : UInt64))) .l))] _
              refine XS.ifYes X105.here hx rfl (pc0 := 210) (pc' := 215) rfl (hb hby at_210) rfl ((if0 _ _).trans (tlt (hD.2.2.2.2.2 hc117)).2.2.1) (by decide) (by decide) ?_
              show SS p e below T105 m 215 #[.val (.long a), .second, .val (.long bb), .second, .val (.long cc), .second, .val (.long nanos), .second, .val (.int sign), .val (.long P), .second, .val (.long Q), .second, .val (.long R), .second, .val (.long mg), .second, .val (.int (0 : Int32)), .val (.long mg), .second, .val (.double mm), .second, .val (.double mm), .second, .val (.double (FP.l2d Q)), .second, .val (.double (FP.dadd (FP.l2d Q) (4602678819172646912 : UInt64))), .second] [] _
              refine XS.iconst X105.here hx rfl (hb hby at_215) ?_
              show SS p e below T105 m 216 #[.val (.long a), .second, .val (.long bb), .second, .val (.long cc), .second, .val (.long nanos), .second, .val (.int sign), .val (.long P), .second, .val (.long Q), .second, .val (.long R), .second, .val (.long mg), .second, .val (.int (0 : Int32)), .val (.long mg), .second, .val (.double mm), .second, .val (.double mm), .second, .val (.double (FP.l2d Q)), .second, .val (.double (FP.dadd (FP.l2d Q) (4602678819172646912 : UInt64))), .second] [(.int (1 : Int32))] _
              exact kt
            obtain ⟨fs, hr, hrun, hended, hW, hsame⟩ := X105.leave (v := some (.int (nar .boolean (1 : Int32)))) (fun h => by rw [Bd.returns] at h; cases h)
            refine ⟨_, _, W118 _ (retN X105 hx (t := .boolean) Bd.returns (by simp) (hb hby at_216) hr), hrun, hended, _, _, rfl, ?_, ⟨_, rfl⟩, hW, hsame.mono (by decide) (by decide)⟩
            show Q_law Z a bb cc nanos sign h0 n0 _ T105.heap _
            rw [eq105]
            exact ⟨rfl, N105, (Keep.trans (Keep.trans (Keep.refl h0 []) K103 all0) K104 (allS (Or.inr (Nat.le_of_eq g103.symm)) all0))⟩
          ·
            have W119 : ∀ zQ, SS p e below T105 m 216 #[.val (.long a), .second, .val (.long bb), .second, .val (.long cc), .second, .val (.long nanos), .second, .val (.int sign), .val (.long P), .second, .val (.long Q), .second, .val (.long R), .second, .val (.long mg), .second, .val (.int (0 : Int32)), .val (.long mg), .second, .val (.double mm), .second, .val (.double mm), .second, .val (.double (FP.l2d Q)), .second, .val (.double (FP.dadd (FP.l2d Q) (4602678819172646912 : UInt64))), .second] [(.int (1 : Int32))] zQ → Steps p.tables e below (s₁.setTop (entryFrame m #[(.long a), (.long bb), (.long cc), (.long nanos), (.int sign)] maxLocals)) zQ := by
              intro tt kt
              refine W116 tt ?_
              refine XS.ifYes X105.here hx rfl (pc0 := 202) (pc' := 215) rfl (hb hby at_202) rfl ((if0 _ _).trans (flt (fun q => hc117 ((lw_gt _ _).mp q))).2.2.2) (by decide) (by decide) ?_
              show SS p e below T105 m 215 #[.val (.long a), .second, .val (.long bb), .second, .val (.long cc), .second, .val (.long nanos), .second, .val (.int sign), .val (.long P), .second, .val (.long Q), .second, .val (.long R), .second, .val (.long mg), .second, .val (.int (0 : Int32)), .val (.long mg), .second, .val (.double mm), .second, .val (.double mm), .second, .val (.double (FP.l2d Q)), .second, .val (.double (FP.dadd (FP.l2d Q) (4602678819172646912 : UInt64))), .second] [] _
              refine XS.iconst X105.here hx rfl (hb hby at_215) ?_
              show SS p e below T105 m 216 #[.val (.long a), .second, .val (.long bb), .second, .val (.long cc), .second, .val (.long nanos), .second, .val (.int sign), .val (.long P), .second, .val (.long Q), .second, .val (.long R), .second, .val (.long mg), .second, .val (.int (0 : Int32)), .val (.long mg), .second, .val (.double mm), .second, .val (.double mm), .second, .val (.double (FP.l2d Q)), .second, .val (.double (FP.dadd (FP.l2d Q) (4602678819172646912 : UInt64))), .second] [(.int (1 : Int32))] _
              exact kt
            obtain ⟨fs, hr, hrun, hended, hW, hsame⟩ := X105.leave (v := some (.int (nar .boolean (1 : Int32)))) (fun h => by rw [Bd.returns] at h; cases h)
            refine ⟨_, _, W119 _ (retN X105 hx (t := .boolean) Bd.returns (by simp) (hb hby at_216) hr), hrun, hended, _, _, rfl, ?_, ⟨_, rfl⟩, hW, hsame.mono (by decide) (by decide)⟩
            show Q_law Z a bb cc nanos sign h0 n0 _ T105.heap _
            rw [eq105]
            exact ⟨rfl, N105, (Keep.trans (Keep.trans (Keep.refl h0 []) K103 all0) K104 (allS (Or.inr (Nat.le_of_eq g103.symm)) all0))⟩
      ·
        have W120 : ∀ zQ, SS p e below T105 m 180 #[.val (.long a), .second, .val (.long bb), .second, .val (.long cc), .second, .val (.long nanos), .second, .val (.int sign), .val (.long P), .second, .val (.long Q), .second, .val (.long R), .second, .val (.long mg), .second, .val (.int (0 : Int32)), .val (.long mg), .second, .val (.double mm), .second, .val (.double mm), .second, .val (.double (FP.l2d Q)), .second, .val (.double (FP.dadd (FP.l2d Q) (4602678819172646912 : UInt64))), .second] [(.int (lcmpW ((2 : Int64) * R) P))] zQ → Steps p.tables e below (s₁.setTop (entryFrame m #[(.long a), (.long bb), (.long cc), (.long nanos), (.int sign)] maxLocals)) zQ := by
          intro tt kt
          refine W108 tt ?_
          refine XS.ifYes X105.here hx rfl (pc0 := 158) (pc' := 171) rfl (hb hby at_158) rfl ((if0 _ _).trans (feq (fun q => hc109 ((lw_eq _ _).mp q))).2) (by decide) (by decide) ?_
          show SS p e below T105 m 171 #[.val (.long a), .second, .val (.long bb), .second, .val (.long cc), .second, .val (.long nanos), .second, .val (.int sign), .val (.long P), .second, .val (.long Q), .second, .val (.long R), .second, .val (.long mg), .second, .val (.int (0 : Int32)), .val (.long mg), .second, .val (.double mm), .second, .val (.double mm), .second, .val (.double (FP.l2d Q)), .second, .val (.double (FP.dadd (FP.l2d Q) (4602678819172646912 : UInt64))), .second] [] _
          refine X105.ldc2Long hx hown (mvT hZ (w28 hw)) (g := (mkF m 171 #[.val (.long a), .second, .val (.long bb), .second, .val (.long cc), .second, .val (.long nanos), .second, .val (.int sign), .val (.long P), .second, .val (.long Q), .second, .val (.long R), .second, .val (.long mg), .second, .val (.int (0 : Int32)), .val (.long mg), .second, .val (.double mm), .second, .val (.double mm), .second, .val (.double (FP.l2d Q)), .second, .val (.double (FP.dadd (FP.l2d Q) (4602678819172646912 : UInt64))), .second] [])) rfl (hb hby at_171) _ ?_
          show SS p e below T105 m 174 #[.val (.long a), .second, .val (.long bb), .second, .val (.long cc), .second, .val (.long nanos), .second, .val (.int sign), .val (.long P), .second, .val (.long Q), .second, .val (.long R), .second, .val (.long mg), .second, .val (.int (0 : Int32)), .val (.long mg), .second, .val (.double mm), .second, .val (.double mm), .second, .val (.double (FP.l2d Q)), .second, .val (.double (FP.dadd (FP.l2d Q) (4602678819172646912 : UInt64))), .second] [(.long (2 : Int64))] _
          refine XS.lload X105.here hx rfl (hb hby at_174) rfl ?_
          show SS p e below T105 m 176 #[.val (.long a), .second, .val (.long bb), .second, .val (.long cc), .second, .val (.long nanos), .second, .val (.int sign), .val (.long P), .second, .val (.long Q), .second, .val (.long R), .second, .val (.long mg), .second, .val (.int (0 : Int32)), .val (.long mg), .second, .val (.double mm), .second, .val (.double mm), .second, .val (.double (FP.l2d Q)), .second, .val (.double (FP.dadd (FP.l2d Q) (4602678819172646912 : UInt64))), .second] [(.long R), (.long (2 : Int64))] _
          refine XS.lmul X105.here hx rfl (hb hby at_176) rfl ?_
          show SS p e below T105 m 177 #[.val (.long a), .second, .val (.long bb), .second, .val (.long cc), .second, .val (.long nanos), .second, .val (.int sign), .val (.long P), .second, .val (.long Q), .second, .val (.long R), .second, .val (.long mg), .second, .val (.int (0 : Int32)), .val (.long mg), .second, .val (.double mm), .second, .val (.double mm), .second, .val (.double (FP.l2d Q)), .second, .val (.double (FP.dadd (FP.l2d Q) (4602678819172646912 : UInt64))), .second] [(.long ((2 : Int64) * R))] _
          refine XS.lload X105.here hx rfl (hb hby at_177) rfl ?_
          show SS p e below T105 m 179 #[.val (.long a), .second, .val (.long bb), .second, .val (.long cc), .second, .val (.long nanos), .second, .val (.int sign), .val (.long P), .second, .val (.long Q), .second, .val (.long R), .second, .val (.long mg), .second, .val (.int (0 : Int32)), .val (.long mg), .second, .val (.double mm), .second, .val (.double mm), .second, .val (.double (FP.l2d Q)), .second, .val (.double (FP.dadd (FP.l2d Q) (4602678819172646912 : UInt64))), .second] [(.long P), (.long ((2 : Int64) * R))] _
          refine XS.lcmp X105.here hx rfl (hb hby at_179) rfl ?_
          show SS p e below T105 m 180 #[.val (.long a), .second, .val (.long bb), .second, .val (.long cc), .second, .val (.long nanos), .second, .val (.int sign), .val (.long P), .second, .val (.long Q), .second, .val (.long R), .second, .val (.long mg), .second, .val (.int (0 : Int32)), .val (.long mg), .second, .val (.double mm), .second, .val (.double mm), .second, .val (.double (FP.l2d Q)), .second, .val (.double (FP.dadd (FP.l2d Q) (4602678819172646912 : UInt64))), .second] [(.int (lcmpW ((2 : Int64) * R) P))] _
          exact kt
        by_cases hc121 : ((2 : Int64) * R) < P
        ·
          have W122 : ∀ zQ, SS p e below T105 m 202 #[.val (.long a), .second, .val (.long bb), .second, .val (.long cc), .second, .val (.long nanos), .second, .val (.int sign), .val (.long P), .second, .val (.long Q), .second, .val (.long R), .second, .val (.long mg), .second, .val (.int (0 : Int32)), .val (.long mg), .second, .val (.double mm), .second, .val (.double mm), .second, .val (.double (FP.l2d Q)), .second, .val (.double (FP.dadd (FP.l2d Q) (4602678819172646912 : UInt64))), .second] [(.int (lcmpW ((2 : Int64) * R) P))] zQ → Steps p.tables e below (s₁.setTop (entryFrame m #[(.long a), (.long bb), (.long cc), (.long nanos), (.int sign)] maxLocals)) zQ := by
            intro tt kt
            refine W120 tt ?_
            refine XS.ifNo X105.here hx rfl (hb hby at_180) rfl ((if0 _ _).trans (tlt ((lw_lt _ _).mpr hc121)).2.1) ?_
            show SS p e below T105 m 183 #[.val (.long a), .second, .val (.long bb), .second, .val (.long cc), .second, .val (.long nanos), .second, .val (.int sign), .val (.long P), .second, .val (.long Q), .second, .val (.long R), .second, .val (.long mg), .second, .val (.int (0 : Int32)), .val (.long mg), .second, .val (.double mm), .second, .val (.double mm), .second, .val (.double (FP.l2d Q)), .second, .val (.double (FP.dadd (FP.l2d Q) (4602678819172646912 : UInt64))), .second] [] _
            refine XS.dload X105.here hx rfl (hb hby at_183) rfl ?_
            show SS p e below T105 m 185 #[.val (.long a), .second, .val (.long bb), .second, .val (.long cc), .second, .val (.long nanos), .second, .val (.int sign), .val (.long P), .second, .val (.long Q), .second, .val (.long R), .second, .val (.long mg), .second, .val (.int (0 : Int32)), .val (.long mg), .second, .val (.double mm), .second, .val (.double mm), .second, .val (.double (FP.l2d Q)), .second, .val (.double (FP.dadd (FP.l2d Q) (4602678819172646912 : UInt64))), .second] [(.double mm)] _
            refine XS.dload X105.here hx rfl (hb hby at_185) rfl ?_
            show SS p e below T105 m 187 #[.val (.long a), .second, .val (.long bb), .second, .val (.long cc), .second, .val (.long nanos), .second, .val (.int sign), .val (.long P), .second, .val (.long Q), .second, .val (.long R), .second, .val (.long mg), .second, .val (.int (0 : Int32)), .val (.long mg), .second, .val (.double mm), .second, .val (.double mm), .second, .val (.double (FP.l2d Q)), .second, .val (.double (FP.dadd (FP.l2d Q) (4602678819172646912 : UInt64))), .second] [(.double (FP.dadd (FP.l2d Q) (4602678819172646912 : UInt64))), (.double mm)] _
            refine XS.dcmpS X105.here hx rfl (hb hby at_187) rfl rfl ?_
            show SS p e below T105 m 188 #[.val (.long a), .second, .val (.long bb), .second, .val (.long cc), .second, .val (.long nanos), .second, .val (.int sign), .val (.long P), .second, .val (.long Q), .second, .val (.long R), .second, .val (.long mg), .second, .val (.int (0 : Int32)), .val (.long mg), .second, .val (.double mm), .second, .val (.double mm), .second, .val (.double (FP.l2d Q)), .second, .val (.double (FP.dadd (FP.l2d Q) (4602678819172646912 : UInt64))), .second] [(.int (cmpValue (FP.dcmp mm (FP.dadd (FP.l2d Q) (4602678819172646912 : UInt64))) .g))] _
            refine XS.ifYes X105.here hx rfl (pc0 := 188) (pc' := 193) rfl (hb hby at_188) rfl ((if0 _ _).trans (tlt (hD.2.2.2.2.1 hc121)).1) (by decide) (by decide) ?_
            show SS p e below T105 m 193 #[.val (.long a), .second, .val (.long bb), .second, .val (.long cc), .second, .val (.long nanos), .second, .val (.int sign), .val (.long P), .second, .val (.long Q), .second, .val (.long R), .second, .val (.long mg), .second, .val (.int (0 : Int32)), .val (.long mg), .second, .val (.double mm), .second, .val (.double mm), .second, .val (.double (FP.l2d Q)), .second, .val (.double (FP.dadd (FP.l2d Q) (4602678819172646912 : UInt64))), .second] [] _
            refine X105.ldc2Long hx hown (mvT hZ (w28 hw)) (g := (mkF m 193 #[.val (.long a), .second, .val (.long bb), .second, .val (.long cc), .second, .val (.long nanos), .second, .val (.int sign), .val (.long P), .second, .val (.long Q), .second, .val (.long R), .second, .val (.long mg), .second, .val (.int (0 : Int32)), .val (.long mg), .second, .val (.double mm), .second, .val (.double mm), .second, .val (.double (FP.l2d Q)), .second, .val (.double (FP.dadd (FP.l2d Q) (4602678819172646912 : UInt64))), .second] [])) rfl (hb hby at_193) _ ?_
            show SS p e below T105 m 196 #[.val (.long a), .second, .val (.long bb), .second, .val (.long cc), .second, .val (.long nanos), .second, .val (.int sign), .val (.long P), .second, .val (.long Q), .second, .val (.long R), .second, .val (.long mg), .second, .val (.int (0 : Int32)), .val (.long mg), .second, .val (.double mm), .second, .val (.double mm), .second, .val (.double (FP.l2d Q)), .second, .val (.double (FP.dadd (FP.l2d Q) (4602678819172646912 : UInt64))), .second] [(.long (2 : Int64))] _
            refine XS.lload X105.here hx rfl (hb hby at_196) rfl ?_
            show SS p e below T105 m 198 #[.val (.long a), .second, .val (.long bb), .second, .val (.long cc), .second, .val (.long nanos), .second, .val (.int sign), .val (.long P), .second, .val (.long Q), .second, .val (.long R), .second, .val (.long mg), .second, .val (.int (0 : Int32)), .val (.long mg), .second, .val (.double mm), .second, .val (.double mm), .second, .val (.double (FP.l2d Q)), .second, .val (.double (FP.dadd (FP.l2d Q) (4602678819172646912 : UInt64))), .second] [(.long R), (.long (2 : Int64))] _
            refine XS.lmul X105.here hx rfl (hb hby at_198) rfl ?_
            show SS p e below T105 m 199 #[.val (.long a), .second, .val (.long bb), .second, .val (.long cc), .second, .val (.long nanos), .second, .val (.int sign), .val (.long P), .second, .val (.long Q), .second, .val (.long R), .second, .val (.long mg), .second, .val (.int (0 : Int32)), .val (.long mg), .second, .val (.double mm), .second, .val (.double mm), .second, .val (.double (FP.l2d Q)), .second, .val (.double (FP.dadd (FP.l2d Q) (4602678819172646912 : UInt64))), .second] [(.long ((2 : Int64) * R))] _
            refine XS.lload X105.here hx rfl (hb hby at_199) rfl ?_
            show SS p e below T105 m 201 #[.val (.long a), .second, .val (.long bb), .second, .val (.long cc), .second, .val (.long nanos), .second, .val (.int sign), .val (.long P), .second, .val (.long Q), .second, .val (.long R), .second, .val (.long mg), .second, .val (.int (0 : Int32)), .val (.long mg), .second, .val (.double mm), .second, .val (.double mm), .second, .val (.double (FP.l2d Q)), .second, .val (.double (FP.dadd (FP.l2d Q) (4602678819172646912 : UInt64))), .second] [(.long P), (.long ((2 : Int64) * R))] _
            refine XS.lcmp X105.here hx rfl (hb hby at_201) rfl ?_
            show SS p e below T105 m 202 #[.val (.long a), .second, .val (.long bb), .second, .val (.long cc), .second, .val (.long nanos), .second, .val (.int sign), .val (.long P), .second, .val (.long Q), .second, .val (.long R), .second, .val (.long mg), .second, .val (.int (0 : Int32)), .val (.long mg), .second, .val (.double mm), .second, .val (.double mm), .second, .val (.double (FP.l2d Q)), .second, .val (.double (FP.dadd (FP.l2d Q) (4602678819172646912 : UInt64))), .second] [(.int (lcmpW ((2 : Int64) * R) P))] _
            exact kt
          by_cases hc123 : P < ((2 : Int64) * R)
          ·
            have W124 : ∀ zQ, SS p e below T105 m 216 #[.val (.long a), .second, .val (.long bb), .second, .val (.long cc), .second, .val (.long nanos), .second, .val (.int sign), .val (.long P), .second, .val (.long Q), .second, .val (.long R), .second, .val (.long mg), .second, .val (.int (0 : Int32)), .val (.long mg), .second, .val (.double mm), .second, .val (.double mm), .second, .val (.double (FP.l2d Q)), .second, .val (.double (FP.dadd (FP.l2d Q) (4602678819172646912 : UInt64))), .second] [(.int (1 : Int32))] zQ → Steps p.tables e below (s₁.setTop (entryFrame m #[(.long a), (.long bb), (.long cc), (.long nanos), (.int sign)] maxLocals)) zQ := by
              intro tt kt
              refine W122 tt ?_
              refine XS.ifNo X105.here hx rfl (hb hby at_202) rfl ((if0 _ _).trans (tlt ((lw_gt _ _).mpr hc123)).2.2.2) ?_
              show SS p e below T105 m 205 #[.val (.long a), .second, .val (.long bb), .second, .val (.long cc), .second, .val (.long nanos), .second, .val (.int sign), .val (.long P), .second, .val (.long Q), .second, .val (.long R), .second, .val (.long mg), .second, .val (.int (0 : Int32)), .val (.long mg), .second, .val (.double mm), .second, .val (.double mm), .second, .val (.double (FP.l2d Q)), .second, .val (.double (FP.dadd (FP.l2d Q) (4602678819172646912 : UInt64))), .second] [] _
              refine XS.dload X105.here hx rfl (hb hby at_205) rfl ?_
              show SS p e below T105 m 207 #[.val (.long a), .second, .val (.long bb), .second, .val (.long cc), .second, .val (.long nanos), .second, .val (.int sign), .val (.long P), .second, .val (.long Q), .second, .val (.long R), .second, .val (.long mg), .second, .val (.int (0 : Int32)), .val (.long mg), .second, .val (.double mm), .second, .val (.double mm), .second, .val (.double (FP.l2d Q)), .second, .val (.double (FP.dadd (FP.l2d Q) (4602678819172646912 : UInt64))), .second] [(.double mm)] _
              refine XS.dload X105.here hx rfl (hb hby at_207) rfl ?_
              show SS p e below T105 m 209 #[.val (.long a), .second, .val (.long bb), .second, .val (.long cc), .second, .val (.long nanos), .second, .val (.int sign), .val (.long P), .second, .val (.long Q), .second, .val (.long R), .second, .val (.long mg), .second, .val (.int (0 : Int32)), .val (.long mg), .second, .val (.double mm), .second, .val (.double mm), .second, .val (.double (FP.l2d Q)), .second, .val (.double (FP.dadd (FP.l2d Q) (4602678819172646912 : UInt64))), .second] [(.double (FP.dadd (FP.l2d Q) (4602678819172646912 : UInt64))), (.double mm)] _
              refine XS.dcmpS X105.here hx rfl (hb hby at_209) rfl rfl ?_
              show SS p e below T105 m 210 #[.val (.long a), .second, .val (.long bb), .second, .val (.long cc), .second, .val (.long nanos), .second, .val (.int sign), .val (.long P), .second, .val (.long Q), .second, .val (.long R), .second, .val (.long mg), .second, .val (.int (0 : Int32)), .val (.long mg), .second, .val (.double mm), .second, .val (.double mm), .second, .val (.double (FP.l2d Q)), .second, .val (.double (FP.dadd (FP.l2d Q) (4602678819172646912 : UInt64))), .second] [(.int (cmpValue (FP.dcmp mm (FP.dadd (FP.l2d Q) (4602678819172646912 : UInt64))) .l))] _
              refine XS.ifYes X105.here hx rfl (pc0 := 210) (pc' := 215) rfl (hb hby at_210) rfl ((if0 _ _).trans (tlt (hD.2.2.2.2.2 hc123)).2.2.1) (by decide) (by decide) ?_
              show SS p e below T105 m 215 #[.val (.long a), .second, .val (.long bb), .second, .val (.long cc), .second, .val (.long nanos), .second, .val (.int sign), .val (.long P), .second, .val (.long Q), .second, .val (.long R), .second, .val (.long mg), .second, .val (.int (0 : Int32)), .val (.long mg), .second, .val (.double mm), .second, .val (.double mm), .second, .val (.double (FP.l2d Q)), .second, .val (.double (FP.dadd (FP.l2d Q) (4602678819172646912 : UInt64))), .second] [] _
              refine XS.iconst X105.here hx rfl (hb hby at_215) ?_
              show SS p e below T105 m 216 #[.val (.long a), .second, .val (.long bb), .second, .val (.long cc), .second, .val (.long nanos), .second, .val (.int sign), .val (.long P), .second, .val (.long Q), .second, .val (.long R), .second, .val (.long mg), .second, .val (.int (0 : Int32)), .val (.long mg), .second, .val (.double mm), .second, .val (.double mm), .second, .val (.double (FP.l2d Q)), .second, .val (.double (FP.dadd (FP.l2d Q) (4602678819172646912 : UInt64))), .second] [(.int (1 : Int32))] _
              exact kt
            obtain ⟨fs, hr, hrun, hended, hW, hsame⟩ := X105.leave (v := some (.int (nar .boolean (1 : Int32)))) (fun h => by rw [Bd.returns] at h; cases h)
            refine ⟨_, _, W124 _ (retN X105 hx (t := .boolean) Bd.returns (by simp) (hb hby at_216) hr), hrun, hended, _, _, rfl, ?_, ⟨_, rfl⟩, hW, hsame.mono (by decide) (by decide)⟩
            show Q_law Z a bb cc nanos sign h0 n0 _ T105.heap _
            rw [eq105]
            exact ⟨rfl, N105, (Keep.trans (Keep.trans (Keep.refl h0 []) K103 all0) K104 (allS (Or.inr (Nat.le_of_eq g103.symm)) all0))⟩
          ·
            have W125 : ∀ zQ, SS p e below T105 m 216 #[.val (.long a), .second, .val (.long bb), .second, .val (.long cc), .second, .val (.long nanos), .second, .val (.int sign), .val (.long P), .second, .val (.long Q), .second, .val (.long R), .second, .val (.long mg), .second, .val (.int (0 : Int32)), .val (.long mg), .second, .val (.double mm), .second, .val (.double mm), .second, .val (.double (FP.l2d Q)), .second, .val (.double (FP.dadd (FP.l2d Q) (4602678819172646912 : UInt64))), .second] [(.int (1 : Int32))] zQ → Steps p.tables e below (s₁.setTop (entryFrame m #[(.long a), (.long bb), (.long cc), (.long nanos), (.int sign)] maxLocals)) zQ := by
              intro tt kt
              refine W122 tt ?_
              refine XS.ifYes X105.here hx rfl (pc0 := 202) (pc' := 215) rfl (hb hby at_202) rfl ((if0 _ _).trans (flt (fun q => hc123 ((lw_gt _ _).mp q))).2.2.2) (by decide) (by decide) ?_
              show SS p e below T105 m 215 #[.val (.long a), .second, .val (.long bb), .second, .val (.long cc), .second, .val (.long nanos), .second, .val (.int sign), .val (.long P), .second, .val (.long Q), .second, .val (.long R), .second, .val (.long mg), .second, .val (.int (0 : Int32)), .val (.long mg), .second, .val (.double mm), .second, .val (.double mm), .second, .val (.double (FP.l2d Q)), .second, .val (.double (FP.dadd (FP.l2d Q) (4602678819172646912 : UInt64))), .second] [] _
              refine XS.iconst X105.here hx rfl (hb hby at_215) ?_
              show SS p e below T105 m 216 #[.val (.long a), .second, .val (.long bb), .second, .val (.long cc), .second, .val (.long nanos), .second, .val (.int sign), .val (.long P), .second, .val (.long Q), .second, .val (.long R), .second, .val (.long mg), .second, .val (.int (0 : Int32)), .val (.long mg), .second, .val (.double mm), .second, .val (.double mm), .second, .val (.double (FP.l2d Q)), .second, .val (.double (FP.dadd (FP.l2d Q) (4602678819172646912 : UInt64))), .second] [(.int (1 : Int32))] _
              exact kt
            obtain ⟨fs, hr, hrun, hended, hW, hsame⟩ := X105.leave (v := some (.int (nar .boolean (1 : Int32)))) (fun h => by rw [Bd.returns] at h; cases h)
            refine ⟨_, _, W125 _ (retN X105 hx (t := .boolean) Bd.returns (by simp) (hb hby at_216) hr), hrun, hended, _, _, rfl, ?_, ⟨_, rfl⟩, hW, hsame.mono (by decide) (by decide)⟩
            show Q_law Z a bb cc nanos sign h0 n0 _ T105.heap _
            rw [eq105]
            exact ⟨rfl, N105, (Keep.trans (Keep.trans (Keep.refl h0 []) K103 all0) K104 (allS (Or.inr (Nat.le_of_eq g103.symm)) all0))⟩
        ·
          have W126 : ∀ zQ, SS p e below T105 m 202 #[.val (.long a), .second, .val (.long bb), .second, .val (.long cc), .second, .val (.long nanos), .second, .val (.int sign), .val (.long P), .second, .val (.long Q), .second, .val (.long R), .second, .val (.long mg), .second, .val (.int (0 : Int32)), .val (.long mg), .second, .val (.double mm), .second, .val (.double mm), .second, .val (.double (FP.l2d Q)), .second, .val (.double (FP.dadd (FP.l2d Q) (4602678819172646912 : UInt64))), .second] [(.int (lcmpW ((2 : Int64) * R) P))] zQ → Steps p.tables e below (s₁.setTop (entryFrame m #[(.long a), (.long bb), (.long cc), (.long nanos), (.int sign)] maxLocals)) zQ := by
            intro tt kt
            refine W120 tt ?_
            refine XS.ifYes X105.here hx rfl (pc0 := 180) (pc' := 193) rfl (hb hby at_180) rfl ((if0 _ _).trans (flt (fun q => hc121 ((lw_lt _ _).mp q))).2.1) (by decide) (by decide) ?_
            show SS p e below T105 m 193 #[.val (.long a), .second, .val (.long bb), .second, .val (.long cc), .second, .val (.long nanos), .second, .val (.int sign), .val (.long P), .second, .val (.long Q), .second, .val (.long R), .second, .val (.long mg), .second, .val (.int (0 : Int32)), .val (.long mg), .second, .val (.double mm), .second, .val (.double mm), .second, .val (.double (FP.l2d Q)), .second, .val (.double (FP.dadd (FP.l2d Q) (4602678819172646912 : UInt64))), .second] [] _
            refine X105.ldc2Long hx hown (mvT hZ (w28 hw)) (g := (mkF m 193 #[.val (.long a), .second, .val (.long bb), .second, .val (.long cc), .second, .val (.long nanos), .second, .val (.int sign), .val (.long P), .second, .val (.long Q), .second, .val (.long R), .second, .val (.long mg), .second, .val (.int (0 : Int32)), .val (.long mg), .second, .val (.double mm), .second, .val (.double mm), .second, .val (.double (FP.l2d Q)), .second, .val (.double (FP.dadd (FP.l2d Q) (4602678819172646912 : UInt64))), .second] [])) rfl (hb hby at_193) _ ?_
            show SS p e below T105 m 196 #[.val (.long a), .second, .val (.long bb), .second, .val (.long cc), .second, .val (.long nanos), .second, .val (.int sign), .val (.long P), .second, .val (.long Q), .second, .val (.long R), .second, .val (.long mg), .second, .val (.int (0 : Int32)), .val (.long mg), .second, .val (.double mm), .second, .val (.double mm), .second, .val (.double (FP.l2d Q)), .second, .val (.double (FP.dadd (FP.l2d Q) (4602678819172646912 : UInt64))), .second] [(.long (2 : Int64))] _
            refine XS.lload X105.here hx rfl (hb hby at_196) rfl ?_
            show SS p e below T105 m 198 #[.val (.long a), .second, .val (.long bb), .second, .val (.long cc), .second, .val (.long nanos), .second, .val (.int sign), .val (.long P), .second, .val (.long Q), .second, .val (.long R), .second, .val (.long mg), .second, .val (.int (0 : Int32)), .val (.long mg), .second, .val (.double mm), .second, .val (.double mm), .second, .val (.double (FP.l2d Q)), .second, .val (.double (FP.dadd (FP.l2d Q) (4602678819172646912 : UInt64))), .second] [(.long R), (.long (2 : Int64))] _
            refine XS.lmul X105.here hx rfl (hb hby at_198) rfl ?_
            show SS p e below T105 m 199 #[.val (.long a), .second, .val (.long bb), .second, .val (.long cc), .second, .val (.long nanos), .second, .val (.int sign), .val (.long P), .second, .val (.long Q), .second, .val (.long R), .second, .val (.long mg), .second, .val (.int (0 : Int32)), .val (.long mg), .second, .val (.double mm), .second, .val (.double mm), .second, .val (.double (FP.l2d Q)), .second, .val (.double (FP.dadd (FP.l2d Q) (4602678819172646912 : UInt64))), .second] [(.long ((2 : Int64) * R))] _
            refine XS.lload X105.here hx rfl (hb hby at_199) rfl ?_
            show SS p e below T105 m 201 #[.val (.long a), .second, .val (.long bb), .second, .val (.long cc), .second, .val (.long nanos), .second, .val (.int sign), .val (.long P), .second, .val (.long Q), .second, .val (.long R), .second, .val (.long mg), .second, .val (.int (0 : Int32)), .val (.long mg), .second, .val (.double mm), .second, .val (.double mm), .second, .val (.double (FP.l2d Q)), .second, .val (.double (FP.dadd (FP.l2d Q) (4602678819172646912 : UInt64))), .second] [(.long P), (.long ((2 : Int64) * R))] _
            refine XS.lcmp X105.here hx rfl (hb hby at_201) rfl ?_
            show SS p e below T105 m 202 #[.val (.long a), .second, .val (.long bb), .second, .val (.long cc), .second, .val (.long nanos), .second, .val (.int sign), .val (.long P), .second, .val (.long Q), .second, .val (.long R), .second, .val (.long mg), .second, .val (.int (0 : Int32)), .val (.long mg), .second, .val (.double mm), .second, .val (.double mm), .second, .val (.double (FP.l2d Q)), .second, .val (.double (FP.dadd (FP.l2d Q) (4602678819172646912 : UInt64))), .second] [(.int (lcmpW ((2 : Int64) * R) P))] _
            exact kt
          by_cases hc127 : P < ((2 : Int64) * R)
          ·
            have W128 : ∀ zQ, SS p e below T105 m 216 #[.val (.long a), .second, .val (.long bb), .second, .val (.long cc), .second, .val (.long nanos), .second, .val (.int sign), .val (.long P), .second, .val (.long Q), .second, .val (.long R), .second, .val (.long mg), .second, .val (.int (0 : Int32)), .val (.long mg), .second, .val (.double mm), .second, .val (.double mm), .second, .val (.double (FP.l2d Q)), .second, .val (.double (FP.dadd (FP.l2d Q) (4602678819172646912 : UInt64))), .second] [(.int (1 : Int32))] zQ → Steps p.tables e below (s₁.setTop (entryFrame m #[(.long a), (.long bb), (.long cc), (.long nanos), (.int sign)] maxLocals)) zQ := by
              intro tt kt
              refine W126 tt ?_
              refine XS.ifNo X105.here hx rfl (hb hby at_202) rfl ((if0 _ _).trans (tlt ((lw_gt _ _).mpr hc127)).2.2.2) ?_
              show SS p e below T105 m 205 #[.val (.long a), .second, .val (.long bb), .second, .val (.long cc), .second, .val (.long nanos), .second, .val (.int sign), .val (.long P), .second, .val (.long Q), .second, .val (.long R), .second, .val (.long mg), .second, .val (.int (0 : Int32)), .val (.long mg), .second, .val (.double mm), .second, .val (.double mm), .second, .val (.double (FP.l2d Q)), .second, .val (.double (FP.dadd (FP.l2d Q) (4602678819172646912 : UInt64))), .second] [] _
              refine XS.dload X105.here hx rfl (hb hby at_205) rfl ?_
              show SS p e below T105 m 207 #[.val (.long a), .second, .val (.long bb), .second, .val (.long cc), .second, .val (.long nanos), .second, .val (.int sign), .val (.long P), .second, .val (.long Q), .second, .val (.long R), .second, .val (.long mg), .second, .val (.int (0 : Int32)), .val (.long mg), .second, .val (.double mm), .second, .val (.double mm), .second, .val (.double (FP.l2d Q)), .second, .val (.double (FP.dadd (FP.l2d Q) (4602678819172646912 : UInt64))), .second] [(.double mm)] _
              refine XS.dload X105.here hx rfl (hb hby at_207) rfl ?_
              show SS p e below T105 m 209 #[.val (.long a), .second, .val (.long bb), .second, .val (.long cc), .second, .val (.long nanos), .second, .val (.int sign), .val (.long P), .second, .val (.long Q), .second, .val (.long R), .second, .val (.long mg), .second, .val (.int (0 : Int32)), .val (.long mg), .second, .val (.double mm), .second, .val (.double mm), .second, .val (.double (FP.l2d Q)), .second, .val (.double (FP.dadd (FP.l2d Q) (4602678819172646912 : UInt64))), .second] [(.double (FP.dadd (FP.l2d Q) (4602678819172646912 : UInt64))), (.double mm)] _
              refine XS.dcmpS X105.here hx rfl (hb hby at_209) rfl rfl ?_
              show SS p e below T105 m 210 #[.val (.long a), .second, .val (.long bb), .second, .val (.long cc), .second, .val (.long nanos), .second, .val (.int sign), .val (.long P), .second, .val (.long Q), .second, .val (.long R), .second, .val (.long mg), .second, .val (.int (0 : Int32)), .val (.long mg), .second, .val (.double mm), .second, .val (.double mm), .second, .val (.double (FP.l2d Q)), .second, .val (.double (FP.dadd (FP.l2d Q) (4602678819172646912 : UInt64))), .second] [(.int (cmpValue (FP.dcmp mm (FP.dadd (FP.l2d Q) (4602678819172646912 : UInt64))) .l))] _
              refine XS.ifYes X105.here hx rfl (pc0 := 210) (pc' := 215) rfl (hb hby at_210) rfl ((if0 _ _).trans (tlt (hD.2.2.2.2.2 hc127)).2.2.1) (by decide) (by decide) ?_
              show SS p e below T105 m 215 #[.val (.long a), .second, .val (.long bb), .second, .val (.long cc), .second, .val (.long nanos), .second, .val (.int sign), .val (.long P), .second, .val (.long Q), .second, .val (.long R), .second, .val (.long mg), .second, .val (.int (0 : Int32)), .val (.long mg), .second, .val (.double mm), .second, .val (.double mm), .second, .val (.double (FP.l2d Q)), .second, .val (.double (FP.dadd (FP.l2d Q) (4602678819172646912 : UInt64))), .second] [] _
              refine XS.iconst X105.here hx rfl (hb hby at_215) ?_
              show SS p e below T105 m 216 #[.val (.long a), .second, .val (.long bb), .second, .val (.long cc), .second, .val (.long nanos), .second, .val (.int sign), .val (.long P), .second, .val (.long Q), .second, .val (.long R), .second, .val (.long mg), .second, .val (.int (0 : Int32)), .val (.long mg), .second, .val (.double mm), .second, .val (.double mm), .second, .val (.double (FP.l2d Q)), .second, .val (.double (FP.dadd (FP.l2d Q) (4602678819172646912 : UInt64))), .second] [(.int (1 : Int32))] _
              exact kt
            obtain ⟨fs, hr, hrun, hended, hW, hsame⟩ := X105.leave (v := some (.int (nar .boolean (1 : Int32)))) (fun h => by rw [Bd.returns] at h; cases h)
            refine ⟨_, _, W128 _ (retN X105 hx (t := .boolean) Bd.returns (by simp) (hb hby at_216) hr), hrun, hended, _, _, rfl, ?_, ⟨_, rfl⟩, hW, hsame.mono (by decide) (by decide)⟩
            show Q_law Z a bb cc nanos sign h0 n0 _ T105.heap _
            rw [eq105]
            exact ⟨rfl, N105, (Keep.trans (Keep.trans (Keep.refl h0 []) K103 all0) K104 (allS (Or.inr (Nat.le_of_eq g103.symm)) all0))⟩
          ·
            have W129 : ∀ zQ, SS p e below T105 m 216 #[.val (.long a), .second, .val (.long bb), .second, .val (.long cc), .second, .val (.long nanos), .second, .val (.int sign), .val (.long P), .second, .val (.long Q), .second, .val (.long R), .second, .val (.long mg), .second, .val (.int (0 : Int32)), .val (.long mg), .second, .val (.double mm), .second, .val (.double mm), .second, .val (.double (FP.l2d Q)), .second, .val (.double (FP.dadd (FP.l2d Q) (4602678819172646912 : UInt64))), .second] [(.int (1 : Int32))] zQ → Steps p.tables e below (s₁.setTop (entryFrame m #[(.long a), (.long bb), (.long cc), (.long nanos), (.int sign)] maxLocals)) zQ := by
              intro tt kt
              refine W126 tt ?_
              refine XS.ifYes X105.here hx rfl (pc0 := 202) (pc' := 215) rfl (hb hby at_202) rfl ((if0 _ _).trans (flt (fun q => hc127 ((lw_gt _ _).mp q))).2.2.2) (by decide) (by decide) ?_
              show SS p e below T105 m 215 #[.val (.long a), .second, .val (.long bb), .second, .val (.long cc), .second, .val (.long nanos), .second, .val (.int sign), .val (.long P), .second, .val (.long Q), .second, .val (.long R), .second, .val (.long mg), .second, .val (.int (0 : Int32)), .val (.long mg), .second, .val (.double mm), .second, .val (.double mm), .second, .val (.double (FP.l2d Q)), .second, .val (.double (FP.dadd (FP.l2d Q) (4602678819172646912 : UInt64))), .second] [] _
              refine XS.iconst X105.here hx rfl (hb hby at_215) ?_
              show SS p e below T105 m 216 #[.val (.long a), .second, .val (.long bb), .second, .val (.long cc), .second, .val (.long nanos), .second, .val (.int sign), .val (.long P), .second, .val (.long Q), .second, .val (.long R), .second, .val (.long mg), .second, .val (.int (0 : Int32)), .val (.long mg), .second, .val (.double mm), .second, .val (.double mm), .second, .val (.double (FP.l2d Q)), .second, .val (.double (FP.dadd (FP.l2d Q) (4602678819172646912 : UInt64))), .second] [(.int (1 : Int32))] _
              exact kt
            obtain ⟨fs, hr, hrun, hended, hW, hsame⟩ := X105.leave (v := some (.int (nar .boolean (1 : Int32)))) (fun h => by rw [Bd.returns] at h; cases h)
            refine ⟨_, _, W129 _ (retN X105 hx (t := .boolean) Bd.returns (by simp) (hb hby at_216) hr), hrun, hended, _, _, rfl, ?_, ⟨_, rfl⟩, hW, hsame.mono (by decide) (by decide)⟩
            show Q_law Z a bb cc nanos sign h0 n0 _ T105.heap _
            rw [eq105]
            exact ⟨rfl, N105, (Keep.trans (Keep.trans (Keep.refl h0 []) K103 all0) K104 (allS (Or.inr (Nat.le_of_eq g103.symm)) all0))⟩
    ·
      have W130 : ∀ zQ, SS p e below T105 m 158 #[.val (.long a), .second, .val (.long bb), .second, .val (.long cc), .second, .val (.long nanos), .second, .val (.int sign), .val (.long P), .second, .val (.long Q), .second, .val (.long R), .second, .val (.long mg), .second, .val (.int (0 : Int32)), .val (.long mg), .second, .val (.double mm), .second, .val (.double mm), .second, .val (.double (FP.l2d Q)), .second, .val (.double (FP.dadd (FP.l2d Q) (4602678819172646912 : UInt64))), .second] [(.int (lcmpW ((2 : Int64) * R) P))] zQ → Steps p.tables e below (s₁.setTop (entryFrame m #[(.long a), (.long bb), (.long cc), (.long nanos), (.int sign)] maxLocals)) zQ := by
        intro tt kt
        refine W106 tt ?_
        refine XS.ifYes X105.here hx rfl (pc0 := 136) (pc' := 149) rfl (hb hby at_136) rfl ((if0 _ _).trans (feq (fun q => hc107 ((lw_eq _ _).mp q))).2) (by decide) (by decide) ?_
        show SS p e below T105 m 149 #[.val (.long a), .second, .val (.long bb), .second, .val (.long cc), .second, .val (.long nanos), .second, .val (.int sign), .val (.long P), .second, .val (.long Q), .second, .val (.long R), .second, .val (.long mg), .second, .val (.int (0 : Int32)), .val (.long mg), .second, .val (.double mm), .second, .val (.double mm), .second, .val (.double (FP.l2d Q)), .second, .val (.double (FP.dadd (FP.l2d Q) (4602678819172646912 : UInt64))), .second] [] _
        refine X105.ldc2Long hx hown (mvT hZ (w28 hw)) (g := (mkF m 149 #[.val (.long a), .second, .val (.long bb), .second, .val (.long cc), .second, .val (.long nanos), .second, .val (.int sign), .val (.long P), .second, .val (.long Q), .second, .val (.long R), .second, .val (.long mg), .second, .val (.int (0 : Int32)), .val (.long mg), .second, .val (.double mm), .second, .val (.double mm), .second, .val (.double (FP.l2d Q)), .second, .val (.double (FP.dadd (FP.l2d Q) (4602678819172646912 : UInt64))), .second] [])) rfl (hb hby at_149) _ ?_
        show SS p e below T105 m 152 #[.val (.long a), .second, .val (.long bb), .second, .val (.long cc), .second, .val (.long nanos), .second, .val (.int sign), .val (.long P), .second, .val (.long Q), .second, .val (.long R), .second, .val (.long mg), .second, .val (.int (0 : Int32)), .val (.long mg), .second, .val (.double mm), .second, .val (.double mm), .second, .val (.double (FP.l2d Q)), .second, .val (.double (FP.dadd (FP.l2d Q) (4602678819172646912 : UInt64))), .second] [(.long (2 : Int64))] _
        refine XS.lload X105.here hx rfl (hb hby at_152) rfl ?_
        show SS p e below T105 m 154 #[.val (.long a), .second, .val (.long bb), .second, .val (.long cc), .second, .val (.long nanos), .second, .val (.int sign), .val (.long P), .second, .val (.long Q), .second, .val (.long R), .second, .val (.long mg), .second, .val (.int (0 : Int32)), .val (.long mg), .second, .val (.double mm), .second, .val (.double mm), .second, .val (.double (FP.l2d Q)), .second, .val (.double (FP.dadd (FP.l2d Q) (4602678819172646912 : UInt64))), .second] [(.long R), (.long (2 : Int64))] _
        refine XS.lmul X105.here hx rfl (hb hby at_154) rfl ?_
        show SS p e below T105 m 155 #[.val (.long a), .second, .val (.long bb), .second, .val (.long cc), .second, .val (.long nanos), .second, .val (.int sign), .val (.long P), .second, .val (.long Q), .second, .val (.long R), .second, .val (.long mg), .second, .val (.int (0 : Int32)), .val (.long mg), .second, .val (.double mm), .second, .val (.double mm), .second, .val (.double (FP.l2d Q)), .second, .val (.double (FP.dadd (FP.l2d Q) (4602678819172646912 : UInt64))), .second] [(.long ((2 : Int64) * R))] _
        refine XS.lload X105.here hx rfl (hb hby at_155) rfl ?_
        show SS p e below T105 m 157 #[.val (.long a), .second, .val (.long bb), .second, .val (.long cc), .second, .val (.long nanos), .second, .val (.int sign), .val (.long P), .second, .val (.long Q), .second, .val (.long R), .second, .val (.long mg), .second, .val (.int (0 : Int32)), .val (.long mg), .second, .val (.double mm), .second, .val (.double mm), .second, .val (.double (FP.l2d Q)), .second, .val (.double (FP.dadd (FP.l2d Q) (4602678819172646912 : UInt64))), .second] [(.long P), (.long ((2 : Int64) * R))] _
        refine XS.lcmp X105.here hx rfl (hb hby at_157) rfl ?_
        show SS p e below T105 m 158 #[.val (.long a), .second, .val (.long bb), .second, .val (.long cc), .second, .val (.long nanos), .second, .val (.int sign), .val (.long P), .second, .val (.long Q), .second, .val (.long R), .second, .val (.long mg), .second, .val (.int (0 : Int32)), .val (.long mg), .second, .val (.double mm), .second, .val (.double mm), .second, .val (.double (FP.l2d Q)), .second, .val (.double (FP.dadd (FP.l2d Q) (4602678819172646912 : UInt64))), .second] [(.int (lcmpW ((2 : Int64) * R) P))] _
        exact kt
      by_cases hc131 : ((2 : Int64) * R) = P
      ·
        have W132 : ∀ zQ, SS p e below T105 m 180 #[.val (.long a), .second, .val (.long bb), .second, .val (.long cc), .second, .val (.long nanos), .second, .val (.int sign), .val (.long P), .second, .val (.long Q), .second, .val (.long R), .second, .val (.long mg), .second, .val (.int (0 : Int32)), .val (.long mg), .second, .val (.double mm), .second, .val (.double mm), .second, .val (.double (FP.l2d Q)), .second, .val (.double (FP.dadd (FP.l2d Q) (4602678819172646912 : UInt64))), .second] [(.int (lcmpW ((2 : Int64) * R) P))] zQ → Steps p.tables e below (s₁.setTop (entryFrame m #[(.long a), (.long bb), (.long cc), (.long nanos), (.int sign)] maxLocals)) zQ := by
          intro tt kt
          refine W130 tt ?_
          refine XS.ifNo X105.here hx rfl (hb hby at_158) rfl ((if0 _ _).trans (teq ((lw_eq _ _).mpr hc131)).2) ?_
          show SS p e below T105 m 161 #[.val (.long a), .second, .val (.long bb), .second, .val (.long cc), .second, .val (.long nanos), .second, .val (.int sign), .val (.long P), .second, .val (.long Q), .second, .val (.long R), .second, .val (.long mg), .second, .val (.int (0 : Int32)), .val (.long mg), .second, .val (.double mm), .second, .val (.double mm), .second, .val (.double (FP.l2d Q)), .second, .val (.double (FP.dadd (FP.l2d Q) (4602678819172646912 : UInt64))), .second] [] _
          refine XS.dload X105.here hx rfl (hb hby at_161) rfl ?_
          show SS p e below T105 m 163 #[.val (.long a), .second, .val (.long bb), .second, .val (.long cc), .second, .val (.long nanos), .second, .val (.int sign), .val (.long P), .second, .val (.long Q), .second, .val (.long R), .second, .val (.long mg), .second, .val (.int (0 : Int32)), .val (.long mg), .second, .val (.double mm), .second, .val (.double mm), .second, .val (.double (FP.l2d Q)), .second, .val (.double (FP.dadd (FP.l2d Q) (4602678819172646912 : UInt64))), .second] [(.double mm)] _
          refine XS.dload X105.here hx rfl (hb hby at_163) rfl ?_
          show SS p e below T105 m 165 #[.val (.long a), .second, .val (.long bb), .second, .val (.long cc), .second, .val (.long nanos), .second, .val (.int sign), .val (.long P), .second, .val (.long Q), .second, .val (.long R), .second, .val (.long mg), .second, .val (.int (0 : Int32)), .val (.long mg), .second, .val (.double mm), .second, .val (.double mm), .second, .val (.double (FP.l2d Q)), .second, .val (.double (FP.dadd (FP.l2d Q) (4602678819172646912 : UInt64))), .second] [(.double (FP.dadd (FP.l2d Q) (4602678819172646912 : UInt64))), (.double mm)] _
          refine XS.dcmpS X105.here hx rfl (hb hby at_165) rfl rfl ?_
          show SS p e below T105 m 166 #[.val (.long a), .second, .val (.long bb), .second, .val (.long cc), .second, .val (.long nanos), .second, .val (.int sign), .val (.long P), .second, .val (.long Q), .second, .val (.long R), .second, .val (.long mg), .second, .val (.int (0 : Int32)), .val (.long mg), .second, .val (.double mm), .second, .val (.double mm), .second, .val (.double (FP.l2d Q)), .second, .val (.double (FP.dadd (FP.l2d Q) (4602678819172646912 : UInt64))), .second] [(.int (cmpValue (FP.dcmp mm (FP.dadd (FP.l2d Q) (4602678819172646912 : UInt64))) .l))] _
          refine XS.ifYes X105.here hx rfl (pc0 := 166) (pc' := 171) rfl (hb hby at_166) rfl ((if0 _ _).trans (teq (hD.2.2.2.1 hc131)).1) (by decide) (by decide) ?_
          show SS p e below T105 m 171 #[.val (.long a), .second, .val (.long bb), .second, .val (.long cc), .second, .val (.long nanos), .second, .val (.int sign), .val (.long P), .second, .val (.long Q), .second, .val (.long R), .second, .val (.long mg), .second, .val (.int (0 : Int32)), .val (.long mg), .second, .val (.double mm), .second, .val (.double mm), .second, .val (.double (FP.l2d Q)), .second, .val (.double (FP.dadd (FP.l2d Q) (4602678819172646912 : UInt64))), .second] [] _
          refine X105.ldc2Long hx hown (mvT hZ (w28 hw)) (g := (mkF m 171 #[.val (.long a), .second, .val (.long bb), .second, .val (.long cc), .second, .val (.long nanos), .second, .val (.int sign), .val (.long P), .second, .val (.long Q), .second, .val (.long R), .second, .val (.long mg), .second, .val (.int (0 : Int32)), .val (.long mg), .second, .val (.double mm), .second, .val (.double mm), .second, .val (.double (FP.l2d Q)), .second, .val (.double (FP.dadd (FP.l2d Q) (4602678819172646912 : UInt64))), .second] [])) rfl (hb hby at_171) _ ?_
          show SS p e below T105 m 174 #[.val (.long a), .second, .val (.long bb), .second, .val (.long cc), .second, .val (.long nanos), .second, .val (.int sign), .val (.long P), .second, .val (.long Q), .second, .val (.long R), .second, .val (.long mg), .second, .val (.int (0 : Int32)), .val (.long mg), .second, .val (.double mm), .second, .val (.double mm), .second, .val (.double (FP.l2d Q)), .second, .val (.double (FP.dadd (FP.l2d Q) (4602678819172646912 : UInt64))), .second] [(.long (2 : Int64))] _
          refine XS.lload X105.here hx rfl (hb hby at_174) rfl ?_
          show SS p e below T105 m 176 #[.val (.long a), .second, .val (.long bb), .second, .val (.long cc), .second, .val (.long nanos), .second, .val (.int sign), .val (.long P), .second, .val (.long Q), .second, .val (.long R), .second, .val (.long mg), .second, .val (.int (0 : Int32)), .val (.long mg), .second, .val (.double mm), .second, .val (.double mm), .second, .val (.double (FP.l2d Q)), .second, .val (.double (FP.dadd (FP.l2d Q) (4602678819172646912 : UInt64))), .second] [(.long R), (.long (2 : Int64))] _
          refine XS.lmul X105.here hx rfl (hb hby at_176) rfl ?_
          show SS p e below T105 m 177 #[.val (.long a), .second, .val (.long bb), .second, .val (.long cc), .second, .val (.long nanos), .second, .val (.int sign), .val (.long P), .second, .val (.long Q), .second, .val (.long R), .second, .val (.long mg), .second, .val (.int (0 : Int32)), .val (.long mg), .second, .val (.double mm), .second, .val (.double mm), .second, .val (.double (FP.l2d Q)), .second, .val (.double (FP.dadd (FP.l2d Q) (4602678819172646912 : UInt64))), .second] [(.long ((2 : Int64) * R))] _
          refine XS.lload X105.here hx rfl (hb hby at_177) rfl ?_
          show SS p e below T105 m 179 #[.val (.long a), .second, .val (.long bb), .second, .val (.long cc), .second, .val (.long nanos), .second, .val (.int sign), .val (.long P), .second, .val (.long Q), .second, .val (.long R), .second, .val (.long mg), .second, .val (.int (0 : Int32)), .val (.long mg), .second, .val (.double mm), .second, .val (.double mm), .second, .val (.double (FP.l2d Q)), .second, .val (.double (FP.dadd (FP.l2d Q) (4602678819172646912 : UInt64))), .second] [(.long P), (.long ((2 : Int64) * R))] _
          refine XS.lcmp X105.here hx rfl (hb hby at_179) rfl ?_
          show SS p e below T105 m 180 #[.val (.long a), .second, .val (.long bb), .second, .val (.long cc), .second, .val (.long nanos), .second, .val (.int sign), .val (.long P), .second, .val (.long Q), .second, .val (.long R), .second, .val (.long mg), .second, .val (.int (0 : Int32)), .val (.long mg), .second, .val (.double mm), .second, .val (.double mm), .second, .val (.double (FP.l2d Q)), .second, .val (.double (FP.dadd (FP.l2d Q) (4602678819172646912 : UInt64))), .second] [(.int (lcmpW ((2 : Int64) * R) P))] _
          exact kt
        by_cases hc133 : ((2 : Int64) * R) < P
        ·
          have W134 : ∀ zQ, SS p e below T105 m 202 #[.val (.long a), .second, .val (.long bb), .second, .val (.long cc), .second, .val (.long nanos), .second, .val (.int sign), .val (.long P), .second, .val (.long Q), .second, .val (.long R), .second, .val (.long mg), .second, .val (.int (0 : Int32)), .val (.long mg), .second, .val (.double mm), .second, .val (.double mm), .second, .val (.double (FP.l2d Q)), .second, .val (.double (FP.dadd (FP.l2d Q) (4602678819172646912 : UInt64))), .second] [(.int (lcmpW ((2 : Int64) * R) P))] zQ → Steps p.tables e below (s₁.setTop (entryFrame m #[(.long a), (.long bb), (.long cc), (.long nanos), (.int sign)] maxLocals)) zQ := by
            intro tt kt
            refine W132 tt ?_
            refine XS.ifNo X105.here hx rfl (hb hby at_180) rfl ((if0 _ _).trans (tlt ((lw_lt _ _).mpr hc133)).2.1) ?_
            show SS p e below T105 m 183 #[.val (.long a), .second, .val (.long bb), .second, .val (.long cc), .second, .val (.long nanos), .second, .val (.int sign), .val (.long P), .second, .val (.long Q), .second, .val (.long R), .second, .val (.long mg), .second, .val (.int (0 : Int32)), .val (.long mg), .second, .val (.double mm), .second, .val (.double mm), .second, .val (.double (FP.l2d Q)), .second, .val (.double (FP.dadd (FP.l2d Q) (4602678819172646912 : UInt64))), .second] [] _
            refine XS.dload X105.here hx rfl (hb hby at_183) rfl ?_
            show SS p e below T105 m 185 #[.val (.long a), .second, .val (.long bb), .second, .val (.long cc), .second, .val (.long nanos), .second, .val (.int sign), .val (.long P), .second, .val (.long Q), .second, .val (.long R), .second, .val (.long mg), .second, .val (.int (0 : Int32)), .val (.long mg), .second, .val (.double mm), .second, .val (.double mm), .second, .val (.double (FP.l2d Q)), .second, .val (.double (FP.dadd (FP.l2d Q) (4602678819172646912 : UInt64))), .second] [(.double mm)] _
            refine XS.dload X105.here hx rfl (hb hby at_185) rfl ?_
            show SS p e below T105 m 187 #[.val (.long a), .second, .val (.long bb), .second, .val (.long cc), .second, .val (.long nanos), .second, .val (.int sign), .val (.long P), .second, .val (.long Q), .second, .val (.long R), .second, .val (.long mg), .second, .val (.int (0 : Int32)), .val (.long mg), .second, .val (.double mm), .second, .val (.double mm), .second, .val (.double (FP.l2d Q)), .second, .val (.double (FP.dadd (FP.l2d Q) (4602678819172646912 : UInt64))), .second] [(.double (FP.dadd (FP.l2d Q) (4602678819172646912 : UInt64))), (.double mm)] _
            refine XS.dcmpS X105.here hx rfl (hb hby at_187) rfl rfl ?_
            show SS p e below T105 m 188 #[.val (.long a), .second, .val (.long bb), .second, .val (.long cc), .second, .val (.long nanos), .second, .val (.int sign), .val (.long P), .second, .val (.long Q), .second, .val (.long R), .second, .val (.long mg), .second, .val (.int (0 : Int32)), .val (.long mg), .second, .val (.double mm), .second, .val (.double mm), .second, .val (.double (FP.l2d Q)), .second, .val (.double (FP.dadd (FP.l2d Q) (4602678819172646912 : UInt64))), .second] [(.int (cmpValue (FP.dcmp mm (FP.dadd (FP.l2d Q) (4602678819172646912 : UInt64))) .g))] _
            refine XS.ifYes X105.here hx rfl (pc0 := 188) (pc' := 193) rfl (hb hby at_188) rfl ((if0 _ _).trans (tlt (hD.2.2.2.2.1 hc133)).1) (by decide) (by decide) ?_
            show SS p e below T105 m 193 #[.val (.long a), .second, .val (.long bb), .second, .val (.long cc), .second, .val (.long nanos), .second, .val (.int sign), .val (.long P), .second, .val (.long Q), .second, .val (.long R), .second, .val (.long mg), .second, .val (.int (0 : Int32)), .val (.long mg), .second, .val (.double mm), .second, .val (.double mm), .second, .val (.double (FP.l2d Q)), .second, .val (.double (FP.dadd (FP.l2d Q) (4602678819172646912 : UInt64))), .second] [] _
            refine X105.ldc2Long hx hown (mvT hZ (w28 hw)) (g := (mkF m 193 #[.val (.long a), .second, .val (.long bb), .second, .val (.long cc), .second, .val (.long nanos), .second, .val (.int sign), .val (.long P), .second, .val (.long Q), .second, .val (.long R), .second, .val (.long mg), .second, .val (.int (0 : Int32)), .val (.long mg), .second, .val (.double mm), .second, .val (.double mm), .second, .val (.double (FP.l2d Q)), .second, .val (.double (FP.dadd (FP.l2d Q) (4602678819172646912 : UInt64))), .second] [])) rfl (hb hby at_193) _ ?_
            show SS p e below T105 m 196 #[.val (.long a), .second, .val (.long bb), .second, .val (.long cc), .second, .val (.long nanos), .second, .val (.int sign), .val (.long P), .second, .val (.long Q), .second, .val (.long R), .second, .val (.long mg), .second, .val (.int (0 : Int32)), .val (.long mg), .second, .val (.double mm), .second, .val (.double mm), .second, .val (.double (FP.l2d Q)), .second, .val (.double (FP.dadd (FP.l2d Q) (4602678819172646912 : UInt64))), .second] [(.long (2 : Int64))] _
            refine XS.lload X105.here hx rfl (hb hby at_196) rfl ?_
            show SS p e below T105 m 198 #[.val (.long a), .second, .val (.long bb), .second, .val (.long cc), .second, .val (.long nanos), .second, .val (.int sign), .val (.long P), .second, .val (.long Q), .second, .val (.long R), .second, .val (.long mg), .second, .val (.int (0 : Int32)), .val (.long mg), .second, .val (.double mm), .second, .val (.double mm), .second, .val (.double (FP.l2d Q)), .second, .val (.double (FP.dadd (FP.l2d Q) (4602678819172646912 : UInt64))), .second] [(.long R), (.long (2 : Int64))] _
            refine XS.lmul X105.here hx rfl (hb hby at_198) rfl ?_
            show SS p e below T105 m 199 #[.val (.long a), .second, .val (.long bb), .second, .val (.long cc), .second, .val (.long nanos), .second, .val (.int sign), .val (.long P), .second, .val (.long Q), .second, .val (.long R), .second, .val (.long mg), .second, .val (.int (0 : Int32)), .val (.long mg), .second, .val (.double mm), .second, .val (.double mm), .second, .val (.double (FP.l2d Q)), .second, .val (.double (FP.dadd (FP.l2d Q) (4602678819172646912 : UInt64))), .second] [(.long ((2 : Int64) * R))] _
            refine XS.lload X105.here hx rfl (hb hby at_199) rfl ?_
            show SS p e below T105 m 201 #[.val (.long a), .second, .val (.long bb), .second, .val (.long cc), .second, .val (.long nanos), .second, .val (.int sign), .val (.long P), .second, .val (.long Q), .second, .val (.long R), .second, .val (.long mg), .second, .val (.int (0 : Int32)), .val (.long mg), .second, .val (.double mm), .second, .val (.double mm), .second, .val (.double (FP.l2d Q)), .second, .val (.double (FP.dadd (FP.l2d Q) (4602678819172646912 : UInt64))), .second] [(.long P), (.long ((2 : Int64) * R))] _
            refine XS.lcmp X105.here hx rfl (hb hby at_201) rfl ?_
            show SS p e below T105 m 202 #[.val (.long a), .second, .val (.long bb), .second, .val (.long cc), .second, .val (.long nanos), .second, .val (.int sign), .val (.long P), .second, .val (.long Q), .second, .val (.long R), .second, .val (.long mg), .second, .val (.int (0 : Int32)), .val (.long mg), .second, .val (.double mm), .second, .val (.double mm), .second, .val (.double (FP.l2d Q)), .second, .val (.double (FP.dadd (FP.l2d Q) (4602678819172646912 : UInt64))), .second] [(.int (lcmpW ((2 : Int64) * R) P))] _
            exact kt
          by_cases hc135 : P < ((2 : Int64) * R)
          ·
            have W136 : ∀ zQ, SS p e below T105 m 216 #[.val (.long a), .second, .val (.long bb), .second, .val (.long cc), .second, .val (.long nanos), .second, .val (.int sign), .val (.long P), .second, .val (.long Q), .second, .val (.long R), .second, .val (.long mg), .second, .val (.int (0 : Int32)), .val (.long mg), .second, .val (.double mm), .second, .val (.double mm), .second, .val (.double (FP.l2d Q)), .second, .val (.double (FP.dadd (FP.l2d Q) (4602678819172646912 : UInt64))), .second] [(.int (1 : Int32))] zQ → Steps p.tables e below (s₁.setTop (entryFrame m #[(.long a), (.long bb), (.long cc), (.long nanos), (.int sign)] maxLocals)) zQ := by
              intro tt kt
              refine W134 tt ?_
              refine XS.ifNo X105.here hx rfl (hb hby at_202) rfl ((if0 _ _).trans (tlt ((lw_gt _ _).mpr hc135)).2.2.2) ?_
              show SS p e below T105 m 205 #[.val (.long a), .second, .val (.long bb), .second, .val (.long cc), .second, .val (.long nanos), .second, .val (.int sign), .val (.long P), .second, .val (.long Q), .second, .val (.long R), .second, .val (.long mg), .second, .val (.int (0 : Int32)), .val (.long mg), .second, .val (.double mm), .second, .val (.double mm), .second, .val (.double (FP.l2d Q)), .second, .val (.double (FP.dadd (FP.l2d Q) (4602678819172646912 : UInt64))), .second] [] _
              refine XS.dload X105.here hx rfl (hb hby at_205) rfl ?_
              show SS p e below T105 m 207 #[.val (.long a), .second, .val (.long bb), .second, .val (.long cc), .second, .val (.long nanos), .second, .val (.int sign), .val (.long P), .second, .val (.long Q), .second, .val (.long R), .second, .val (.long mg), .second, .val (.int (0 : Int32)), .val (.long mg), .second, .val (.double mm), .second, .val (.double mm), .second, .val (.double (FP.l2d Q)), .second, .val (.double (FP.dadd (FP.l2d Q) (4602678819172646912 : UInt64))), .second] [(.double mm)] _
              refine XS.dload X105.here hx rfl (hb hby at_207) rfl ?_
              show SS p e below T105 m 209 #[.val (.long a), .second, .val (.long bb), .second, .val (.long cc), .second, .val (.long nanos), .second, .val (.int sign), .val (.long P), .second, .val (.long Q), .second, .val (.long R), .second, .val (.long mg), .second, .val (.int (0 : Int32)), .val (.long mg), .second, .val (.double mm), .second, .val (.double mm), .second, .val (.double (FP.l2d Q)), .second, .val (.double (FP.dadd (FP.l2d Q) (4602678819172646912 : UInt64))), .second] [(.double (FP.dadd (FP.l2d Q) (4602678819172646912 : UInt64))), (.double mm)] _
              refine XS.dcmpS X105.here hx rfl (hb hby at_209) rfl rfl ?_
              show SS p e below T105 m 210 #[.val (.long a), .second, .val (.long bb), .second, .val (.long cc), .second, .val (.long nanos), .second, .val (.int sign), .val (.long P), .second, .val (.long Q), .second, .val (.long R), .second, .val (.long mg), .second, .val (.int (0 : Int32)), .val (.long mg), .second, .val (.double mm), .second, .val (.double mm), .second, .val (.double (FP.l2d Q)), .second, .val (.double (FP.dadd (FP.l2d Q) (4602678819172646912 : UInt64))), .second] [(.int (cmpValue (FP.dcmp mm (FP.dadd (FP.l2d Q) (4602678819172646912 : UInt64))) .l))] _
              refine XS.ifYes X105.here hx rfl (pc0 := 210) (pc' := 215) rfl (hb hby at_210) rfl ((if0 _ _).trans (tlt (hD.2.2.2.2.2 hc135)).2.2.1) (by decide) (by decide) ?_
              show SS p e below T105 m 215 #[.val (.long a), .second, .val (.long bb), .second, .val (.long cc), .second, .val (.long nanos), .second, .val (.int sign), .val (.long P), .second, .val (.long Q), .second, .val (.long R), .second, .val (.long mg), .second, .val (.int (0 : Int32)), .val (.long mg), .second, .val (.double mm), .second, .val (.double mm), .second, .val (.double (FP.l2d Q)), .second, .val (.double (FP.dadd (FP.l2d Q) (4602678819172646912 : UInt64))), .second] [] _
              refine XS.iconst X105.here hx rfl (hb hby at_215) ?_
              show SS p e below T105 m 216 #[.val (.long a), .second, .val (.long bb), .second, .val (.long cc), .second, .val (.long nanos), .second, .val (.int sign), .val (.long P), .second, .val (.long Q), .second, .val (.long R), .second, .val (.long mg), .second, .val (.int (0 : Int32)), .val (.long mg), .second, .val (.double mm), .second, .val (.double mm), .second, .val (.double (FP.l2d Q)), .second, .val (.double (FP.dadd (FP.l2d Q) (4602678819172646912 : UInt64))), .second] [(.int (1 : Int32))] _
              exact kt
            obtain ⟨fs, hr, hrun, hended, hW, hsame⟩ := X105.leave (v := some (.int (nar .boolean (1 : Int32)))) (fun h => by rw [Bd.returns] at h; cases h)
            refine ⟨_, _, W136 _ (retN X105 hx (t := .boolean) Bd.returns (by simp) (hb hby at_216) hr), hrun, hended, _, _, rfl, ?_, ⟨_, rfl⟩, hW, hsame.mono (by decide) (by decide)⟩
            show Q_law Z a bb cc nanos sign h0 n0 _ T105.heap _
            rw [eq105]
            exact ⟨rfl, N105, (Keep.trans (Keep.trans (Keep.refl h0 []) K103 all0) K104 (allS (Or.inr (Nat.le_of_eq g103.symm)) all0))⟩
          ·
            have W137 : ∀ zQ, SS p e below T105 m 216 #[.val (.long a), .second, .val (.long bb), .second, .val (.long cc), .second, .val (.long nanos), .second, .val (.int sign), .val (.long P), .second, .val (.long Q), .second, .val (.long R), .second, .val (.long mg), .second, .val (.int (0 : Int32)), .val (.long mg), .second, .val (.double mm), .second, .val (.double mm), .second, .val (.double (FP.l2d Q)), .second, .val (.double (FP.dadd (FP.l2d Q) (4602678819172646912 : UInt64))), .second] [(.int (1 : Int32))] zQ → Steps p.tables e below (s₁.setTop (entryFrame m #[(.long a), (.long bb), (.long cc), (.long nanos), (.int sign)] maxLocals)) zQ := by
              intro tt kt
              refine W134 tt ?_
              refine XS.ifYes X105.here hx rfl (pc0 := 202) (pc' := 215) rfl (hb hby at_202) rfl ((if0 _ _).trans (flt (fun q => hc135 ((lw_gt _ _).mp q))).2.2.2) (by decide) (by decide) ?_
              show SS p e below T105 m 215 #[.val (.long a), .second, .val (.long bb), .second, .val (.long cc), .second, .val (.long nanos), .second, .val (.int sign), .val (.long P), .second, .val (.long Q), .second, .val (.long R), .second, .val (.long mg), .second, .val (.int (0 : Int32)), .val (.long mg), .second, .val (.double mm), .second, .val (.double mm), .second, .val (.double (FP.l2d Q)), .second, .val (.double (FP.dadd (FP.l2d Q) (4602678819172646912 : UInt64))), .second] [] _
              refine XS.iconst X105.here hx rfl (hb hby at_215) ?_
              show SS p e below T105 m 216 #[.val (.long a), .second, .val (.long bb), .second, .val (.long cc), .second, .val (.long nanos), .second, .val (.int sign), .val (.long P), .second, .val (.long Q), .second, .val (.long R), .second, .val (.long mg), .second, .val (.int (0 : Int32)), .val (.long mg), .second, .val (.double mm), .second, .val (.double mm), .second, .val (.double (FP.l2d Q)), .second, .val (.double (FP.dadd (FP.l2d Q) (4602678819172646912 : UInt64))), .second] [(.int (1 : Int32))] _
              exact kt
            obtain ⟨fs, hr, hrun, hended, hW, hsame⟩ := X105.leave (v := some (.int (nar .boolean (1 : Int32)))) (fun h => by rw [Bd.returns] at h; cases h)
            refine ⟨_, _, W137 _ (retN X105 hx (t := .boolean) Bd.returns (by simp) (hb hby at_216) hr), hrun, hended, _, _, rfl, ?_, ⟨_, rfl⟩, hW, hsame.mono (by decide) (by decide)⟩
            show Q_law Z a bb cc nanos sign h0 n0 _ T105.heap _
            rw [eq105]
            exact ⟨rfl, N105, (Keep.trans (Keep.trans (Keep.refl h0 []) K103 all0) K104 (allS (Or.inr (Nat.le_of_eq g103.symm)) all0))⟩
        ·
          have W138 : ∀ zQ, SS p e below T105 m 202 #[.val (.long a), .second, .val (.long bb), .second, .val (.long cc), .second, .val (.long nanos), .second, .val (.int sign), .val (.long P), .second, .val (.long Q), .second, .val (.long R), .second, .val (.long mg), .second, .val (.int (0 : Int32)), .val (.long mg), .second, .val (.double mm), .second, .val (.double mm), .second, .val (.double (FP.l2d Q)), .second, .val (.double (FP.dadd (FP.l2d Q) (4602678819172646912 : UInt64))), .second] [(.int (lcmpW ((2 : Int64) * R) P))] zQ → Steps p.tables e below (s₁.setTop (entryFrame m #[(.long a), (.long bb), (.long cc), (.long nanos), (.int sign)] maxLocals)) zQ := by
            intro tt kt
            refine W132 tt ?_
            refine XS.ifYes X105.here hx rfl (pc0 := 180) (pc' := 193) rfl (hb hby at_180) rfl ((if0 _ _).trans (flt (fun q => hc133 ((lw_lt _ _).mp q))).2.1) (by decide) (by decide) ?_
            show SS p e below T105 m 193 #[.val (.long a), .second, .val (.long bb), .second, .val (.long cc), .second, .val (.long nanos), .second, .val (.int sign), .val (.long P), .second, .val (.long Q), .second, .val (.long R), .second, .val (.long mg), .second, .val (.int (0 : Int32)), .val (.long mg), .second, .val (.double mm), .second, .val (.double mm), .second, .val (.double (FP.l2d Q)), .second, .val (.double (FP.dadd (FP.l2d Q) (4602678819172646912 : UInt64))), .second] [] _
            refine X105.ldc2Long hx hown (mvT hZ (w28 hw)) (g := (mkF m 193 #[.val (.long a), .second, .val (.long bb), .second, .val (.long cc), .second, .val (.long nanos), .second, .val (.int sign), .val (.long P), .second, .val (.long Q), .second, .val (.long R), .second, .val (.long mg), .second, .val (.int (0 : Int32)), .val (.long mg), .second, .val (.double mm), .second, .val (.double mm), .second, .val (.double (FP.l2d Q)), .second, .val (.double (FP.dadd (FP.l2d Q) (4602678819172646912 : UInt64))), .second] [])) rfl (hb hby at_193) _ ?_
            show SS p e below T105 m 196 #[.val (.long a), .second, .val (.long bb), .second, .val (.long cc), .second, .val (.long nanos), .second, .val (.int sign), .val (.long P), .second, .val (.long Q), .second, .val (.long R), .second, .val (.long mg), .second, .val (.int (0 : Int32)), .val (.long mg), .second, .val (.double mm), .second, .val (.double mm), .second, .val (.double (FP.l2d Q)), .second, .val (.double (FP.dadd (FP.l2d Q) (4602678819172646912 : UInt64))), .second] [(.long (2 : Int64))] _
            refine XS.lload X105.here hx rfl (hb hby at_196) rfl ?_
            show SS p e below T105 m 198 #[.val (.long a), .second, .val (.long bb), .second, .val (.long cc), .second, .val (.long nanos), .second, .val (.int sign), .val (.long P), .second, .val (.long Q), .second, .val (.long R), .second, .val (.long mg), .second, .val (.int (0 : Int32)), .val (.long mg), .second, .val (.double mm), .second, .val (.double mm), .second, .val (.double (FP.l2d Q)), .second, .val (.double (FP.dadd (FP.l2d Q) (4602678819172646912 : UInt64))), .second] [(.long R), (.long (2 : Int64))] _
            refine XS.lmul X105.here hx rfl (hb hby at_198) rfl ?_
            show SS p e below T105 m 199 #[.val (.long a), .second, .val (.long bb), .second, .val (.long cc), .second, .val (.long nanos), .second, .val (.int sign), .val (.long P), .second, .val (.long Q), .second, .val (.long R), .second, .val (.long mg), .second, .val (.int (0 : Int32)), .val (.long mg), .second, .val (.double mm), .second, .val (.double mm), .second, .val (.double (FP.l2d Q)), .second, .val (.double (FP.dadd (FP.l2d Q) (4602678819172646912 : UInt64))), .second] [(.long ((2 : Int64) * R))] _
            refine XS.lload X105.here hx rfl (hb hby at_199) rfl ?_
            show SS p e below T105 m 201 #[.val (.long a), .second, .val (.long bb), .second, .val (.long cc), .second, .val (.long nanos), .second, .val (.int sign), .val (.long P), .second, .val (.long Q), .second, .val (.long R), .second, .val (.long mg), .second, .val (.int (0 : Int32)), .val (.long mg), .second, .val (.double mm), .second, .val (.double mm), .second, .val (.double (FP.l2d Q)), .second, .val (.double (FP.dadd (FP.l2d Q) (4602678819172646912 : UInt64))), .second] [(.long P), (.long ((2 : Int64) * R))] _
            refine XS.lcmp X105.here hx rfl (hb hby at_201) rfl ?_
            show SS p e below T105 m 202 #[.val (.long a), .second, .val (.long bb), .second, .val (.long cc), .second, .val (.long nanos), .second, .val (.int sign), .val (.long P), .second, .val (.long Q), .second, .val (.long R), .second, .val (.long mg), .second, .val (.int (0 : Int32)), .val (.long mg), .second, .val (.double mm), .second, .val (.double mm), .second, .val (.double (FP.l2d Q)), .second, .val (.double (FP.dadd (FP.l2d Q) (4602678819172646912 : UInt64))), .second] [(.int (lcmpW ((2 : Int64) * R) P))] _
            exact kt
          by_cases hc139 : P < ((2 : Int64) * R)
          ·
            have W140 : ∀ zQ, SS p e below T105 m 216 #[.val (.long a), .second, .val (.long bb), .second, .val (.long cc), .second, .val (.long nanos), .second, .val (.int sign), .val (.long P), .second, .val (.long Q), .second, .val (.long R), .second, .val (.long mg), .second, .val (.int (0 : Int32)), .val (.long mg), .second, .val (.double mm), .second, .val (.double mm), .second, .val (.double (FP.l2d Q)), .second, .val (.double (FP.dadd (FP.l2d Q) (4602678819172646912 : UInt64))), .second] [(.int (1 : Int32))] zQ → Steps p.tables e below (s₁.setTop (entryFrame m #[(.long a), (.long bb), (.long cc), (.long nanos), (.int sign)] maxLocals)) zQ := by
              intro tt kt
              refine W138 tt ?_
              refine XS.ifNo X105.here hx rfl (hb hby at_202) rfl ((if0 _ _).trans (tlt ((lw_gt _ _).mpr hc139)).2.2.2) ?_
              show SS p e below T105 m 205 #[.val (.long a), .second, .val (.long bb), .second, .val (.long cc), .second, .val (.long nanos), .second, .val (.int sign), .val (.long P), .second, .val (.long Q), .second, .val (.long R), .second, .val (.long mg), .second, .val (.int (0 : Int32)), .val (.long mg), .second, .val (.double mm), .second, .val (.double mm), .second, .val (.double (FP.l2d Q)), .second, .val (.double (FP.dadd (FP.l2d Q) (4602678819172646912 : UInt64))), .second] [] _
              refine XS.dload X105.here hx rfl (hb hby at_205) rfl ?_
              show SS p e below T105 m 207 #[.val (.long a), .second, .val (.long bb), .second, .val (.long cc), .second, .val (.long nanos), .second, .val (.int sign), .val (.long P), .second, .val (.long Q), .second, .val (.long R), .second, .val (.long mg), .second, .val (.int (0 : Int32)), .val (.long mg), .second, .val (.double mm), .second, .val (.double mm), .second, .val (.double (FP.l2d Q)), .second, .val (.double (FP.dadd (FP.l2d Q) (4602678819172646912 : UInt64))), .second] [(.double mm)] _
              refine XS.dload X105.here hx rfl (hb hby at_207) rfl ?_
              show SS p e below T105 m 209 #[.val (.long a), .second, .val (.long bb), .second, .val (.long cc), .second, .val (.long nanos), .second, .val (.int sign), .val (.long P), .second, .val (.long Q), .second, .val (.long R), .second, .val (.long mg), .second, .val (.int (0 : Int32)), .val (.long mg), .second, .val (.double mm), .second, .val (.double mm), .second, .val (.double (FP.l2d Q)), .second, .val (.double (FP.dadd (FP.l2d Q) (4602678819172646912 : UInt64))), .second] [(.double (FP.dadd (FP.l2d Q) (4602678819172646912 : UInt64))), (.double mm)] _
              refine XS.dcmpS X105.here hx rfl (hb hby at_209) rfl rfl ?_
              show SS p e below T105 m 210 #[.val (.long a), .second, .val (.long bb), .second, .val (.long cc), .second, .val (.long nanos), .second, .val (.int sign), .val (.long P), .second, .val (.long Q), .second, .val (.long R), .second, .val (.long mg), .second, .val (.int (0 : Int32)), .val (.long mg), .second, .val (.double mm), .second, .val (.double mm), .second, .val (.double (FP.l2d Q)), .second, .val (.double (FP.dadd (FP.l2d Q) (4602678819172646912 : UInt64))), .second] [(.int (cmpValue (FP.dcmp mm (FP.dadd (FP.l2d Q) (4602678819172646912 : UInt64))) .l))] _
              refine XS.ifYes X105.here hx rfl (pc0 := 210) (pc' := 215) rfl (hb hby at_210) rfl ((if0 _ _).trans (tlt (hD.2.2.2.2.2 hc139)).2.2.1) (by decide) (by decide) ?_
              show SS p e below T105 m 215 #[.val (.long a), .second, .val (.long bb), .second, .val (.long cc), .second, .val (.long nanos), .second, .val (.int sign), .val (.long P), .second, .val (.long Q), .second, .val (.long R), .second, .val (.long mg), .second, .val (.int (0 : Int32)), .val (.long mg), .second, .val (.double mm), .second, .val (.double mm), .second, .val (.double (FP.l2d Q)), .second, .val (.double (FP.dadd (FP.l2d Q) (4602678819172646912 : UInt64))), .second] [] _
              refine XS.iconst X105.here hx rfl (hb hby at_215) ?_
              show SS p e below T105 m 216 #[.val (.long a), .second, .val (.long bb), .second, .val (.long cc), .second, .val (.long nanos), .second, .val (.int sign), .val (.long P), .second, .val (.long Q), .second, .val (.long R), .second, .val (.long mg), .second, .val (.int (0 : Int32)), .val (.long mg), .second, .val (.double mm), .second, .val (.double mm), .second, .val (.double (FP.l2d Q)), .second, .val (.double (FP.dadd (FP.l2d Q) (4602678819172646912 : UInt64))), .second] [(.int (1 : Int32))] _
              exact kt
            obtain ⟨fs, hr, hrun, hended, hW, hsame⟩ := X105.leave (v := some (.int (nar .boolean (1 : Int32)))) (fun h => by rw [Bd.returns] at h; cases h)
            refine ⟨_, _, W140 _ (retN X105 hx (t := .boolean) Bd.returns (by simp) (hb hby at_216) hr), hrun, hended, _, _, rfl, ?_, ⟨_, rfl⟩, hW, hsame.mono (by decide) (by decide)⟩
            show Q_law Z a bb cc nanos sign h0 n0 _ T105.heap _
            rw [eq105]
            exact ⟨rfl, N105, (Keep.trans (Keep.trans (Keep.refl h0 []) K103 all0) K104 (allS (Or.inr (Nat.le_of_eq g103.symm)) all0))⟩
          ·
            have W141 : ∀ zQ, SS p e below T105 m 216 #[.val (.long a), .second, .val (.long bb), .second, .val (.long cc), .second, .val (.long nanos), .second, .val (.int sign), .val (.long P), .second, .val (.long Q), .second, .val (.long R), .second, .val (.long mg), .second, .val (.int (0 : Int32)), .val (.long mg), .second, .val (.double mm), .second, .val (.double mm), .second, .val (.double (FP.l2d Q)), .second, .val (.double (FP.dadd (FP.l2d Q) (4602678819172646912 : UInt64))), .second] [(.int (1 : Int32))] zQ → Steps p.tables e below (s₁.setTop (entryFrame m #[(.long a), (.long bb), (.long cc), (.long nanos), (.int sign)] maxLocals)) zQ := by
              intro tt kt
              refine W138 tt ?_
              refine XS.ifYes X105.here hx rfl (pc0 := 202) (pc' := 215) rfl (hb hby at_202) rfl ((if0 _ _).trans (flt (fun q => hc139 ((lw_gt _ _).mp q))).2.2.2) (by decide) (by decide) ?_
              show SS p e below T105 m 215 #[.val (.long a), .second, .val (.long bb), .second, .val (.long cc), .second, .val (.long nanos), .second, .val (.int sign), .val (.long P), .second, .val (.long Q), .second, .val (.long R), .second, .val (.long mg), .second, .val (.int (0 : Int32)), .val (.long mg), .second, .val (.double mm), .second, .val (.double mm), .second, .val (.double (FP.l2d Q)), .second, .val (.double (FP.dadd (FP.l2d Q) (4602678819172646912 : UInt64))), .second] [] _
              refine XS.iconst X105.here hx rfl (hb hby at_215) ?_
              show SS p e below T105 m 216 #[.val (.long a), .second, .val (.long bb), .second, .val (.long cc), .second, .val (.long nanos), .second, .val (.int sign), .val (.long P), .second, .val (.long Q), .second, .val (.long R), .second, .val (.long mg), .second, .val (.int (0 : Int32)), .val (.long mg), .second, .val (.double mm), .second, .val (.double mm), .second, .val (.double (FP.l2d Q)), .second, .val (.double (FP.dadd (FP.l2d Q) (4602678819172646912 : UInt64))), .second] [(.int (1 : Int32))] _
              exact kt
            obtain ⟨fs, hr, hrun, hended, hW, hsame⟩ := X105.leave (v := some (.int (nar .boolean (1 : Int32)))) (fun h => by rw [Bd.returns] at h; cases h)
            refine ⟨_, _, W141 _ (retN X105 hx (t := .boolean) Bd.returns (by simp) (hb hby at_216) hr), hrun, hended, _, _, rfl, ?_, ⟨_, rfl⟩, hW, hsame.mono (by decide) (by decide)⟩
            show Q_law Z a bb cc nanos sign h0 n0 _ T105.heap _
            rw [eq105]
            exact ⟨rfl, N105, (Keep.trans (Keep.trans (Keep.refl h0 []) K103 all0) K104 (allS (Or.inr (Nat.le_of_eq g103.symm)) all0))⟩
      ·
        have W142 : ∀ zQ, SS p e below T105 m 180 #[.val (.long a), .second, .val (.long bb), .second, .val (.long cc), .second, .val (.long nanos), .second, .val (.int sign), .val (.long P), .second, .val (.long Q), .second, .val (.long R), .second, .val (.long mg), .second, .val (.int (0 : Int32)), .val (.long mg), .second, .val (.double mm), .second, .val (.double mm), .second, .val (.double (FP.l2d Q)), .second, .val (.double (FP.dadd (FP.l2d Q) (4602678819172646912 : UInt64))), .second] [(.int (lcmpW ((2 : Int64) * R) P))] zQ → Steps p.tables e below (s₁.setTop (entryFrame m #[(.long a), (.long bb), (.long cc), (.long nanos), (.int sign)] maxLocals)) zQ := by
          intro tt kt
          refine W130 tt ?_
          refine XS.ifYes X105.here hx rfl (pc0 := 158) (pc' := 171) rfl (hb hby at_158) rfl ((if0 _ _).trans (feq (fun q => hc131 ((lw_eq _ _).mp q))).2) (by decide) (by decide) ?_
          show SS p e below T105 m 171 #[.val (.long a), .second, .val (.long bb), .second, .val (.long cc), .second, .val (.long nanos), .second, .val (.int sign), .val (.long P), .second, .val (.long Q), .second, .val (.long R), .second, .val (.long mg), .second, .val (.int (0 : Int32)), .val (.long mg), .second, .val (.double mm), .second, .val (.double mm), .second, .val (.double (FP.l2d Q)), .second, .val (.double (FP.dadd (FP.l2d Q) (4602678819172646912 : UInt64))), .second] [] _
          refine X105.ldc2Long hx hown (mvT hZ (w28 hw)) (g := (mkF m 171 #[.val (.long a), .second, .val (.long bb), .second, .val (.long cc), .second, .val (.long nanos), .second, .val (.int sign), .val (.long P), .second, .val (.long Q), .second, .val (.long R), .second, .val (.long mg), .second, .val (.int (0 : Int32)), .val (.long mg), .second, .val (.double mm), .second, .val (.double mm), .second, .val (.double (FP.l2d Q)), .second, .val (.double (FP.dadd (FP.l2d Q) (4602678819172646912 : UInt64))), .second] [])) rfl (hb hby at_171) _ ?_
          show SS p e below T105 m 174 #[.val (.long a), .second, .val (.long bb), .second, .val (.long cc), .second, .val (.long nanos), .second, .val (.int sign), .val (.long P), .second, .val (.long Q), .second, .val (.long R), .second, .val (.long mg), .second, .val (.int (0 : Int32)), .val (.long mg), .second, .val (.double mm), .second, .val (.double mm), .second, .val (.double (FP.l2d Q)), .second, .val (.double (FP.dadd (FP.l2d Q) (4602678819172646912 : UInt64))), .second] [(.long (2 : Int64))] _
          refine XS.lload X105.here hx rfl (hb hby at_174) rfl ?_
          show SS p e below T105 m 176 #[.val (.long a), .second, .val (.long bb), .second, .val (.long cc), .second, .val (.long nanos), .second, .val (.int sign), .val (.long P), .second, .val (.long Q), .second, .val (.long R), .second, .val (.long mg), .second, .val (.int (0 : Int32)), .val (.long mg), .second, .val (.double mm), .second, .val (.double mm), .second, .val (.double (FP.l2d Q)), .second, .val (.double (FP.dadd (FP.l2d Q) (4602678819172646912 : UInt64))), .second] [(.long R), (.long (2 : Int64))] _
          refine XS.lmul X105.here hx rfl (hb hby at_176) rfl ?_
          show SS p e below T105 m 177 #[.val (.long a), .second, .val (.long bb), .second, .val (.long cc), .second, .val (.long nanos), .second, .val (.int sign), .val (.long P), .second, .val (.long Q), .second, .val (.long R), .second, .val (.long mg), .second, .val (.int (0 : Int32)), .val (.long mg), .second, .val (.double mm), .second, .val (.double mm), .second, .val (.double (FP.l2d Q)), .second, .val (.double (FP.dadd (FP.l2d Q) (4602678819172646912 : UInt64))), .second] [(.long ((2 : Int64) * R))] _
          refine XS.lload X105.here hx rfl (hb hby at_177) rfl ?_
          show SS p e below T105 m 179 #[.val (.long a), .second, .val (.long bb), .second, .val (.long cc), .second, .val (.long nanos), .second, .val (.int sign), .val (.long P), .second, .val (.long Q), .second, .val (.long R), .second, .val (.long mg), .second, .val (.int (0 : Int32)), .val (.long mg), .second, .val (.double mm), .second, .val (.double mm), .second, .val (.double (FP.l2d Q)), .second, .val (.double (FP.dadd (FP.l2d Q) (4602678819172646912 : UInt64))), .second] [(.long P), (.long ((2 : Int64) * R))] _
          refine XS.lcmp X105.here hx rfl (hb hby at_179) rfl ?_
          show SS p e below T105 m 180 #[.val (.long a), .second, .val (.long bb), .second, .val (.long cc), .second, .val (.long nanos), .second, .val (.int sign), .val (.long P), .second, .val (.long Q), .second, .val (.long R), .second, .val (.long mg), .second, .val (.int (0 : Int32)), .val (.long mg), .second, .val (.double mm), .second, .val (.double mm), .second, .val (.double (FP.l2d Q)), .second, .val (.double (FP.dadd (FP.l2d Q) (4602678819172646912 : UInt64))), .second] [(.int (lcmpW ((2 : Int64) * R) P))] _
          exact kt
        by_cases hc143 : ((2 : Int64) * R) < P
        ·
          have W144 : ∀ zQ, SS p e below T105 m 202 #[.val (.long a), .second, .val (.long bb), .second, .val (.long cc), .second, .val (.long nanos), .second, .val (.int sign), .val (.long P), .second, .val (.long Q), .second, .val (.long R), .second, .val (.long mg), .second, .val (.int (0 : Int32)), .val (.long mg), .second, .val (.double mm), .second, .val (.double mm), .second, .val (.double (FP.l2d Q)), .second, .val (.double (FP.dadd (FP.l2d Q) (4602678819172646912 : UInt64))), .second] [(.int (lcmpW ((2 : Int64) * R) P))] zQ → Steps p.tables e below (s₁.setTop (entryFrame m #[(.long a), (.long bb), (.long cc), (.long nanos), (.int sign)] maxLocals)) zQ := by
            intro tt kt
            refine W142 tt ?_
            refine XS.ifNo X105.here hx rfl (hb hby at_180) rfl ((if0 _ _).trans (tlt ((lw_lt _ _).mpr hc143)).2.1) ?_
            show SS p e below T105 m 183 #[.val (.long a), .second, .val (.long bb), .second, .val (.long cc), .second, .val (.long nanos), .second, .val (.int sign), .val (.long P), .second, .val (.long Q), .second, .val (.long R), .second, .val (.long mg), .second, .val (.int (0 : Int32)), .val (.long mg), .second, .val (.double mm), .second, .val (.double mm), .second, .val (.double (FP.l2d Q)), .second, .val (.double (FP.dadd (FP.l2d Q) (4602678819172646912 : UInt64))), .second] [] _
            refine XS.dload X105.here hx rfl (hb hby at_183) rfl ?_
            show SS p e below T105 m 185 #[.val (.long a), .second, .val (.long bb), .second, .val (.long cc), .second, .val (.long nanos), .second, .val (.int sign), .val (.long P), .second, .val (.long Q), .second, .val (.long R), .second, .val (.long mg), .second, .val (.int (0 : Int32)), .val (.long mg), .second, .val (.double mm), .second, .val (.double mm), .second, .val (.double (FP.l2d Q)), .second, .val (.double (FP.dadd (FP.l2d Q) (4602678819172646912 : UInt64))), .second] [(.double mm)] _
            refine XS.dload X105.here hx rfl (hb hby at_185) rfl ?_
            show SS p e below T105 m 187 #[.val (.long a), .second, .val (.long bb), .second, .val (.long cc), .second, .val (.long nanos), .second, .val (.int sign), .val (.long P), .second, .val (.long Q), .second, .val (.long R), .second, .val (.long mg), .second, .val (.int (0 : Int32)), .val (.long mg), .second, .val (.double mm), .second, .val (.double mm), .second, .val (.double (FP.l2d Q)), .second, .val (.double (FP.dadd (FP.l2d Q) (4602678819172646912 : UInt64))), .second] [(.double (FP.dadd (FP.l2d Q) (4602678819172646912 : UInt64))), (.double mm)] _
            refine XS.dcmpS X105.here hx rfl (hb hby at_187) rfl rfl ?_
            show SS p e below T105 m 188 #[.val (.long a), .second, .val (.long bb), .second, .val (.long cc), .second, .val (.long nanos), .second, .val (.int sign), .val (.long P), .second, .val (.long Q), .second, .val (.long R), .second, .val (.long mg), .second, .val (.int (0 : Int32)), .val (.long mg), .second, .val (.double mm), .second, .val (.double mm), .second, .val (.double (FP.l2d Q)), .second, .val (.double (FP.dadd (FP.l2d Q) (4602678819172646912 : UInt64))), .second] [(.int (cmpValue (FP.dcmp mm (FP.dadd (FP.l2d Q) (4602678819172646912 : UInt64))) .g))] _
            refine XS.ifYes X105.here hx rfl (pc0 := 188) (pc' := 193) rfl (hb hby at_188) rfl ((if0 _ _).trans (tlt (hD.2.2.2.2.1 hc143)).1) (by decide) (by decide) ?_
            show SS p e below T105 m 193 #[.val (.long a), .second, .val (.long bb), .second, .val (.long cc), .second, .val (.long nanos), .second, .val (.int sign), .val (.long P), .second, .val (.long Q), .second, .val (.long R), .second, .val (.long mg), .second, .val (.int (0 : Int32)), .val (.long mg), .second, .val (.double mm), .second, .val (.double mm), .second, .val (.double (FP.l2d Q)), .second, .val (.double (FP.dadd (FP.l2d Q) (4602678819172646912 : UInt64))), .second] [] _
            refine X105.ldc2Long hx hown (mvT hZ (w28 hw)) (g := (mkF m 193 #[.val (.long a), .second, .val (.long bb), .second, .val (.long cc), .second, .val (.long nanos), .second, .val (.int sign), .val (.long P), .second, .val (.long Q), .second, .val (.long R), .second, .val (.long mg), .second, .val (.int (0 : Int32)), .val (.long mg), .second, .val (.double mm), .second, .val (.double mm), .second, .val (.double (FP.l2d Q)), .second, .val (.double (FP.dadd (FP.l2d Q) (4602678819172646912 : UInt64))), .second] [])) rfl (hb hby at_193) _ ?_
            show SS p e below T105 m 196 #[.val (.long a), .second, .val (.long bb), .second, .val (.long cc), .second, .val (.long nanos), .second, .val (.int sign), .val (.long P), .second, .val (.long Q), .second, .val (.long R), .second, .val (.long mg), .second, .val (.int (0 : Int32)), .val (.long mg), .second, .val (.double mm), .second, .val (.double mm), .second, .val (.double (FP.l2d Q)), .second, .val (.double (FP.dadd (FP.l2d Q) (4602678819172646912 : UInt64))), .second] [(.long (2 : Int64))] _
            refine XS.lload X105.here hx rfl (hb hby at_196) rfl ?_
            show SS p e below T105 m 198 #[.val (.long a), .second, .val (.long bb), .second, .val (.long cc), .second, .val (.long nanos), .second, .val (.int sign), .val (.long P), .second, .val (.long Q), .second, .val (.long R), .second, .val (.long mg), .second, .val (.int (0 : Int32)), .val (.long mg), .second, .val (.double mm), .second, .val (.double mm), .second, .val (.double (FP.l2d Q)), .second, .val (.double (FP.dadd (FP.l2d Q) (4602678819172646912 : UInt64))), .second] [(.long R), (.long (2 : Int64))] _
            refine XS.lmul X105.here hx rfl (hb hby at_198) rfl ?_
            show SS p e below T105 m 199 #[.val (.long a), .second, .val (.long bb), .second, .val (.long cc), .second, .val (.long nanos), .second, .val (.int sign), .val (.long P), .second, .val (.long Q), .second, .val (.long R), .second, .val (.long mg), .second, .val (.int (0 : Int32)), .val (.long mg), .second, .val (.double mm), .second, .val (.double mm), .second, .val (.double (FP.l2d Q)), .second, .val (.double (FP.dadd (FP.l2d Q) (4602678819172646912 : UInt64))), .second] [(.long ((2 : Int64) * R))] _
            refine XS.lload X105.here hx rfl (hb hby at_199) rfl ?_
            show SS p e below T105 m 201 #[.val (.long a), .second, .val (.long bb), .second, .val (.long cc), .second, .val (.long nanos), .second, .val (.int sign), .val (.long P), .second, .val (.long Q), .second, .val (.long R), .second, .val (.long mg), .second, .val (.int (0 : Int32)), .val (.long mg), .second, .val (.double mm), .second, .val (.double mm), .second, .val (.double (FP.l2d Q)), .second, .val (.double (FP.dadd (FP.l2d Q) (4602678819172646912 : UInt64))), .second] [(.long P), (.long ((2 : Int64) * R))] _
            refine XS.lcmp X105.here hx rfl (hb hby at_201) rfl ?_
            show SS p e below T105 m 202 #[.val (.long a), .second, .val (.long bb), .second, .val (.long cc), .second, .val (.long nanos), .second, .val (.int sign), .val (.long P), .second, .val (.long Q), .second, .val (.long R), .second, .val (.long mg), .second, .val (.int (0 : Int32)), .val (.long mg), .second, .val (.double mm), .second, .val (.double mm), .second, .val (.double (FP.l2d Q)), .second, .val (.double (FP.dadd (FP.l2d Q) (4602678819172646912 : UInt64))), .second] [(.int (lcmpW ((2 : Int64) * R) P))] _
            exact kt
          by_cases hc145 : P < ((2 : Int64) * R)
          ·
            have W146 : ∀ zQ, SS p e below T105 m 216 #[.val (.long a), .second, .val (.long bb), .second, .val (.long cc), .second, .val (.long nanos), .second, .val (.int sign), .val (.long P), .second, .val (.long Q), .second, .val (.long R), .second, .val (.long mg), .second, .val (.int (0 : Int32)), .val (.long mg), .second, .val (.double mm), .second, .val (.double mm), .second, .val (.double (FP.l2d Q)), .second, .val (.double (FP.dadd (FP.l2d Q) (4602678819172646912 : UInt64))), .second] [(.int (1 : Int32))] zQ → Steps p.tables e below (s₁.setTop (entryFrame m #[(.long a), (.long bb), (.long cc), (.long nanos), (.int sign)] maxLocals)) zQ := by
              intro tt kt
              refine W144 tt ?_
              refine XS.ifNo X105.here hx rfl (hb hby at_202) rfl ((if0 _ _).trans (tlt ((lw_gt _ _).mpr hc145)).2.2.2) ?_
              show SS p e below T105 m 205 #[.val (.long a), .second, .val (.long bb), .second, .val (.long cc), .second, .val (.long nanos), .second, .val (.int sign), .val (.long P), .second, .val (.long Q), .second, .val (.long R), .second, .val (.long mg), .second, .val (.int (0 : Int32)), .val (.long mg), .second, .val (.double mm), .second, .val (.double mm), .second, .val (.double (FP.l2d Q)), .second, .val (.double (FP.dadd (FP.l2d Q) (4602678819172646912 : UInt64))), .second] [] _
              refine XS.dload X105.here hx rfl (hb hby at_205) rfl ?_
              show SS p e below T105 m 207 #[.val (.long a), .second, .val (.long bb), .second, .val (.long cc), .second, .val (.long nanos), .second, .val (.int sign), .val (.long P), .second, .val (.long Q), .second, .val (.long R), .second, .val (.long mg), .second, .val (.int (0 : Int32)), .val (.long mg), .second, .val (.double mm), .second, .val (.double mm), .second, .val (.double (FP.l2d Q)), .second, .val (.double (FP.dadd (FP.l2d Q) (4602678819172646912 : UInt64))), .second] [(.double mm)] _
              refine XS.dload X105.here hx rfl (hb hby at_207) rfl ?_
              show SS p e below T105 m 209 #[.val (.long a), .second, .val (.long bb), .second, .val (.long cc), .second, .val (.long nanos), .second, .val (.int sign), .val (.long P), .second, .val (.long Q), .second, .val (.long R), .second, .val (.long mg), .second, .val (.int (0 : Int32)), .val (.long mg), .second, .val (.double mm), .second, .val (.double mm), .second, .val (.double (FP.l2d Q)), .second, .val (.double (FP.dadd (FP.l2d Q) (4602678819172646912 : UInt64))), .second] [(.double (FP.dadd (FP.l2d Q) (4602678819172646912 : UInt64))), (.double mm)] _
              refine XS.dcmpS X105.here hx rfl (hb hby at_209) rfl rfl ?_
              show SS p e below T105 m 210 #[.val (.long a), .second, .val (.long bb), .second, .val (.long cc), .second, .val (.long nanos), .second, .val (.int sign), .val (.long P), .second, .val (.long Q), .second, .val (.long R), .second, .val (.long mg), .second, .val (.int (0 : Int32)), .val (.long mg), .second, .val (.double mm), .second, .val (.double mm), .second, .val (.double (FP.l2d Q)), .second, .val (.double (FP.dadd (FP.l2d Q) (4602678819172646912 : UInt64))), .second] [(.int (cmpValue (FP.dcmp mm (FP.dadd (FP.l2d Q) (4602678819172646912 : UInt64))) .l))] _
              refine XS.ifYes X105.here hx rfl (pc0 := 210) (pc' := 215) rfl (hb hby at_210) rfl ((if0 _ _).trans (tlt (hD.2.2.2.2.2 hc145)).2.2.1) (by decide) (by decide) ?_
              show SS p e below T105 m 215 #[.val (.long a), .second, .val (.long bb), .second, .val (.long cc), .second, .val (.long nanos), .second, .val (.int sign), .val (.long P), .second, .val (.long Q), .second, .val (.long R), .second, .val (.long mg), .second, .val (.int (0 : Int32)), .val (.long mg), .second, .val (.double mm), .second, .val (.double mm), .second, .val (.double (FP.l2d Q)), .second, .val (.double (FP.dadd (FP.l2d Q) (4602678819172646912 : UInt64))), .second] [] _
              refine XS.iconst X105.here hx rfl (hb hby at_215) ?_
              show SS p e below T105 m 216 #[.val (.long a), .second, .val (.long bb), .second, .val (.long cc), .second, .val (.long nanos), .second, .val (.int sign), .val (.long P), .second, .val (.long Q), .second, .val (.long R), .second, .val (.long mg), .second, .val (.int (0 : Int32)), .val (.long mg), .second, .val (.double mm), .second, .val (.double mm), .second, .val (.double (FP.l2d Q)), .second, .val (.double (FP.dadd (FP.l2d Q) (4602678819172646912 : UInt64))), .second] [(.int (1 : Int32))] _
              exact kt
            obtain ⟨fs, hr, hrun, hended, hW, hsame⟩ := X105.leave (v := some (.int (nar .boolean (1 : Int32)))) (fun h => by rw [Bd.returns] at h; cases h)
            refine ⟨_, _, W146 _ (retN X105 hx (t := .boolean) Bd.returns (by simp) (hb hby at_216) hr), hrun, hended, _, _, rfl, ?_, ⟨_, rfl⟩, hW, hsame.mono (by decide) (by decide)⟩
            show Q_law Z a bb cc nanos sign h0 n0 _ T105.heap _
            rw [eq105]
            exact ⟨rfl, N105, (Keep.trans (Keep.trans (Keep.refl h0 []) K103 all0) K104 (allS (Or.inr (Nat.le_of_eq g103.symm)) all0))⟩
          ·
            have W147 : ∀ zQ, SS p e below T105 m 216 #[.val (.long a), .second, .val (.long bb), .second, .val (.long cc), .second, .val (.long nanos), .second, .val (.int sign), .val (.long P), .second, .val (.long Q), .second, .val (.long R), .second, .val (.long mg), .second, .val (.int (0 : Int32)), .val (.long mg), .second, .val (.double mm), .second, .val (.double mm), .second, .val (.double (FP.l2d Q)), .second, .val (.double (FP.dadd (FP.l2d Q) (4602678819172646912 : UInt64))), .second] [(.int (1 : Int32))] zQ → Steps p.tables e below (s₁.setTop (entryFrame m #[(.long a), (.long bb), (.long cc), (.long nanos), (.int sign)] maxLocals)) zQ := by
              intro tt kt
              refine W144 tt ?_
              refine XS.ifYes X105.here hx rfl (pc0 := 202) (pc' := 215) rfl (hb hby at_202) rfl ((if0 _ _).trans (flt (fun q => hc145 ((lw_gt _ _).mp q))).2.2.2) (by decide) (by decide) ?_
              show SS p e below T105 m 215 #[.val (.long a), .second, .val (.long bb), .second, .val (.long cc), .second, .val (.long nanos), .second, .val (.int sign), .val (.long P), .second, .val (.long Q), .second, .val (.long R), .second, .val (.long mg), .second, .val (.int (0 : Int32)), .val (.long mg), .second, .val (.double mm), .second, .val (.double mm), .second, .val (.double (FP.l2d Q)), .second, .val (.double (FP.dadd (FP.l2d Q) (4602678819172646912 : UInt64))), .second] [] _
              refine XS.iconst X105.here hx rfl (hb hby at_215) ?_
              show SS p e below T105 m 216 #[.val (.long a), .second, .val (.long bb), .second, .val (.long cc), .second, .val (.long nanos), .second, .val (.int sign), .val (.long P), .second, .val (.long Q), .second, .val (.long R), .second, .val (.long mg), .second, .val (.int (0 : Int32)), .val (.long mg), .second, .val (.double mm), .second, .val (.double mm), .second, .val (.double (FP.l2d Q)), .second, .val (.double (FP.dadd (FP.l2d Q) (4602678819172646912 : UInt64))), .second] [(.int (1 : Int32))] _
              exact kt
            obtain ⟨fs, hr, hrun, hended, hW, hsame⟩ := X105.leave (v := some (.int (nar .boolean (1 : Int32)))) (fun h => by rw [Bd.returns] at h; cases h)
            refine ⟨_, _, W147 _ (retN X105 hx (t := .boolean) Bd.returns (by simp) (hb hby at_216) hr), hrun, hended, _, _, rfl, ?_, ⟨_, rfl⟩, hW, hsame.mono (by decide) (by decide)⟩
            show Q_law Z a bb cc nanos sign h0 n0 _ T105.heap _
            rw [eq105]
            exact ⟨rfl, N105, (Keep.trans (Keep.trans (Keep.refl h0 []) K103 all0) K104 (allS (Or.inr (Nat.le_of_eq g103.symm)) all0))⟩
        ·
          have W148 : ∀ zQ, SS p e below T105 m 202 #[.val (.long a), .second, .val (.long bb), .second, .val (.long cc), .second, .val (.long nanos), .second, .val (.int sign), .val (.long P), .second, .val (.long Q), .second, .val (.long R), .second, .val (.long mg), .second, .val (.int (0 : Int32)), .val (.long mg), .second, .val (.double mm), .second, .val (.double mm), .second, .val (.double (FP.l2d Q)), .second, .val (.double (FP.dadd (FP.l2d Q) (4602678819172646912 : UInt64))), .second] [(.int (lcmpW ((2 : Int64) * R) P))] zQ → Steps p.tables e below (s₁.setTop (entryFrame m #[(.long a), (.long bb), (.long cc), (.long nanos), (.int sign)] maxLocals)) zQ := by
            intro tt kt
            refine W142 tt ?_
            refine XS.ifYes X105.here hx rfl (pc0 := 180) (pc' := 193) rfl (hb hby at_180) rfl ((if0 _ _).trans (flt (fun q => hc143 ((lw_lt _ _).mp q))).2.1) (by decide) (by decide) ?_
            show SS p e below T105 m 193 #[.val (.long a), .second, .val (.long bb), .second, .val (.long cc), .second, .val (.long nanos), .second, .val (.int sign), .val (.long P), .second, .val (.long Q), .second, .val (.long R), .second, .val (.long mg), .second, .val (.int (0 : Int32)), .val (.long mg), .second, .val (.double mm), .second, .val (.double mm), .second, .val (.double (FP.l2d Q)), .second, .val (.double (FP.dadd (FP.l2d Q) (4602678819172646912 : UInt64))), .second] [] _
            refine X105.ldc2Long hx hown (mvT hZ (w28 hw)) (g := (mkF m 193 #[.val (.long a), .second, .val (.long bb), .second, .val (.long cc), .second, .val (.long nanos), .second, .val (.int sign), .val (.long P), .second, .val (.long Q), .second, .val (.long R), .second, .val (.long mg), .second, .val (.int (0 : Int32)), .val (.long mg), .second, .val (.double mm), .second, .val (.double mm), .second, .val (.double (FP.l2d Q)), .second, .val (.double (FP.dadd (FP.l2d Q) (4602678819172646912 : UInt64))), .second] [])) rfl (hb hby at_193) _ ?_
            show SS p e below T105 m 196 #[.val (.long a), .second, .val (.long bb), .second, .val (.long cc), .second, .val (.long nanos), .second, .val (.int sign), .val (.long P), .second, .val (.long Q), .second, .val (.long R), .second, .val (.long mg), .second, .val (.int (0 : Int32)), .val (.long mg), .second, .val (.double mm), .second, .val (.double mm), .second, .val (.double (FP.l2d Q)), .second, .val (.double (FP.dadd (FP.l2d Q) (4602678819172646912 : UInt64))), .second] [(.long (2 : Int64))] _
            refine XS.lload X105.here hx rfl (hb hby at_196) rfl ?_
            show SS p e below T105 m 198 #[.val (.long a), .second, .val (.long bb), .second, .val (.long cc), .second, .val (.long nanos), .second, .val (.int sign), .val (.long P), .second, .val (.long Q), .second, .val (.long R), .second, .val (.long mg), .second, .val (.int (0 : Int32)), .val (.long mg), .second, .val (.double mm), .second, .val (.double mm), .second, .val (.double (FP.l2d Q)), .second, .val (.double (FP.dadd (FP.l2d Q) (4602678819172646912 : UInt64))), .second] [(.long R), (.long (2 : Int64))] _
            refine XS.lmul X105.here hx rfl (hb hby at_198) rfl ?_
            show SS p e below T105 m 199 #[.val (.long a), .second, .val (.long bb), .second, .val (.long cc), .second, .val (.long nanos), .second, .val (.int sign), .val (.long P), .second, .val (.long Q), .second, .val (.long R), .second, .val (.long mg), .second, .val (.int (0 : Int32)), .val (.long mg), .second, .val (.double mm), .second, .val (.double mm), .second, .val (.double (FP.l2d Q)), .second, .val (.double (FP.dadd (FP.l2d Q) (4602678819172646912 : UInt64))), .second] [(.long ((2 : Int64) * R))] _
            refine XS.lload X105.here hx rfl (hb hby at_199) rfl ?_
            show SS p e below T105 m 201 #[.val (.long a), .second, .val (.long bb), .second, .val (.long cc), .second, .val (.long nanos), .second, .val (.int sign), .val (.long P), .second, .val (.long Q), .second, .val (.long R), .second, .val (.long mg), .second, .val (.int (0 : Int32)), .val (.long mg), .second, .val (.double mm), .second, .val (.double mm), .second, .val (.double (FP.l2d Q)), .second, .val (.double (FP.dadd (FP.l2d Q) (4602678819172646912 : UInt64))), .second] [(.long P), (.long ((2 : Int64) * R))] _
            refine XS.lcmp X105.here hx rfl (hb hby at_201) rfl ?_
            show SS p e below T105 m 202 #[.val (.long a), .second, .val (.long bb), .second, .val (.long cc), .second, .val (.long nanos), .second, .val (.int sign), .val (.long P), .second, .val (.long Q), .second, .val (.long R), .second, .val (.long mg), .second, .val (.int (0 : Int32)), .val (.long mg), .second, .val (.double mm), .second, .val (.double mm), .second, .val (.double (FP.l2d Q)), .second, .val (.double (FP.dadd (FP.l2d Q) (4602678819172646912 : UInt64))), .second] [(.int (lcmpW ((2 : Int64) * R) P))] _
            exact kt
          by_cases hc149 : P < ((2 : Int64) * R)
          ·
            have W150 : ∀ zQ, SS p e below T105 m 216 #[.val (.long a), .second, .val (.long bb), .second, .val (.long cc), .second, .val (.long nanos), .second, .val (.int sign), .val (.long P), .second, .val (.long Q), .second, .val (.long R), .second, .val (.long mg), .second, .val (.int (0 : Int32)), .val (.long mg), .second, .val (.double mm), .second, .val (.double mm), .second, .val (.double (FP.l2d Q)), .second, .val (.double (FP.dadd (FP.l2d Q) (4602678819172646912 : UInt64))), .second] [(.int (1 : Int32))] zQ → Steps p.tables e below (s₁.setTop (entryFrame m #[(.long a), (.long bb), (.long cc), (.long nanos), (.int sign)] maxLocals)) zQ := by
              intro tt kt
              refine W148 tt ?_
              refine XS.ifNo X105.here hx rfl (hb hby at_202) rfl ((if0 _ _).trans (tlt ((lw_gt _ _).mpr hc149)).2.2.2) ?_
              show SS p e below T105 m 205 #[.val (.long a), .second, .val (.long bb), .second, .val (.long cc), .second, .val (.long nanos), .second, .val (.int sign), .val (.long P), .second, .val (.long Q), .second, .val (.long R), .second, .val (.long mg), .second, .val (.int (0 : Int32)), .val (.long mg), .second, .val (.double mm), .second, .val (.double mm), .second, .val (.double (FP.l2d Q)), .second, .val (.double (FP.dadd (FP.l2d Q) (4602678819172646912 : UInt64))), .second] [] _
              refine XS.dload X105.here hx rfl (hb hby at_205) rfl ?_
              show SS p e below T105 m 207 #[.val (.long a), .second, .val (.long bb), .second, .val (.long cc), .second, .val (.long nanos), .second, .val (.int sign), .val (.long P), .second, .val (.long Q), .second, .val (.long R), .second, .val (.long mg), .second, .val (.int (0 : Int32)), .val (.long mg), .second, .val (.double mm), .second, .val (.double mm), .second, .val (.double (FP.l2d Q)), .second, .val (.double (FP.dadd (FP.l2d Q) (4602678819172646912 : UInt64))), .second] [(.double mm)] _
              refine XS.dload X105.here hx rfl (hb hby at_207) rfl ?_
              show SS p e below T105 m 209 #[.val (.long a), .second, .val (.long bb), .second, .val (.long cc), .second, .val (.long nanos), .second, .val (.int sign), .val (.long P), .second, .val (.long Q), .second, .val (.long R), .second, .val (.long mg), .second, .val (.int (0 : Int32)), .val (.long mg), .second, .val (.double mm), .second, .val (.double mm), .second, .val (.double (FP.l2d Q)), .second, .val (.double (FP.dadd (FP.l2d Q) (4602678819172646912 : UInt64))), .second] [(.double (FP.dadd (FP.l2d Q) (4602678819172646912 : UInt64))), (.double mm)] _
              refine XS.dcmpS X105.here hx rfl (hb hby at_209) rfl rfl ?_
              show SS p e below T105 m 210 #[.val (.long a), .second, .val (.long bb), .second, .val (.long cc), .second, .val (.long nanos), .second, .val (.int sign), .val (.long P), .second, .val (.long Q), .second, .val (.long R), .second, .val (.long mg), .second, .val (.int (0 : Int32)), .val (.long mg), .second, .val (.double mm), .second, .val (.double mm), .second, .val (.double (FP.l2d Q)), .second, .val (.double (FP.dadd (FP.l2d Q) (4602678819172646912 : UInt64))), .second] [(.int (cmpValue (FP.dcmp mm (FP.dadd (FP.l2d Q) (4602678819172646912 : UInt64))) .l))] _
              refine XS.ifYes X105.here hx rfl (pc0 := 210) (pc' := 215) rfl (hb hby at_210) rfl ((if0 _ _).trans (tlt (hD.2.2.2.2.2 hc149)).2.2.1) (by decide) (by decide) ?_
              show SS p e below T105 m 215 #[.val (.long a), .second, .val (.long bb), .second, .val (.long cc), .second, .val (.long nanos), .second, .val (.int sign), .val (.long P), .second, .val (.long Q), .second, .val (.long R), .second, .val (.long mg), .second, .val (.int (0 : Int32)), .val (.long mg), .second, .val (.double mm), .second, .val (.double mm), .second, .val (.double (FP.l2d Q)), .second, .val (.double (FP.dadd (FP.l2d Q) (4602678819172646912 : UInt64))), .second] [] _
              refine XS.iconst X105.here hx rfl (hb hby at_215) ?_
              show SS p e below T105 m 216 #[.val (.long a), .second, .val (.long bb), .second, .val (.long cc), .second, .val (.long nanos), .second, .val (.int sign), .val (.long P), .second, .val (.long Q), .second, .val (.long R), .second, .val (.long mg), .second, .val (.int (0 : Int32)), .val (.long mg), .second, .val (.double mm), .second, .val (.double mm), .second, .val (.double (FP.l2d Q)), .second, .val (.double (FP.dadd (FP.l2d Q) (4602678819172646912 : UInt64))), .second] [(.int (1 : Int32))] _
              exact kt
            obtain ⟨fs, hr, hrun, hended, hW, hsame⟩ := X105.leave (v := some (.int (nar .boolean (1 : Int32)))) (fun h => by rw [Bd.returns] at h; cases h)
            refine ⟨_, _, W150 _ (retN X105 hx (t := .boolean) Bd.returns (by simp) (hb hby at_216) hr), hrun, hended, _, _, rfl, ?_, ⟨_, rfl⟩, hW, hsame.mono (by decide) (by decide)⟩
            show Q_law Z a bb cc nanos sign h0 n0 _ T105.heap _
            rw [eq105]
            exact ⟨rfl, N105, (Keep.trans (Keep.trans (Keep.refl h0 []) K103 all0) K104 (allS (Or.inr (Nat.le_of_eq g103.symm)) all0))⟩
          ·
            have W151 : ∀ zQ, SS p e below T105 m 216 #[.val (.long a), .second, .val (.long bb), .second, .val (.long cc), .second, .val (.long nanos), .second, .val (.int sign), .val (.long P), .second, .val (.long Q), .second, .val (.long R), .second, .val (.long mg), .second, .val (.int (0 : Int32)), .val (.long mg), .second, .val (.double mm), .second, .val (.double mm), .second, .val (.double (FP.l2d Q)), .second, .val (.double (FP.dadd (FP.l2d Q) (4602678819172646912 : UInt64))), .second] [(.int (1 : Int32))] zQ → Steps p.tables e below (s₁.setTop (entryFrame m #[(.long a), (.long bb), (.long cc), (.long nanos), (.int sign)] maxLocals)) zQ := by
              intro tt kt
              refine W148 tt ?_
              refine XS.ifYes X105.here hx rfl (pc0 := 202) (pc' := 215) rfl (hb hby at_202) rfl ((if0 _ _).trans (flt (fun q => hc149 ((lw_gt _ _).mp q))).2.2.2) (by decide) (by decide) ?_
              show SS p e below T105 m 215 #[.val (.long a), .second, .val (.long bb), .second, .val (.long cc), .second, .val (.long nanos), .second, .val (.int sign), .val (.long P), .second, .val (.long Q), .second, .val (.long R), .second, .val (.long mg), .second, .val (.int (0 : Int32)), .val (.long mg), .second, .val (.double mm), .second, .val (.double mm), .second, .val (.double (FP.l2d Q)), .second, .val (.double (FP.dadd (FP.l2d Q) (4602678819172646912 : UInt64))), .second] [] _
              refine XS.iconst X105.here hx rfl (hb hby at_215) ?_
              show SS p e below T105 m 216 #[.val (.long a), .second, .val (.long bb), .second, .val (.long cc), .second, .val (.long nanos), .second, .val (.int sign), .val (.long P), .second, .val (.long Q), .second, .val (.long R), .second, .val (.long mg), .second, .val (.int (0 : Int32)), .val (.long mg), .second, .val (.double mm), .second, .val (.double mm), .second, .val (.double (FP.l2d Q)), .second, .val (.double (FP.dadd (FP.l2d Q) (4602678819172646912 : UInt64))), .second] [(.int (1 : Int32))] _
              exact kt
            obtain ⟨fs, hr, hrun, hended, hW, hsame⟩ := X105.leave (v := some (.int (nar .boolean (1 : Int32)))) (fun h => by rw [Bd.returns] at h; cases h)
            refine ⟨_, _, W151 _ (retN X105 hx (t := .boolean) Bd.returns (by simp) (hb hby at_216) hr), hrun, hended, _, _, rfl, ?_, ⟨_, rfl⟩, hW, hsame.mono (by decide) (by decide)⟩
            show Q_law Z a bb cc nanos sign h0 n0 _ T105.heap _
            rw [eq105]
            exact ⟨rfl, N105, (Keep.trans (Keep.trans (Keep.refl h0 []) K103 all0) K104 (allS (Or.inr (Nat.le_of_eq g103.symm)) all0))⟩
  ·
    obtain ⟨T152, h152, X152, e152, E152, A152, D152, U152, st152⟩ := newO X0 hx hZ hown (w2 hw) (w3 hw) (w4 hw) e0 (g := (mkF m 66 #[.val (.long a), .second, .val (.long bb), .second, .val (.long cc), .second, .val (.long nanos), .second, .val (.int sign), .val (.long P), .second, .val (.long Q), .second, .val (.long R), .second, .val (.long mg), .second, .val (.int (1 : Int32)), .val (.long (-mg)), .second, .unset, .unset, .unset, .unset, .unset, .unset, .unset, .unset] [])) rfl (hb hby at_66) (by decide) (by decide)
    obtain ⟨b152, g152⟩ : ∃ z, z = h0.size := ⟨_, rfl⟩
    rw [← g152] at A152 D152 U152 st152
    have K152 := (Keep.refl h0 []).ext E152
    have G152_picks : Fld Z h152 b152 "com/example/evenkeel/evenkeel/cli/PickCost" "picks" "J" (.long (0 : Int64)) := D152 (Or.inr (w17 hw)) (ty := .long) (by decide)
    have G152_nanos : Fld Z h152 b152 "com/example/evenkeel/evenkeel/cli/PickCost" "nanos" "J" (.long (0 : Int64)) := D152 (Or.inr (w19 hw)) (ty := .long) (by decide)
    have G152_bytes : Fld Z h152 b152 "com/example/evenkeel/evenkeel/cli/PickCost" "bytes" "J" (.long (0 : Int64)) := D152 (Or.inr (w21 hw)) (ty := .long) (by decide)
    obtain ⟨_, _, ⟨T153, L153, k153, n153⟩, -, X153, ⟨Lc153, hQ153, l153, y153, z153⟩, st153⟩ := X152.specialBack hx (y := (⟨"com/example/evenkeel/evenkeel/cli/PickCost", "<init>", "(JJJ)V"⟩ : MethodName)) rfl hown (mvT hZ (w5 hw)) (mvT hZ (w6 hw)) (mvT hZ (w7 hw)) (by decide) (backOf (W := 1) (rm_pcinit l Z a0 hw [] b152 P nanos (-mg) h152 n0 (Nat.le_trans Z0 K152.1) A152 G152_picks G152_nanos G152_bytes (Nat.le_trans Z0 (Nat.le_of_eq g152.symm))) hZ (w7 hw) (w4 hw) (by decide) (by decide)) (g := (mkF m 76 #[.val (.long a), .second, .val (.long bb), .second, .val (.long cc), .second, .val (.long nanos), .second, .val (.int sign), .val (.long P), .second, .val (.long Q), .second, .val (.long R), .second, .val (.long mg), .second, .val (.int (1 : Int32)), .val (.long (-mg)), .second, .unset, .unset, .unset, .unset, .unset, .unset, .unset, .unset] [(.long (-mg)), (.long nanos), (.long P), (.ref b152), (.ref b152)])) rfl (by rw [hml]; rfl) (Steps.refl _) (a := b152) (argsL := [(.long P), (.long nanos), (.long (-mg))]) (rest := [(.ref b152)]) (lenOf pd__28_JJJ_29_V rfl) rfl (by show 2 * 0 + _ ≤ _; exact Nat.le_of_eq rfl) (hb hby at_76) (fun _ _ => ⟨rfl, e152, (Nat.le_of_ble_eq_true rfl), (Nat.le_of_ble_eq_true rfl)⟩)
    dsimp only [Pt.U, Pt.locs, Pt.cells, Pt.slots] at X153 l153 y153 z153 st153 hQ153
    subst l153 y153 z153
    obtain ⟨rfl, Nq153, K153, P153_0, P153_1, P153_2, P153_3⟩ := hQ153
    have N153 := Fr.app N0 Nq153
    obtain ⟨cq154, kq154, q154a, q154b, q154c⟩ := isOf hZ rfl P153_0
    obtain ⟨_, _, ⟨T154, L154, k154, n154⟩, -, X154, ⟨Lc154, hQ154, l154, y154, z154⟩, st154⟩ := X153.virtualBack hx (y := (⟨"com/example/evenkeel/evenkeel/cli/PickCost", "bytesPerPick", "()D"⟩ : MethodName)) (z := (⟨"com/example/evenkeel/evenkeel/cli/PickCost", "bytesPerPick", "()D"⟩ : MethodName)) hown (mvT hZ (w22 hw)) (mvT hZ (w23 hw)) (notFace_of_selects (args := #[]) (mvT hZ (w25 hw))) (mvT hZ (w25 hw)) (mvT hZ (w24 hw)) (by decide) (backOf (W := 0) (rm_per l Z a0 hw [] b152 (-mg) P T153.heap n0 (Nat.le_trans Z0 (Nat.le_trans K152.1 K153.1)) P153_3 P153_1 hC.2.1) hZ (w26 hw) (w4 hw) (by decide) (by decide)) q154a q154c (g := (mkF m 79 #[.val (.long a), .second, .val (.long bb), .second, .val (.long cc), .second, .val (.long nanos), .second, .val (.int sign), .val (.long P), .second, .val (.long Q), .second, .val (.long R), .second, .val (.long mg), .second, .val (.int (1 : Int32)), .val (.long (-mg)), .second, .unset, .unset, .unset, .unset, .unset, .unset, .unset, .unset] [(.ref b152)])) rfl (by rw [hml]; rfl) (Steps.refl _) (argsL := []) (rest := []) (lenOf pd__28__29_D rfl) rfl (by show 2 * 0 + _ ≤ _; exact Nat.le_of_eq rfl) (hb hby at_79) (fun _ _ => ⟨rfl, rfl, (Nat.le_of_ble_eq_true rfl), (Nat.le_of_ble_eq_true rfl)⟩)
    dsimp only [Pt.U, Pt.locs, Pt.cells, Pt.slots] at X154 l154 y154 z154 st154 hQ154
    subst l154 y154 z154
    obtain ⟨rfl, Nq154, eq154⟩ := hQ154
    have N154 := Fr.app N153 Nq154
    obtain ⟨mm, h_mm⟩ : ∃ z : UInt64, z = (FP.dneg (FP.ddiv (FP.l2d (-mg)) (FP.l2d P))) := ⟨_, rfl⟩
    have hD := hC.2.2.2.2 mm (Or.inr h_mm)
    have W155 : ∀ zQ, SS p e below T154 m 136 #[.val (.long a), .second, .val (.long bb), .second, .val (.long cc), .second, .val (.long nanos), .second, .val (.int sign), .val (.long P), .second, .val (.long Q), .second, .val (.long R), .second, .val (.long mg), .second, .val (.int (1 : Int32)), .val (.long (-mg)), .second, .val (.double (FP.ddiv (FP.l2d (-mg)) (FP.l2d P))), .second, .val (.double mm), .second, .val (.double (FP.l2d Q)), .second, .val (.double (FP.dadd (FP.l2d Q) (4602678819172646912 : UInt64))), .second] [(.int (lcmpW R (0 : Int64)))] zQ → Steps p.tables e below (s₁.setTop (entryFrame m #[(.long a), (.long bb), (.long cc), (.long nanos), (.int sign)] maxLocals)) zQ := by
      intro tt kt
      refine W101 tt ?_
      refine XS.ifNo X0.here hx rfl (hb hby at_41) rfl ((if0 _ _).trans (feq hc102).1) ?_
      show SS p e below s₁ m 44 #[.val (.long a), .second, .val (.long bb), .second, .val (.long cc), .second, .val (.long nanos), .second, .val (.int sign), .val (.long P), .second, .val (.long Q), .second, .val (.long R), .second, .val (.long mg), .second, .unset, .unset, .unset, .unset, .unset, .unset, .unset, .unset, .unset, .unset, .unset] [] _
      refine XS.iconst X0.here hx rfl (hb hby at_44) ?_
      show SS p e below s₁ m 45 #[.val (.long a), .second, .val (.long bb), .second, .val (.long cc), .second, .val (.long nanos), .second, .val (.int sign), .val (.long P), .second, .val (.long Q), .second, .val (.long R), .second, .val (.long mg), .second, .unset, .unset, .unset, .unset, .unset, .unset, .unset, .unset, .unset, .unset, .unset] [(.int (1 : Int32))] _
      refine XS.goto X0.here hx rfl (pc0 := 45) (pc' := 49) rfl (hb hby at_45) (by decide) (by decide) ?_
      show SS p e below s₁ m 49 #[.val (.long a), .second, .val (.long bb), .second, .val (.long cc), .second, .val (.long nanos), .second, .val (.int sign), .val (.long P), .second, .val (.long Q), .second, .val (.long R), .second, .val (.long mg), .second, .unset, .unset, .unset, .unset, .unset, .unset, .unset, .unset, .unset, .unset, .unset] [(.int (1 : Int32))] _
      refine XS.istore X0.here hx rfl (hb hby at_49) rfl (l' := #[.val (.long a), .second, .val (.long bb), .second, .val (.long cc), .second, .val (.long nanos), .second, .val (.int sign), .val (.long P), .second, .val (.long Q), .second, .val (.long R), .second, .val (.long mg), .second, .val (.int (1 : Int32)), .unset, .unset, .unset, .unset, .unset, .unset, .unset, .unset, .unset, .unset]) rfl ?_
      show SS p e below s₁ m 51 #[.val (.long a), .second, .val (.long bb), .second, .val (.long cc), .second, .val (.long nanos), .second, .val (.int sign), .val (.long P), .second, .val (.long Q), .second, .val (.long R), .second, .val (.long mg), .second, .val (.int (1 : Int32)), .unset, .unset, .unset, .unset, .unset, .unset, .unset, .unset, .unset, .unset] [] _
      refine XS.iload X0.here hx rfl (hb hby at_51) rfl ?_
      show SS p e below s₁ m 53 #[.val (.long a), .second, .val (.long bb), .second, .val (.long cc), .second, .val (.long nanos), .second, .val (.int sign), .val (.long P), .second, .val (.long Q), .second, .val (.long R), .second, .val (.long mg), .second, .val (.int (1 : Int32)), .unset, .unset, .unset, .unset, .unset, .unset, .unset, .unset, .unset, .unset] [(.int (1 : Int32))] _
      refine XS.ifNo X0.here hx rfl (hb hby at_53) rfl ((if0 _ _).trans (feq (by decide)).1) ?_
      show SS p e below s₁ m 56 #[.val (.long a), .second, .val (.long bb), .second, .val (.long cc), .second, .val (.long nanos), .second, .val (.int sign), .val (.long P), .second, .val (.long Q), .second, .val (.long R), .second, .val (.long mg), .second, .val (.int (1 : Int32)), .unset, .unset, .unset, .unset, .unset, .unset, .unset, .unset, .unset, .unset] [] _
      refine XS.lload X0.here hx rfl (hb hby at_56) rfl ?_
      show SS p e below s₁ m 58 #[.val (.long a), .second, .val (.long bb), .second, .val (.long cc), .second, .val (.long nanos), .second, .val (.int sign), .val (.long P), .second, .val (.long Q), .second, .val (.long R), .second, .val (.long mg), .second, .val (.int (1 : Int32)), .unset, .unset, .unset, .unset, .unset, .unset, .unset, .unset, .unset, .unset] [(.long mg)] _
      refine XS.lneg X0.here hx rfl (hb hby at_58) rfl ?_
      show SS p e below s₁ m 59 #[.val (.long a), .second, .val (.long bb), .second, .val (.long cc), .second, .val (.long nanos), .second, .val (.int sign), .val (.long P), .second, .val (.long Q), .second, .val (.long R), .second, .val (.long mg), .second, .val (.int (1 : Int32)), .unset, .unset, .unset, .unset, .unset, .unset, .unset, .unset, .unset, .unset] [(.long (-mg))] _
      refine XS.goto X0.here hx rfl (pc0 := 59) (pc' := 64) rfl (hb hby at_59) (by decide) (by decide) ?_
      show SS p e below s₁ m 64 #[.val (.long a), .second, .val (.long bb), .second, .val (.long cc), .second, .val (.long nanos), .second, .val (.int sign), .val (.long P), .second, .val (.long Q), .second, .val (.long R), .second, .val (.long mg), .second, .val (.int (1 : Int32)), .unset, .unset, .unset, .unset, .unset, .unset, .unset, .unset, .unset, .unset] [(.long (-mg))] _
      refine XS.lstore X0.here hx rfl (hb hby at_64) rfl (l' := #[.val (.long a), .second, .val (.long bb), .second, .val (.long cc), .second, .val (.long nanos), .second, .val (.int sign), .val (.long P), .second, .val (.long Q), .second, .val (.long R), .second, .val (.long mg), .second, .val (.int (1 : Int32)), .val (.long (-mg)), .second, .unset, .unset, .unset, .unset, .unset, .unset, .unset, .unset]) rfl ?_
      show SS p e below s₁ m 66 #[.val (.long a), .second, .val (.long bb), .second, .val (.long cc), .second, .val (.long nanos), .second, .val (.int sign), .val (.long P), .second, .val (.long Q), .second, .val (.long R), .second, .val (.long mg), .second, .val (.int (1 : Int32)), .val (.long (-mg)), .second, .unset, .unset, .unset, .unset, .unset, .unset, .unset, .unset] [] _
      refine st152 _ ?_
      show SS p e below T152 m 69 #[.val (.long a), .second, .val (.long bb), .second, .val (.long cc), .second, .val (.long nanos), .second, .val (.int sign), .val (.long P), .second, .val (.long Q), .second, .val (.long R), .second, .val (.long mg), .second, .val (.int (1 : Int32)), .val (.long (-mg)), .second, .unset, .unset, .unset, .unset, .unset, .unset, .unset, .unset] [(.ref b152)] _
      refine XS.dup X152.here hx rfl (hb hby at_69) rfl rfl ?_
      show SS p e below T152 m 70 #[.val (.long a), .second, .val (.long bb), .second, .val (.long cc), .second, .val (.long nanos), .second, .val (.int sign), .val (.long P), .second, .val (.long Q), .second, .val (.long R), .second, .val (.long mg), .second, .val (.int (1 : Int32)), .val (.long (-mg)), .second, .unset, .unset, .unset, .unset, .unset, .unset, .unset, .unset] [(.ref b152), (.ref b152)] _
      refine XS.lload X152.here hx rfl (hb hby at_70) rfl ?_
      show SS p e below T152 m 72 #[.val (.long a), .second, .val (.long bb), .second, .val (.long cc), .second, .val (.long nanos), .second, .val (.int sign), .val (.long P), .second, .val (.long Q), .second, .val (.long R), .second, .val (.long mg), .second, .val (.int (1 : Int32)), .val (.long (-mg)), .second, .unset, .unset, .unset, .unset, .unset, .unset, .unset, .unset] [(.long P), (.ref b152), (.ref b152)] _
      refine XS.lload X152.here hx rfl (hb hby at_72) rfl ?_
      show SS p e below T152 m 74 #[.val (.long a), .second, .val (.long bb), .second, .val (.long cc), .second, .val (.long nanos), .second, .val (.int sign), .val (.long P), .second, .val (.long Q), .second, .val (.long R), .second, .val (.long mg), .second, .val (.int (1 : Int32)), .val (.long (-mg)), .second, .unset, .unset, .unset, .unset, .unset, .unset, .unset, .unset] [(.long nanos), (.long P), (.ref b152), (.ref b152)] _
      refine XS.lload X152.here hx rfl (hb hby at_74) rfl ?_
      show SS p e below T152 m 76 #[.val (.long a), .second, .val (.long bb), .second, .val (.long cc), .second, .val (.long nanos), .second, .val (.int sign), .val (.long P), .second, .val (.long Q), .second, .val (.long R), .second, .val (.long mg), .second, .val (.int (1 : Int32)), .val (.long (-mg)), .second, .unset, .unset, .unset, .unset, .unset, .unset, .unset, .unset] [(.long (-mg)), (.long nanos), (.long P), (.ref b152), (.ref b152)] _
      refine st153.trans ?_
      show SS p e below T153 m 79 #[.val (.long a), .second, .val (.long bb), .second, .val (.long cc), .second, .val (.long nanos), .second, .val (.int sign), .val (.long P), .second, .val (.long Q), .second, .val (.long R), .second, .val (.long mg), .second, .val (.int (1 : Int32)), .val (.long (-mg)), .second, .unset, .unset, .unset, .unset, .unset, .unset, .unset, .unset] [(.ref b152)] _
      refine st154.trans ?_
      show SS p e below T154 m 82 #[.val (.long a), .second, .val (.long bb), .second, .val (.long cc), .second, .val (.long nanos), .second, .val (.int sign), .val (.long P), .second, .val (.long Q), .second, .val (.long R), .second, .val (.long mg), .second, .val (.int (1 : Int32)), .val (.long (-mg)), .second, .unset, .unset, .unset, .unset, .unset, .unset, .unset, .unset] [(.double (FP.ddiv (FP.l2d (-mg)) (FP.l2d P)))] _
      refine XS.dstore X154.here hx rfl (hb hby at_82) rfl (l' := #[.val (.long a), .second, .val (.long bb), .second, .val (.long cc), .second, .val (.long nanos), .second, .val (.int sign), .val (.long P), .second, .val (.long Q), .second, .val (.long R), .second, .val (.long mg), .second, .val (.int (1 : Int32)), .val (.long (-mg)), .second, .val (.double (FP.ddiv (FP.l2d (-mg)) (FP.l2d P))), .second, .unset, .unset, .unset, .unset, .unset, .unset]) rfl ?_
      show SS p e below T154 m 84 #[.val (.long a), .second, .val (.long bb), .second, .val (.long cc), .second, .val (.long nanos), .second, .val (.int sign), .val (.long P), .second, .val (.long Q), .second, .val (.long R), .second, .val (.long mg), .second, .val (.int (1 : Int32)), .val (.long (-mg)), .second, .val (.double (FP.ddiv (FP.l2d (-mg)) (FP.l2d P))), .second, .unset, .unset, .unset, .unset, .unset, .unset] [] _
      refine XS.iload X154.here hx rfl (hb hby at_84) rfl ?_
      show SS p e below T154 m 86 #[.val (.long a), .second, .val (.long bb), .second, .val (.long cc), .second, .val (.long nanos), .second, .val (.int sign), .val (.long P), .second, .val (.long Q), .second, .val (.long R), .second, .val (.long mg), .second, .val (.int (1 : Int32)), .val (.long (-mg)), .second, .val (.double (FP.ddiv (FP.l2d (-mg)) (FP.l2d P))), .second, .unset, .unset, .unset, .unset, .unset, .unset] [(.int (1 : Int32))] _
      refine XS.ifNo X154.here hx rfl (hb hby at_86) rfl ((if0 _ _).trans (feq (by decide)).1) ?_
      show SS p e below T154 m 89 #[.val (.long a), .second, .val (.long bb), .second, .val (.long cc), .second, .val (.long nanos), .second, .val (.int sign), .val (.long P), .second, .val (.long Q), .second, .val (.long R), .second, .val (.long mg), .second, .val (.int (1 : Int32)), .val (.long (-mg)), .second, .val (.double (FP.ddiv (FP.l2d (-mg)) (FP.l2d P))), .second, .unset, .unset, .unset, .unset, .unset, .unset] [] _
      refine XS.dload X154.here hx rfl (hb hby at_89) rfl ?_
      show SS p e below T154 m 91 #[.val (.long a), .second, .val (.long bb), .second, .val (.long cc), .second, .val (.long nanos), .second, .val (.int sign), .val (.long P), .second, .val (.long Q), .second, .val (.long R), .second, .val (.long mg), .second, .val (.int (1 : Int32)), .val (.long (-mg)), .second, .val (.double (FP.ddiv (FP.l2d (-mg)) (FP.l2d P))), .second, .unset, .unset, .unset, .unset, .unset, .unset] [(.double (FP.ddiv (FP.l2d (-mg)) (FP.l2d P)))] _
      refine XS.dnegS X154.here hx rfl (hb hby at_91) rfl rfl ?_
      show SS p e below T154 m 92 #[.val (.long a), .second, .val (.long bb), .second, .val (.long cc), .second, .val (.long nanos), .second, .val (.int sign), .val (.long P), .second, .val (.long Q), .second, .val (.long R), .second, .val (.long mg), .second, .val (.int (1 : Int32)), .val (.long (-mg)), .second, .val (.double (FP.ddiv (FP.l2d (-mg)) (FP.l2d P))), .second, .unset, .unset, .unset, .unset, .unset, .unset] [(.double (FP.dneg (FP.ddiv (FP.l2d (-mg)) (FP.l2d P))))] _
      refine XS.goto X154.here hx rfl (pc0 := 92) (pc' := 97) rfl (hb hby at_92) (by decide) (by decide) ?_
      show SS p e below T154 m 97 #[.val (.long a), .second, .val (.long bb), .second, .val (.long cc), .second, .val (.long nanos), .second, .val (.int sign), .val (.long P), .second, .val (.long Q), .second, .val (.long R), .second, .val (.long mg), .second, .val (.int (1 : Int32)), .val (.long (-mg)), .second, .val (.double (FP.ddiv (FP.l2d (-mg)) (FP.l2d P))), .second, .unset, .unset, .unset, .unset, .unset, .unset] [(.double (FP.dneg (FP.ddiv (FP.l2d (-mg)) (FP.l2d P))))] _
      rw [← h_mm]
      show SS p e below T154 m 97 #[.val (.long a), .second, .val (.long bb), .second, .val (.long cc), .second, .val (.long nanos), .second, .val (.int sign), .val (.long P), .second, .val (.long Q), .second, .val (.long R), .second, .val (.long mg), .second, .val (.int (1 : Int32)), .val (.long (-mg)), .second, .val (.double (FP.ddiv (FP.l2d (-mg)) (FP.l2d P))), .second, .unset, .unset, .unset, .unset, .unset, .unset] [(.double mm)] _
      refine XS.dstore X154.here hx rfl (hb hby at_97) rfl (l' := #[.val (.long a), .second, .val (.long bb), .second, .val (.long cc), .second, .val (.long nanos), .second, .val (.int sign), .val (.long P), .second, .val (.long Q), .second, .val (.long R), .second, .val (.long mg), .second, .val (.int (1 : Int32)), .val (.long (-mg)), .second, .val (.double (FP.ddiv (FP.l2d (-mg)) (FP.l2d P))), .second, .val (.double mm), .second, .unset, .unset, .unset, .unset]) rfl ?_
      show SS p e below T154 m 99 #[.val (.long a), .second, .val (.long bb), .second, .val (.long cc), .second, .val (.long nanos), .second, .val (.int sign), .val (.long P), .second, .val (.long Q), .second, .val (.long R), .second, .val (.long mg), .second, .val (.int (1 : Int32)), .val (.long (-mg)), .second, .val (.double (FP.ddiv (FP.l2d (-mg)) (FP.l2d P))), .second, .val (.double mm), .second, .unset, .unset, .unset, .unset] [] _
      refine XS.lload X154.here hx rfl (hb hby at_99) rfl ?_
      show SS p e below T154 m 101 #[.val (.long a), .second, .val (.long bb), .second, .val (.long cc), .second, .val (.long nanos), .second, .val (.int sign), .val (.long P), .second, .val (.long Q), .second, .val (.long R), .second, .val (.long mg), .second, .val (.int (1 : Int32)), .val (.long (-mg)), .second, .val (.double (FP.ddiv (FP.l2d (-mg)) (FP.l2d P))), .second, .val (.double mm), .second, .unset, .unset, .unset, .unset] [(.long Q)] _
      refine XS.l2dS X154.here hx rfl (hb hby at_101) rfl rfl ?_
      show SS p e below T154 m 102 #[.val (.long a), .second, .val (.long bb), .second, .val (.long cc), .second, .val (.long nanos), .second, .val (.int sign), .val (.long P), .second, .val (.long Q), .second, .val (.long R), .second, .val (.long mg), .second, .val (.int (1 : Int32)), .val (.long (-mg)), .second, .val (.double (FP.ddiv (FP.l2d (-mg)) (FP.l2d P))), .second, .val (.double mm), .second, .unset, .unset, .unset, .unset] [(.double (FP.l2d Q))] _
      refine XS.dstore X154.here hx rfl (hb hby at_102) rfl (l' := #[.val (.long a), .second, .val (.long bb), .second, .val (.long cc), .second, .val (.long nanos), .second, .val (.int sign), .val (.long P), .second, .val (.long Q), .second, .val (.long R), .second, .val (.long mg), .second, .val (.int (1 : Int32)), .val (.long (-mg)), .second, .val (.double (FP.ddiv (FP.l2d (-mg)) (FP.l2d P))), .second, .val (.double mm), .second, .val (.double (FP.l2d Q)), .second, .unset, .unset]) rfl ?_
      show SS p e below T154 m 104 #[.val (.long a), .second, .val (.long bb), .second, .val (.long cc), .second, .val (.long nanos), .second, .val (.int sign), .val (.long P), .second, .val (.long Q), .second, .val (.long R), .second, .val (.long mg), .second, .val (.int (1 : Int32)), .val (.long (-mg)), .second, .val (.double (FP.ddiv (FP.l2d (-mg)) (FP.l2d P))), .second, .val (.double mm), .second, .val (.double (FP.l2d Q)), .second, .unset, .unset] [] _
      refine XS.dload X154.here hx rfl (hb hby at_104) rfl ?_
      show SS p e below T154 m 106 #[.val (.long a), .second, .val (.long bb), .second, .val (.long cc), .second, .val (.long nanos), .second, .val (.int sign), .val (.long P), .second, .val (.long Q), .second, .val (.long R), .second, .val (.long mg), .second, .val (.int (1 : Int32)), .val (.long (-mg)), .second, .val (.double (FP.ddiv (FP.l2d (-mg)) (FP.l2d P))), .second, .val (.double mm), .second, .val (.double (FP.l2d Q)), .second, .unset, .unset] [(.double (FP.l2d Q))] _
      refine X154.ldc2DoubleC hx hown (mvT hZ (w27 hw)) (g := (mkF m 106 #[.val (.long a), .second, .val (.long bb), .second, .val (.long cc), .second, .val (.long nanos), .second, .val (.int sign), .val (.long P), .second, .val (.long Q), .second, .val (.long R), .second, .val (.long mg), .second, .val (.int (1 : Int32)), .val (.long (-mg)), .second, .val (.double (FP.ddiv (FP.l2d (-mg)) (FP.l2d P))), .second, .val (.double mm), .second, .val (.double (FP.l2d Q)), .second, .unset, .unset] [(.double (FP.l2d Q))])) rfl (hb hby at_106) _ ?_
      show SS p e below T154 m 109 #[.val (.long a), .second, .val (.long bb), .second, .val (.long cc), .second, .val (.long nanos), .second, .val (.int sign), .val (.long P), .second, .val (.long Q), .second, .val (.long R), .second, .val (.long mg), .second, .val (.int (1 : Int32)), .val (.long (-mg)), .second, .val (.double (FP.ddiv (FP.l2d (-mg)) (FP.l2d P))), .second, .val (.double mm), .second, .val (.double (FP.l2d Q)), .second, .unset, .unset] [(.double (4602678819172646912 : UInt64)), (.double (FP.l2d Q))] _
      refine XS.daddS X154.here hx rfl (hb hby at_109) rfl hC.2.2.1 rfl ?_
      show SS p e below T154 m 110 #[.val (.long a), .second, .val (.long bb), .second, .val (.long cc), .second, .val (.long nanos), .second, .val (.int sign), .val (.long P), .second, .val (.long Q), .second, .val (.long R), .second, .val (.long mg), .second, .val (.int (1 : Int32)), .val (.long (-mg)), .second, .val (.double (FP.ddiv (FP.l2d (-mg)) (FP.l2d P))), .second, .val (.double mm), .second, .val (.double (FP.l2d Q)), .second, .unset, .unset] [(.double (FP.dadd (FP.l2d Q) (4602678819172646912 : UInt64)))] _
      refine XS.dstore X154.here hx rfl (hb hby at_110) rfl (l' := #[.val (.long a), .second, .val (.long bb), .second, .val (.long cc), .second, .val (.long nanos), .second, .val (.int sign), .val (.long P), .second, .val (.long Q), .second, .val (.long R), .second, .val (.long mg), .second, .val (.int (1 : Int32)), .val (.long (-mg)), .second, .val (.double (FP.ddiv (FP.l2d (-mg)) (FP.l2d P))), .second, .val (.double mm), .second, .val (.double (FP.l2d Q)), .second, .val (.double (FP.dadd (FP.l2d Q) (4602678819172646912 : UInt64))), .second]) rfl ?_
      show SS p e below T154 m 112 #[.val (.long a), .second, .val (.long bb), .second, .val (.long cc), .second, .val (.long nanos), .second, .val (.int sign), .val (.long P), .second, .val (.long Q), .second, .val (.long R), .second, .val (.long mg), .second, .val (.int (1 : Int32)), .val (.long (-mg)), .second, .val (.double (FP.ddiv (FP.l2d (-mg)) (FP.l2d P))), .second, .val (.double mm), .second, .val (.double (FP.l2d Q)), .second, .val (.double (FP.dadd (FP.l2d Q) (4602678819172646912 : UInt64))), .second] [] _
      refine XS.dload X154.here hx rfl (hb hby at_112) rfl ?_
      show SS p e below T154 m 114 #[.val (.long a), .second, .val (.long bb), .second, .val (.long cc), .second, .val (.long nanos), .second, .val (.int sign), .val (.long P), .second, .val (.long Q), .second, .val (.long R), .second, .val (.long mg), .second, .val (.int (1 : Int32)), .val (.long (-mg)), .second, .val (.double (FP.ddiv (FP.l2d (-mg)) (FP.l2d P))), .second, .val (.double mm), .second, .val (.double (FP.l2d Q)), .second, .val (.double (FP.dadd (FP.l2d Q) (4602678819172646912 : UInt64))), .second] [(.double mm)] _
      refine XS.dload X154.here hx rfl (hb hby at_114) rfl ?_
      show SS p e below T154 m 116 #[.val (.long a), .second, .val (.long bb), .second, .val (.long cc), .second, .val (.long nanos), .second, .val (.int sign), .val (.long P), .second, .val (.long Q), .second, .val (.long R), .second, .val (.long mg), .second, .val (.int (1 : Int32)), .val (.long (-mg)), .second, .val (.double (FP.ddiv (FP.l2d (-mg)) (FP.l2d P))), .second, .val (.double mm), .second, .val (.double (FP.l2d Q)), .second, .val (.double (FP.dadd (FP.l2d Q) (4602678819172646912 : UInt64))), .second] [(.double (FP.l2d Q)), (.double mm)] _
      refine XS.dcmpS X154.here hx rfl (hb hby at_116) rfl rfl ?_
      show SS p e below T154 m 117 #[.val (.long a), .second, .val (.long bb), .second, .val (.long cc), .second, .val (.long nanos), .second, .val (.int sign), .val (.long P), .second, .val (.long Q), .second, .val (.long R), .second, .val (.long mg), .second, .val (.int (1 : Int32)), .val (.long (-mg)), .second, .val (.double (FP.ddiv (FP.l2d (-mg)) (FP.l2d P))), .second, .val (.double mm), .second, .val (.double (FP.l2d Q)), .second, .val (.double (FP.dadd (FP.l2d Q) (4602678819172646912 : UInt64))), .second] [(.int (cmpValue (FP.dcmp mm (FP.l2d Q)) .l))] _
      refine XS.ifNo X154.here hx rfl (hb hby at_117) rfl ((if0 _ _).trans (flt hD.1).1) ?_
      show SS p e below T154 m 120 #[.val (.long a), .second, .val (.long bb), .second, .val (.long cc), .second, .val (.long nanos), .second, .val (.int sign), .val (.long P), .second, .val (.long Q), .second, .val (.long R), .second, .val (.long mg), .second, .val (.int (1 : Int32)), .val (.long (-mg)), .second, .val (.double (FP.ddiv (FP.l2d (-mg)) (FP.l2d P))), .second, .val (.double mm), .second, .val (.double (FP.l2d Q)), .second, .val (.double (FP.dadd (FP.l2d Q) (4602678819172646912 : UInt64))), .second] [] _
      refine XS.dload X154.here hx rfl (hb hby at_120) rfl ?_
      show SS p e below T154 m 122 #[.val (.long a), .second, .val (.long bb), .second, .val (.long cc), .second, .val (.long nanos), .second, .val (.int sign), .val (.long P), .second, .val (.long Q), .second, .val (.long R), .second, .val (.long mg), .second, .val (.int (1 : Int32)), .val (.long (-mg)), .second, .val (.double (FP.ddiv (FP.l2d (-mg)) (FP.l2d P))), .second, .val (.double mm), .second, .val (.double (FP.l2d Q)), .second, .val (.double (FP.dadd (FP.l2d Q) (4602678819172646912 : UInt64))), .second] [(.double mm)] _
      refine XS.dload X154.here hx rfl (hb hby at_122) rfl ?_
      show SS p e below T154 m 124 #[.val (.long a), .second, .val (.long bb), .second, .val (.long cc), .second, .val (.long nanos), .second, .val (.int sign), .val (.long P), .second, .val (.long Q), .second, .val (.long R), .second, .val (.long mg), .second, .val (.int (1 : Int32)), .val (.long (-mg)), .second, .val (.double (FP.ddiv (FP.l2d (-mg)) (FP.l2d P))), .second, .val (.double mm), .second, .val (.double (FP.l2d Q)), .second, .val (.double (FP.dadd (FP.l2d Q) (4602678819172646912 : UInt64))), .second] [(.double (FP.l2d Q)), (.double mm)] _
      refine XS.dconst1 X154.here hx rfl (hb hby at_124) rfl ?_
      show SS p e below T154 m 125 #[.val (.long a), .second, .val (.long bb), .second, .val (.long cc), .second, .val (.long nanos), .second, .val (.int sign), .val (.long P), .second, .val (.long Q), .second, .val (.long R), .second, .val (.long mg), .second, .val (.int (1 : Int32)), .val (.long (-mg)), .second, .val (.double (FP.ddiv (FP.l2d (-mg)) (FP.l2d P))), .second, .val (.double mm), .second, .val (.double (FP.l2d Q)), .second, .val (.double (FP.dadd (FP.l2d Q) (4602678819172646912 : UInt64))), .second] [(.double FP.dconst1), (.double (FP.l2d Q)), (.double mm)] _
      refine XS.daddS X154.here hx rfl (hb hby at_125) rfl hC.2.2.2.1 rfl ?_
      show SS p e below T154 m 126 #[.val (.long a), .second, .val (.long bb), .second, .val (.long cc), .second, .val (.long nanos), .second, .val (.int sign), .val (.long P), .second, .val (.long Q), .second, .val (.long R), .second, .val (.long mg), .second, .val (.int (1 : Int32)), .val (.long (-mg)), .second, .val (.double (FP.ddiv (FP.l2d (-mg)) (FP.l2d P))), .second, .val (.double mm), .second, .val (.double (FP.l2d Q)), .second, .val (.double (FP.dadd (FP.l2d Q) (4602678819172646912 : UInt64))), .second] [(.double (FP.dadd (FP.l2d Q) FP.dconst1)), (.double mm)] _
      refine XS.dcmpS X154.here hx rfl (hb hby at_126) rfl rfl ?_
      show SS p e below T154 m 127 #[.val (.long a), .second, .val (.long bb), .second, .val (.long cc), .second, .val (.long nanos), .second, .val (.int sign), .val (.long P), .second, .val (.long Q), .second, .val (.long R), .second, .val (.long mg), .second, .val (.int (1 : Int32)), .val (.long (-mg)), .second, .val (.double (FP.ddiv (FP.l2d (-mg)) (FP.l2d P))), .second, .val (.double mm), .second, .val (.double (FP.l2d Q)), .second, .val (.double (FP.dadd (FP.l2d Q) (4602678819172646912 : UInt64))), .second] [(.int (cmpValue (FP.dcmp mm (FP.dadd (FP.l2d Q) FP.dconst1)) .g))] _
      refine XS.ifYes X154.here hx rfl (pc0 := 127) (pc' := 132) rfl (hb hby at_127) rfl ((if0 _ _).trans (tlt hD.2.1).1) (by decide) (by decide) ?_
      show SS p e below T154 m 132 #[.val (.long a), .second, .val (.long bb), .second, .val (.long cc), .second, .val (.long nanos), .second, .val (.int sign), .val (.long P), .second, .val (.long Q), .second, .val (.long R), .second, .val (.long mg), .second, .val (.int (1 : Int32)), .val (.long (-mg)), .second, .val (.double (FP.ddiv (FP.l2d (-mg)) (FP.l2d P))), .second, .val (.double mm), .second, .val (.double (FP.l2d Q)), .second, .val (.double (FP.dadd (FP.l2d Q) (4602678819172646912 : UInt64))), .second] [] _
      refine XS.lload X154.here hx rfl (hb hby at_132) rfl ?_
      show SS p e below T154 m 134 #[.val (.long a), .second, .val (.long bb), .second, .val (.long cc), .second, .val (.long nanos), .second, .val (.int sign), .val (.long P), .second, .val (.long Q), .second, .val (.long R), .second, .val (.long mg), .second, .val (.int (1 : Int32)), .val (.long (-mg)), .second, .val (.double (FP.ddiv (FP.l2d (-mg)) (FP.l2d P))), .second, .val (.double mm), .second, .val (.double (FP.l2d Q)), .second, .val (.double (FP.dadd (FP.l2d Q) (4602678819172646912 : UInt64))), .second] [(.long R)] _
      refine XS.lconst X154.here hx rfl (hb hby at_134) ?_
      show SS p e below T154 m 135 #[.val (.long a), .second, .val (.long bb), .second, .val (.long cc), .second, .val (.long nanos), .second, .val (.int sign), .val (.long P), .second, .val (.long Q), .second, .val (.long R), .second, .val (.long mg), .second, .val (.int (1 : Int32)), .val (.long (-mg)), .second, .val (.double (FP.ddiv (FP.l2d (-mg)) (FP.l2d P))), .second, .val (.double mm), .second, .val (.double (FP.l2d Q)), .second, .val (.double (FP.dadd (FP.l2d Q) (4602678819172646912 : UInt64))), .second] [(.long (0 : Int64)), (.long R)] _
      refine XS.lcmp X154.here hx rfl (hb hby at_135) rfl ?_
      show SS p e below T154 m 136 #[.val (.long a), .second, .val (.long bb), .second, .val (.long cc), .second, .val (.long nanos), .second, .val (.int sign), .val (.long P), .second, .val (.long Q), .second, .val (.long R), .second, .val (.long mg), .second, .val (.int (1 : Int32)), .val (.long (-mg)), .second, .val (.double (FP.ddiv (FP.l2d (-mg)) (FP.l2d P))), .second, .val (.double mm), .second, .val (.double (FP.l2d Q)), .second, .val (.double (FP.dadd (FP.l2d Q) (4602678819172646912 : UInt64))), .second] [(.int (lcmpW R (0 : Int64)))] _
      exact kt
    by_cases hc156 : R = (0 : Int64)
    ·
      have W157 : ∀ zQ, SS p e below T154 m 158 #[.val (.long a), .second, .val (.long bb), .second, .val (.long cc), .second, .val (.long nanos), .second, .val (.int sign), .val (.long P), .second, .val (.long Q), .second, .val (.long R), .second, .val (.long mg), .second, .val (.int (1 : Int32)), .val (.long (-mg)), .second, .val (.double (FP.ddiv (FP.l2d (-mg)) (FP.l2d P))), .second, .val (.double mm), .second, .val (.double (FP.l2d Q)), .second, .val (.double (FP.dadd (FP.l2d Q) (4602678819172646912 : UInt64))), .second] [(.int (lcmpW ((2 : Int64) * R) P))] zQ → Steps p.tables e below (s₁.setTop (entryFrame m #[(.long a), (.long bb), (.long cc), (.long nanos), (.int sign)] maxLocals)) zQ := by
        intro tt kt
        refine W155 tt ?_
        refine XS.ifNo X154.here hx rfl (hb hby at_136) rfl ((if0 _ _).trans (teq ((lw_eq _ _).mpr hc156)).2) ?_
        show SS p e below T154 m 139 #[.val (.long a), .second, .val (.long bb), .second, .val (.long cc), .second, .val (.long nanos), .second, .val (.int sign), .val (.long P), .second, .val (.long Q), .second, .val (.long R), .second, .val (.long mg), .second, .val (.int (1 : Int32)), .val (.long (-mg)), .second, .val (.double (FP.ddiv (FP.l2d (-mg)) (FP.l2d P))), .second, .val (.double mm), .second, .val (.double (FP.l2d Q)), .second, .val (.double (FP.dadd (FP.l2d Q) (4602678819172646912 : UInt64))), .second] [] _
        refine XS.dload X154.here hx rfl (hb hby at_139) rfl ?_
        show SS p e below T154 m 141 #[.val (.long a), .second, .val (.long bb), .second, .val (.long cc), .second, .val (.long nanos), .second, .val (.int sign), .val (.long P), .second, .val (.long Q), .second, .val (.long R), .second, .val (.long mg), .second, .val (.int (1 : Int32)), .val (.long (-mg)), .second, .val (.double (FP.ddiv (FP.l2d (-mg)) (FP.l2d P))), .second, .val (.double mm), .second, .val (.double (FP.l2d Q)), .second, .val (.double (FP.dadd (FP.l2d Q) (4602678819172646912 : UInt64))), .second] [(.double mm)] _
        refine XS.dload X154.here hx rfl (hb hby at_141) rfl ?_
        show SS p e below T154 m 143 #[.val (.long a), .second, .val (.long bb), .second, .val (.long cc), .second, .val (.long nanos), .second, .val (.int sign), .val (.long P), .second, .val (.long Q), .second, .val (.long R), .second, .val (.long mg), .second, .val (.int (1 : Int32)), .val (.long (-mg)), .second, .val (.double (FP.ddiv (FP.l2d (-mg)) (FP.l2d P))), .second, .val (.double mm), .second, .val (.double (FP.l2d Q)), .second, .val (.double (FP.dadd (FP.l2d Q) (4602678819172646912 : UInt64))), .second] [(.double (FP.l2d Q)), (.double mm)] _
        refine XS.dcmpS X154.here hx rfl (hb hby at_143) rfl rfl ?_
        show SS p e below T154 m 144 #[.val (.long a), .second, .val (.long bb), .second, .val (.long cc), .second, .val (.long nanos), .second, .val (.int sign), .val (.long P), .second, .val (.long Q), .second, .val (.long R), .second, .val (.long mg), .second, .val (.int (1 : Int32)), .val (.long (-mg)), .second, .val (.double (FP.ddiv (FP.l2d (-mg)) (FP.l2d P))), .second, .val (.double mm), .second, .val (.double (FP.l2d Q)), .second, .val (.double (FP.dadd (FP.l2d Q) (4602678819172646912 : UInt64))), .second] [(.int (cmpValue (FP.dcmp mm (FP.l2d Q)) .l))] _
        refine XS.ifYes X154.here hx rfl (pc0 := 144) (pc' := 149) rfl (hb hby at_144) rfl ((if0 _ _).trans (teq (hD.2.2.1 hc156)).1) (by decide) (by decide) ?_
        show SS p e below T154 m 149 #[.val (.long a), .second, .val (.long bb), .second, .val (.long cc), .second, .val (.long nanos), .second, .val (.int sign), .val (.long P), .second, .val (.long Q), .second, .val (.long R), .second, .val (.long mg), .second, .val (.int (1 : Int32)), .val (.long (-mg)), .second, .val (.double (FP.ddiv (FP.l2d (-mg)) (FP.l2d P))), .second, .val (.double mm), .second, .val (.double (FP.l2d Q)), .second, .val (.double (FP.dadd (FP.l2d Q) (4602678819172646912 : UInt64))), .second] [] _
        refine X154.ldc2Long hx hown (mvT hZ (w28 hw)) (g := (mkF m 149 #[.val (.long a), .second, .val (.long bb), .second, .val (.long cc), .second, .val (.long nanos), .second, .val (.int sign), .val (.long P), .second, .val (.long Q), .second, .val (.long R), .second, .val (.long mg), .second, .val (.int (1 : Int32)), .val (.long (-mg)), .second, .val (.double (FP.ddiv (FP.l2d (-mg)) (FP.l2d P))), .second, .val (.double mm), .second, .val (.double (FP.l2d Q)), .second, .val (.double (FP.dadd (FP.l2d Q) (4602678819172646912 : UInt64))), .second] [])) rfl (hb hby at_149) _ ?_
        show SS p e below T154 m 152 #[.val (.long a), .second, .val (.long bb), .second, .val (.long cc), .second, .val (.long nanos), .second, .val (.int sign), .val (.long P), .second, .val (.long Q), .second, .val (.long R), .second, .val (.long mg), .second, .val (.int (1 : Int32)), .val (.long (-mg)), .second, .val (.double (FP.ddiv (FP.l2d (-mg)) (FP.l2d P))), .second, .val (.double mm), .second, .val (.double (FP.l2d Q)), .second, .val (.double (FP.dadd (FP.l2d Q) (4602678819172646912 : UInt64))), .second] [(.long (2 : Int64))] _
        refine XS.lload X154.here hx rfl (hb hby at_152) rfl ?_
        show SS p e below T154 m 154 #[.val (.long a), .second, .val (.long bb), .second, .val (.long cc), .second, .val (.long nanos), .second, .val (.int sign), .val (.long P), .second, .val (.long Q), .second, .val (.long R), .second, .val (.long mg), .second, .val (.int (1 : Int32)), .val (.long (-mg)), .second, .val (.double (FP.ddiv (FP.l2d (-mg)) (FP.l2d P))), .second, .val (.double mm), .second, .val (.double (FP.l2d Q)), .second, .val (.double (FP.dadd (FP.l2d Q) (4602678819172646912 : UInt64))), .second] [(.long R), (.long (2 : Int64))] _
        refine XS.lmul X154.here hx rfl (hb hby at_154) rfl ?_
        show SS p e below T154 m 155 #[.val (.long a), .second, .val (.long bb), .second, .val (.long cc), .second, .val (.long nanos), .second, .val (.int sign), .val (.long P), .second, .val (.long Q), .second, .val (.long R), .second, .val (.long mg), .second, .val (.int (1 : Int32)), .val (.long (-mg)), .second, .val (.double (FP.ddiv (FP.l2d (-mg)) (FP.l2d P))), .second, .val (.double mm), .second, .val (.double (FP.l2d Q)), .second, .val (.double (FP.dadd (FP.l2d Q) (4602678819172646912 : UInt64))), .second] [(.long ((2 : Int64) * R))] _
        refine XS.lload X154.here hx rfl (hb hby at_155) rfl ?_
        show SS p e below T154 m 157 #[.val (.long a), .second, .val (.long bb), .second, .val (.long cc), .second, .val (.long nanos), .second, .val (.int sign), .val (.long P), .second, .val (.long Q), .second, .val (.long R), .second, .val (.long mg), .second, .val (.int (1 : Int32)), .val (.long (-mg)), .second, .val (.double (FP.ddiv (FP.l2d (-mg)) (FP.l2d P))), .second, .val (.double mm), .second, .val (.double (FP.l2d Q)), .second, .val (.double (FP.dadd (FP.l2d Q) (4602678819172646912 : UInt64))), .second] [(.long P), (.long ((2 : Int64) * R))] _
        refine XS.lcmp X154.here hx rfl (hb hby at_157) rfl ?_
        show SS p e below T154 m 158 #[.val (.long a), .second, .val (.long bb), .second, .val (.long cc), .second, .val (.long nanos), .second, .val (.int sign), .val (.long P), .second, .val (.long Q), .second, .val (.long R), .second, .val (.long mg), .second, .val (.int (1 : Int32)), .val (.long (-mg)), .second, .val (.double (FP.ddiv (FP.l2d (-mg)) (FP.l2d P))), .second, .val (.double mm), .second, .val (.double (FP.l2d Q)), .second, .val (.double (FP.dadd (FP.l2d Q) (4602678819172646912 : UInt64))), .second] [(.int (lcmpW ((2 : Int64) * R) P))] _
        exact kt
      by_cases hc158 : ((2 : Int64) * R) = P
      ·
        have W159 : ∀ zQ, SS p e below T154 m 180 #[.val (.long a), .second, .val (.long bb), .second, .val (.long cc), .second, .val (.long nanos), .second, .val (.int sign), .val (.long P), .second, .val (.long Q), .second, .val (.long R), .second, .val (.long mg), .second, .val (.int (1 : Int32)), .val (.long (-mg)), .second, .val (.double (FP.ddiv (FP.l2d (-mg)) (FP.l2d P))), .second, .val (.double mm), .second, .val (.double (FP.l2d Q)), .second, .val (.double (FP.dadd (FP.l2d Q) (4602678819172646912 : UInt64))), .second] [(.int (lcmpW ((2 : Int64) * R) P))] zQ → Steps p.tables e below (s₁.setTop (entryFrame m #[(.long a), (.long bb), (.long cc), (.long nanos), (.int sign)] maxLocals)) zQ := by
          intro tt kt
          refine W157 tt ?_
          refine XS.ifNo X154.here hx rfl (hb hby at_158) rfl ((if0 _ _).trans (teq ((lw_eq _ _).mpr hc158)).2) ?_
          show SS p e below T154 m 161 #[.val (.long a), .second, .val (.long bb), .second, .val (.long cc), .second, .val (.long nanos), .second, .val (.int sign), .val (.long P), .second, .val (.long Q), .second, .val (.long R), .second, .val (.long mg), .second, .val (.int (1 : Int32)), .val (.long (-mg)), .second, .val (.double (FP.ddiv (FP.l2d (-mg)) (FP.l2d P))), .second, .val (.double mm), .second, .val (.double (FP.l2d Q)), .second, .val (.double (FP.dadd (FP.l2d Q) (4602678819172646912 : UInt64))), .second] [] _
          refine XS.dload X154.here hx rfl (hb hby at_161) rfl ?_
          show SS p e below T154 m 163 #[.val (.long a), .second, .val (.long bb), .second, .val (.long cc), .second, .val (.long nanos), .second, .val (.int sign), .val (.long P), .second, .val (.long Q), .second, .val (.long R), .second, .val (.long mg), .second, .val (.int (1 : Int32)), .val (.long (-mg)), .second, .val (.double (FP.ddiv (FP.l2d (-mg)) (FP.l2d P))), .second, .val (.double mm), .second, .val (.double (FP.l2d Q)), .second, .val (.double (FP.dadd (FP.l2d Q) (4602678819172646912 : UInt64))), .second] [(.double mm)] _
          refine XS.dload X154.here hx rfl (hb hby at_163) rfl ?_
          show SS p e below T154 m 165 #[.val (.long a), .second, .val (.long bb), .second, .val (.long cc), .second, .val (.long nanos), .second, .val (.int sign), .val (.long P), .second, .val (.long Q), .second, .val (.long R), .second, .val (.long mg), .second, .val (.int (1 : Int32)), .val (.long (-mg)), .second, .val (.double (FP.ddiv (FP.l2d (-mg)) (FP.l2d P))), .second, .val (.double mm), .second, .val (.double (FP.l2d Q)), .second, .val (.double (FP.dadd (FP.l2d Q) (4602678819172646912 : UInt64))), .second] [(.double (FP.dadd (FP.l2d Q) (4602678819172646912 : UInt64))), (.double mm)] _
          refine XS.dcmpS X154.here hx rfl (hb hby at_165) rfl rfl ?_
          show SS p e below T154 m 166 #[.val (.long a), .second, .val (.long bb), .second, .val (.long cc), .second, .val (.long nanos), .second, .val (.int sign), .val (.long P), .second, .val (.long Q), .second, .val (.long R), .second, .val (.long mg), .second, .val (.int (1 : Int32)), .val (.long (-mg)), .second, .val (.double (FP.ddiv (FP.l2d (-mg)) (FP.l2d P))), .second, .val (.double mm), .second, .val (.double (FP.l2d Q)), .second, .val (.double (FP.dadd (FP.l2d Q) (4602678819172646912 : UInt64))), .second] [(.int (cmpValue (FP.dcmp mm (FP.dadd (FP.l2d Q) (4602678819172646912 : UInt64))) .l))] _
          refine XS.ifYes X154.here hx rfl (pc0 := 166) (pc' := 171) rfl (hb hby at_166) rfl ((if0 _ _).trans (teq (hD.2.2.2.1 hc158)).1) (by decide) (by decide) ?_
          show SS p e below T154 m 171 #[.val (.long a), .second, .val (.long bb), .second, .val (.long cc), .second, .val (.long nanos), .second, .val (.int sign), .val (.long P), .second, .val (.long Q), .second, .val (.long R), .second, .val (.long mg), .second, .val (.int (1 : Int32)), .val (.long (-mg)), .second, .val (.double (FP.ddiv (FP.l2d (-mg)) (FP.l2d P))), .second, .val (.double mm), .second, .val (.double (FP.l2d Q)), .second, .val (.double (FP.dadd (FP.l2d Q) (4602678819172646912 : UInt64))), .second] [] _
          refine X154.ldc2Long hx hown (mvT hZ (w28 hw)) (g := (mkF m 171 #[.val (.long a), .second, .val (.long bb), .second, .val (.long cc), .second, .val (.long nanos), .second, .val (.int sign), .val (.long P), .second, .val (.long Q), .second, .val (.long R), .second, .val (.long mg), .second, .val (.int (1 : Int32)), .val (.long (-mg)), .second, .val (.double (FP.ddiv (FP.l2d (-mg)) (FP.l2d P))), .second, .val (.double mm), .second, .val (.double (FP.l2d Q)), .second, .val (.double (FP.dadd (FP.l2d Q) (4602678819172646912 : UInt64))), .second] [])) rfl (hb hby at_171) _ ?_
          show SS p e below T154 m 174 #[.val (.long a), .second, .val (.long bb), .second, .val (.long cc), .second, .val (.long nanos), .second, .val (.int sign), .val (.long P), .second, .val (.long Q), .second, .val (.long R), .second, .val (.long mg), .second, .val (.int (1 : Int32)), .val (.long (-mg)), .second, .val (.double (FP.ddiv (FP.l2d (-mg)) (FP.l2d P))), .second, .val (.double mm), .second, .val (.double (FP.l2d Q)), .second, .val (.double (FP.dadd (FP.l2d Q) (4602678819172646912 : UInt64))), .second] [(.long (2 : Int64))] _
          refine XS.lload X154.here hx rfl (hb hby at_174) rfl ?_
          show SS p e below T154 m 176 #[.val (.long a), .second, .val (.long bb), .second, .val (.long cc), .second, .val (.long nanos), .second, .val (.int sign), .val (.long P), .second, .val (.long Q), .second, .val (.long R), .second, .val (.long mg), .second, .val (.int (1 : Int32)), .val (.long (-mg)), .second, .val (.double (FP.ddiv (FP.l2d (-mg)) (FP.l2d P))), .second, .val (.double mm), .second, .val (.double (FP.l2d Q)), .second, .val (.double (FP.dadd (FP.l2d Q) (4602678819172646912 : UInt64))), .second] [(.long R), (.long (2 : Int64))] _
          refine XS.lmul X154.here hx rfl (hb hby at_176) rfl ?_
          show SS p e below T154 m 177 #[.val (.long a), .second, .val (.long bb), .second, .val (.long cc), .second, .val (.long nanos), .second, .val (.int sign), .val (.long P), .second, .val (.long Q), .second, .val (.long R), .second, .val (.long mg), .second, .val (.int (1 : Int32)), .val (.long (-mg)), .second, .val (.double (FP.ddiv (FP.l2d (-mg)) (FP.l2d P))), .second, .val (.double mm), .second, .val (.double (FP.l2d Q)), .second, .val (.double (FP.dadd (FP.l2d Q) (4602678819172646912 : UInt64))), .second] [(.long ((2 : Int64) * R))] _
          refine XS.lload X154.here hx rfl (hb hby at_177) rfl ?_
          show SS p e below T154 m 179 #[.val (.long a), .second, .val (.long bb), .second, .val (.long cc), .second, .val (.long nanos), .second, .val (.int sign), .val (.long P), .second, .val (.long Q), .second, .val (.long R), .second, .val (.long mg), .second, .val (.int (1 : Int32)), .val (.long (-mg)), .second, .val (.double (FP.ddiv (FP.l2d (-mg)) (FP.l2d P))), .second, .val (.double mm), .second, .val (.double (FP.l2d Q)), .second, .val (.double (FP.dadd (FP.l2d Q) (4602678819172646912 : UInt64))), .second] [(.long P), (.long ((2 : Int64) * R))] _
          refine XS.lcmp X154.here hx rfl (hb hby at_179) rfl ?_
          show SS p e below T154 m 180 #[.val (.long a), .second, .val (.long bb), .second, .val (.long cc), .second, .val (.long nanos), .second, .val (.int sign), .val (.long P), .second, .val (.long Q), .second, .val (.long R), .second, .val (.long mg), .second, .val (.int (1 : Int32)), .val (.long (-mg)), .second, .val (.double (FP.ddiv (FP.l2d (-mg)) (FP.l2d P))), .second, .val (.double mm), .second, .val (.double (FP.l2d Q)), .second, .val (.double (FP.dadd (FP.l2d Q) (4602678819172646912 : UInt64))), .second] [(.int (lcmpW ((2 : Int64) * R) P))] _
          exact kt
        by_cases hc160 : ((2 : Int64) * R) < P
        ·
          have W161 : ∀ zQ, SS p e below T154 m 202 #[.val (.long a), .second, .val (.long bb), .second, .val (.long cc), .second, .val (.long nanos), .second, .val (.int sign), .val (.long P), .second, .val (.long Q), .second, .val (.long R), .second, .val (.long mg), .second, .val (.int (1 : Int32)), .val (.long (-mg)), .second, .val (.double (FP.ddiv (FP.l2d (-mg)) (FP.l2d P))), .second, .val (.double mm), .second, .val (.double (FP.l2d Q)), .second, .val (.double (FP.dadd (FP.l2d Q) (4602678819172646912 : UInt64))), .second] [(.int (lcmpW ((2 : Int64) * R) P))] zQ → Steps p.tables e below (s₁.setTop (entryFrame m #[(.long a), (.long bb), (.long cc), (.long nanos), (.int sign)] maxLocals)) zQ := by
            intro tt kt
            refine W159 tt ?_
            refine XS.ifNo X154.here hx rfl (hb hby at_180) rfl ((if0 _ _).trans (tlt ((lw_lt _ _).mpr hc160)).2.1) ?_
            show SS p e below T154 m 183 #[.val (.long a), .second, .val (.long bb), .second, .val (.long cc), .second, .val (.long nanos), .second, .val (.int sign), .val (.long P), .second, .val (.long Q), .second, .val (.long R), .second, .val (.long mg), .second, .val (.int (1 : Int32)), .val (.long (-mg)), .second, .val (.double (FP.ddiv (FP.l2d (-mg)) (FP.l2d P))), .second, .val (.double mm), .second, .val (.double (FP.l2d Q)), .second, .val (.double (FP.dadd (FP.l2d Q) (4602678819172646912 : UInt64))), .second] [] _
            refine XS.dload X154.here hx rfl (hb hby at_183) rfl ?_
            show SS p e below T154 m 185 #[.val (.long a), .second, .val (.long bb), .second, .val (.long cc), .second, .val (.long nanos), .second, .val (.int sign), .val (.long P), .second, .val (.long Q), .second, .val (.long R), .second, .val (.long mg), .second, .val (.int (1 : Int32)), .val (.long (-mg)), .second, .val (.double (FP.ddiv (FP.l2d (-mg)) (FP.l2d P))), .second, .val (.double mm), .second, .val (.double (FP.l2d Q)), .second, .val (.double (FP.dadd (FP.l2d Q) (4602678819172646912 : UInt64))), .second] [(.double mm)] _
            refine XS.dload X154.here hx rfl (hb hby at_185) rfl ?_
            show SS p e below T154 m 187 #[.val (.long a), .second, .val (.long bb), .second, .val (.long cc), .second, .val (.long nanos), .second, .val (.int sign), .val (.long P), .second, .val (.long Q), .second, .val (.long R), .second, .val (.long mg), .second, .val (.int (1 : Int32)), .val (.long (-mg)), .second, .val (.double (FP.ddiv (FP.l2d (-mg)) (FP.l2d P))), .second, .val (.double mm), .second, .val (.double (FP.l2d Q)), .second, .val (.double (FP.dadd (FP.l2d Q) (4602678819172646912 : UInt64))), .second] [(.double (FP.dadd (FP.l2d Q) (4602678819172646912 : UInt64))), (.double mm)] _
            refine XS.dcmpS X154.here hx rfl (hb hby at_187) rfl rfl ?_
            show SS p e below T154 m 188 #[.val (.long a), .second, .val (.long bb), .second, .val (.long cc), .second, .val (.long nanos), .second, .val (.int sign), .val (.long P), .second, .val (.long Q), .second, .val (.long R), .second, .val (.long mg), .second, .val (.int (1 : Int32)), .val (.long (-mg)), .second, .val (.double (FP.ddiv (FP.l2d (-mg)) (FP.l2d P))), .second, .val (.double mm), .second, .val (.double (FP.l2d Q)), .second, .val (.double (FP.dadd (FP.l2d Q) (4602678819172646912 : UInt64))), .second] [(.int (cmpValue (FP.dcmp mm (FP.dadd (FP.l2d Q) (4602678819172646912 : UInt64))) .g))] _
            refine XS.ifYes X154.here hx rfl (pc0 := 188) (pc' := 193) rfl (hb hby at_188) rfl ((if0 _ _).trans (tlt (hD.2.2.2.2.1 hc160)).1) (by decide) (by decide) ?_
            show SS p e below T154 m 193 #[.val (.long a), .second, .val (.long bb), .second, .val (.long cc), .second, .val (.long nanos), .second, .val (.int sign), .val (.long P), .second, .val (.long Q), .second, .val (.long R), .second, .val (.long mg), .second, .val (.int (1 : Int32)), .val (.long (-mg)), .second, .val (.double (FP.ddiv (FP.l2d (-mg)) (FP.l2d P))), .second, .val (.double mm), .second, .val (.double (FP.l2d Q)), .second, .val (.double (FP.dadd (FP.l2d Q) (4602678819172646912 : UInt64))), .second] [] _
            refine X154.ldc2Long hx hown (mvT hZ (w28 hw)) (g := (mkF m 193 #[.val (.long a), .second, .val (.long bb), .second, .val (.long cc), .second, .val (.long nanos), .second, .val (.int sign), .val (.long P), .second, .val (.long Q), .second, .val (.long R), .second, .val (.long mg), .second, .val (.int (1 : Int32)), .val (.long (-mg)), .second, .val (.double (FP.ddiv (FP.l2d (-mg)) (FP.l2d P))), .second, .val (.double mm), .second, .val (.double (FP.l2d Q)), .second, .val (.double (FP.dadd (FP.l2d Q) (4602678819172646912 : UInt64))), .second] [])) rfl (hb hby at_193) _ ?_
            show SS p e below T154 m 196 #[.val (.long a), .second, .val (.long bb), .second, .val (.long cc), .second, .val (.long nanos), .second, .val (.int sign), .val (.long P), .second, .val (.long Q), .second, .val (.long R), .second, .val (.long mg), .second, .val (.int (1 : Int32)), .val (.long (-mg)), .second, .val (.double (FP.ddiv (FP.l2d (-mg)) (FP.l2d P))), .second, .val (.double mm), .second, .val (.double (FP.l2d Q)), .second, .val (.double (FP.dadd (FP.l2d Q) (4602678819172646912 : UInt64))), .second] [(.long (2 : Int64))] _
            refine XS.lload X154.here hx rfl (hb hby at_196) rfl ?_
            show SS p e below T154 m 198 #[.val (.long a), .second, .val (.long bb), .second, .val (.long cc), .second, .val (.long nanos), .second, .val (.int sign), .val (.long P), .second, .val (.long Q), .second, .val (.long R), .second, .val (.long mg), .second, .val (.int (1 : Int32)), .val (.long (-mg)), .second, .val (.double (FP.ddiv (FP.l2d (-mg)) (FP.l2d P))), .second, .val (.double mm), .second, .val (.double (FP.l2d Q)), .second, .val (.double (FP.dadd (FP.l2d Q) (4602678819172646912 : UInt64))), .second] [(.long R), (.long (2 : Int64))] _
            refine XS.lmul X154.here hx rfl (hb hby at_198) rfl ?_
            show SS p e below T154 m 199 #[.val (.long a), .second, .val (.long bb), .second, .val (.long cc), .second, .val (.long nanos), .second, .val (.int sign), .val (.long P), .second, .val (.long Q), .second, .val (.long R), .second, .val (.long mg), .second, .val (.int (1 : Int32)), .val (.long (-mg)), .second, .val (.double (FP.ddiv (FP.l2d (-mg)) (FP.l2d P))), .second, .val (.double mm), .second, .val (.double (FP.l2d Q)), .second, .val (.double (FP.dadd (FP.l2d Q) (4602678819172646912 : UInt64))), .second] [(.long ((2 : Int64) * R))] _
            refine XS.lload X154.here hx rfl (hb hby at_199) rfl ?_
            show SS p e below T154 m 201 #[.val (.long a), .second, .val (.long bb), .second, .val (.long cc), .second, .val (.long nanos), .second, .val (.int sign), .val (.long P), .second, .val (.long Q), .second, .val (.long R), .second, .val (.long mg), .second, .val (.int (1 : Int32)), .val (.long (-mg)), .second, .val (.double (FP.ddiv (FP.l2d (-mg)) (FP.l2d P))), .second, .val (.double mm), .second, .val (.double (FP.l2d Q)), .second, .val (.double (FP.dadd (FP.l2d Q) (4602678819172646912 : UInt64))), .second] [(.long P), (.long ((2 : Int64) * R))] _
            refine XS.lcmp X154.here hx rfl (hb hby at_201) rfl ?_
            show SS p e below T154 m 202 #[.val (.long a), .second, .val (.long bb), .second, .val (.long cc), .second, .val (.long nanos), .second, .val (.int sign), .val (.long P), .second, .val (.long Q), .second, .val (.long R), .second, .val (.long mg), .second, .val (.int (1 : Int32)), .val (.long (-mg)), .second, .val (.double (FP.ddiv (FP.l2d (-mg)) (FP.l2d P))), .second, .val (.double mm), .second, .val (.double (FP.l2d Q)), .second, .val (.double (FP.dadd (FP.l2d Q) (4602678819172646912 : UInt64))), .second] [(.int (lcmpW ((2 : Int64) * R) P))] _
            exact kt
          by_cases hc162 : P < ((2 : Int64) * R)
          ·
            have W163 : ∀ zQ, SS p e below T154 m 216 #[.val (.long a), .second, .val (.long bb), .second, .val (.long cc), .second, .val (.long nanos), .second, .val (.int sign), .val (.long P), .second, .val (.long Q), .second, .val (.long R), .second, .val (.long mg), .second, .val (.int (1 : Int32)), .val (.long (-mg)), .second, .val (.double (FP.ddiv (FP.l2d (-mg)) (FP.l2d P))), .second, .val (.double mm), .second, .val (.double (FP.l2d Q)), .second, .val (.double (FP.dadd (FP.l2d Q) (4602678819172646912 : UInt64))), .second] [(.int (1 : Int32))] zQ → Steps p.tables e below (s₁.setTop (entryFrame m #[(.long a), (.long bb), (.long cc), (.long nanos), (.int sign)] maxLocals)) zQ := by
              intro tt kt
              refine W161 tt ?_
              refine XS.ifNo X154.here hx rfl (hb hby at_202) rfl ((if0 _ _).trans (tlt ((lw_gt _ _).mpr hc162)).2.2.2) ?_
              show SS p e below T154 m 205 #[.val (.long a), .second, .val (.long bb), .second, .val (.long cc), .second, .val (.long nanos), .second, .val (.int sign), .val (.long P), .second, .val (.long Q), .second, .val (.long R), .second, .val (.long mg), .second, .val (.int (1 : Int32)), .val (.long (-mg)), .second, .val (.double (FP.ddiv (FP.l2d (-mg)) (FP.l2d P))), .second, .val (.double mm), .second, .val (.double (FP.l2d Q)), .second, .val (.double (FP.dadd (FP.l2d Q) (4602678819172646912 : UInt64))), .second] [] _
              refine XS.dload X154.here hx rfl (hb hby at_205) rfl ?_
              show SS p e below T154 m 207 #[.val (.long a), .second, .val (.long bb), .second, .val (.long cc), .second, .val (.long nanos), .second, .val (.int sign), .val (.long P), .second, .val (.long Q), .second, .val (.long R), .second, .val (.long mg), .second, .val (.int (1 : Int32)), .val (.long (-mg)), .second, .val (.double (FP.ddiv (FP.l2d (-mg)) (FP.l2d P))), .second, .val (.double mm), .second, .val (.double (FP.l2d Q)), .second, .val (.double (FP.dadd (FP.l2d Q) (4602678819172646912 : UInt64))), .second] [(.double mm)] _
              refine XS.dload X154.here hx rfl (hb hby at_207) rfl ?_
              show SS p e below T154 m 209 #[.val (.long a), .second, .val (.long bb), .second, .val (.long cc), .second, .val (.long nanos), .second, .val (.int sign), .val (.long P), .second, .val (.long Q), .second, .val (.long R), .second, .val (.long mg), .second, .val (.int (1 : Int32)), .val (.long (-mg)), .second, .val (.double (FP.ddiv (FP.l2d (-mg)) (FP.l2d P))), .second, .val (.double mm), .second, .val (.double (FP.l2d Q)), .second, .val (.double (FP.dadd (FP.l2d Q) (4602678819172646912 : UInt64))), .second] [(.double (FP.dadd (FP.l2d Q) (4602678819172646912 : UInt64))), (.double mm)] _
              refine XS.dcmpS X154.here hx rfl (hb hby at_209) rfl rfl ?_
              show SS p e below T154 m 210 #[.val (.long a), .second, .val (.long bb), .second, .val (.long cc), .second, .val (.long nanos), .second, .val (.int sign), .val (.long P), .second, .val (.long Q), .second, .val (.long R), .second, .val (.long mg), .second, .val (.int (1 : Int32)), .val (.long (-mg)), .second, .val (.double (FP.ddiv (FP.l2d (-mg)) (FP.l2d P))), .second, .val (.double mm), .second, .val (.double (FP.l2d Q)), .second, .val (.double (FP.dadd (FP.l2d Q) (4602678819172646912 : UInt64))), .second] [(.int (cmpValue (FP.dcmp mm (FP.dadd (FP.l2d Q) (4602678819172646912 : UInt64))) .l))] _
              refine XS.ifYes X154.here hx rfl (pc0 := 210) (pc' := 215) rfl (hb hby at_210) rfl ((if0 _ _).trans (tlt (hD.2.2.2.2.2 hc162)).2.2.1) (by decide) (by decide) ?_
              show SS p e below T154 m 215 #[.val (.long a), .second, .val (.long bb), .second, .val (.long cc), .second, .val (.long nanos), .second, .val (.int sign), .val (.long P), .second, .val (.long Q), .second, .val (.long R), .second, .val (.long mg), .second, .val (.int (1 : Int32)), .val (.long (-mg)), .second, .val (.double (FP.ddiv (FP.l2d (-mg)) (FP.l2d P))), .second, .val (.double mm), .second, .val (.double (FP.l2d Q)), .second, .val (.double (FP.dadd (FP.l2d Q) (4602678819172646912 : UInt64))), .second] [] _
              refine XS.iconst X154.here hx rfl (hb hby at_215) ?_
              show SS p e below T154 m 216 #[.val (.long a), .second, .val (.long bb), .second, .val (.long cc), .second, .val (.long nanos), .second, .val (.int sign), .val (.long P), .second, .val (.long Q), .second, .val (.long R), .second, .val (.long mg), .second, .val (.int (1 : Int32)), .val (.long (-mg)), .second, .val (.double (FP.ddiv (FP.l2d (-mg)) (FP.l2d P))), .second, .val (.double mm), .second, .val (.double (FP.l2d Q)), .second, .val (.double (FP.dadd (FP.l2d Q) (4602678819172646912 : UInt64))), .second] [(.int (1 : Int32))] _
              exact kt
            obtain ⟨fs, hr, hrun, hended, hW, hsame⟩ := X154.leave (v := some (.int (nar .boolean (1 : Int32)))) (fun h => by rw [Bd.returns] at h; cases h)
            refine ⟨_, _, W163 _ (retN X154 hx (t := .boolean) Bd.returns (by simp) (hb hby at_216) hr), hrun, hended, _, _, rfl, ?_, ⟨_, rfl⟩, hW, hsame.mono (by decide) (by decide)⟩
            show Q_law Z a bb cc nanos sign h0 n0 _ T154.heap _
            rw [eq154]
            exact ⟨rfl, N154, (Keep.trans (Keep.trans (Keep.refl h0 []) K152 all0) K153 (allS (Or.inr (Nat.le_of_eq g152.symm)) all0))⟩
          ·
            have W164 : ∀ zQ, SS p e below T154 m 216 #[.val (.long a), .second, .val (.long bb), .second, .val (.long cc), .second, .val (.long nanos), .second, .val (.int sign), .val (.long P), .second, .val (.long Q), .second, .val (.long R), .second, .val (.long mg), .second, .val (.int (1 : Int32)), .val (.long (-mg)), .second, .val (.double (FP.ddiv (FP.l2d (-mg)) (FP.l2d P))), .second, .val (.double mm), .second, .val (.double (FP.l2d Q)), .second, .val (.double (FP.dadd (FP.l2d Q) (4602678819172646912 : UInt64))), .second] [(.int (1 : Int32))] zQ → Steps p.tables e below (s₁.setTop (entryFrame m #[(.long a), (.long bb), (.long cc), (.long nanos), (.int sign)] maxLocals)) zQ := by
              intro tt kt
              refine W161 tt ?_
              refine XS.ifYes X154.here hx rfl (pc0 := 202) (pc' := 215) rfl (hb hby at_202) rfl ((if0 _ _).trans (flt (fun q => hc162 ((lw_gt _ _).mp q))).2.2.2) (by decide) (by decide) ?_
              show SS p e below T154 m 215 #[.val (.long a), .second, .val (.long bb), .second, .val (.long cc), .second, .val (.long nanos), .second, .val (.int sign), .val (.long P), .second, .val (.long Q), .second, .val (.long R), .second, .val (.long mg), .second, .val (.int (1 : Int32)), .val (.long (-mg)), .second, .val (.double (FP.ddiv (FP.l2d (-mg)) (FP.l2d P))), .second, .val (.double mm), .second, .val (.double (FP.l2d Q)), .second, .val (.double (FP.dadd (FP.l2d Q) (4602678819172646912 : UInt64))), .second] [] _
              refine XS.iconst X154.here hx rfl (hb hby at_215) ?_
              show SS p e below T154 m 216 #[.val (.long a), .second, .val (.long bb), .second, .val (.long cc), .second, .val (.long nanos), .second, .val (.int sign), .val (.long P), .second, .val (.long Q), .second, .val (.long R), .second, .val (.long mg), .second, .val (.int (1 : Int32)), .val (.long (-mg)), .second, .val (.double (FP.ddiv (FP.l2d (-mg)) (FP.l2d P))), .second, .val (.double mm), .second, .val (.double (FP.l2d Q)), .second, .val (.double (FP.dadd (FP.l2d Q) (4602678819172646912 : UInt64))), .second] [(.int (1 : Int32))] _
              exact kt
            obtain ⟨fs, hr, hrun, hended, hW, hsame⟩ := X154.leave (v := some (.int (nar .boolean (1 : Int32)))) (fun h => by rw [Bd.returns] at h; cases h)
            refine ⟨_, _, W164 _ (retN X154 hx (t := .boolean) Bd.returns (by simp) (hb hby at_216) hr), hrun, hended, _, _, rfl, ?_, ⟨_, rfl⟩, hW, hsame.mono (by decide) (by decide)⟩
            show Q_law Z a bb cc nanos sign h0 n0 _ T154.heap _
            rw [eq154]
            exact ⟨rfl, N154, (Keep.trans (Keep.trans (Keep.refl h0 []) K152 all0) K153 (allS (Or.inr (Nat.le_of_eq g152.symm)) all0))⟩
        ·
          have W165 : ∀ zQ, SS p e below T154 m 202 #[.val (.long a), .second, .val (.long bb), .second, .val (.long cc), .second, .val (.long nanos), .second, .val (.int sign), .val (.long P), .second, .val (.long Q), .second, .val (.long R), .second, .val (.long mg), .second, .val (.int (1 : Int32)), .val (.long (-mg)), .second, .val (.double (FP.ddiv (FP.l2d (-mg)) (FP.l2d P))), .second, .val (.double mm), .second, .val (.double (FP.l2d Q)), .second, .val (.double (FP.dadd (FP.l2d Q) (4602678819172646912 : UInt64))), .second] [(.int (lcmpW ((2 : Int64) * R) P))] zQ → Steps p.tables e below (s₁.setTop (entryFrame m #[(.long a), (.long bb), (.long cc), (.long nanos), (.int sign)] maxLocals)) zQ := by
            intro tt kt
            refine W159 tt ?_
            refine XS.ifYes X154.here hx rfl (pc0 := 180) (pc' := 193) rfl (hb hby at_180) rfl ((if0 _ _).trans (flt (fun q => hc160 ((lw_lt _ _).mp q))).2.1) (by decide) (by decide) ?_
            show SS p e below T154 m 193 #[.val (.long a), .second, .val (.long bb), .second, .val (.long cc), .second, .val (.long nanos), .second, .val (.int sign), .val (.long P), .second, .val (.long Q), .second, .val (.long R), .second, .val (.long mg), .second, .val (.int (1 : Int32)), .val (.long (-mg)), .second, .val (.double (FP.ddiv (FP.l2d (-mg)) (FP.l2d P))), .second, .val (.double mm), .second, .val (.double (FP.l2d Q)), .second, .val (.double (FP.dadd (FP.l2d Q) (4602678819172646912 : UInt64))), .second] [] _
            refine X154.ldc2Long hx hown (mvT hZ (w28 hw)) (g := (mkF m 193 #[.val (.long a), .second, .val (.long bb), .second, .val (.long cc), .second, .val (.long nanos), .second, .val (.int sign), .val (.long P), .second, .val (.long Q), .second, .val (.long R), .second, .val (.long mg), .second, .val (.int (1 : Int32)), .val (.long (-mg)), .second, .val (.double (FP.ddiv (FP.l2d (-mg)) (FP.l2d P))), .second, .val (.double mm), .second, .val (.double (FP.l2d Q)), .second, .val (.double (FP.dadd (FP.l2d Q) (4602678819172646912 : UInt64))), .second] [])) rfl (hb hby at_193) _ ?_
            show SS p e below T154 m 196 #[.val (.long a), .second, .val (.long bb), .second, .val (.long cc), .second, .val (.long nanos), .second, .val (.int sign), .val (.long P), .second, .val (.long Q), .second, .val (.long R), .second, .val (.long mg), .second, .val (.int (1 : Int32)), .val (.long (-mg)), .second, .val (.double (FP.ddiv (FP.l2d (-mg)) (FP.l2d P))), .second, .val (.double mm), .second, .val (.double (FP.l2d Q)), .second, .val (.double (FP.dadd (FP.l2d Q) (4602678819172646912 : UInt64))), .second] [(.long (2 : Int64))] _
            refine XS.lload X154.here hx rfl (hb hby at_196) rfl ?_
            show SS p e below T154 m 198 #[.val (.long a), .second, .val (.long bb), .second, .val (.long cc), .second, .val (.long nanos), .second, .val (.int sign), .val (.long P), .second, .val (.long Q), .second, .val (.long R), .second, .val (.long mg), .second, .val (.int (1 : Int32)), .val (.long (-mg)), .second, .val (.double (FP.ddiv (FP.l2d (-mg)) (FP.l2d P))), .second, .val (.double mm), .second, .val (.double (FP.l2d Q)), .second, .val (.double (FP.dadd (FP.l2d Q) (4602678819172646912 : UInt64))), .second] [(.long R), (.long (2 : Int64))] _
            refine XS.lmul X154.here hx rfl (hb hby at_198) rfl ?_
            show SS p e below T154 m 199 #[.val (.long a), .second, .val (.long bb), .second, .val (.long cc), .second, .val (.long nanos), .second, .val (.int sign), .val (.long P), .second, .val (.long Q), .second, .val (.long R), .second, .val (.long mg), .second, .val (.int (1 : Int32)), .val (.long (-mg)), .second, .val (.double (FP.ddiv (FP.l2d (-mg)) (FP.l2d P))), .second, .val (.double mm), .second, .val (.double (FP.l2d Q)), .second, .val (.double (FP.dadd (FP.l2d Q) (4602678819172646912 : UInt64))), .second] [(.long ((2 : Int64) * R))] _
            refine XS.lload X154.here hx rfl (hb hby at_199) rfl ?_
            show SS p e below T154 m 201 #[.val (.long a), .second, .val (.long bb), .second, .val (.long cc), .second, .val (.long nanos), .second, .val (.int sign), .val (.long P), .second, .val (.long Q), .second, .val (.long R), .second, .val (.long mg), .second, .val (.int (1 : Int32)), .val (.long (-mg)), .second, .val (.double (FP.ddiv (FP.l2d (-mg)) (FP.l2d P))), .second, .val (.double mm), .second, .val (.double (FP.l2d Q)), .second, .val (.double (FP.dadd (FP.l2d Q) (4602678819172646912 : UInt64))), .second] [(.long P), (.long ((2 : Int64) * R))] _
            refine XS.lcmp X154.here hx rfl (hb hby at_201) rfl ?_
            show SS p e below T154 m 202 #[.val (.long a), .second, .val (.long bb), .second, .val (.long cc), .second, .val (.long nanos), .second, .val (.int sign), .val (.long P), .second, .val (.long Q), .second, .val (.long R), .second, .val (.long mg), .second, .val (.int (1 : Int32)), .val (.long (-mg)), .second, .val (.double (FP.ddiv (FP.l2d (-mg)) (FP.l2d P))), .second, .val (.double mm), .second, .val (.double (FP.l2d Q)), .second, .val (.double (FP.dadd (FP.l2d Q) (4602678819172646912 : UInt64))), .second] [(.int (lcmpW ((2 : Int64) * R) P))] _
            exact kt
          by_cases hc166 : P < ((2 : Int64) * R)
          ·
            have W167 : ∀ zQ, SS p e below T154 m 216 #[.val (.long a), .second, .val (.long bb), .second, .val (.long cc), .second, .val (.long nanos), .second, .val (.int sign), .val (.long P), .second, .val (.long Q), .second, .val (.long R), .second, .val (.long mg), .second, .val (.int (1 : Int32)), .val (.long (-mg)), .second, .val (.double (FP.ddiv (FP.l2d (-mg)) (FP.l2d P))), .second, .val (.double mm), .second, .val (.double (FP.l2d Q)), .second, .val (.double (FP.dadd (FP.l2d Q) (4602678819172646912 : UInt64))), .second] [(.int (1 : Int32))] zQ → Steps p.tables e below (s₁.setTop (entryFrame m #[(.long a), (.long bb), (.long cc), (.long nanos), (.int sign)] maxLocals)) zQ := by
              intro tt kt
              refine W165 tt ?_
              refine XS.ifNo X154.here hx rfl (hb hby at_202) rfl ((if0 _ _).trans (tlt ((lw_gt _ _).mpr hc166)).2.2.2) ?_
              show SS p e below T154 m 205 #[.val (.long a), .second, .val (.long bb), .second, .val (.long cc), .second, .val (.long nanos), .second, .val (.int sign), .val (.long P), .second, .val (.long Q), .second, .val (.long R), .second, .val (.long mg), .second, .val (.int (1 : Int32)), .val (.long (-mg)), .second, .val (.double (FP.ddiv (FP.l2d (-mg)) (FP.l2d P))), .second, .val (.double mm), .second, .val (.double (FP.l2d Q)), .second, .val (.double (FP.dadd (FP.l2d Q) (4602678819172646912 : UInt64))), .second] [] _
              refine XS.dload X154.here hx rfl (hb hby at_205) rfl ?_
              show SS p e below T154 m 207 #[.val (.long a), .second, .val (.long bb), .second, .val (.long cc), .second, .val (.long nanos), .second, .val (.int sign), .val (.long P), .second, .val (.long Q), .second, .val (.long R), .second, .val (.long mg), .second, .val (.int (1 : Int32)), .val (.long (-mg)), .second, .val (.double (FP.ddiv (FP.l2d (-mg)) (FP.l2d P))), .second, .val (.double mm), .second, .val (.double (FP.l2d Q)), .second, .val (.double (FP.dadd (FP.l2d Q) (4602678819172646912 : UInt64))), .second] [(.double mm)] _
              refine XS.dload X154.here hx rfl (hb hby at_207) rfl ?_
              show SS p e below T154 m 209 #[.val (.long a), .second, .val (.long bb), .second, .val (.long cc), .second, .val (.long nanos), .second, .val (.int sign), .val (.long P), .second, .val (.long Q), .second, .val (.long R), .second, .val (.long mg), .second, .val (.int (1 : Int32)), .val (.long (-mg)), .second, .val (.double (FP.ddiv (FP.l2d (-mg)) (FP.l2d P))), .second, .val (.double mm), .second, .val (.double (FP.l2d Q)), .second, .val (.double (FP.dadd (FP.l2d Q) (4602678819172646912 : UInt64))), .second] [(.double (FP.dadd (FP.l2d Q) (4602678819172646912 : UInt64))), (.double mm)] _
              refine XS.dcmpS X154.here hx rfl (hb hby at_209) rfl rfl ?_
              show SS p e below T154 m 210 #[.val (.long a), .second, .val (.long bb), .second, .val (.long cc), .second, .val (.long nanos), .second, .val (.int sign), .val (.long P), .second, .val (.long Q), .second, .val (.long R), .second, .val (.long mg), .second, .val (.int (1 : Int32)), .val (.long (-mg)), .second, .val (.double (FP.ddiv (FP.l2d (-mg)) (FP.l2d P))), .second, .val (.double mm), .second, .val (.double (FP.l2d Q)), .second, .val (.double (FP.dadd (FP.l2d Q) (4602678819172646912 : UInt64))), .second] [(.int (cmpValue (FP.dcmp mm (FP.dadd (FP.l2d Q) (4602678819172646912 : UInt64))) .l))] _
              refine XS.ifYes X154.here hx rfl (pc0 := 210) (pc' := 215) rfl (hb hby at_210) rfl ((if0 _ _).trans (tlt (hD.2.2.2.2.2 hc166)).2.2.1) (by decide) (by decide) ?_
              show SS p e below T154 m 215 #[.val (.long a), .second, .val (.long bb), .second, .val (.long cc), .second, .val (.long nanos), .second, .val (.int sign), .val (.long P), .second, .val (.long Q), .second, .val (.long R), .second, .val (.long mg), .second, .val (.int (1 : Int32)), .val (.long (-mg)), .second, .val (.double (FP.ddiv (FP.l2d (-mg)) (FP.l2d P))), .second, .val (.double mm), .second, .val (.double (FP.l2d Q)), .second, .val (.double (FP.dadd (FP.l2d Q) (4602678819172646912 : UInt64))), .second] [] _
              refine XS.iconst X154.here hx rfl (hb hby at_215) ?_
              show SS p e below T154 m 216 #[.val (.long a), .second, .val (.long bb), .second, .val (.long cc), .second, .val (.long nanos), .second, .val (.int sign), .val (.long P), .second, .val (.long Q), .second, .val (.long R), .second, .val (.long mg), .second, .val (.int (1 : Int32)), .val (.long (-mg)), .second, .val (.double (FP.ddiv (FP.l2d (-mg)) (FP.l2d P))), .second, .val (.double mm), .second, .val (.double (FP.l2d Q)), .second, .val (.double (FP.dadd (FP.l2d Q) (4602678819172646912 : UInt64))), .second] [(.int (1 : Int32))] _
              exact kt
            obtain ⟨fs, hr, hrun, hended, hW, hsame⟩ := X154.leave (v := some (.int (nar .boolean (1 : Int32)))) (fun h => by rw [Bd.returns] at h; cases h)
            refine ⟨_, _, W167 _ (retN X154 hx (t := .boolean) Bd.returns (by simp) (hb hby at_216) hr), hrun, hended, _, _, rfl, ?_, ⟨_, rfl⟩, hW, hsame.mono (by decide) (by decide)⟩
            show Q_law Z a bb cc nanos sign h0 n0 _ T154.heap _
            rw [eq154]
            exact ⟨rfl, N154, (Keep.trans (Keep.trans (Keep.refl h0 []) K152 all0) K153 (allS (Or.inr (Nat.le_of_eq g152.symm)) all0))⟩
          ·
            have W168 : ∀ zQ, SS p e below T154 m 216 #[.val (.long a), .second, .val (.long bb), .second, .val (.long cc), .second, .val (.long nanos), .second, .val (.int sign), .val (.long P), .second, .val (.long Q), .second, .val (.long R), .second, .val (.long mg), .second, .val (.int (1 : Int32)), .val (.long (-mg)), .second, .val (.double (FP.ddiv (FP.l2d (-mg)) (FP.l2d P))), .second, .val (.double mm), .second, .val (.double (FP.l2d Q)), .second, .val (.double (FP.dadd (FP.l2d Q) (4602678819172646912 : UInt64))), .second] [(.int (1 : Int32))] zQ → Steps p.tables e below (s₁.setTop (entryFrame m #[(.long a), (.long bb), (.long cc), (.long nanos), (.int sign)] maxLocals)) zQ := by
              intro tt kt
              refine W165 tt ?_
              refine XS.ifYes X154.here hx rfl (pc0 := 202) (pc' := 215) rfl (hb hby at_202) rfl ((if0 _ _).trans (flt (fun q => hc166 ((lw_gt _ _).mp q))).2.2.2) (by decide) (by decide) ?_
              show SS p e below T154 m 215 #[.val (.long a), .second, .val (.long bb), .second, .val (.long cc), .second, .val (.long nanos), .second, .val (.int sign), .val (.long P), .second, .val (.long Q), .second, .val (.long R), .second, .val (.long mg), .second, .val (.int (1 : Int32)), .val (.long (-mg)), .second, .val (.double (FP.ddiv (FP.l2d (-mg)) (FP.l2d P))), .second, .val (.double mm), .second, .val (.double (FP.l2d Q)), .second, .val (.double (FP.dadd (FP.l2d Q) (4602678819172646912 : UInt64))), .second] [] _
              refine XS.iconst X154.here hx rfl (hb hby at_215) ?_
              show SS p e below T154 m 216 #[.val (.long a), .second, .val (.long bb), .second, .val (.long cc), .second, .val (.long nanos), .second, .val (.int sign), .val (.long P), .second, .val (.long Q), .second, .val (.long R), .second, .val (.long mg), .second, .val (.int (1 : Int32)), .val (.long (-mg)), .second, .val (.double (FP.ddiv (FP.l2d (-mg)) (FP.l2d P))), .second, .val (.double mm), .second, .val (.double (FP.l2d Q)), .second, .val (.double (FP.dadd (FP.l2d Q) (4602678819172646912 : UInt64))), .second] [(.int (1 : Int32))] _
              exact kt
            obtain ⟨fs, hr, hrun, hended, hW, hsame⟩ := X154.leave (v := some (.int (nar .boolean (1 : Int32)))) (fun h => by rw [Bd.returns] at h; cases h)
            refine ⟨_, _, W168 _ (retN X154 hx (t := .boolean) Bd.returns (by simp) (hb hby at_216) hr), hrun, hended, _, _, rfl, ?_, ⟨_, rfl⟩, hW, hsame.mono (by decide) (by decide)⟩
            show Q_law Z a bb cc nanos sign h0 n0 _ T154.heap _
            rw [eq154]
            exact ⟨rfl, N154, (Keep.trans (Keep.trans (Keep.refl h0 []) K152 all0) K153 (allS (Or.inr (Nat.le_of_eq g152.symm)) all0))⟩
      ·
        have W169 : ∀ zQ, SS p e below T154 m 180 #[.val (.long a), .second, .val (.long bb), .second, .val (.long cc), .second, .val (.long nanos), .second, .val (.int sign), .val (.long P), .second, .val (.long Q), .second, .val (.long R), .second, .val (.long mg), .second, .val (.int (1 : Int32)), .val (.long (-mg)), .second, .val (.double (FP.ddiv (FP.l2d (-mg)) (FP.l2d P))), .second, .val (.double mm), .second, .val (.double (FP.l2d Q)), .second, .val (.double (FP.dadd (FP.l2d Q) (4602678819172646912 : UInt64))), .second] [(.int (lcmpW ((2 : Int64) * R) P))] zQ → Steps p.tables e below (s₁.setTop (entryFrame m #[(.long a), (.long bb), (.long cc), (.long nanos), (.int sign)] maxLocals)) zQ := by
          intro tt kt
          refine W157 tt ?_
          refine XS.ifYes X154.here hx rfl (pc0 := 158) (pc' := 171) rfl (hb hby at_158) rfl ((if0 _ _).trans (feq (fun q => hc158 ((lw_eq _ _).mp q))).2) (by decide) (by decide) ?_
          show SS p e below T154 m 171 #[.val (.long a), .second, .val (.long bb), .second, .val (.long cc), .second, .val (.long nanos), .second, .val (.int sign), .val (.long P), .second, .val (.long Q), .second, .val (.long R), .second, .val (.long mg), .second, .val (.int (1 : Int32)), .val (.long (-mg)), .second, .val (.double (FP.ddiv (FP.l2d (-mg)) (FP.l2d P))), .second, .val (.double mm), .second, .val (.double (FP.l2d Q)), .second, .val (.double (FP.dadd (FP.l2d Q) (4602678819172646912 : UInt64))), .second] [] _
          refine X154.ldc2Long hx hown (mvT hZ (w28 hw)) (g := (mkF m 171 #[.val (.long a), .second, .val (.long bb), .second, .val (.long cc), .second, .val (.long nanos), .second, .val (.int sign), .val (.long P), .second, .val (.long Q), .second, .val (.long R), .second, .val (.long mg), .second, .val (.int (1 : Int32)), .val (.long (-mg)), .second, .val (.double (FP.ddiv (FP.l2d (-mg)) (FP.l2d P))), .second, .val (.double mm), .second, .val (.double (FP.l2d Q)), .second, .val (.double (FP.dadd (FP.l2d Q) (4602678819172646912 : UInt64))), .second] [])) rfl (hb hby at_171) _ ?_
          show SS p e below T154 m 174 #[.val (.long a), .second, .val (.long bb), .second, .val (.long cc), .second, .val (.long nanos), .second, .val (.int sign), .val (.long P), .second, .val (.long Q), .second, .val (.long R), .second, .val (.long mg), .second, .val (.int (1 : Int32)), .val (.long (-mg)), .second, .val (.double (FP.ddiv (FP.l2d (-mg)) (FP.l2d P))), .second, .val (.double mm), .second, .val (.double (FP.l2d Q)), .second, .val (.double (FP.dadd (FP.l2d Q) (4602678819172646912 : UInt64))), .second] [(.long (2 : Int64))] _
          refine XS.lload X154.here hx rfl (hb hby at_174) rfl ?_
          show SS p e below T154 m 176 #[.val (.long a), .second, .val (.long bb), .second, .val (.long cc), .second, .val (.long nanos), .second, .val (.int sign), .val (.long P), .second, .val (.long Q), .second, .val (.long R), .second, .val (.long mg), .second, .val (.int (1 : Int32)), .val (.long (-mg)), .second, .val (.double (FP.ddiv (FP.l2d (-mg)) (FP.l2d P))), .second, .val (.double mm), .second, .val (.double (FP.l2d Q)), .second, .val (.double (FP.dadd (FP.l2d Q) (4602678819172646912 : UInt64))), .second] [(.long R), (.long (2 : Int64))] _
          refine XS.lmul X154.here hx rfl (hb hby at_176) rfl ?_
          show SS p e below T154 m 177 #[.val (.long a), .second, .val (.long bb), .second, .val (.long cc), .second, .val (.long nanos), .second, .val (.int sign), .val (.long P), .second, .val (.long Q), .second, .val (.long R), .second, .val (.long mg), .second, .val (.int (1 : Int32)), .val (.long (-mg)), .second, .val (.double (FP.ddiv (FP.l2d (-mg)) (FP.l2d P))), .second, .val (.double mm), .second, .val (.double (FP.l2d Q)), .second, .val (.double (FP.dadd (FP.l2d Q) (4602678819172646912 : UInt64))), .second] [(.long ((2 : Int64) * R))] _
          refine XS.lload X154.here hx rfl (hb hby at_177) rfl ?_
          show SS p e below T154 m 179 #[.val (.long a), .second, .val (.long bb), .second, .val (.long cc), .second, .val (.long nanos), .second, .val (.int sign), .val (.long P), .second, .val (.long Q), .second, .val (.long R), .second, .val (.long mg), .second, .val (.int (1 : Int32)), .val (.long (-mg)), .second, .val (.double (FP.ddiv (FP.l2d (-mg)) (FP.l2d P))), .second, .val (.double mm), .second, .val (.double (FP.l2d Q)), .second, .val (.double (FP.dadd (FP.l2d Q) (4602678819172646912 : UInt64))), .second] [(.long P), (.long ((2 : Int64) * R))] _
          refine XS.lcmp X154.here hx rfl (hb hby at_179) rfl ?_
          show SS p e below T154 m 180 #[.val (.long a), .second, .val (.long bb), .second, .val (.long cc), .second, .val (.long nanos), .second, .val (.int sign), .val (.long P), .second, .val (.long Q), .second, .val (.long R), .second, .val (.long mg), .second, .val (.int (1 : Int32)), .val (.long (-mg)), .second, .val (.double (FP.ddiv (FP.l2d (-mg)) (FP.l2d P))), .second, .val (.double mm), .second, .val (.double (FP.l2d Q)), .second, .val (.double (FP.dadd (FP.l2d Q) (4602678819172646912 : UInt64))), .second] [(.int (lcmpW ((2 : Int64) * R) P))] _
          exact kt
        by_cases hc170 : ((2 : Int64) * R) < P
        ·
          have W171 : ∀ zQ, SS p e below T154 m 202 #[.val (.long a), .second, .val (.long bb), .second, .val (.long cc), .second, .val (.long nanos), .second, .val (.int sign), .val (.long P), .second, .val (.long Q), .second, .val (.long R), .second, .val (.long mg), .second, .val (.int (1 : Int32)), .val (.long (-mg)), .second, .val (.double (FP.ddiv (FP.l2d (-mg)) (FP.l2d P))), .second, .val (.double mm), .second, .val (.double (FP.l2d Q)), .second, .val (.double (FP.dadd (FP.l2d Q) (4602678819172646912 : UInt64))), .second] [(.int (lcmpW ((2 : Int64) * R) P))] zQ → Steps p.tables e below (s₁.setTop (entryFrame m #[(.long a), (.long bb), (.long cc), (.long nanos), (.int sign)] maxLocals)) zQ := by
            intro tt kt
            refine W169 tt ?_
            refine XS.ifNo X154.here hx rfl (hb hby at_180) rfl ((if0 _ _).trans (tlt ((lw_lt _ _).mpr hc170)).2.1) ?_
            show SS p e below T154 m 183 #[.val (.long a), .second, .val (.long bb), .second, .val (.long cc), .second, .val (.long nanos), .second, .val (.int sign), .val (.long P), .second, .val (.long Q), .second, .val (.long R), .second, .val (.long mg), .second, .val (.int (1 : Int32)), .val (.long (-mg)), .second, .val (.double (FP.ddiv (FP.l2d (-mg)) (FP.l2d P))), .second, .val (.double mm), .second, .val (.double (FP.l2d Q)), .second, .val (.double (FP.dadd (FP.l2d Q) (4602678819172646912 : UInt64))), .second] [] _
            refine XS.dload X154.here hx rfl (hb hby at_183) rfl ?_
            show SS p e below T154 m 185 #[.val (.long a), .second, .val (.long bb), .second, .val (.long cc), .second, .val (.long nanos), .second, .val (.int sign), .val (.long P), .second, .val (.long Q), .second, .val (.long R), .second, .val (.long mg), .second, .val (.int (1 : Int32)), .val (.long (-mg)), .second, .val (.double (FP.ddiv (FP.l2d (-mg)) (FP.l2d P))), .second, .val (.double mm), .second, .val (.double (FP.l2d Q)), .second, .val (.double (FP.dadd (FP.l2d Q) (4602678819172646912 : UInt64))), .second] [(.double mm)] _
            refine XS.dload X154.here hx rfl (hb hby at_185) rfl ?_
            show SS p e below T154 m 187 #[.val (.long a), .second, .val (.long bb), .second, .val (.long cc), .second, .val (.long nanos), .second, .val (.int sign), .val (.long P), .second, .val (.long Q), .second, .val (.long R), .second, .val (.long mg), .second, .val (.int (1 : Int32)), .val (.long (-mg)), .second, .val (.double (FP.ddiv (FP.l2d (-mg)) (FP.l2d P))), .second, .val (.double mm), .second, .val (.double (FP.l2d Q)), .second, .val (.double (FP.dadd (FP.l2d Q) (4602678819172646912 : UInt64))), .second] [(.double (FP.dadd (FP.l2d Q) (4602678819172646912 : UInt64))), (.double mm)] _
            refine XS.dcmpS X154.here hx rfl (hb hby at_187) rfl rfl ?_
            show SS p e below T154 m 188 #[.val (.long a), .second, .val (.long bb), .second, .val (.long cc), .second, .val (.long nanos), .second, .val (.int sign), .val (.long P), .second, .val (.long Q), .second, .val (.long R), .second, .val (.long mg), .second, .val (.int (1 : Int32)), .val (.long (-mg)), .second, .val (.double (FP.ddiv (FP.l2d (-mg)) (FP.l2d P))), .second, .val (.double mm), .second, .val (.double (FP.l2d Q)), .second, .val (.double (FP.dadd (FP.l2d Q) (4602678819172646912 : UInt64))), .second] [(.int (cmpValue (FP.dcmp mm (FP.dadd (FP.l2d Q) (4602678819172646912 : UInt64))) .g))] _
            refine XS.ifYes X154.here hx rfl (pc0 := 188) (pc' := 193) rfl (hb hby at_188) rfl ((if0 _ _).trans (tlt (hD.2.2.2.2.1 hc170)).1) (by decide) (by decide) ?_
            show SS p e below T154 m 193 #[.val (.long a), .second, .val (.long bb), .second, .val (.long cc), .second, .val (.long nanos), .second, .val (.int sign), .val (.long P), .second, .val (.long Q), .second, .val (.long R), .second, .val (.long mg), .second, .val (.int (1 : Int32)), .val (.long (-mg)), .second, .val (.double (FP.ddiv (FP.l2d (-mg)) (FP.l2d P))), .second, .val (.double mm), .second, .val (.double (FP.l2d Q)), .second, .val (.double (FP.dadd (FP.l2d Q) (4602678819172646912 : UInt64))), .second] [] _
            refine X154.ldc2Long hx hown (mvT hZ (w28 hw)) (g := (mkF m 193 #[.val (.long a), .second, .val (.long bb), .second, .val (.long cc), .second, .val (.long nanos), .second, .val (.int sign), .val (.long P), .second, .val (.long Q), .second, .val (.long R), .second, .val (.long mg), .second, .val (.int (1 : Int32)), .val (.long (-mg)), .second, .val (.double (FP.ddiv (FP.l2d (-mg)) (FP.l2d P))), .second, .val (.double mm), .second, .val (.double (FP.l2d Q)), .second, .val (.double (FP.dadd (FP.l2d Q) (4602678819172646912 : UInt64))), .second] [])) rfl (hb hby at_193) _ ?_
            show SS p e below T154 m 196 #[.val (.long a), .second, .val (.long bb), .second, .val (.long cc), .second, .val (.long nanos), .second, .val (.int sign), .val (.long P), .second, .val (.long Q), .second, .val (.long R), .second, .val (.long mg), .second, .val (.int (1 : Int32)), .val (.long (-mg)), .second, .val (.double (FP.ddiv (FP.l2d (-mg)) (FP.l2d P))), .second, .val (.double mm), .second, .val (.double (FP.l2d Q)), .second, .val (.double (FP.dadd (FP.l2d Q) (4602678819172646912 : UInt64))), .second] [(.long (2 : Int64))] _
            refine XS.lload X154.here hx rfl (hb hby at_196) rfl ?_
            show SS p e below T154 m 198 #[.val (.long a), .second, .val (.long bb), .second, .val (.long cc), .second, .val (.long nanos), .second, .val (.int sign), .val (.long P), .second, .val (.long Q), .second, .val (.long R), .second, .val (.long mg), .second, .val (.int (1 : Int32)), .val (.long (-mg)), .second, .val (.double (FP.ddiv (FP.l2d (-mg)) (FP.l2d P))), .second, .val (.double mm), .second, .val (.double (FP.l2d Q)), .second, .val (.double (FP.dadd (FP.l2d Q) (4602678819172646912 : UInt64))), .second] [(.long R), (.long (2 : Int64))] _
            refine XS.lmul X154.here hx rfl (hb hby at_198) rfl ?_
            show SS p e below T154 m 199 #[.val (.long a), .second, .val (.long bb), .second, .val (.long cc), .second, .val (.long nanos), .second, .val (.int sign), .val (.long P), .second, .val (.long Q), .second, .val (.long R), .second, .val (.long mg), .second, .val (.int (1 : Int32)), .val (.long (-mg)), .second, .val (.double (FP.ddiv (FP.l2d (-mg)) (FP.l2d P))), .second, .val (.double mm), .second, .val (.double (FP.l2d Q)), .second, .val (.double (FP.dadd (FP.l2d Q) (4602678819172646912 : UInt64))), .second] [(.long ((2 : Int64) * R))] _
            refine XS.lload X154.here hx rfl (hb hby at_199) rfl ?_
            show SS p e below T154 m 201 #[.val (.long a), .second, .val (.long bb), .second, .val (.long cc), .second, .val (.long nanos), .second, .val (.int sign), .val (.long P), .second, .val (.long Q), .second, .val (.long R), .second, .val (.long mg), .second, .val (.int (1 : Int32)), .val (.long (-mg)), .second, .val (.double (FP.ddiv (FP.l2d (-mg)) (FP.l2d P))), .second, .val (.double mm), .second, .val (.double (FP.l2d Q)), .second, .val (.double (FP.dadd (FP.l2d Q) (4602678819172646912 : UInt64))), .second] [(.long P), (.long ((2 : Int64) * R))] _
            refine XS.lcmp X154.here hx rfl (hb hby at_201) rfl ?_
            show SS p e below T154 m 202 #[.val (.long a), .second, .val (.long bb), .second, .val (.long cc), .second, .val (.long nanos), .second, .val (.int sign), .val (.long P), .second, .val (.long Q), .second, .val (.long R), .second, .val (.long mg), .second, .val (.int (1 : Int32)), .val (.long (-mg)), .second, .val (.double (FP.ddiv (FP.l2d (-mg)) (FP.l2d P))), .second, .val (.double mm), .second, .val (.double (FP.l2d Q)), .second, .val (.double (FP.dadd (FP.l2d Q) (4602678819172646912 : UInt64))), .second] [(.int (lcmpW ((2 : Int64) * R) P))] _
            exact kt
          by_cases hc172 : P < ((2 : Int64) * R)
          ·
            have W173 : ∀ zQ, SS p e below T154 m 216 #[.val (.long a), .second, .val (.long bb), .second, .val (.long cc), .second, .val (.long nanos), .second, .val (.int sign), .val (.long P), .second, .val (.long Q), .second, .val (.long R), .second, .val (.long mg), .second, .val (.int (1 : Int32)), .val (.long (-mg)), .second, .val (.double (FP.ddiv (FP.l2d (-mg)) (FP.l2d P))), .second, .val (.double mm), .second, .val (.double (FP.l2d Q)), .second, .val (.double (FP.dadd (FP.l2d Q) (4602678819172646912 : UInt64))), .second] [(.int (1 : Int32))] zQ → Steps p.tables e below (s₁.setTop (entryFrame m #[(.long a), (.long bb), (.long cc), (.long nanos), (.int sign)] maxLocals)) zQ := by
              intro tt kt
              refine W171 tt ?_
              refine XS.ifNo X154.here hx rfl (hb hby at_202) rfl ((if0 _ _).trans (tlt ((lw_gt _ _).mpr hc172)).2.2.2) ?_
              show SS p e below T154 m 205 #[.val (.long a), .second, .val (.long bb), .second, .val (.long cc), .second, .val (.long nanos), .second, .val (.int sign), .val (.long P), .second, .val (.long Q), .second, .val (.long R), .second, .val (.long mg), .second, .val (.int (1 : Int32)), .val (.long (-mg)), .second, .val (.double (FP.ddiv (FP.l2d (-mg)) (FP.l2d P))), .second, .val (.double mm), .second, .val (.double (FP.l2d Q)), .second, .val (.double (FP.dadd (FP.l2d Q) (4602678819172646912 : UInt64))), .second] [] _
              refine XS.dload X154.here hx rfl (hb hby at_205) rfl ?_
              show SS p e below T154 m 207 #[.val (.long a), .second, .val (.long bb), .second, .val (.long cc), .second, .val (.long nanos), .second, .val (.int sign), .val (.long P), .second, .val (.long Q), .second, .val (.long R), .second, .val (.long mg), .second, .val (.int (1 : Int32)), .val (.long (-mg)), .second, .val (.double (FP.ddiv (FP.l2d (-mg)) (FP.l2d P))), .second, .val (.double mm), .second, .val (.double (FP.l2d Q)), .second, .val (.double (FP.dadd (FP.l2d Q) (4602678819172646912 : UInt64))), .second] [(.double mm)] _
              refine XS.dload X154.here hx rfl (hb hby at_207) rfl ?_
              show SS p e below T154 m 209 #[.val (.long a), .second, .val (.long bb), .second, .val (.long cc), .second, .val (.long nanos), .second, .val (.int sign), .val (.long P), .second, .val (.long Q), .second, .val (.long R), .second, .val (.long mg), .second, .val (.int (1 : Int32)), .val (.long (-mg)), .second, .val (.double (FP.ddiv (FP.l2d (-mg)) (FP.l2d P))), .second, .val (.double mm), .second, .val (.double (FP.l2d Q)), .second, .val (.double (FP.dadd (FP.l2d Q) (4602678819172646912 : UInt64))), .second] [(.double (FP.dadd (FP.l2d Q) (4602678819172646912 : UInt64))), (.double mm)] _
              refine XS.dcmpS X154.here hx rfl (hb hby at_209) rfl rfl ?_
              show SS p e below T154 m 210 #[.val (.long a), .second, .val (.long bb), .second, .val (.long cc), .second, .val (.long nanos), .second, .val (.int sign), .val (.long P), .second, .val (.long Q), .second, .val (.long R), .second, .val (.long mg), .second, .val (.int (1 : Int32)), .val (.long (-mg)), .second, .val (.double (FP.ddiv (FP.l2d (-mg)) (FP.l2d P))), .second, .val (.double mm), .second, .val (.double (FP.l2d Q)), .second, .val (.double (FP.dadd (FP.l2d Q) (4602678819172646912 : UInt64))), .second] [(.int (cmpValue (FP.dcmp mm (FP.dadd (FP.l2d Q) (4602678819172646912 : UInt64))) .l))] _
              refine XS.ifYes X154.here hx rfl (pc0 := 210) (pc' := 215) rfl (hb hby at_210) rfl ((if0 _ _).trans (tlt (hD.2.2.2.2.2 hc172)).2.2.1) (by decide) (by decide) ?_
              show SS p e below T154 m 215 #[.val (.long a), .second, .val (.long bb), .second, .val (.long cc), .second, .val (.long nanos), .second, .val (.int sign), .val (.long P), .second, .val (.long Q), .second, .val (.long R), .second, .val (.long mg), .second, .val (.int (1 : Int32)), .val (.long (-mg)), .second, .val (.double (FP.ddiv (FP.l2d (-mg)) (FP.l2d P))), .second, .val (.double mm), .second, .val (.double (FP.l2d Q)), .second, .val (.double (FP.dadd (FP.l2d Q) (4602678819172646912 : UInt64))), .second] [] _
              refine XS.iconst X154.here hx rfl (hb hby at_215) ?_
              show SS p e below T154 m 216 #[.val (.long a), .second, .val (.long bb), .second, .val (.long cc), .second, .val (.long nanos), .second, .val (.int sign), .val (.long P), .second, .val (.long Q), .second, .val (.long R), .second, .val (.long mg), .second, .val (.int (1 : Int32)), .val (.long (-mg)), .second, .val (.double (FP.ddiv (FP.l2d (-mg)) (FP.l2d P))), .second, .val (.double mm), .second, .val (.double (FP.l2d Q)), .second, .val (.double (FP.dadd (FP.l2d Q) (4602678819172646912 : UInt64))), .second] [(.int (1 : Int32))] _
              exact kt
            obtain ⟨fs, hr, hrun, hended, hW, hsame⟩ := X154.leave (v := some (.int (nar .boolean (1 : Int32)))) (fun h => by rw [Bd.returns] at h; cases h)
            refine ⟨_, _, W173 _ (retN X154 hx (t := .boolean) Bd.returns (by simp) (hb hby at_216) hr), hrun, hended, _, _, rfl, ?_, ⟨_, rfl⟩, hW, hsame.mono (by decide) (by decide)⟩
            show Q_law Z a bb cc nanos sign h0 n0 _ T154.heap _
            rw [eq154]
            exact ⟨rfl, N154, (Keep.trans (Keep.trans (Keep.refl h0 []) K152 all0) K153 (allS (Or.inr (Nat.le_of_eq g152.symm)) all0))⟩
          ·
            have W174 : ∀ zQ, SS p e below T154 m 216 #[.val (.long a), .second, .val (.long bb), .second, .val (.long cc), .second, .val (.long nanos), .second, .val (.int sign), .val (.long P), .second, .val (.long Q), .second, .val (.long R), .second, .val (.long mg), .second, .val (.int (1 : Int32)), .val (.long (-mg)), .second, .val (.double (FP.ddiv (FP.l2d (-mg)) (FP.l2d P))), .second, .val (.double mm), .second, .val (.double (FP.l2d Q)), .second, .val (.double (FP.dadd (FP.l2d Q) (4602678819172646912 : UInt64))), .second] [(.int (1 : Int32))] zQ → Steps p.tables e below (s₁.setTop (entryFrame m #[(.long a), (.long bb), (.long cc), (.long nanos), (.int sign)] maxLocals)) zQ := by
              intro tt kt
              refine W171 tt ?_
              refine XS.ifYes X154.here hx rfl (pc0 := 202) (pc' := 215) rfl (hb hby at_202) rfl ((if0 _ _).trans (flt (fun q => hc172 ((lw_gt _ _).mp q))).2.2.2) (by decide) (by decide) ?_
              show SS p e below T154 m 215 #[.val (.long a), .second, .val (.long bb), .second, .val (.long cc), .second, .val (.long nanos), .second, .val (.int sign), .val (.long P), .second, .val (.long Q), .second, .val (.long R), .second, .val (.long mg), .second, .val (.int (1 : Int32)), .val (.long (-mg)), .second, .val (.double (FP.ddiv (FP.l2d (-mg)) (FP.l2d P))), .second, .val (.double mm), .second, .val (.double (FP.l2d Q)), .second, .val (.double (FP.dadd (FP.l2d Q) (4602678819172646912 : UInt64))), .second] [] _
              refine XS.iconst X154.here hx rfl (hb hby at_215) ?_
              show SS p e below T154 m 216 #[.val (.long a), .second, .val (.long bb), .second, .val (.long cc), .second, .val (.long nanos), .second, .val (.int sign), .val (.long P), .second, .val (.long Q), .second, .val (.long R), .second, .val (.long mg), .second, .val (.int (1 : Int32)), .val (.long (-mg)), .second, .val (.double (FP.ddiv (FP.l2d (-mg)) (FP.l2d P))), .second, .val (.double mm), .second, .val (.double (FP.l2d Q)), .second, .val (.double (FP.dadd (FP.l2d Q) (4602678819172646912 : UInt64))), .second] [(.int (1 : Int32))] _
              exact kt
            obtain ⟨fs, hr, hrun, hended, hW, hsame⟩ := X154.leave (v := some (.int (nar .boolean (1 : Int32)))) (fun h => by rw [Bd.returns] at h; cases h)
            refine ⟨_, _, W174 _ (retN X154 hx (t := .boolean) Bd.returns (by simp) (hb hby at_216) hr), hrun, hended, _, _, rfl, ?_, ⟨_, rfl⟩, hW, hsame.mono (by decide) (by decide)⟩
            show Q_law Z a bb cc nanos sign h0 n0 _ T154.heap _
            rw [eq154]
            exact ⟨rfl, N154, (Keep.trans (Keep.trans (Keep.refl h0 []) K152 all0) K153 (allS (Or.inr (Nat.le_of_eq g152.symm)) all0))⟩
        ·
          have W175 : ∀ zQ, SS p e below T154 m 202 #[.val (.long a), .second, .val (.long bb), .second, .val (.long cc), .second, .val (.long nanos), .second, .val (.int sign), .val (.long P), .second, .val (.long Q), .second, .val (.long R), .second, .val (.long mg), .second, .val (.int (1 : Int32)), .val (.long (-mg)), .second, .val (.double (FP.ddiv (FP.l2d (-mg)) (FP.l2d P))), .second, .val (.double mm), .second, .val (.double (FP.l2d Q)), .second, .val (.double (FP.dadd (FP.l2d Q) (4602678819172646912 : UInt64))), .second] [(.int (lcmpW ((2 : Int64) * R) P))] zQ → Steps p.tables e below (s₁.setTop (entryFrame m #[(.long a), (.long bb), (.long cc), (.long nanos), (.int sign)] maxLocals)) zQ := by
            intro tt kt
            refine W169 tt ?_
            refine XS.ifYes X154.here hx rfl (pc0 := 180) (pc' := 193) rfl (hb hby at_180) rfl ((if0 _ _).trans (flt (fun q => hc170 ((lw_lt _ _).mp q))).2.1) (by decide) (by decide) ?_
            show SS p e below T154 m 193 #[.val (.long a), .second, .val (.long bb), .second, .val (.long cc), .second, .val (.long nanos), .second, .val (.int sign), .val (.long P), .second, .val (.long Q), .second, .val (.long R), .second, .val (.long mg), .second, .val (.int (1 : Int32)), .val (.long (-mg)), .second, .val (.double (FP.ddiv (FP.l2d (-mg)) (FP.l2d P))), .second, .val (.double mm), .second, .val (.double (FP.l2d Q)), .second, .val (.double (FP.dadd (FP.l2d Q) (4602678819172646912 : UInt64))), .second] [] _
            refine X154.ldc2Long hx hown (mvT hZ (w28 hw)) (g := (mkF m 193 #[.val (.long a), .second, .val (.long bb), .second, .val (.long cc), .second, .val (.long nanos), .second, .val (.int sign), .val (.long P), .second, .val (.long Q), .second, .val (.long R), .second, .val (.long mg), .second, .val (.int (1 : Int32)), .val (.long (-mg)), .second, .val (.double (FP.ddiv (FP.l2d (-mg)) (FP.l2d P))), .second, .val (.double mm), .second, .val (.double (FP.l2d Q)), .second, .val (.double (FP.dadd (FP.l2d Q) (4602678819172646912 : UInt64))), .second] [])) rfl (hb hby at_193) _ ?_
            show SS p e below T154 m 196 #[.val (.long a), .second, .val (.long bb), .second, .val (.long cc), .second, .val (.long nanos), .second, .val (.int sign), .val (.long P), .second, .val (.long Q), .second, .val (.long R), .second, .val (.long mg), .second, .val (.int (1 : Int32)), .val (.long (-mg)), .second, .val (.double (FP.ddiv (FP.l2d (-mg)) (FP.l2d P))), .second, .val (.double mm), .second, .val (.double (FP.l2d Q)), .second, .val (.double (FP.dadd (FP.l2d Q) (4602678819172646912 : UInt64))), .second] [(.long (2 : Int64))] _
            refine XS.lload X154.here hx rfl (hb hby at_196) rfl ?_
            show SS p e below T154 m 198 #[.val (.long a), .second, .val (.long bb), .second, .val (.long cc), .second, .val (.long nanos), .second, .val (.int sign), .val (.long P), .second, .val (.long Q), .second, .val (.long R), .second, .val (.long mg), .second, .val (.int (1 : Int32)), .val (.long (-mg)), .second, .val (.double (FP.ddiv (FP.l2d (-mg)) (FP.l2d P))), .second, .val (.double mm), .second, .val (.double (FP.l2d Q)), .second, .val (.double (FP.dadd (FP.l2d Q) (4602678819172646912 : UInt64))), .second] [(.long R), (.long (2 : Int64))] _
            refine XS.lmul X154.here hx rfl (hb hby at_198) rfl ?_
            show SS p e below T154 m 199 #[.val (.long a), .second, .val (.long bb), .second, .val (.long cc), .second, .val (.long nanos), .second, .val (.int sign), .val (.long P), .second, .val (.long Q), .second, .val (.long R), .second, .val (.long mg), .second, .val (.int (1 : Int32)), .val (.long (-mg)), .second, .val (.double (FP.ddiv (FP.l2d (-mg)) (FP.l2d P))), .second, .val (.double mm), .second, .val (.double (FP.l2d Q)), .second, .val (.double (FP.dadd (FP.l2d Q) (4602678819172646912 : UInt64))), .second] [(.long ((2 : Int64) * R))] _
            refine XS.lload X154.here hx rfl (hb hby at_199) rfl ?_
            show SS p e below T154 m 201 #[.val (.long a), .second, .val (.long bb), .second, .val (.long cc), .second, .val (.long nanos), .second, .val (.int sign), .val (.long P), .second, .val (.long Q), .second, .val (.long R), .second, .val (.long mg), .second, .val (.int (1 : Int32)), .val (.long (-mg)), .second, .val (.double (FP.ddiv (FP.l2d (-mg)) (FP.l2d P))), .second, .val (.double mm), .second, .val (.double (FP.l2d Q)), .second, .val (.double (FP.dadd (FP.l2d Q) (4602678819172646912 : UInt64))), .second] [(.long P), (.long ((2 : Int64) * R))] _
            refine XS.lcmp X154.here hx rfl (hb hby at_201) rfl ?_
            show SS p e below T154 m 202 #[.val (.long a), .second, .val (.long bb), .second, .val (.long cc), .second, .val (.long nanos), .second, .val (.int sign), .val (.long P), .second, .val (.long Q), .second, .val (.long R), .second, .val (.long mg), .second, .val (.int (1 : Int32)), .val (.long (-mg)), .second, .val (.double (FP.ddiv (FP.l2d (-mg)) (FP.l2d P))), .second, .val (.double mm), .second, .val (.double (FP.l2d Q)), .second, .val (.double (FP.dadd (FP.l2d Q) (4602678819172646912 : UInt64))), .second] [(.int (lcmpW ((2 : Int64) * R) P))] _
            exact kt
          by_cases hc176 : P < ((2 : Int64) * R)
          ·
            have W177 : ∀ zQ, SS p e below T154 m 216 #[.val (.long a), .second, .val (.long bb), .second, .val (.long cc), .second, .val (.long nanos), .second, .val (.int sign), .val (.long P), .second, .val (.long Q), .second, .val (.long R), .second, .val (.long mg), .second, .val (.int (1 : Int32)), .val (.long (-mg)), .second, .val (.double (FP.ddiv (FP.l2d (-mg)) (FP.l2d P))), .second, .val (.double mm), .second, .val (.double (FP.l2d Q)), .second, .val (.double (FP.dadd (FP.l2d Q) (4602678819172646912 : UInt64))), .second] [(.int (1 : Int32))] zQ → Steps p.tables e below (s₁.setTop (entryFrame m #[(.long a), (.long bb), (.long cc), (.long nanos), (.int sign)] maxLocals)) zQ := by
              intro tt kt
              refine W175 tt ?_
              refine XS.ifNo X154.here hx rfl (hb hby at_202) rfl ((if0 _ _).trans (tlt ((lw_gt _ _).mpr hc176)).2.2.2) ?_
              show SS p e below T154 m 205 #[.val (.long a), .second, .val (.long bb), .second, .val (.long cc), .second, .val (.long nanos), .second, .val (.int sign), .val (.long P), .second, .val (.long Q), .second, .val (.long R), .second, .val (.long mg), .second, .val (.int (1 : Int32)), .val (.long (-mg)), .second, .val (.double (FP.ddiv (FP.l2d (-mg)) (FP.l2d P))), .second, .val (.double mm), .second, .val (.double (FP.l2d Q)), .second, .val (.double (FP.dadd (FP.l2d Q) (4602678819172646912 : UInt64))), .second] [] _
              refine XS.dload X154.here hx rfl (hb hby at_205) rfl ?_
              show SS p e below T154 m 207 #[.val (.long a), .second, .val (.long bb), .second, .val (.long cc), .second, .val (.long nanos), .second, .val (.int sign), .val (.long P), .second, .val (.long Q), .second, .val (.long R), .second, .val (.long mg), .second, .val (.int (1 : Int32)), .val (.long (-mg)), .second, .val (.double (FP.ddiv (FP.l2d (-mg)) (FP.l2d P))), .second, .val (.double mm), .second, .val (.double (FP.l2d Q)), .second, .val (.double (FP.dadd (FP.l2d Q) (4602678819172646912 : UInt64))), .second] [(.double mm)] _
              refine XS.dload X154.here hx rfl (hb hby at_207) rfl ?_
              show SS p e below T154 m 209 #[.val (.long a), .second, .val (.long bb), .second, .val (.long cc), .second, .val (.long nanos), .second, .val (.int sign), .val (.long P), .second, .val (.long Q), .second, .val (.long R), .second, .val (.long mg), .second, .val (.int (1 : Int32)), .val (.long (-mg)), .second, .val (.double (FP.ddiv (FP.l2d (-mg)) (FP.l2d P))), .second, .val (.double mm), .second, .val (.double (FP.l2d Q)), .second, .val (.double (FP.dadd (FP.l2d Q) (4602678819172646912 : UInt64))), .second] [(.double (FP.dadd (FP.l2d Q) (4602678819172646912 : UInt64))), (.double mm)] _
              refine XS.dcmpS X154.here hx rfl (hb hby at_209) rfl rfl ?_
              show SS p e below T154 m 210 #[.val (.long a), .second, .val (.long bb), .second, .val (.long cc), .second, .val (.long nanos), .second, .val (.int sign), .val (.long P), .second, .val (.long Q), .second, .val (.long R), .second, .val (.long mg), .second, .val (.int (1 : Int32)), .val (.long (-mg)), .second, .val (.double (FP.ddiv (FP.l2d (-mg)) (FP.l2d P))), .second, .val (.double mm), .second, .val (.double (FP.l2d Q)), .second, .val (.double (FP.dadd (FP.l2d Q) (4602678819172646912 : UInt64))), .second] [(.int (cmpValue (FP.dcmp mm (FP.dadd (FP.l2d Q) (4602678819172646912 : UInt64))) .l))] _
              refine XS.ifYes X154.here hx rfl (pc0 := 210) (pc' := 215) rfl (hb hby at_210) rfl ((if0 _ _).trans (tlt (hD.2.2.2.2.2 hc176)).2.2.1) (by decide) (by decide) ?_
              show SS p e below T154 m 215 #[.val (.long a), .second, .val (.long bb), .second, .val (.long cc), .second, .val (.long nanos), .second, .val (.int sign), .val (.long P), .second, .val (.long Q), .second, .val (.long R), .second, .val (.long mg), .second, .val (.int (1 : Int32)), .val (.long (-mg)), .second, .val (.double (FP.ddiv (FP.l2d (-mg)) (FP.l2d P))), .second, .val (.double mm), .second, .val (.double (FP.l2d Q)), .second, .val (.double (FP.dadd (FP.l2d Q) (4602678819172646912 : UInt64))), .second] [] _
              refine XS.iconst X154.here hx rfl (hb hby at_215) ?_
              show SS p e below T154 m 216 #[.val (.long a), .second, .val (.long bb), .second, .val (.long cc), .second, .val (.long nanos), .second, .val (.int sign), .val (.long P), .second, .val (.long Q), .second, .val (.long R), .second, .val (.long mg), .second, .val (.int (1 : Int32)), .val (.long (-mg)), .second, .val (.double (FP.ddiv (FP.l2d (-mg)) (FP.l2d P))), .second, .val (.double mm), .second, .val (.double (FP.l2d Q)), .second, .val (.double (FP.dadd (FP.l2d Q) (4602678819172646912 : UInt64))), .second] [(.int (1 : Int32))] _
              exact kt
            obtain ⟨fs, hr, hrun, hended, hW, hsame⟩ := X154.leave (v := some (.int (nar .boolean (1 : Int32)))) (fun h => by rw [Bd.returns] at h; cases h)
            refine ⟨_, _, W177 _ (retN X154 hx (t := .boolean) Bd.returns (by simp) (hb hby at_216) hr), hrun, hended, _, _, rfl, ?_, ⟨_, rfl⟩, hW, hsame.mono (by decide) (by decide)⟩
            show Q_law Z a bb cc nanos sign h0 n0 _ T154.heap _
            rw [eq154]
            exact ⟨rfl, N154, (Keep.trans (Keep.trans (Keep.refl h0 []) K152 all0) K153 (allS (Or.inr (Nat.le_of_eq g152.symm)) all0))⟩
          ·
            have W178 : ∀ zQ, SS p e below T154 m 216 #[.val (.long a), .second, .val (.long bb), .second, .val (.long cc), .second, .val (.long nanos), .second, .val (.int sign), .val (.long P), .second, .val (.long Q), .second, .val (.long R), .second, .val (.long mg), .second, .val (.int (1 : Int32)), .val (.long (-mg)), .second, .val (.double (FP.ddiv (FP.l2d (-mg)) (FP.l2d P))), .second, .val (.double mm), .second, .val (.double (FP.l2d Q)), .second, .val (.double (FP.dadd (FP.l2d Q) (4602678819172646912 : UInt64))), .second] [(.int (1 : Int32))] zQ → Steps p.tables e below (s₁.setTop (entryFrame m #[(.long a), (.long bb), (.long cc), (.long nanos), (.int sign)] maxLocals)) zQ := by
              intro tt kt
              refine W175 tt ?_
              refine XS.ifYes X154.here hx rfl (pc0 := 202) (pc' := 215) rfl (hb hby at_202) rfl ((if0 _ _).trans (flt (fun q => hc176 ((lw_gt _ _).mp q))).2.2.2) (by decide) (by decide) ?_
              show SS p e below T154 m 215 #[.val (.long a), .second, .val (.long bb), .second, .val (.long cc), .second, .val (.long nanos), .second, .val (.int sign), .val (.long P), .second, .val (.long Q), .second, .val (.long R), .second, .val (.long mg), .second, .val (.int (1 : Int32)), .val (.long (-mg)), .second, .val (.double (FP.ddiv (FP.l2d (-mg)) (FP.l2d P))), .second, .val (.double mm), .second, .val (.double (FP.l2d Q)), .second, .val (.double (FP.dadd (FP.l2d Q) (4602678819172646912 : UInt64))), .second] [] _
              refine XS.iconst X154.here hx rfl (hb hby at_215) ?_
              show SS p e below T154 m 216 #[.val (.long a), .second, .val (.long bb), .second, .val (.long cc), .second, .val (.long nanos), .second, .val (.int sign), .val (.long P), .second, .val (.long Q), .second, .val (.long R), .second, .val (.long mg), .second, .val (.int (1 : Int32)), .val (.long (-mg)), .second, .val (.double (FP.ddiv (FP.l2d (-mg)) (FP.l2d P))), .second, .val (.double mm), .second, .val (.double (FP.l2d Q)), .second, .val (.double (FP.dadd (FP.l2d Q) (4602678819172646912 : UInt64))), .second] [(.int (1 : Int32))] _
              exact kt
            obtain ⟨fs, hr, hrun, hended, hW, hsame⟩ := X154.leave (v := some (.int (nar .boolean (1 : Int32)))) (fun h => by rw [Bd.returns] at h; cases h)
            refine ⟨_, _, W178 _ (retN X154 hx (t := .boolean) Bd.returns (by simp) (hb hby at_216) hr), hrun, hended, _, _, rfl, ?_, ⟨_, rfl⟩, hW, hsame.mono (by decide) (by decide)⟩
            show Q_law Z a bb cc nanos sign h0 n0 _ T154.heap _
            rw [eq154]
            exact ⟨rfl, N154, (Keep.trans (Keep.trans (Keep.refl h0 []) K152 all0) K153 (allS (Or.inr (Nat.le_of_eq g152.symm)) all0))⟩
    ·
      have W179 : ∀ zQ, SS p e below T154 m 158 #[.val (.long a), .second, .val (.long bb), .second, .val (.long cc), .second, .val (.long nanos), .second, .val (.int sign), .val (.long P), .second, .val (.long Q), .second, .val (.long R), .second, .val (.long mg), .second, .val (.int (1 : Int32)), .val (.long (-mg)), .second, .val (.double (FP.ddiv (FP.l2d (-mg)) (FP.l2d P))), .second, .val (.double mm), .second, .val (.double (FP.l2d Q)), .second, .val (.double (FP.dadd (FP.l2d Q) (4602678819172646912 : UInt64))), .second] [(.int (lcmpW ((2 : Int64) * R) P))] zQ → Steps p.tables e below (s₁.setTop (entryFrame m #[(.long a), (.long bb), (.long cc), (.long nanos), (.int sign)] maxLocals)) zQ := by
        intro tt kt
        refine W155 tt ?_
        refine XS.ifYes X154.here hx rfl (pc0 := 136) (pc' := 149) rfl (hb hby at_136) rfl ((if0 _ _).trans (feq (fun q => hc156 ((lw_eq _ _).mp q))).2) (by decide) (by decide) ?_
        show SS p e below T154 m 149 #[.val (.long a), .second, .val (.long bb), .second, .val (.long cc), .second, .val (.long nanos), .second, .val (.int sign), .val (.long P), .second, .val (.long Q), .second, .val (.long R), .second, .val (.long mg), .second, .val (.int (1 : Int32)), .val (.long (-mg)), .second, .val (.double (FP.ddiv (FP.l2d (-mg)) (FP.l2d P))), .second, .val (.double mm), .second, .val (.double (FP.l2d Q)), .second, .val (.double (FP.dadd (FP.l2d Q) (4602678819172646912 : UInt64))), .second] [] _
        refine X154.ldc2Long hx hown (mvT hZ (w28 hw)) (g := (mkF m 149 #[.val (.long a), .second, .val (.long bb), .second, .val (.long cc), .second, .val (.long nanos), .second, .val (.int sign), .val (.long P), .second, .val (.long Q), .second, .val (.long R), .second, .val (.long mg), .second, .val (.int (1 : Int32)), .val (.long (-mg)), .second, .val (.double (FP.ddiv (FP.l2d (-mg)) (FP.l2d P))), .second, .val (.double mm), .second, .val (.double (FP.l2d Q)), .second, .val (.double (FP.dadd (FP.l2d Q) (4602678819172646912 : UInt64))), .second] [])) rfl (hb hby at_149) _ ?_
        show SS p e below T154 m 152 #[.val (.long a), .second, .val (.long bb), .second, .val (.long cc), .second, .val (.long nanos), .second, .val (.int sign), .val (.long P), .second, .val (.long Q), .second, .val (.long R), .second, .val (.long mg), .second, .val (.int (1 : Int32)), .val (.long (-mg)), .second, .val (.double (FP.ddiv (FP.l2d (-mg)) (FP.l2d P))), .second, .val (.double mm), .second, .val (.double (FP.l2d Q)), .second, .val (.double (FP.dadd (FP.l2d Q) (4602678819172646912 : UInt64))), .second] [(.long (2 : Int64))] _
        refine XS.lload X154.here hx rfl (hb hby at_152) rfl ?_
        show SS p e below T154 m 154 #[.val (.long a), .second, .val (.long bb), .second, .val (.long cc), .second, .val (.long nanos), .second, .val (.int sign), .val (.long P), .second, .val (.long Q), .second, .val (.long R), .second, .val (.long mg), .second, .val (.int (1 : Int32)), .val (.long (-mg)), .second, .val (.double (FP.ddiv (FP.l2d (-mg)) (FP.l2d P))), .second, .val (.double mm), .second, .val (.double (FP.l2d Q)), .second, .val (.double (FP.dadd (FP.l2d Q) (4602678819172646912 : UInt64))), .second] [(.long R), (.long (2 : Int64))] _
        refine XS.lmul X154.here hx rfl (hb hby at_154) rfl ?_
        show SS p e below T154 m 155 #[.val (.long a), .second, .val (.long bb), .second, .val (.long cc), .second, .val (.long nanos), .second, .val (.int sign), .val (.long P), .second, .val (.long Q), .second, .val (.long R), .second, .val (.long mg), .second, .val (.int (1 : Int32)), .val (.long (-mg)), .second, .val (.double (FP.ddiv (FP.l2d (-mg)) (FP.l2d P))), .second, .val (.double mm), .second, .val (.double (FP.l2d Q)), .second, .val (.double (FP.dadd (FP.l2d Q) (4602678819172646912 : UInt64))), .second] [(.long ((2 : Int64) * R))] _
        refine XS.lload X154.here hx rfl (hb hby at_155) rfl ?_
        show SS p e below T154 m 157 #[.val (.long a), .second, .val (.long bb), .second, .val (.long cc), .second, .val (.long nanos), .second, .val (.int sign), .val (.long P), .second, .val (.long Q), .second, .val (.long R), .second, .val (.long mg), .second, .val (.int (1 : Int32)), .val (.long (-mg)), .second, .val (.double (FP.ddiv (FP.l2d (-mg)) (FP.l2d P))), .second, .val (.double mm), .second, .val (.double (FP.l2d Q)), .second, .val (.double (FP.dadd (FP.l2d Q) (4602678819172646912 : UInt64))), .second] [(.long P), (.long ((2 : Int64) * R))] _
        refine XS.lcmp X154.here hx rfl (hb hby at_157) rfl ?_
        show SS p e below T154 m 158 #[.val (.long a), .second, .val (.long bb), .second, .val (.long cc), .second, .val (.long nanos), .second, .val (.int sign), .val (.long P), .second, .val (.long Q), .second, .val (.long R), .second, .val (.long mg), .second, .val (.int (1 : Int32)), .val (.long (-mg)), .second, .val (.double (FP.ddiv (FP.l2d (-mg)) (FP.l2d P))), .second, .val (.double mm), .second, .val (.double (FP.l2d Q)), .second, .val (.double (FP.dadd (FP.l2d Q) (4602678819172646912 : UInt64))), .second] [(.int (lcmpW ((2 : Int64) * R) P))] _
        exact kt
      by_cases hc180 : ((2 : Int64) * R) = P
      ·
        have W181 : ∀ zQ, SS p e below T154 m 180 #[.val (.long a), .second, .val (.long bb), .second, .val (.long cc), .second, .val (.long nanos), .second, .val (.int sign), .val (.long P), .second, .val (.long Q), .second, .val (.long R), .second, .val (.long mg), .second, .val (.int (1 : Int32)), .val (.long (-mg)), .second, .val (.double (FP.ddiv (FP.l2d (-mg)) (FP.l2d P))), .second, .val (.double mm), .second, .val (.double (FP.l2d Q)), .second, .val (.double (FP.dadd (FP.l2d Q) (4602678819172646912 : UInt64))), .second] [(.int (lcmpW ((2 : Int64) * R) P))] zQ → Steps p.tables e below (s₁.setTop (entryFrame m #[(.long a), (.long bb), (.long cc), (.long nanos), (.int sign)] maxLocals)) zQ := by
          intro tt kt
          refine W179 tt ?_
          refine XS.ifNo X154.here hx rfl (hb hby at_158) rfl ((if0 _ _).trans (teq ((lw_eq _ _).mpr hc180)).2) ?_
          show SS p e below T154 m 161 #[.val (.long a), .second, .val (.long bb), .second, .val (.long cc), .second, .val (.long nanos), .second, .val (.int sign), .val (.long P), .second, .val (.long Q), .second, .val (.long R), .second, .val (.long mg), .second, .val (.int (1 : Int32)), .val (.long (-mg)), .second, .val (.double (FP.ddiv (FP.l2d (-mg)) (FP.l2d P))), .second, .val (.double mm), .second, .val (.double (FP.l2d Q)), .second, .val (.double (FP.dadd (FP.l2d Q) (4602678819172646912 : UInt64))), .second] [] _
          refine XS.dload X154.here hx rfl (hb hby at_161) rfl ?_
          show SS p e below T154 m 163 #[.val (.long a), .second, .val (.long bb), .second, .val (.long cc), .second, .val (.long nanos), .second, .val (.int sign), .val (.long P), .second, .val (.long Q), .second, .val (.long R), .second, .val (.long mg), .second, .val (.int (1 : Int32)), .val (.long (-mg)), .second, .val (.double (FP.ddiv (FP.l2d (-mg)) (FP.l2d P))), .second, .val (.double mm), .second, .val (.double (FP.l2d Q)), .second, .val (.double (FP.dadd (FP.l2d Q) (4602678819172646912 : UInt64))), .second] [(.double mm)] _
          refine XS.dload X154.here hx rfl (hb hby at_163) rfl ?_
          show SS p e below T154 m 165 #[.val (.long a), .second, .val (.long bb), .second, .val (.long cc), .second, .val (.long nanos), .second, .val (.int sign), .val (.long P), .second, .val (.long Q), .second, .val (.long R), .second, .val (.long mg), .second, .val (.int (1 : Int32)), .val (.long (-mg)), .second, .val (.double (FP.ddiv (FP.l2d (-mg)) (FP.l2d P))), .second, .val (.double mm), .second, .val (.double (FP.l2d Q)), .second, .val (.double (FP.dadd (FP.l2d Q) (4602678819172646912 : UInt64))), .second] [(.double (FP.dadd (FP.l2d Q) (4602678819172646912 : UInt64))), (.double mm)] _
          refine XS.dcmpS X154.here hx rfl (hb hby at_165) rfl rfl ?_
          show SS p e below T154 m 166 #[.val (.long a), .second, .val (.long bb), .second, .val (.long cc), .second, .val (.long nanos), .second, .val (.int sign), .val (.long P), .second, .val (.long Q), .second, .val (.long R), .second, .val (.long mg), .second, .val (.int (1 : Int32)), .val (.long (-mg)), .second, .val (.double (FP.ddiv (FP.l2d (-mg)) (FP.l2d P))), .second, .val (.double mm), .second, .val (.double (FP.l2d Q)), .second, .val (.double (FP.dadd (FP.l2d Q) (4602678819172646912 : UInt64))), .second] [(.int (cmpValue (FP.dcmp mm (FP.dadd (FP.l2d Q) (4602678819172646912 : UInt64))) .l))] _
          refine XS.ifYes X154.here hx rfl (pc0 := 166) (pc' := 171) rfl (hb hby at_166) rfl ((if0 _ _).trans (teq (hD.2.2.2.1 hc180)).1) (by decide) (by decide) ?_
          show SS p e below T154 m 171 #[.val (.long a), .second, .val (.long bb), .second, .val (.long cc), .second, .val (.long nanos), .second, .val (.int sign), .val (.long P), .second, .val (.long Q), .second, .val (.long R), .second, .val (.long mg), .second, .val (.int (1 : Int32)), .val (.long (-mg)), .second, .val (.double (FP.ddiv (FP.l2d (-mg)) (FP.l2d P))), .second, .val (.double mm), .second, .val (.double (FP.l2d Q)), .second, .val (.double (FP.dadd (FP.l2d Q) (4602678819172646912 : UInt64))), .second] [] _
          refine X154.ldc2Long hx hown (mvT hZ (w28 hw)) (g := (mkF m 171 #[.val (.long a), .second, .val (.long bb), .second, .val (.long cc), .second, .val (.long nanos), .second, .val (.int sign), .val (.long P), .second, .val (.long Q), .second, .val (.long R), .second, .val (.long mg), .second, .val (.int (1 : Int32)), .val (.long (-mg)), .second, .val (.double (FP.ddiv (FP.l2d (-mg)) (FP.l2d P))), .second, .val (.double mm), .second, .val (.double (FP.l2d Q)), .second, .val (.double (FP.dadd (FP.l2d Q) (4602678819172646912 : UInt64))), .second] [])) rfl (hb hby at_171) _ ?_
          show SS p e below T154 m 174 #[.val (.long a), .second, .val (.long bb), .second, .val (.long cc), .second, .val (.long nanos), .second, .val (.int sign), .val (.long P), .second, .val (.long Q), .second, .val (.long R), .second, .val (.long mg), .second, .val (.int (1 : Int32)), .val (.long (-mg)), .second, .val (.double (FP.ddiv (FP.l2d (-mg)) (FP.l2d P))), .second, .val (.double mm), .second, .val (.double (FP.l2d Q)), .second, .val (.double (FP.dadd (FP.l2d Q) (4602678819172646912 : UInt64))), .second] [(.long (2 : Int64))] _
          refine XS.lload X154.here hx rfl (hb hby at_174) rfl ?_
          show SS p e below T154 m 176 #[.val (.long a), .second, .val (.long bb), .second, .val (.long cc), .second, .val (.long nanos), .second, .val (.int sign), .val (.long P), .second, .val (.long Q), .second, .val (.long R), .second, .val (.long mg), .second, .val (.int (1 : Int32)), .val (.long (-mg)), .second, .val (.double (FP.ddiv (FP.l2d (-mg)) (FP.l2d P))), .second, .val (.double mm), .second, .val (.double (FP.l2d Q)), .second, .val (.double (FP.dadd (FP.l2d Q) (4602678819172646912 : UInt64))), .second] [(.long R), (.long (2 : Int64))] _
          refine XS.lmul X154.here hx rfl (hb hby at_176) rfl ?_
          show SS p e below T154 m 177 #[.val (.long a), .second, .val (.long bb), .second, .val (.long cc), .second, .val (.long nanos), .second, .val (.int sign), .val (.long P), .second, .val (.long Q), .second, .val (.long R), .second, .val (.long mg), .second, .val (.int (1 : Int32)), .val (.long (-mg)), .second, .val (.double (FP.ddiv (FP.l2d (-mg)) (FP.l2d P))), .second, .val (.double mm), .second, .val (.double (FP.l2d Q)), .second, .val (.double (FP.dadd (FP.l2d Q) (4602678819172646912 : UInt64))), .second] [(.long ((2 : Int64) * R))] _
          refine XS.lload X154.here hx rfl (hb hby at_177) rfl ?_
          show SS p e below T154 m 179 #[.val (.long a), .second, .val (.long bb), .second, .val (.long cc), .second, .val (.long nanos), .second, .val (.int sign), .val (.long P), .second, .val (.long Q), .second, .val (.long R), .second, .val (.long mg), .second, .val (.int (1 : Int32)), .val (.long (-mg)), .second, .val (.double (FP.ddiv (FP.l2d (-mg)) (FP.l2d P))), .second, .val (.double mm), .second, .val (.double (FP.l2d Q)), .second, .val (.double (FP.dadd (FP.l2d Q) (4602678819172646912 : UInt64))), .second] [(.long P), (.long ((2 : Int64) * R))] _
          refine XS.lcmp X154.here hx rfl (hb hby at_179) rfl ?_
          show SS p e below T154 m 180 #[.val (.long a), .second, .val (.long bb), .second, .val (.long cc), .second, .val (.long nanos), .second, .val (.int sign), .val (.long P), .second, .val (.long Q), .second, .val (.long R), .second, .val (.long mg), .second, .val (.int (1 : Int32)), .val (.long (-mg)), .second, .val (.double (FP.ddiv (FP.l2d (-mg)) (FP.l2d P))), .second, .val (.double mm), .second, .val (.double (FP.l2d Q)), .second, .val (.double (FP.dadd (FP.l2d Q) (4602678819172646912 : UInt64))), .second] [(.int (lcmpW ((2 : Int64) * R) P))] _
          exact kt
        by_cases hc182 : ((2 : Int64) * R) < P
        ·
          have W183 : ∀ zQ, SS p e below T154 m 202 #[.val (.long a), .second, .val (.long bb), .second, .val (.long cc), .second, .val (.long nanos), .second, .val (.int sign), .val (.long P), .second, .val (.long Q), .second, .val (.long R), .second, .val (.long mg), .second, .val (.int (1 : Int32)), .val (.long (-mg)), .second, .val (.double (FP.ddiv (FP.l2d (-mg)) (FP.l2d P))), .second, .val (.double mm), .second, .val (.double (FP.l2d Q)), .second, .val (.double (FP.dadd (FP.l2d Q) (4602678819172646912 : UInt64))), .second] [(.int (lcmpW ((2 : Int64) * R) P))] zQ → Steps p.tables e below (s₁.setTop (entryFrame m #[(.long a), (.long bb), (.long cc), (.long nanos), (.int sign)] maxLocals)) zQ := by
            intro tt kt
            refine W181 tt ?_
            refine XS.ifNo X154.here hx rfl (hb hby at_180) rfl ((if0 _ _).trans (tlt ((lw_lt _ _).mpr hc182)).2.1) ?_
            show SS p e below T154 m 183 #[.val (.long a), .second, .val (.long bb), .second, .val (.long cc), .second, .val (.long nanos), .second, .val (.int sign), .val (.long P), .second, .val (.long Q), .second, .val (.long R), .second, .val (.long mg), .second, .val (.int (1 : Int32)), .val (.long (-mg)), .second, .val (.double (FP.ddiv (FP.l2d (-mg)) (FP.l2d P))), .second, .val (.double mm), .second, .val (.double (FP.l2d Q)), .second, .val (.double (FP.dadd (FP.l2d Q) (4602678819172646912 : UInt64))), .second] [] _
            refine XS.dload X154.here hx rfl (hb hby at_183) rfl ?_
            show SS p e below T154 m 185 #[.val (.long a), .second, .val (.long bb), .second, .val (.long cc), .second, .val (.long nanos), .second, .val (.int sign), .val (.long P), .second, .val (.long Q), .second, .val (.long R), .second, .val (.long mg), .second, .val (.int (1 : Int32)), .val (.long (-mg)), .second, .val (.double (FP.ddiv (FP.l2d (-mg)) (FP.l2d P))), .second, .val (.double mm), .second, .val (.double (FP.l2d Q)), .second, .val (.double (FP.dadd (FP.l2d Q) (4602678819172646912 : UInt64))), .second] [(.double mm)] _
            refine XS.dload X154.here hx rfl (hb hby at_185) rfl ?_
            show SS p e below T154 m 187 #[.val (.long a), .second, .val (.long bb), .second, .val (.long cc), .second, .val (.long nanos), .second, .val (.int sign), .val (.long P), .second, .val (.long Q), .second, .val (.long R), .second, .val (.long mg), .second, .val (.int (1 : Int32)), .val (.long (-mg)), .second, .val (.double (FP.ddiv (FP.l2d (-mg)) (FP.l2d P))), .second, .val (.double mm), .second, .val (.double (FP.l2d Q)), .second, .val (.double (FP.dadd (FP.l2d Q) (4602678819172646912 : UInt64))), .second] [(.double (FP.dadd (FP.l2d Q) (4602678819172646912 : UInt64))), (.double mm)] _
            refine XS.dcmpS X154.here hx rfl (hb hby at_187) rfl rfl ?_
            show SS p e below T154 m 188 #[.val (.long a), .second, .val (.long bb), .second, .val (.long cc), .second, .val (.long nanos), .second, .val (.int sign), .val (.long P), .second, .val (.long Q), .second, .val (.long R), .second, .val (.long mg), .second, .val (.int (1 : Int32)), .val (.long (-mg)), .second, .val (.double (FP.ddiv (FP.l2d (-mg)) (FP.l2d P))), .second, .val (.double mm), .second, .val (.double (FP.l2d Q)), .second, .val (.double (FP.dadd (FP.l2d Q) (4602678819172646912 : UInt64))), .second] [(.int (cmpValue (FP.dcmp mm (FP.dadd (FP.l2d Q) (4602678819172646912 : UInt64))) .g))] _
            refine XS.ifYes X154.here hx rfl (pc0 := 188) (pc' := 193) rfl (hb hby at_188) rfl ((if0 _ _).trans (tlt (hD.2.2.2.2.1 hc182)).1) (by decide) (by decide) ?_
            show SS p e below T154 m 193 #[.val (.long a), .second, .val (.long bb), .second, .val (.long cc), .second, .val (.long nanos), .second, .val (.int sign), .val (.long P), .second, .val (.long Q), .second, .val (.long R), .second, .val (.long mg), .second, .val (.int (1 : Int32)), .val (.long (-mg)), .second, .val (.double (FP.ddiv (FP.l2d (-mg)) (FP.l2d P))), .second, .val (.double mm), .second, .val (.double (FP.l2d Q)), .second, .val (.double (FP.dadd (FP.l2d Q) (4602678819172646912 : UInt64))), .second] [] _
            refine X154.ldc2Long hx hown (mvT hZ (w28 hw)) (g := (mkF m 193 #[.val (.long a), .second, .val (.long bb), .second, .val (.long cc), .second, .val (.long nanos), .second, .val (.int sign), .val (.long P), .second, .val (.long Q), .second, .val (.long R), .second, .val (.long mg), .second, .val (.int (1 : Int32)), .val (.long (-mg)), .second, .val (.double (FP.ddiv (FP.l2d (-mg)) (FP.l2d P))), .second, .val (.double mm), .second, .val (.double (FP.l2d Q)), .second, .val (.double (FP.dadd (FP.l2d Q) (4602678819172646912 : UInt64))), .second] [])) rfl (hb hby at_193) _ ?_
            show SS p e below T154 m 196 #[.val (.long a), .second, .val (.long bb), .second, .val (.long cc), .second, .val (.long nanos), .second, .val (.int sign), .val (.long P), .second, .val (.long Q), .second, .val (.long R), .second, .val (.long mg), .second, .val (.int (1 : Int32)), .val (.long (-mg)), .second, .val (.double (FP.ddiv (FP.l2d (-mg)) (FP.l2d P))), .second, .val (.double mm), .second, .val (.double (FP.l2d Q)), .second, .val (.double (FP.dadd (FP.l2d Q) (4602678819172646912 : UInt64))), .second] [(.long (2 : Int64))] _
            refine XS.lload X154.here hx rfl (hb hby at_196) rfl ?_
            show SS p e below T154 m 198 #[.val (.long a), .second, .val (.long bb), .second, .val (.long cc), .second, .val (.long nanos), .second, .val (.int sign), .val (.long P), .second, .val (.long Q), .second, .val (.long R), .second, .val (.long mg), .second, .val (.int (1 : Int32)), .val (.long (-mg)), .second, .val (.double (FP.ddiv (FP.l2d (-mg)) (FP.l2d P))), .second, .val (.double mm), .second, .val (.double (FP.l2d Q)), .second, .val (.double (FP.dadd (FP.l2d Q) (4602678819172646912 : UInt64))), .second] [(.long R), (.long (2 : Int64))] _
            refine XS.lmul X154.here hx rfl (hb hby at_198) rfl ?_
            show SS p e below T154 m 199 #[.val (.long a), .second, .val (.long bb), .second, .val (.long cc), .second, .val (.long nanos), .second, .val (.int sign), .val (.long P), .second, .val (.long Q), .second, .val (.long R), .second, .val (.long mg), .second, .val (.int (1 : Int32)), .val (.long (-mg)), .second, .val (.double (FP.ddiv (FP.l2d (-mg)) (FP.l2d P))), .second, .val (.double mm), .second, .val (.double (FP.l2d Q)), .second, .val (.double (FP.dadd (FP.l2d Q) (4602678819172646912 : UInt64))), .second] [(.long ((2 : Int64) * R))] _
            refine XS.lload X154.here hx rfl (hb hby at_199) rfl ?_
            show SS p e below T154 m 201 #[.val (.long a), .second, .val (.long bb), .second, .val (.long cc), .second, .val (.long nanos), .second, .val (.int sign), .val (.long P), .second, .val (.long Q), .second, .val (.long R), .second, .val (.long mg), .second, .val (.int (1 : Int32)), .val (.long (-mg)), .second, .val (.double (FP.ddiv (FP.l2d (-mg)) (FP.l2d P))), .second, .val (.double mm), .second, .val (.double (FP.l2d Q)), .second, .val (.double (FP.dadd (FP.l2d Q) (4602678819172646912 : UInt64))), .second] [(.long P), (.long ((2 : Int64) * R))] _
            refine XS.lcmp X154.here hx rfl (hb hby at_201) rfl ?_
            show SS p e below T154 m 202 #[.val (.long a), .second, .val (.long bb), .second, .val (.long cc), .second, .val (.long nanos), .second, .val (.int sign), .val (.long P), .second, .val (.long Q), .second, .val (.long R), .second, .val (.long mg), .second, .val (.int (1 : Int32)), .val (.long (-mg)), .second, .val (.double (FP.ddiv (FP.l2d (-mg)) (FP.l2d P))), .second, .val (.double mm), .second, .val (.double (FP.l2d Q)), .second, .val (.double (FP.dadd (FP.l2d Q) (4602678819172646912 : UInt64))), .second] [(.int (lcmpW ((2 : Int64) * R) P))] _
            exact kt
          by_cases hc184 : P < ((2 : Int64) * R)
          ·
            have W185 : ∀ zQ, SS p e below T154 m 216 #[.val (.long a), .second, .val (.long bb), .second, .val (.long cc), .second, .val (.long nanos), .second, .val (.int sign), .val (.long P), .second, .val (.long Q), .second, .val (.long R), .second, .val (.long mg), .second, .val (.int (1 : Int32)), .val (.long (-mg)), .second, .val (.double (FP.ddiv (FP.l2d (-mg)) (FP.l2d P))), .second, .val (.double mm), .second, .val (.double (FP.l2d Q)), .second, .val (.double (FP.dadd (FP.l2d Q) (4602678819172646912 : UInt64))), .second] [(.int (1 : Int32))] zQ → Steps p.tables e below (s₁.setTop (entryFrame m #[(.long a), (.long bb), (.long cc), (.long nanos), (.int sign)] maxLocals)) zQ := by
              intro tt kt
              refine W183 tt ?_
              refine XS.ifNo X154.here hx rfl (hb hby at_202) rfl ((if0 _ _).trans (tlt ((lw_gt _ _).mpr hc184)).2.2.2) ?_
              show SS p e below T154 m 205 #[.val (.long a), .second, .val (.long bb), .second, .val (.long cc), .second, .val (.long nanos), .second, .val (.int sign), .val (.long P), .second, .val (.long Q), .second, .val (.long R), .second, .val (.long mg), .second, .val (.int (1 : Int32)), .val (.long (-mg)), .second, .val (.double (FP.ddiv (FP.l2d (-mg)) (FP.l2d P))), .second, .val (.double mm), .second, .val (.double (FP.l2d Q)), .second, .val (.double (FP.dadd (FP.l2d Q) (4602678819172646912 : UInt64))), .second] [] _
              refine XS.dload X154.here hx rfl (hb hby at_205) rfl ?_
              show SS p e below T154 m 207 #[.val (.long a), .second, .val (.long bb), .second, .val (.long cc), .second, .val (.long nanos), .second, .val (.int sign), .val (.long P), .second, .val (.long Q), .second, .val (.long R), .second, .val (.long mg), .second, .val (.int (1 : Int32)), .val (.long (-mg)), .second, .val (.double (FP.ddiv (FP.l2d (-mg)) (FP.l2d P))), .second, .val (.double mm), .second, .val (.double (FP.l2d Q)), .second, .val (.double (FP.dadd (FP.l2d Q) (4602678819172646912 : UInt64))), .second] [(.double mm)] _
              refine XS.dload X154.here hx rfl (hb hby at_207) rfl ?_
              show SS p e below T154 m 209 #[.val (.long a), .second, .val (.long bb), .second, .val (.long cc), .second, .val (.long nanos), .second, .val (.int sign), .val (.long P), .second, .val (.long Q), .second, .val (.long R), .second, .val (.long mg), .second, .val (.int (1 : Int32)), .val (.long (-mg)), .second, .val (.double (FP.ddiv (FP.l2d (-mg)) (FP.l2d P))), .second, .val (.double mm), .second, .val (.double (FP.l2d Q)), .second, .val (.double (FP.dadd (FP.l2d Q) (4602678819172646912 : UInt64))), .second] [(.double (FP.dadd (FP.l2d Q) (4602678819172646912 : UInt64))), (.double mm)] _
              refine XS.dcmpS X154.here hx rfl (hb hby at_209) rfl rfl ?_
              show SS p e below T154 m 210 #[.val (.long a), .second, .val (.long bb), .second, .val (.long cc), .second, .val (.long nanos), .second, .val (.int sign), .val (.long P), .second, .val (.long Q), .second, .val (.long R), .second, .val (.long mg), .second, .val (.int (1 : Int32)), .val (.long (-mg)), .second, .val (.double (FP.ddiv (FP.l2d (-mg)) (FP.l2d P))), .second, .val (.double mm), .second, .val (.double (FP.l2d Q)), .second, .val (.double (FP.dadd (FP.l2d Q) (4602678819172646912 : UInt64))), .second] [(.int (cmpValue (FP.dcmp mm (FP.dadd (FP.l2d Q) (4602678819172646912 : UInt64))) .l))] _
              refine XS.ifYes X154.here hx rfl (pc0 := 210) (pc' := 215) rfl (hb hby at_210) rfl ((if0 _ _).trans (tlt (hD.2.2.2.2.2 hc184)).2.2.1) (by decide) (by decide) ?_
              show SS p e below T154 m 215 #[.val (.long a), .second, .val (.long bb), .second, .val (.long cc), .second, .val (.long nanos), .second, .val (.int sign), .val (.long P), .second, .val (.long Q), .second, .val (.long R), .second, .val (.long mg), .second, .val (.int (1 : Int32)), .val (.long (-mg)), .second, .val (.double (FP.ddiv (FP.l2d (-mg)) (FP.l2d P))), .second, .val (.double mm), .second, .val (.double (FP.l2d Q)), .second, .val (.double (FP.dadd (FP.l2d Q) (4602678819172646912 : UInt64))), .second] [] _
              refine XS.iconst X154.here hx rfl (hb hby at_215) ?_
              show SS p e below T154 m 216 #[.val (.long a), .second, .val (.long bb), .second, .val (.long cc), .second, .val (.long nanos), .second, .val (.int sign), .val (.long P), .second, .val (.long Q), .second, .val (.long R), .second, .val (.long mg), .second, .val (.int (1 : Int32)), .val (.long (-mg)), .second, .val (.double (FP.ddiv (FP.l2d (-mg)) (FP.l2d P))), .second, .val (.double mm), .second, .val (.double (FP.l2d Q)), .second, .val (.double (FP.dadd (FP.l2d Q) (4602678819172646912 : UInt64))), .second] [(.int (1 : Int32))] _
              exact kt
            obtain ⟨fs, hr, hrun, hended, hW, hsame⟩ := X154.leave (v := some (.int (nar .boolean (1 : Int32)))) (fun h => by rw [Bd.returns] at h; cases h)
            refine ⟨_, _, W185 _ (retN X154 hx (t := .boolean) Bd.returns (by simp) (hb hby at_216) hr), hrun, hended, _, _, rfl, ?_, ⟨_, rfl⟩, hW, hsame.mono (by decide) (by decide)⟩
            show Q_law Z a bb cc nanos sign h0 n0 _ T154.heap _
            rw [eq154]
            exact ⟨rfl, N154, (Keep.trans (Keep.trans (Keep.refl h0 []) K152 all0) K153 (allS (Or.inr (Nat.le_of_eq g152.symm)) all0))⟩
          ·
            have W186 : ∀ zQ, SS p e below T154 m 216 #[.val (.long a), .second, .val (.long bb), .second, .val (.long cc), .second, .val (.long nanos), .second, .val (.int sign), .val (.long P), .second, .val (.long Q), .second, .val (.long R), .second, .val (.long mg), .second, .val (.int (1 : Int32)), .val (.long (-mg)), .second, .val (.double (FP.ddiv (FP.l2d (-mg)) (FP.l2d P))), .second, .val (.double mm), .second, .val (.double (FP.l2d Q)), .second, .val (.double (FP.dadd (FP.l2d Q) (4602678819172646912 : UInt64))), .second] [(.int (1 : Int32))] zQ → Steps p.tables e below (s₁.setTop (entryFrame m #[(.long a), (.long bb), (.long cc), (.long nanos), (.int sign)] maxLocals)) zQ := by
              intro tt kt
              refine W183 tt ?_
              refine XS.ifYes X154.here hx rfl (pc0 := 202) (pc' := 215) rfl (hb hby at_202) rfl ((if0 _ _).trans (flt (fun q => hc184 ((lw_gt _ _).mp q))).2.2.2) (by decide) (by decide) ?_
              show SS p e below T154 m 215 #[.val (.long a), .second, .val (.long bb), .second, .val (.long cc), .second, .val (.long nanos), .second, .val (.int sign), .val (.long P), .second, .val (.long Q), .second, .val (.long R), .second, .val (.long mg), .second, .val (.int (1 : Int32)), .val (.long (-mg)), .second, .val (.double (FP.ddiv (FP.l2d (-mg)) (FP.l2d P))), .second, .val (.double mm), .second, .val (.double (FP.l2d Q)), .second, .val (.double (FP.dadd (FP.l2d Q) (4602678819172646912 : UInt64))), .second] [] _
              refine XS.iconst X154.here hx rfl (hb hby at_215) ?_
              show SS p e below T154 m 216 #[.val (.long a), .second, .val (.long bb), .second, .val (.long cc), .second, .val (.long nanos), .second, .val (.int sign), .val (.long P), .second, .val (.long Q), .second, .val (.long R), .second, .val (.long mg), .second, .val (.int (1 : Int32)), .val (.long (-mg)), .second, .val (.double (FP.ddiv (FP.l2d (-mg)) (FP.l2d P))), .second, .val (.double mm), .second, .val (.double (FP.l2d Q)), .second, .val (.double (FP.dadd (FP.l2d Q) (4602678819172646912 : UInt64))), .second] [(.int (1 : Int32))] _
              exact kt
            obtain ⟨fs, hr, hrun, hended, hW, hsame⟩ := X154.leave (v := some (.int (nar .boolean (1 : Int32)))) (fun h => by rw [Bd.returns] at h; cases h)
            refine ⟨_, _, W186 _ (retN X154 hx (t := .boolean) Bd.returns (by simp) (hb hby at_216) hr), hrun, hended, _, _, rfl, ?_, ⟨_, rfl⟩, hW, hsame.mono (by decide) (by decide)⟩
            show Q_law Z a bb cc nanos sign h0 n0 _ T154.heap _
            rw [eq154]
            exact ⟨rfl, N154, (Keep.trans (Keep.trans (Keep.refl h0 []) K152 all0) K153 (allS (Or.inr (Nat.le_of_eq g152.symm)) all0))⟩
        ·
          have W187 : ∀ zQ, SS p e below T154 m 202 #[.val (.long a), .second, .val (.long bb), .second, .val (.long cc), .second, .val (.long nanos), .second, .val (.int sign), .val (.long P), .second, .val (.long Q), .second, .val (.long R), .second, .val (.long mg), .second, .val (.int (1 : Int32)), .val (.long (-mg)), .second, .val (.double (FP.ddiv (FP.l2d (-mg)) (FP.l2d P))), .second, .val (.double mm), .second, .val (.double (FP.l2d Q)), .second, .val (.double (FP.dadd (FP.l2d Q) (4602678819172646912 : UInt64))), .second] [(.int (lcmpW ((2 : Int64) * R) P))] zQ → Steps p.tables e below (s₁.setTop (entryFrame m #[(.long a), (.long bb), (.long cc), (.long nanos), (.int sign)] maxLocals)) zQ := by
            intro tt kt
            refine W181 tt ?_
            refine XS.ifYes X154.here hx rfl (pc0 := 180) (pc' := 193) rfl (hb hby at_180) rfl ((if0 _ _).trans (flt (fun q => hc182 ((lw_lt _ _).mp q))).2.1) (by decide) (by decide) ?_
            show SS p e below T154 m 193 #[.val (.long a), .second, .val (.long bb), .second, .val (.long cc), .second, .val (.long nanos), .second, .val (.int sign), .val (.long P), .second, .val (.long Q), .second, .val (.long R), .second, .val (.long mg), .second, .val (.int (1 : Int32)), .val (.long (-mg)), .second, .val (.double (FP.ddiv (FP.l2d (-mg)) (FP.l2d P))), .second, .val (.double mm), .second, .val (.double (FP.l2d Q)), .second, .val (.double (FP.dadd (FP.l2d Q) (4602678819172646912 : UInt64))), .second] [] _
            refine X154.ldc2Long hx hown (mvT hZ (w28 hw)) (g := (mkF m 193 #[.val (.long a), .second, .val (.long bb), .second, .val (.long cc), .second, .val (.long nanos), .second, .val (.int sign), .val (.long P), .second, .val (.long Q), .second, .val (.long R), .second, .val (.long mg), .second, .val (.int (1 : Int32)), .val (.long (-mg)), .second, .val (.double (FP.ddiv (FP.l2d (-mg)) (FP.l2d P))), .second, .val (.double mm), .second, .val (.double (FP.l2d Q)), .second, .val (.double (FP.dadd (FP.l2d Q) (4602678819172646912 : UInt64))), .second] [])) rfl (hb hby at_193) _ ?_
            show SS p e below T154 m 196 #[.val (.long a), .second, .val (.long bb), .second, .val (.long cc), .second, .val (.long nanos), .second, .val (.int sign), .val (.long P), .second, .val (.long Q), .second, .val (.long R), .second, .val (.long mg), .second, .val (.int (1 : Int32)), .val (.long (-mg)), .second, .val (.double (FP.ddiv (FP.l2d (-mg)) (FP.l2d P))), .second, .val (.double mm), .second, .val (.double (FP.l2d Q)), .second, .val (.double (FP.dadd (FP.l2d Q) (4602678819172646912 : UInt64))), .second] [(.long (2 : Int64))] _
            refine XS.lload X154.here hx rfl (hb hby at_196) rfl ?_
            show SS p e below T154 m 198 #[.val (.long a), .second, .val (.long bb), .second, .val (.long cc), .second, .val (.long nanos), .second, .val (.int sign), .val (.long P), .second, .val (.long Q), .second, .val (.long R), .second, .val (.long mg), .second, .val (.int (1 : Int32)), .val (.long (-mg)), .second, .val (.double (FP.ddiv (FP.l2d (-mg)) (FP.l2d P))), .second, .val (.double mm), .second, .val (.double (FP.l2d Q)), .second, .val (.double (FP.dadd (FP.l2d Q) (4602678819172646912 : UInt64))), .second] [(.long R), (.long (2 : Int64))] _
            refine XS.lmul X154.here hx rfl (hb hby at_198) rfl ?_
            show SS p e below T154 m 199 #[.val (.long a), .second, .val (.long bb), .second, .val (.long cc), .second, .val (.long nanos), .second, .val (.int sign), .val (.long P), .second, .val (.long Q), .second, .val (.long R), .second, .val (.long mg), .second, .val (.int (1 : Int32)), .val (.long (-mg)), .second, .val (.double (FP.ddiv (FP.l2d (-mg)) (FP.l2d P))), .second, .val (.double mm), .second, .val (.double (FP.l2d Q)), .second, .val (.double (FP.dadd (FP.l2d Q) (4602678819172646912 : UInt64))), .second] [(.long ((2 : Int64) * R))] _
            refine XS.lload X154.here hx rfl (hb hby at_199) rfl ?_
            show SS p e below T154 m 201 #[.val (.long a), .second, .val (.long bb), .second, .val (.long cc), .second, .val (.long nanos), .second, .val (.int sign), .val (.long P), .second, .val (.long Q), .second, .val (.long R), .second, .val (.long mg), .second, .val (.int (1 : Int32)), .val (.long (-mg)), .second, .val (.double (FP.ddiv (FP.l2d (-mg)) (FP.l2d P))), .second, .val (.double mm), .second, .val (.double (FP.l2d Q)), .second, .val (.double (FP.dadd (FP.l2d Q) (4602678819172646912 : UInt64))), .second] [(.long P), (.long ((2 : Int64) * R))] _
            refine XS.lcmp X154.here hx rfl (hb hby at_201) rfl ?_
            show SS p e below T154 m 202 #[.val (.long a), .second, .val (.long bb), .second, .val (.long cc), .second, .val (.long nanos), .second, .val (.int sign), .val (.long P), .second, .val (.long Q), .second, .val (.long R), .second, .val (.long mg), .second, .val (.int (1 : Int32)), .val (.long (-mg)), .second, .val (.double (FP.ddiv (FP.l2d (-mg)) (FP.l2d P))), .second, .val (.double mm), .second, .val (.double (FP.l2d Q)), .second, .val (.double (FP.dadd (FP.l2d Q) (4602678819172646912 : UInt64))), .second] [(.int (lcmpW ((2 : Int64) * R) P))] _
            exact kt
          by_cases hc188 : P < ((2 : Int64) * R)
          ·
            have W189 : ∀ zQ, SS p e below T154 m 216 #[.val (.long a), .second, .val (.long bb), .second, .val (.long cc), .second, .val (.long nanos), .second, .val (.int sign), .val (.long P), .second, .val (.long Q), .second, .val (.long R), .second, .val (.long mg), .second, .val (.int (1 : Int32)), .val (.long (-mg)), .second, .val (.double (FP.ddiv (FP.l2d (-mg)) (FP.l2d P))), .second, .val (.double mm), .second, .val (.double (FP.l2d Q)), .second, .val (.double (FP.dadd (FP.l2d Q) (4602678819172646912 : UInt64))), .second] [(.int (1 : Int32))] zQ → Steps p.tables e below (s₁.setTop (entryFrame m #[(.long a), (.long bb), (.long cc), (.long nanos), (.int sign)] maxLocals)) zQ := by
              intro tt kt
              refine W187 tt ?_
              refine XS.ifNo X154.here hx rfl (hb hby at_202) rfl ((if0 _ _).trans (tlt ((lw_gt _ _).mpr hc188)).2.2.2) ?_
              show SS p e below T154 m 205 #[.val (.long a), .second, .val (.long bb), .second, .val (.long cc), .second, .val (.long nanos), .second, .val (.int sign), .val (.long P), .second, .val (.long Q), .second, .val (.long R), .second, .val (.long mg), .second, .val (.int (1 : Int32)), .val (.long (-mg)), .second, .val (.double (FP.ddiv (FP.l2d (-mg)) (FP.l2d P))), .second, .val (.double mm), .second, .val (.double (FP.l2d Q)), .second, .val (.double (FP.dadd (FP.l2d Q) (4602678819172646912 : UInt64))), .second] [] _
              refine XS.dload X154.here hx rfl (hb hby at_205) rfl ?_
              show SS p e below T154 m 207 #[.val (.long a), .second, .val (.long bb), .second, .val (.long cc), .second, .val (.long nanos), .second, .val (.int sign), .val (.long P), .second, .val (.long Q), .second, .val (.long R), .second, .val (.long mg), .second, .val (.int (1 : Int32)), .val (.long (-mg)), .second, .val (.double (FP.ddiv (FP.l2d (-mg)) (FP.l2d P))), .second, .val (.double mm), .second, .val (.double (FP.l2d Q)), .second, .val (.double (FP.dadd (FP.l2d Q) (4602678819172646912 : UInt64))), .second] [(.double mm)] _
              refine XS.dload X154.here hx rfl (hb hby at_207) rfl ?_
              show SS p e below T154 m 209 #[.val (.long a), .second, .val (.long bb), .second, .val (.long cc), .second, .val (.long nanos), .second, .val (.int sign), .val (.long P), .second, .val (.long Q), .second, .val (.long R), .second, .val (.long mg), .second, .val (.int (1 : Int32)), .val (.long (-mg)), .second, .val (.double (FP.ddiv (FP.l2d (-mg)) (FP.l2d P))), .second, .val (.double mm), .second, .val (.double (FP.l2d Q)), .second, .val (.double (FP.dadd (FP.l2d Q) (4602678819172646912 : UInt64))), .second] [(.double (FP.dadd (FP.l2d Q) (4602678819172646912 : UInt64))), (.double mm)] _
              refine XS.dcmpS X154.here hx rfl (hb hby at_209) rfl rfl ?_
              show SS p e below T154 m 210 #[.val (.long a), .second, .val (.long bb), .second, .val (.long cc), .second, .val (.long nanos), .second, .val (.int sign), .val (.long P), .second, .val (.long Q), .second, .val (.long R), .second, .val (.long mg), .second, .val (.int (1 : Int32)), .val (.long (-mg)), .second, .val (.double (FP.ddiv (FP.l2d (-mg)) (FP.l2d P))), .second, .val (.double mm), .second, .val (.double (FP.l2d Q)), .second, .val (.double (FP.dadd (FP.l2d Q) (4602678819172646912 : UInt64))), .second] [(.int (cmpValue (FP.dcmp mm (FP.dadd (FP.l2d Q) (4602678819172646912 : UInt64))) .l))] _
              refine XS.ifYes X154.here hx rfl (pc0 := 210) (pc' := 215) rfl (hb hby at_210) rfl ((if0 _ _).trans (tlt (hD.2.2.2.2.2 hc188)).2.2.1) (by decide) (by decide) ?_
              show SS p e below T154 m 215 #[.val (.long a), .second, .val (.long bb), .second, .val (.long cc), .second, .val (.long nanos), .second, .val (.int sign), .val (.long P), .second, .val (.long Q), .second, .val (.long R), .second, .val (.long mg), .second, .val (.int (1 : Int32)), .val (.long (-mg)), .second, .val (.double (FP.ddiv (FP.l2d (-mg)) (FP.l2d P))), .second, .val (.double mm), .second, .val (.double (FP.l2d Q)), .second, .val (.double (FP.dadd (FP.l2d Q) (4602678819172646912 : UInt64))), .second] [] _
              refine XS.iconst X154.here hx rfl (hb hby at_215) ?_
              show SS p e below T154 m 216 #[.val (.long a), .second, .val (.long bb), .second, .val (.long cc), .second, .val (.long nanos), .second, .val (.int sign), .val (.long P), .second, .val (.long Q), .second, .val (.long R), .second, .val (.long mg), .second, .val (.int (1 : Int32)), .val (.long (-mg)), .second, .val (.double (FP.ddiv (FP.l2d (-mg)) (FP.l2d P))), .second, .val (.double mm), .second, .val (.double (FP.l2d Q)), .second, .val (.double (FP.dadd (FP.l2d Q) (4602678819172646912 : UInt64))), .second] [(.int (1 : Int32))] _
              exact kt
            obtain ⟨fs, hr, hrun, hended, hW, hsame⟩ := X154.leave (v := some (.int (nar .boolean (1 : Int32)))) (fun h => by rw [Bd.returns] at h; cases h)
            refine ⟨_, _, W189 _ (retN X154 hx (t := .boolean) Bd.returns (by simp) (hb hby at_216) hr), hrun, hended, _, _, rfl, ?_, ⟨_, rfl⟩, hW, hsame.mono (by decide) (by decide)⟩
            show Q_law Z a bb cc nanos sign h0 n0 _ T154.heap _
            rw [eq154]
            exact ⟨rfl, N154, (Keep.trans (Keep.trans (Keep.refl h0 []) K152 all0) K153 (allS (Or.inr (Nat.le_of_eq g152.symm)) all0))⟩
          ·
            have W190 : ∀ zQ, SS p e below T154 m 216 #[.val (.long a), .second, .val (.long bb), .second, .val (.long cc), .second, .val (.long nanos), .second, .val (.int sign), .val (.long P), .second, .val (.long Q), .second, .val (.long R), .second, .val (.long mg), .second, .val (.int (1 : Int32)), .val (.long (-mg)), .second, .val (.double (FP.ddiv (FP.l2d (-mg)) (FP.l2d P))), .second, .val (.double mm), .second, .val (.double (FP.l2d Q)), .second, .val (.double (FP.dadd (FP.l2d Q) (4602678819172646912 : UInt64))), .second] [(.int (1 : Int32))] zQ → Steps p.tables e below (s₁.setTop (entryFrame m #[(.long a), (.long bb), (.long cc), (.long nanos), (.int sign)] maxLocals)) zQ := by
              intro tt kt
              refine W187 tt ?_
              refine XS.ifYes X154.here hx rfl (pc0 := 202) (pc' := 215) rfl (hb hby at_202) rfl ((if0 _ _).trans (flt (fun q => hc188 ((lw_gt _ _).mp q))).2.2.2) (by decide) (by decide) ?_
              show SS p e below T154 m 215 #[.val (.long a), .second, .val (.long bb), .second, .val (.long cc), .second, .val (.long nanos), .second, .val (.int sign), .val (.long P), .second, .val (.long Q), .second, .val (.long R), .second, .val (.long mg), .second, .val (.int (1 : Int32)), .val (.long (-mg)), .second, .val (.double (FP.ddiv (FP.l2d (-mg)) (FP.l2d P))), .second, .val (.double mm), .second, .val (.double (FP.l2d Q)), .second, .val (.double (FP.dadd (FP.l2d Q) (4602678819172646912 : UInt64))), .second] [] _
              refine XS.iconst X154.here hx rfl (hb hby at_215) ?_
              show SS p e below T154 m 216 #[.val (.long a), .second, .val (.long bb), .second, .val (.long cc), .second, .val (.long nanos), .second, .val (.int sign), .val (.long P), .second, .val (.long Q), .second, .val (.long R), .second, .val (.long mg), .second, .val (.int (1 : Int32)), .val (.long (-mg)), .second, .val (.double (FP.ddiv (FP.l2d (-mg)) (FP.l2d P))), .second, .val (.double mm), .second, .val (.double (FP.l2d Q)), .second, .val (.double (FP.dadd (FP.l2d Q) (4602678819172646912 : UInt64))), .second] [(.int (1 : Int32))] _
              exact kt
            obtain ⟨fs, hr, hrun, hended, hW, hsame⟩ := X154.leave (v := some (.int (nar .boolean (1 : Int32)))) (fun h => by rw [Bd.returns] at h; cases h)
            refine ⟨_, _, W190 _ (retN X154 hx (t := .boolean) Bd.returns (by simp) (hb hby at_216) hr), hrun, hended, _, _, rfl, ?_, ⟨_, rfl⟩, hW, hsame.mono (by decide) (by decide)⟩
            show Q_law Z a bb cc nanos sign h0 n0 _ T154.heap _
            rw [eq154]
            exact ⟨rfl, N154, (Keep.trans (Keep.trans (Keep.refl h0 []) K152 all0) K153 (allS (Or.inr (Nat.le_of_eq g152.symm)) all0))⟩
      ·
        have W191 : ∀ zQ, SS p e below T154 m 180 #[.val (.long a), .second, .val (.long bb), .second, .val (.long cc), .second, .val (.long nanos), .second, .val (.int sign), .val (.long P), .second, .val (.long Q), .second, .val (.long R), .second, .val (.long mg), .second, .val (.int (1 : Int32)), .val (.long (-mg)), .second, .val (.double (FP.ddiv (FP.l2d (-mg)) (FP.l2d P))), .second, .val (.double mm), .second, .val (.double (FP.l2d Q)), .second, .val (.double (FP.dadd (FP.l2d Q) (4602678819172646912 : UInt64))), .second] [(.int (lcmpW ((2 : Int64) * R) P))] zQ → Steps p.tables e below (s₁.setTop (entryFrame m #[(.long a), (.long bb), (.long cc), (.long nanos), (.int sign)] maxLocals)) zQ := by
          intro tt kt
          refine W179 tt ?_
          refine XS.ifYes X154.here hx rfl (pc0 := 158) (pc' := 171) rfl (hb hby at_158) rfl ((if0 _ _).trans (feq (fun q => hc180 ((lw_eq _ _).mp q))).2) (by decide) (by decide) ?_
          show SS p e below T154 m 171 #[.val (.long a), .second, .val (.long bb), .second, .val (.long cc), .second, .val (.long nanos), .second, .val (.int sign), .val (.long P), .second, .val (.long Q), .second, .val (.long R), .second, .val (.long mg), .second, .val (.int (1 : Int32)), .val (.long (-mg)), .second, .val (.double (FP.ddiv (FP.l2d (-mg)) (FP.l2d P))), .second, .val (.double mm), .second, .val (.double (FP.l2d Q)), .second, .val (.double (FP.dadd (FP.l2d Q) (4602678819172646912 : UInt64))), .second] [] _
          refine X154.ldc2Long hx hown (mvT hZ (w28 hw)) (g := (mkF m 171 #[.val (.long a), .second, .val (.long bb), .second, .val (.long cc), .second, .val (.long nanos), .second, .val (.int sign), .val (.long P), .second, .val (.long Q), .second, .val (.long R), .second, .val (.long mg), .second, .val (.int (1 : Int32)), .val (.long (-mg)), .second, .val (.double (FP.ddiv (FP.l2d (-mg)) (FP.l2d P))), .second, .val (.double mm), .second, .val (.double (FP.l2d Q)), .second, .val (.double (FP.dadd (FP.l2d Q) (4602678819172646912 : UInt64))), .second] [])) rfl (hb hby at_171) _ ?_
          show SS p e below T154 m 174 #[.val (.long a), .second, .val (.long bb), .second, .val (.long cc), .second, .val (.long nanos), .second, .val (.int sign), .val (.long P), .second, .val (.long Q), .second, .val (.long R), .second, .val (.long mg), .second, .val (.int (1 : Int32)), .val (.long (-mg)), .second, .val (.double (FP.ddiv (FP.l2d (-mg)) (FP.l2d P))), .second, .val (.double mm), .second, .val (.double (FP.l2d Q)), .second, .val (.double (FP.dadd (FP.l2d Q) (4602678819172646912 : UInt64))), .second] [(.long (2 : Int64))] _
          refine XS.lload X154.here hx rfl (hb hby at_174) rfl ?_
          show SS p e below T154 m 176 #[.val (.long a), .second, .val (.long bb), .second, .val (.long cc), .second, .val (.long nanos), .second, .val (.int sign), .val (.long P), .second, .val (.long Q), .second, .val (.long R), .second, .val (.long mg), .second, .val (.int (1 : Int32)), .val (.long (-mg)), .second, .val (.double (FP.ddiv (FP.l2d (-mg)) (FP.l2d P))), .second, .val (.double mm), .second, .val (.double (FP.l2d Q)), .second, .val (.double (FP.dadd (FP.l2d Q) (4602678819172646912 : UInt64))), .second] [(.long R), (.long (2 : Int64))] _
          refine XS.lmul X154.here hx rfl (hb hby at_176) rfl ?_
          show SS p e below T154 m 177 #[.val (.long a), .second, .val (.long bb), .second, .val (.long cc), .second, .val (.long nanos), .second, .val (.int sign), .val (.long P), .second, .val (.long Q), .second, .val (.long R), .second, .val (.long mg), .second, .val (.int (1 : Int32)), .val (.long (-mg)), .second, .val (.double (FP.ddiv (FP.l2d (-mg)) (FP.l2d P))), .second, .val (.double mm), .second, .val (.double (FP.l2d Q)), .second, .val (.double (FP.dadd (FP.l2d Q) (4602678819172646912 : UInt64))), .second] [(.long ((2 : Int64) * R))] _
          refine XS.lload X154.here hx rfl (hb hby at_177) rfl ?_
          show SS p e below T154 m 179 #[.val (.long a), .second, .val (.long bb), .second, .val (.long cc), .second, .val (.long nanos), .second, .val (.int sign), .val (.long P), .second, .val (.long Q), .second, .val (.long R), .second, .val (.long mg), .second, .val (.int (1 : Int32)), .val (.long (-mg)), .second, .val (.double (FP.ddiv (FP.l2d (-mg)) (FP.l2d P))), .second, .val (.double mm), .second, .val (.double (FP.l2d Q)), .second, .val (.double (FP.dadd (FP.l2d Q) (4602678819172646912 : UInt64))), .second] [(.long P), (.long ((2 : Int64) * R))] _
          refine XS.lcmp X154.here hx rfl (hb hby at_179) rfl ?_
          show SS p e below T154 m 180 #[.val (.long a), .second, .val (.long bb), .second, .val (.long cc), .second, .val (.long nanos), .second, .val (.int sign), .val (.long P), .second, .val (.long Q), .second, .val (.long R), .second, .val (.long mg), .second, .val (.int (1 : Int32)), .val (.long (-mg)), .second, .val (.double (FP.ddiv (FP.l2d (-mg)) (FP.l2d P))), .second, .val (.double mm), .second, .val (.double (FP.l2d Q)), .second, .val (.double (FP.dadd (FP.l2d Q) (4602678819172646912 : UInt64))), .second] [(.int (lcmpW ((2 : Int64) * R) P))] _
          exact kt
        by_cases hc192 : ((2 : Int64) * R) < P
        ·
          have W193 : ∀ zQ, SS p e below T154 m 202 #[.val (.long a), .second, .val (.long bb), .second, .val (.long cc), .second, .val (.long nanos), .second, .val (.int sign), .val (.long P), .second, .val (.long Q), .second, .val (.long R), .second, .val (.long mg), .second, .val (.int (1 : Int32)), .val (.long (-mg)), .second, .val (.double (FP.ddiv (FP.l2d (-mg)) (FP.l2d P))), .second, .val (.double mm), .second, .val (.double (FP.l2d Q)), .second, .val (.double (FP.dadd (FP.l2d Q) (4602678819172646912 : UInt64))), .second] [(.int (lcmpW ((2 : Int64) * R) P))] zQ → Steps p.tables e below (s₁.setTop (entryFrame m #[(.long a), (.long bb), (.long cc), (.long nanos), (.int sign)] maxLocals)) zQ := by
            intro tt kt
            refine W191 tt ?_
            refine XS.ifNo X154.here hx rfl (hb hby at_180) rfl ((if0 _ _).trans (tlt ((lw_lt _ _).mpr hc192)).2.1) ?_
            show SS p e below T154 m 183 #[.val (.long a), .second, .val (.long bb), .second, .val (.long cc), .second, .val (.long nanos), .second, .val (.int sign), .val (.long P), .second, .val (.long Q), .second, .val (.long R), .second, .val (.long mg), .second, .val (.int (1 : Int32)), .val (.long (-mg)), .second, .val (.double (FP.ddiv (FP.l2d (-mg)) (FP.l2d P))), .second, .val (.double mm), .second, .val (.double (FP.l2d Q)), .second, .val (.double (FP.dadd (FP.l2d Q) (4602678819172646912 : UInt64))), .second] [] _
            refine XS.dload X154.here hx rfl (hb hby at_183) rfl ?_
            show SS p e below T154 m 185 #[.val (.long a), .second, .val (.long bb), .second, .val (.long cc), .second, .val (.long nanos), .second, .val (.int sign), .val (.long P), .second, .val (.long Q), .second, .val (.long R), .second, .val (.long mg), .second, .val (.int (1 : Int32)), .val (.long (-mg)), .second, .val (.double (FP.ddiv (FP.l2d (-mg)) (FP.l2d P))), .second, .val (.double mm), .second, .val (.double (FP.l2d Q)), .second, .val (.double (FP.dadd (FP.l2d Q) (4602678819172646912 : UInt64))), .second] [(.double mm)] _
            refine XS.dload X154.here hx rfl (hb hby at_185) rfl ?_
            show SS p e below T154 m 187 #[.val (.long a), .second, .val (.long bb), .second, .val (.long cc), .second, .val (.long nanos), .second, .val (.int sign), .val (.long P), .second, .val (.long Q), .second, .val (.long R), .second, .val (.long mg), .second, .val (.int (1 : Int32)), .val (.long (-mg)), .second, .val (.double (FP.ddiv (FP.l2d (-mg)) (FP.l2d P))), .second, .val (.double mm), .second, .val (.double (FP.l2d Q)), .second, .val (.double (FP.dadd (FP.l2d Q) (4602678819172646912 : UInt64))), .second] [(.double (FP.dadd (FP.l2d Q) (4602678819172646912 : UInt64))), (.double mm)] _
            refine XS.dcmpS X154.here hx rfl (hb hby at_187) rfl rfl ?_
            show SS p e below T154 m 188 #[.val (.long a), .second, .val (.long bb), .second, .val (.long cc), .second, .val (.long nanos), .second, .val (.int sign), .val (.long P), .second, .val (.long Q), .second, .val (.long R), .second, .val (.long mg), .second, .val (.int (1 : Int32)), .val (.long (-mg)), .second, .val (.double (FP.ddiv (FP.l2d (-mg)) (FP.l2d P))), .second, .val (.double mm), .second, .val (.double (FP.l2d Q)), .second, .val (.double (FP.dadd (FP.l2d Q) (4602678819172646912 : UInt64))), .second] [(.int (cmpValue (FP.dcmp mm (FP.dadd (FP.l2d Q) (4602678819172646912 : UInt64))) .g))] _
            refine XS.ifYes X154.here hx rfl (pc0 := 188) (pc' := 193) rfl (hb hby at_188) rfl ((if0 _ _).trans (tlt (hD.2.2.2.2.1 hc192)).1) (by decide) (by decide) ?_
            show SS p e below T154 m 193 #[.val (.long a), .second, .val (.long bb), .second, .val (.long cc), .second, .val (.long nanos), .second, .val (.int sign), .val (.long P), .second, .val (.long Q), .second, .val (.long R), .second, .val (.long mg), .second, .val (.int (1 : Int32)), .val (.long (-mg)), .second, .val (.double (FP.ddiv (FP.l2d (-mg)) (FP.l2d P))), .second, .val (.double mm), .second, .val (.double (FP.l2d Q)), .second, .val (.double (FP.dadd (FP.l2d Q) (4602678819172646912 : UInt64))), .second] [] _
            refine X154.ldc2Long hx hown (mvT hZ (w28 hw)) (g := (mkF m 193 #[.val (.long a), .second, .val (.long bb), .second, .val (.long cc), .second, .val (.long nanos), .second, .val (.int sign), .val (.long P), .second, .val (.long Q), .second, .val (.long R), .second, .val (.long mg), .second, .val (.int (1 : Int32)), .val (.long (-mg)), .second, .val (.double (FP.ddiv (FP.l2d (-mg)) (FP.l2d P))), .second, .val (.double mm), .second, .val (.double (FP.l2d Q)), .second, .val (.double (FP.dadd (FP.l2d Q) (4602678819172646912 : UInt64))), .second] [])) rfl (hb hby at_193) _ ?_
            show SS p e below T154 m 196 #[.val (.long a), .second, .val (.long bb), .second, .val (.long cc), .second, .val (.long nanos), .second, .val (.int sign), .val (.long P), .second, .val (.long Q), .second, .val (.long R), .second, .val (.long mg), .second, .val (.int (1 : Int32)), .val (.long (-mg)), .second, .val (.double (FP.ddiv (FP.l2d (-mg)) (FP.l2d P))), .second, .val (.double mm), .second, .val (.double (FP.l2d Q)), .second, .val (.double (FP.dadd (FP.l2d Q) (4602678819172646912 : UInt64))), .second] [(.long (2 : Int64))] _
            refine XS.lload X154.here hx rfl (hb hby at_196) rfl ?_
            show SS p e below T154 m 198 #[.val (.long a), .second, .val (.long bb), .second, .val (.long cc), .second, .val (.long nanos), .second, .val (.int sign), .val (.long P), .second, .val (.long Q), .second, .val (.long R), .second, .val (.long mg), .second, .val (.int (1 : Int32)), .val (.long (-mg)), .second, .val (.double (FP.ddiv (FP.l2d (-mg)) (FP.l2d P))), .second, .val (.double mm), .second, .val (.double (FP.l2d Q)), .second, .val (.double (FP.dadd (FP.l2d Q) (4602678819172646912 : UInt64))), .second] [(.long R), (.long (2 : Int64))] _
            refine XS.lmul X154.here hx rfl (hb hby at_198) rfl ?_
            show SS p e below T154 m 199 #[.val (.long a), .second, .val (.long bb), .second, .val (.long cc), .second, .val (.long nanos), .second, .val (.int sign), .val (.long P), .second, .val (.long Q), .second, .val (.long R), .second, .val (.long mg), .second, .val (.int (1 : Int32)), .val (.long (-mg)), .second, .val (.double (FP.ddiv (FP.l2d (-mg)) (FP.l2d P))), .second, .val (.double mm), .second, .val (.double (FP.l2d Q)), .second, .val (.double (FP.dadd (FP.l2d Q) (4602678819172646912 : UInt64))), .second] [(.long ((2 : Int64) * R))] _
            refine XS.lload X154.here hx rfl (hb hby at_199) rfl ?_
            show SS p e below T154 m 201 #[.val (.long a), .second, .val (.long bb), .second, .val (.long cc), .second, .val (.long nanos), .second, .val (.int sign), .val (.long P), .second, .val (.long Q), .second, .val (.long R), .second, .val (.long mg), .second, .val (.int (1 : Int32)), .val (.long (-mg)), .second, .val (.double (FP.ddiv (FP.l2d (-mg)) (FP.l2d P))), .second, .val (.double mm), .second, .val (.double (FP.l2d Q)), .second, .val (.double (FP.dadd (FP.l2d Q) (4602678819172646912 : UInt64))), .second] [(.long P), (.long ((2 : Int64) * R))] _
            refine XS.lcmp X154.here hx rfl (hb hby at_201) rfl ?_
            show SS p e below T154 m 202 #[.val (.long a), .second, .val (.long bb), .second, .val (.long cc), .second, .val (.long nanos), .second, .val (.int sign), .val (.long P), .second, .val (.long Q), .second, .val (.long R), .second, .val (.long mg), .second, .val (.int (1 : Int32)), .val (.long (-mg)), .second, .val (.double (FP.ddiv (FP.l2d (-mg)) (FP.l2d P))), .second, .val (.double mm), .second, .val (.double (FP.l2d Q)), .second, .val (.double (FP.dadd (FP.l2d Q) (4602678819172646912 : UInt64))), .second] [(.int (lcmpW ((2 : Int64) * R) P))] _
            exact kt
          by_cases hc194 : P < ((2 : Int64) * R)
          ·
            have W195 : ∀ zQ, SS p e below T154 m 216 #[.val (.long a), .second, .val (.long bb), .second, .val (.long cc), .second, .val (.long nanos), .second, .val (.int sign), .val (.long P), .second, .val (.long Q), .second, .val (.long R), .second, .val (.long mg), .second, .val (.int (1 : Int32)), .val (.long (-mg)), .second, .val (.double (FP.ddiv (FP.l2d (-mg)) (FP.l2d P))), .second, .val (.double mm), .second, .val (.double (FP.l2d Q)), .second, .val (.double (FP.dadd (FP.l2d Q) (4602678819172646912 : UInt64))), .second] [(.int (1 : Int32))] zQ → Steps p.tables e below (s₁.setTop (entryFrame m #[(.long a), (.long bb), (.long cc), (.long nanos), (.int sign)] maxLocals)) zQ := by
              intro tt kt
              refine W193 tt ?_
              refine XS.ifNo X154.here hx rfl (hb hby at_202) rfl ((if0 _ _).trans (tlt ((lw_gt _ _).mpr hc194)).2.2.2) ?_
              show SS p e below T154 m 205 #[.val (.long a), .second, .val (.long bb), .second, .val (.long cc), .second, .val (.long nanos), .second, .val (.int sign), .val (.long P), .second, .val (.long Q), .second, .val (.long R), .second, .val (.long mg), .second, .val (.int (1 : Int32)), .val (.long (-mg)), .second, .val (.double (FP.ddiv (FP.l2d (-mg)) (FP.l2d P))), .second, .val (.double mm), .second, .val (.double (FP.l2d Q)), .second, .val (.double (FP.dadd (FP.l2d Q) (4602678819172646912 : UInt64))), .second] [] _
              refine XS.dload X154.here hx rfl (hb hby at_205) rfl ?_
              show SS p e below T154 m 207 #[.val (.long a), .second, .val (.long bb), .second, .val (.long cc), .second, .val (.long nanos), .second, .val (.int sign), .val (.long P), .second, .val (.long Q), .second, .val (.long R), .second, .val (.long mg), .second, .val (.int (1 : Int32)), .val (.long (-mg)), .second, .val (.double (FP.ddiv (FP.l2d (-mg)) (FP.l2d P))), .second, .val (.double mm), .second, .val (.double (FP.l2d Q)), .second, .val (.double (FP.dadd (FP.l2d Q) (4602678819172646912 : UInt64))), .second] [(.double mm)] _
              refine XS.dload X154.here hx rfl (hb hby at_207) rfl ?_
              show SS p e below T154 m 209 #[.val (.long a), .second, .val (.long bb), .second, .val (.long cc), .second, .val (.long nanos), .second, .val (.int sign), .val (.long P), .second, .val (.long Q), .second, .val (.long R), .second, .val (.long mg), .second, .val (.int (1 : Int32)), .val (.long (-mg)), .second, .val (.double (FP.ddiv (FP.l2d (-mg)) (FP.l2d P))), .second, .val (.double mm), .second, .val (.double (FP.l2d Q)), .second, .val (.double (FP.dadd (FP.l2d Q) (4602678819172646912 : UInt64))), .second] [(.double (FP.dadd (FP.l2d Q) (4602678819172646912 : UInt64))), (.double mm)] _
              refine XS.dcmpS X154.here hx rfl (hb hby at_209) rfl rfl ?_
              show SS p e below T154 m 210 #[.val (.long a), .second, .val (.long bb), .second, .val (.long cc), .second, .val (.long nanos), .second, .val (.int sign), .val (.long P), .second, .val (.long Q), .second, .val (.long R), .second, .val (.long mg), .second, .val (.int (1 : Int32)), .val (.long (-mg)), .second, .val (.double (FP.ddiv (FP.l2d (-mg)) (FP.l2d P))), .second, .val (.double mm), .second, .val (.double (FP.l2d Q)), .second, .val (.double (FP.dadd (FP.l2d Q) (4602678819172646912 : UInt64))), .second] [(.int (cmpValue (FP.dcmp mm (FP.dadd (FP.l2d Q) (4602678819172646912 : UInt64))) .l))] _
              refine XS.ifYes X154.here hx rfl (pc0 := 210) (pc' := 215) rfl (hb hby at_210) rfl ((if0 _ _).trans (tlt (hD.2.2.2.2.2 hc194)).2.2.1) (by decide) (by decide) ?_
              show SS p e below T154 m 215 #[.val (.long a), .second, .val (.long bb), .second, .val (.long cc), .second, .val (.long nanos), .second, .val (.int sign), .val (.long P), .second, .val (.long Q), .second, .val (.long R), .second, .val (.long mg), .second, .val (.int (1 : Int32)), .val (.long (-mg)), .second, .val (.double (FP.ddiv (FP.l2d (-mg)) (FP.l2d P))), .second, .val (.double mm), .second, .val (.double (FP.l2d Q)), .second, .val (.double (FP.dadd (FP.l2d Q) (4602678819172646912 : UInt64))), .second] [] _
              refine XS.iconst X154.here hx rfl (hb hby at_215) ?_
              show SS p e below T154 m 216 #[.val (.long a), .second, .val (.long bb), .second, .val (.long cc), .second, .val (.long nanos), .second, .val (.int sign), .val (.long P), .second, .val (.long Q), .second, .val (.long R), .second, .val (.long mg), .second, .val (.int (1 : Int32)), .val (.long (-mg)), .second, .val (.double (FP.ddiv (FP.l2d (-mg)) (FP.l2d P))), .second, .val (.double mm), .second, .val (.double (FP.l2d Q)), .second, .val (.double (FP.dadd (FP.l2d Q) (4602678819172646912 : UInt64))), .second] [(.int (1 : Int32))] _
              exact kt
            obtain ⟨fs, hr, hrun, hended, hW, hsame⟩ := X154.leave (v := some (.int (nar .boolean (1 : Int32)))) (fun h => by rw [Bd.returns] at h; cases h)
            refine ⟨_, _, W195 _ (retN X154 hx (t := .boolean) Bd.returns (by simp) (hb hby at_216) hr), hrun, hended, _, _, rfl, ?_, ⟨_, rfl⟩, hW, hsame.mono (by decide) (by decide)⟩
            show Q_law Z a bb cc nanos sign h0 n0 _ T154.heap _
            rw [eq154]
            exact ⟨rfl, N154, (Keep.trans (Keep.trans (Keep.refl h0 []) K152 all0) K153 (allS (Or.inr (Nat.le_of_eq g152.symm)) all0))⟩
          ·
            have W196 : ∀ zQ, SS p e below T154 m 216 #[.val (.long a), .second, .val (.long bb), .second, .val (.long cc), .second, .val (.long nanos), .second, .val (.int sign), .val (.long P), .second, .val (.long Q), .second, .val (.long R), .second, .val (.long mg), .second, .val (.int (1 : Int32)), .val (.long (-mg)), .second, .val (.double (FP.ddiv (FP.l2d (-mg)) (FP.l2d P))), .second, .val (.double mm), .second, .val (.double (FP.l2d Q)), .second, .val (.double (FP.dadd (FP.l2d Q) (4602678819172646912 : UInt64))), .second] [(.int (1 : Int32))] zQ → Steps p.tables e below (s₁.setTop (entryFrame m #[(.long a), (.long bb), (.long cc), (.long nanos), (.int sign)] maxLocals)) zQ := by
              intro tt kt
              refine W193 tt ?_
              refine XS.ifYes X154.here hx rfl (pc0 := 202) (pc' := 215) rfl (hb hby at_202) rfl ((if0 _ _).trans (flt (fun q => hc194 ((lw_gt _ _).mp q))).2.2.2) (by decide) (by decide) ?_
              show SS p e below T154 m 215 #[.val (.long a), .second, .val (.long bb), .second, .val (.long cc), .second, .val (.long nanos), .second, .val (.int sign), .val (.long P), .second, .val (.long Q), .second, .val (.long R), .second, .val (.long mg), .second, .val (.int (1 : Int32)), .val (.long (-mg)), .second, .val (.double (FP.ddiv (FP.l2d (-mg)) (FP.l2d P))), .second, .val (.double mm), .second, .val (.double (FP.l2d Q)), .second, .val (.double (FP.dadd (FP.l2d Q) (4602678819172646912 : UInt64))), .second] [] _
              refine XS.iconst X154.here hx rfl (hb hby at_215) ?_
              show SS p e below T154 m 216 #[.val (.long a), .second, .val (.long bb), .second, .val (.long cc), .second, .val (.long nanos), .second, .val (.int sign), .val (.long P), .second, .val (.long Q), .second, .val (.long R), .second, .val (.long mg), .second, .val (.int (1 : Int32)), .val (.long (-mg)), .second, .val (.double (FP.ddiv (FP.l2d (-mg)) (FP.l2d P))), .second, .val (.double mm), .second, .val (.double (FP.l2d Q)), .second, .val (.double (FP.dadd (FP.l2d Q) (4602678819172646912 : UInt64))), .second] [(.int (1 : Int32))] _
              exact kt
            obtain ⟨fs, hr, hrun, hended, hW, hsame⟩ := X154.leave (v := some (.int (nar .boolean (1 : Int32)))) (fun h => by rw [Bd.returns] at h; cases h)
            refine ⟨_, _, W196 _ (retN X154 hx (t := .boolean) Bd.returns (by simp) (hb hby at_216) hr), hrun, hended, _, _, rfl, ?_, ⟨_, rfl⟩, hW, hsame.mono (by decide) (by decide)⟩
            show Q_law Z a bb cc nanos sign h0 n0 _ T154.heap _
            rw [eq154]
            exact ⟨rfl, N154, (Keep.trans (Keep.trans (Keep.refl h0 []) K152 all0) K153 (allS (Or.inr (Nat.le_of_eq g152.symm)) all0))⟩
        ·
          have W197 : ∀ zQ, SS p e below T154 m 202 #[.val (.long a), .second, .val (.long bb), .second, .val (.long cc), .second, .val (.long nanos), .second, .val (.int sign), .val (.long P), .second, .val (.long Q), .second, .val (.long R), .second, .val (.long mg), .second, .val (.int (1 : Int32)), .val (.long (-mg)), .second, .val (.double (FP.ddiv (FP.l2d (-mg)) (FP.l2d P))), .second, .val (.double mm), .second, .val (.double (FP.l2d Q)), .second, .val (.double (FP.dadd (FP.l2d Q) (4602678819172646912 : UInt64))), .second] [(.int (lcmpW ((2 : Int64) * R) P))] zQ → Steps p.tables e below (s₁.setTop (entryFrame m #[(.long a), (.long bb), (.long cc), (.long nanos), (.int sign)] maxLocals)) zQ := by
            intro tt kt
            refine W191 tt ?_
            refine XS.ifYes X154.here hx rfl (pc0 := 180) (pc' := 193) rfl (hb hby at_180) rfl ((if0 _ _).trans (flt (fun q => hc192 ((lw_lt _ _).mp q))).2.1) (by decide) (by decide) ?_
            show SS p e below T154 m 193 #[.val (.long a), .second, .val (.long bb), .second, .val (.long cc), .second, .val (.long nanos), .second, .val (.int sign), .val (.long P), .second, .val (.long Q), .second, .val (.long R), .second, .val (.long mg), .second, .val (.int (1 : Int32)), .val (.long (-mg)), .second, .val (.double (FP.ddiv (FP.l2d (-mg)) (FP.l2d P))), .second, .val (.double mm), .second, .val (.double (FP.l2d Q)), .second, .val (.double (FP.dadd (FP.l2d Q) (4602678819172646912 : UInt64))), .second] [] _
            refine X154.ldc2Long hx hown (mvT hZ (w28 hw)) (g := (mkF m 193 #[.val (.long a), .second, .val (.long bb), .second, .val (.long cc), .second, .val (.long nanos), .second, .val (.int sign), .val (.long P), .second, .val (.long Q), .second, .val (.long R), .second, .val (.long mg), .second, .val (.int (1 : Int32)), .val (.long (-mg)), .second, .val (.double (FP.ddiv (FP.l2d (-mg)) (FP.l2d P))), .second, .val (.double mm), .second, .val (.double (FP.l2d Q)), .second, .val (.double (FP.dadd (FP.l2d Q) (4602678819172646912 : UInt64))), .second] [])) rfl (hb hby at_193) _ ?_
            show SS p e below T154 m 196 #[.val (.long a), .second, .val (.long bb), .second, .val (.long cc), .second, .val (.long nanos), .second, .val (.int sign), .val (.long P), .second, .val (.long Q), .second, .val (.long R), .second, .val (.long mg), .second, .val (.int (1 : Int32)), .val (.long (-mg)), .second, .val (.double (FP.ddiv (FP.l2d (-mg)) (FP.l2d P))), .second, .val (.double mm), .second, .val (.double (FP.l2d Q)), .second, .val (.double (FP.dadd (FP.l2d Q) (4602678819172646912 : UInt64))), .second] [(.long (2 : Int64))] _
            refine XS.lload X154.here hx rfl (hb hby at_196) rfl ?_
            show SS p e below T154 m 198 #[.val (.long a), .second, .val (.long bb), .second, .val (.long cc), .second, .val (.long nanos), .second, .val (.int sign), .val (.long P), .second, .val (.long Q), .second, .val (.long R), .second, .val (.long mg), .second, .val (.int (1 : Int32)), .val (.long (-mg)), .second, .val (.double (FP.ddiv (FP.l2d (-mg)) (FP.l2d P))), .second, .val (.double mm), .second, .val (.double (FP.l2d Q)), .second, .val (.double (FP.dadd (FP.l2d Q) (4602678819172646912 : UInt64))), .second] [(.long R), (.long (2 : Int64))] _
            refine XS.lmul X154.here hx rfl (hb hby at_198) rfl ?_
            show SS p e below T154 m 199 #[.val (.long a), .second, .val (.long bb), .second, .val (.long cc), .second, .val (.long nanos), .second, .val (.int sign), .val (.long P), .second, .val (.long Q), .second, .val (.long R), .second, .val (.long mg), .second, .val (.int (1 : Int32)), .val (.long (-mg)), .second, .val (.double (FP.ddiv (FP.l2d (-mg)) (FP.l2d P))), .second, .val (.double mm), .second, .val (.double (FP.l2d Q)), .second, .val (.double (FP.dadd (FP.l2d Q) (4602678819172646912 : UInt64))), .second] [(.long ((2 : Int64) * R))] _
            refine XS.lload X154.here hx rfl (hb hby at_199) rfl ?_
            show SS p e below T154 m 201 #[.val (.long a), .second, .val (.long bb), .second, .val (.long cc), .second, .val (.long nanos), .second, .val (.int sign), .val (.long P), .second, .val (.long Q), .second, .val (.long R), .second, .val (.long mg), .second, .val (.int (1 : Int32)), .val (.long (-mg)), .second, .val (.double (FP.ddiv (FP.l2d (-mg)) (FP.l2d P))), .second, .val (.double mm), .second, .val (.double (FP.l2d Q)), .second, .val (.double (FP.dadd (FP.l2d Q) (4602678819172646912 : UInt64))), .second] [(.long P), (.long ((2 : Int64) * R))] _
            refine XS.lcmp X154.here hx rfl (hb hby at_201) rfl ?_
            show SS p e below T154 m 202 #[.val (.long a), .second, .val (.long bb), .second, .val (.long cc), .second, .val (.long nanos), .second, .val (.int sign), .val (.long P), .second, .val (.long Q), .second, .val (.long R), .second, .val (.long mg), .second, .val (.int (1 : Int32)), .val (.long (-mg)), .second, .val (.double (FP.ddiv (FP.l2d (-mg)) (FP.l2d P))), .second, .val (.double mm), .second, .val (.double (FP.l2d Q)), .second, .val (.double (FP.dadd (FP.l2d Q) (4602678819172646912 : UInt64))), .second] [(.int (lcmpW ((2 : Int64) * R) P))] _
            exact kt
          by_cases hc198 : P < ((2 : Int64) * R)
          ·
            have W199 : ∀ zQ, SS p e below T154 m 216 #[.val (.long a), .second, .val (.long bb), .second, .val (.long cc), .second, .val (.long nanos), .second, .val (.int sign), .val (.long P), .second, .val (.long Q), .second, .val (.long R), .second, .val (.long mg), .second, .val (.int (1 : Int32)), .val (.long (-mg)), .second, .val (.double (FP.ddiv (FP.l2d (-mg)) (FP.l2d P))), .second, .val (.double mm), .second, .val (.double (FP.l2d Q)), .second, .val (.double (FP.dadd (FP.l2d Q) (4602678819172646912 : UInt64))), .second] [(.int (1 : Int32))] zQ → Steps p.tables e below (s₁.setTop (entryFrame m #[(.long a), (.long bb), (.long cc), (.long nanos), (.int sign)] maxLocals)) zQ := by
              intro tt kt
              refine W197 tt ?_
              refine XS.ifNo X154.here hx rfl (hb hby at_202) rfl ((if0 _ _).trans (tlt ((lw_gt _ _).mpr hc198)).2.2.2) ?_
              show SS p e below T154 m 205 #[.val (.long a), .second, .val (.long bb), .second, .val (.long cc), .second, .val (.long nanos), .second, .val (.int sign), .val (.long P), .second, .val (.long Q), .second, .val (.long R), .second, .val (.long mg), .second, .val (.int (1 : Int32)), .val (.long (-mg)), .second, .val (.double (FP.ddiv (FP.l2d (-mg)) (FP.l2d P))), .second, .val (.double mm), .second, .val (.double (FP.l2d Q)), .second, .val (.double (FP.dadd (FP.l2d Q) (4602678819172646912 : UInt64))), .second] [] _
              refine XS.dload X154.here hx rfl (hb hby at_205) rfl ?_
              show SS p e below T154 m 207 #[.val (.long a), .second, .val (.long bb), .second, .val (.long cc), .second, .val (.long nanos), .second, .val (.int sign), .val (.long P), .second, .val (.long Q), .second, .val (.long R), .second, .val (.long mg), .second, .val (.int (1 : Int32)), .val (.long (-mg)), .second, .val (.double (FP.ddiv (FP.l2d (-mg)) (FP.l2d P))), .second, .val (.double mm), .second, .val (.double (FP.l2d Q)), .second, .val (.double (FP.dadd (FP.l2d Q) (4602678819172646912 : UInt64))), .second] [(.double mm)] _
              refine XS.dload X154.here hx rfl (hb hby at_207) rfl ?_
              show SS p e below T154 m 209 #[.val (.long a), .second, .val (.long bb), .second, .val (.long cc), .second, .val (.long nanos), .second, .val (.int sign), .val (.long P), .second, .val (.long Q), .second, .val (.long R), .second, .val (.long mg), .second, .val (.int (1 : Int32)), .val (.long (-mg)), .second, .val (.double (FP.ddiv (FP.l2d (-mg)) (FP.l2d P))), .second, .val (.double mm), .second, .val (.double (FP.l2d Q)), .second, .val (.double (FP.dadd (FP.l2d Q) (4602678819172646912 : UInt64))), .second] [(.double (FP.dadd (FP.l2d Q) (4602678819172646912 : UInt64))), (.double mm)] _
              refine XS.dcmpS X154.here hx rfl (hb hby at_209) rfl rfl ?_
              show SS p e below T154 m 210 #[.val (.long a), .second, .val (.long bb), .second, .val (.long cc), .second, .val (.long nanos), .second, .val (.int sign), .val (.long P), .second, .val (.long Q), .second, .val (.long R), .second, .val (.long mg), .second, .val (.int (1 : Int32)), .val (.long (-mg)), .second, .val (.double (FP.ddiv (FP.l2d (-mg)) (FP.l2d P))), .second, .val (.double mm), .second, .val (.double (FP.l2d Q)), .second, .val (.double (FP.dadd (FP.l2d Q) (4602678819172646912 : UInt64))), .second] [(.int (cmpValue (FP.dcmp mm (FP.dadd (FP.l2d Q) (4602678819172646912 : UInt64))) .l))] _
              refine XS.ifYes X154.here hx rfl (pc0 := 210) (pc' := 215) rfl (hb hby at_210) rfl ((if0 _ _).trans (tlt (hD.2.2.2.2.2 hc198)).2.2.1) (by decide) (by decide) ?_
              show SS p e below T154 m 215 #[.val (.long a), .second, .val (.long bb), .second, .val (.long cc), .second, .val (.long nanos), .second, .val (.int sign), .val (.long P), .second, .val (.long Q), .second, .val (.long R), .second, .val (.long mg), .second, .val (.int (1 : Int32)), .val (.long (-mg)), .second, .val (.double (FP.ddiv (FP.l2d (-mg)) (FP.l2d P))), .second, .val (.double mm), .second, .val (.double (FP.l2d Q)), .second, .val (.double (FP.dadd (FP.l2d Q) (4602678819172646912 : UInt64))), .second] [] _
              refine XS.iconst X154.here hx rfl (hb hby at_215) ?_
              show SS p e below T154 m 216 #[.val (.long a), .second, .val (.long bb), .second, .val (.long cc), .second, .val (.long nanos), .second, .val (.int sign), .val (.long P), .second, .val (.long Q), .second, .val (.long R), .second, .val (.long mg), .second, .val (.int (1 : Int32)), .val (.long (-mg)), .second, .val (.double (FP.ddiv (FP.l2d (-mg)) (FP.l2d P))), .second, .val (.double mm), .second, .val (.double (FP.l2d Q)), .second, .val (.double (FP.dadd (FP.l2d Q) (4602678819172646912 : UInt64))), .second] [(.int (1 : Int32))] _
              exact kt
            obtain ⟨fs, hr, hrun, hended, hW, hsame⟩ := X154.leave (v := some (.int (nar .boolean (1 : Int32)))) (fun h => by rw [Bd.returns] at h; cases h)
            refine ⟨_, _, W199 _ (retN X154 hx (t := .boolean) Bd.returns (by simp) (hb hby at_216) hr), hrun, hended, _, _, rfl, ?_, ⟨_, rfl⟩, hW, hsame.mono (by decide) (by decide)⟩
            show Q_law Z a bb cc nanos sign h0 n0 _ T154.heap _
            rw [eq154]
            exact ⟨rfl, N154, (Keep.trans (Keep.trans (Keep.refl h0 []) K152 all0) K153 (allS (Or.inr (Nat.le_of_eq g152.symm)) all0))⟩
          ·
            have W200 : ∀ zQ, SS p e below T154 m 216 #[.val (.long a), .second, .val (.long bb), .second, .val (.long cc), .second, .val (.long nanos), .second, .val (.int sign), .val (.long P), .second, .val (.long Q), .second, .val (.long R), .second, .val (.long mg), .second, .val (.int (1 : Int32)), .val (.long (-mg)), .second, .val (.double (FP.ddiv (FP.l2d (-mg)) (FP.l2d P))), .second, .val (.double mm), .second, .val (.double (FP.l2d Q)), .second, .val (.double (FP.dadd (FP.l2d Q) (4602678819172646912 : UInt64))), .second] [(.int (1 : Int32))] zQ → Steps p.tables e below (s₁.setTop (entryFrame m #[(.long a), (.long bb), (.long cc), (.long nanos), (.int sign)] maxLocals)) zQ := by
              intro tt kt
              refine W197 tt ?_
              refine XS.ifYes X154.here hx rfl (pc0 := 202) (pc' := 215) rfl (hb hby at_202) rfl ((if0 _ _).trans (flt (fun q => hc198 ((lw_gt _ _).mp q))).2.2.2) (by decide) (by decide) ?_
              show SS p e below T154 m 215 #[.val (.long a), .second, .val (.long bb), .second, .val (.long cc), .second, .val (.long nanos), .second, .val (.int sign), .val (.long P), .second, .val (.long Q), .second, .val (.long R), .second, .val (.long mg), .second, .val (.int (1 : Int32)), .val (.long (-mg)), .second, .val (.double (FP.ddiv (FP.l2d (-mg)) (FP.l2d P))), .second, .val (.double mm), .second, .val (.double (FP.l2d Q)), .second, .val (.double (FP.dadd (FP.l2d Q) (4602678819172646912 : UInt64))), .second] [] _
              refine XS.iconst X154.here hx rfl (hb hby at_215) ?_
              show SS p e below T154 m 216 #[.val (.long a), .second, .val (.long bb), .second, .val (.long cc), .second, .val (.long nanos), .second, .val (.int sign), .val (.long P), .second, .val (.long Q), .second, .val (.long R), .second, .val (.long mg), .second, .val (.int (1 : Int32)), .val (.long (-mg)), .second, .val (.double (FP.ddiv (FP.l2d (-mg)) (FP.l2d P))), .second, .val (.double mm), .second, .val (.double (FP.l2d Q)), .second, .val (.double (FP.dadd (FP.l2d Q) (4602678819172646912 : UInt64))), .second] [(.int (1 : Int32))] _
              exact kt
            obtain ⟨fs, hr, hrun, hended, hW, hsame⟩ := X154.leave (v := some (.int (nar .boolean (1 : Int32)))) (fun h => by rw [Bd.returns] at h; cases h)
            refine ⟨_, _, W200 _ (retN X154 hx (t := .boolean) Bd.returns (by simp) (hb hby at_216) hr), hrun, hended, _, _, rfl, ?_, ⟨_, rfl⟩, hW, hsame.mono (by decide) (by decide)⟩
            show Q_law Z a bb cc nanos sign h0 n0 _ T154.heap _
            rw [eq154]
            exact ⟨rfl, N154, (Keep.trans (Keep.trans (Keep.refl h0 []) K152 all0) K153 (allS (Or.inr (Nat.le_of_eq g152.symm)) all0))⟩
theorem own_eqint {args : Array Value} {s : State} {t : Term} {n : Int32} (h : (Jvm.Cond.eq t (Jvm.Term.int n)).value args s none s [] = some true) : t.eval args s none [] s = some (.int n) := by
  simp only [Cond.value, Term.eval] at h
  cases ht : t.eval args s none [] s with
  | none => simp [ht] at h
  | some x => cases x <;> simp [ht] at h ⊢; exact h
theorem own_eqlong {args : Array Value} {s : State} {t : Term} {n : Int64} (h : (Jvm.Cond.eq t (Jvm.Term.long n)).value args s none s [] = some true) : t.eval args s none [] s = some (.long n) := by
  simp only [Cond.value, Term.eval] at h
  cases ht : t.eval args s none [] s with
  | none => simp [ht] at h
  | some x => cases x <;> simp [ht] at h ⊢; exact h
theorem own_neint {args : Array Value} {s : State} {t : Term} {n x : Int32} (h : (Jvm.Cond.not (Jvm.Cond.eq t (Jvm.Term.int n))).value args s none s [] = some true) (e : t.eval args s none [] s = some (.int x)) : ¬ (x = n) := by
  simpa [Cond.value, Term.eval, e] using h
theorem own_eqref {args : Array Value} {s : State} {t u : Term} {b : Addr} (h : (Jvm.Cond.eq t u).value args s none s [] = some true) (hu : u.eval args s none [] s = some (.ref b)) : t.eval args s none [] s = some (.ref b) := by
  simp only [Cond.value, hu] at h
  cases ht : t.eval args s none [] s with
  | none => simp [ht] at h
  | some x => cases x <;> simp [ht] at h ⊢; exact h
theorem own_arrlen {args : Array Value} {s : State} {t : Term} {a : Addr} {cl : Cell} {ty : FieldType} {z : Int32} (ev : t.eval args s none [] s = some (.ref a)) (A : Arr s s.heap a cl ty) (h : (Term.length t).eval args s none [] s = some (.int z)) : cl.slots.size < 2 ^ 31 ∧ cl.slots.size.toInt32 = z := by
  have e := Arr.fin (U := s) (Vm.Alike.refl _) A
  simp only [Term.eval, ev, Option.bind_eq_bind, Option.bind_some, e] at h
  by_cases q : cl.slots.size < 2 ^ 31
  · simp [q] at h; exact ⟨q, h⟩
  · simp [q] at h
set_option maxRecDepth 65536 in
set_option maxHeartbeats 40000000 in
theorem comes_1 {Post : Tables → Env → Array Value → State → Outcome → State → Prop} (hpost : ∀ tb e args s v u, (limb_1_1.after args s (.returned v) u = true ∧ limb_1_2.after args s (.returned v) u = true ∧ True) → FrameEnd s (.returned v) u (Jvm.fieldLocs frame_1_writes args s ++ Jvm.arrayLocs frame_1_arrays args s ++ Jvm.staticLocs frame_1_statics s) 16 128 → Post tb e args s (.returned v) u) :
    ArmFor flags0 classFile x code maxLocals ret World_1 tables_1 room_1 Calls_1 rest_1 Pre_1 Post := by
  intro l hfl _ _ p e ha hc hk s m args below hf hA hF happ hP
  obtain ⟨hcalls, hrest, hpre⟩ := hP
  obtain ⟨-, -, -, hnamed, -, -, -, hat⟩ := (Spec.applies_iff hf).mp happ
  obtain ⟨hg, hn⟩ := and_e (Cond.before_iff.mp (show (Jvm.Cond.and given_1 narrow_1).before args s = true from hpre))
  obtain ⟨g1, g2⟩ := and_e hg
  obtain ⟨g3, g4⟩ := and_e g2
  obtain ⟨g5, g6⟩ := and_e g4
  obtain ⟨g7, g8⟩ := and_e g6
  obtain ⟨g9, g10⟩ := and_e g8
  obtain ⟨w0, w1, w2, w3, w4, rfl⟩ : ∃ w0 w1 w2 w3 w4 : Value, args = #[w0, w1, w2, w3, w4] := by
    have hs : args.size = 5 := by simpa [Cond.value, given_1] using g1
    obtain ⟨L⟩ := args
    match L, hs with
    | [w0, w1, w2, w3, w4], _ => exact ⟨w0, w1, w2, w3, w4, rfl⟩
  have hw := fun d (hd : d ∈ tables_1) => atoms_spec (ws := Jvm.Cond.code x code maxLocals ret :: tables_1) hat d (List.mem_cons_of_mem _ hd)
  have hfit : Fit s := fun {y c} hc i hi => by
    obtain ⟨ha, rfl⟩ := Array.getElem?_eq_some_iff.mp hc
    have q := List.all_eq_true.mp ((Array.all_eq_true_iff_forall_mem.mp hF) _ (Array.getElem_mem ha)) i (List.mem_range.mpr hi)
    simpa [Array.getElem?_eq_getElem hi] using q
  obtain ⟨i0, ei0⟩ := isL_v g3
  obtain rfl : w0 = (.long i0) := Option.some.inj ei0
  obtain ⟨i1, ei1⟩ := isL_v g5
  obtain rfl : w1 = (.long i1) := Option.some.inj ei1
  obtain ⟨i2, ei2⟩ := isL_v g7
  obtain rfl : w2 = (.long i2) := Option.some.inj ei2
  obtain ⟨i3, ei3⟩ := isL_v g9
  obtain rfl : w3 = (.long i3) := Option.some.inj ei3
  obtain ⟨i4, ei4⟩ := is_v g10
  obtain rfl : w4 = (.int i4) := Option.some.inj ei4
  obtain ⟨n, o, h1, h2, h3, _, L, rfl, ⟨rfl, N, _⟩, hq⟩ := rm_law l s _ hw tables_1 i0 i1 i2 i3 i4 s.heap s.heap.size (Nat.le_refl _)  p e ha hc hk s m _ below hf ((Spec.applies_iff_loose hf).mp happ).1 ⟨rfl, State.Warmed39.refl s, rfl⟩ trivial
  refine ⟨n, _, h1, h2, h3, hpost _ _ _ _ _ _ ⟨Cond.after_iff.mpr rfl, Cond.after_iff.mpr (eq_i res_at (Term.int_eval (1)) rfl), trivial⟩ ⟨hq.1, hq.2.1, (hq.2.2.sift fun y hy => Or.inr (N y hy)).mono (by decide) (by decide)⟩⟩
theorem main_1_1 : Claimed_1_1 := comes_1 fun _ _ _ _ _ _ h hF => ⟨h.1, hF⟩
theorem main_1_2 : Claimed_1_2 := comes_1 fun _ _ _ _ _ _ h hF => ⟨h.2.1, hF⟩

end Jvm.Pilot.@@N@@
namespace Jvm.Pilot.@@N@@
open Jvm Jvm.ClassFile Sem Op Lib Jvm.Free Jvm.Stand Jvm.Pilot.@@N@@.Jvm.D
/-! MADE BY PROGRAM (witnessworld.py) out of the Statement's table words and the real class files: 10 classes; the members and pool entries that the words name. The judged class is class 1, her method 1. -/
namespace start1
open Jvm.ClassFile
def u (s : String) : CpInfo := .utf8 (stringToUtf16 s)
/-- a pool by its gaps: so many unusable entries, then the entry; so many at the end -/
def gap : Nat → List CpInfo → List CpInfo
  | 0, r => r
  | n + 1, r => .unusable :: gap n r
def poolList (es : List (Nat × CpInfo)) (last : Nat) : List CpInfo := es.foldr (fun e r => gap e.1 (e.2 :: r)) (gap last [])
def pool (es : List (Nat × CpInfo)) (last : Nat) : Array CpInfo := ⟨poolList es last⟩
def fileOf (pool : Array CpInfo) (this : Nat) (attrs : Array Attribute := #[]) (ms : Array MethodInfo := #[]) (fl : Nat := 33) (sup : Nat := 0) (ifs : Array Nat := #[]) (fds : Array FieldInfo := #[]) : ClassFile where
  minorVersion := 0
  majorVersion := 65
  constantPool := pool
  accessFlags := fl
  thisClass := this
  superClass := sup
  interfaces := ifs
  fields := fds
  methods := ms
  attributes := attrs
def plain (name : String) (sup : Option ClassId) : Class where
  name := name
  kind := .ordinary
  loader := none
  accessFlags := 33
  super := sup
  interfaces := #[]
  cf := none
  fields := #[]
  methods := #[]
  instanceTypes := #[]
  staticTypes := #[]
  resolved := #[]
  callSites := []
  init := .initialized
  statics := none
  mirror := none

def pool0 : Array CpInfo := pool [(5, u "<init>"), (0, u "()V"), (1, .class_ 10), (1, u "java/lang/Object")] 113

def k0c0 : Code := { maxStack := 0, maxLocals := 1, code := object_method_1_code, exceptionTable := #[], attributes := #[] }
def k0m0 : Method := { name := "<init>", desc := "()V", sig := { parameters := [], returnType := none }, accessFlags := 1, code := some k0c0 }
/-- java/lang/Object -/
def k0 : Class := { plain "java/lang/Object" none with
  accessFlags := 33
  interfaces := #[]
  cf := some (fileOf pool0 8 #[] #[{ accessFlags := 1, nameIndex := 5, descriptorIndex := 6, attributes := #[] }] 33 0 #[] #[])
  fields := #[]
  methods := #[k0m0]
  instanceTypes := #[]
  staticTypes := #[]
  resolved := Array.replicate 124 none
  statics := none }

def pool1 : Array CpInfo := pool [(2, .class_ 4), (1, u "java/lang/Object"), (0, u "<init>"), (0, u "()V"), (0, .long 1048575), (1, .long 2147483647), (1, .class_ 12), (0, u "com/example/evenkeel/evenkeel/cli/PickCost"), (0, .methodref 11 14), (0, .nameAndType 5 15), (0, u "(JJJ)V"), (0, .methodref 11 17), (0, .nameAndType 18 19), (0, u "bytesPerPick"), (0, u "()D"), (0, .double 4602678819172646912), (1, .long 2), (1, .class_ 25), (0, u "com/example/evenkeel/evenkeel/cli/PickCostBytesPerPickPinLaw"), (2, u "law"), (0, u "(JJJJI)Z")] 3

def k1m0 : Method := { name := "<init>", desc := "()V", sig := { parameters := [], returnType := none }, accessFlags := 2, code := none }
def k1c1 : Code := { maxStack := 8, maxLocals := 28, code := code, exceptionTable := #[], attributes := #[] }
def k1m1 : Method := { name := "law", desc := "(JJJJI)Z", sig := { parameters := [.long, .long, .long, .long, .int], returnType := some .boolean }, accessFlags := 9, code := some k1c1 }
/-- com/example/evenkeel/evenkeel/cli/PickCostBytesPerPickPinLaw -/
def k1 : Class := { plain "com/example/evenkeel/evenkeel/cli/PickCostBytesPerPickPinLaw" (some 0) with
  accessFlags := 49
  interfaces := #[]
  cf := some (fileOf pool1 24 #[] #[{ accessFlags := 2, nameIndex := 5, descriptorIndex := 6, attributes := #[] }, { accessFlags := 9, nameIndex := 28, descriptorIndex := 29, attributes := #[] }] 49 2 #[] #[])
  fields := #[]
  methods := #[k1m0, k1m1]
  instanceTypes := #[]
  staticTypes := #[]
  resolved := Array.replicate 33 none
  statics := none }

def pool2 : Array CpInfo := pool [(1, .methodref 2 3), (0, .class_ 4), (0, .nameAndType 5 6), (0, u "java/lang/Object"), (0, u "<init>"), (0, u "()V"), (0, .class_ 8), (0, u "java/lang/Record")] 13

def k2c0 : Code := { maxStack := 1, maxLocals := 1, code := jdk_30_method_1_code, exceptionTable := #[], attributes := #[] }
def k2m0 : Method := { name := "<init>", desc := "()V", sig := { parameters := [], returnType := none }, accessFlags := 4, code := some k2c0 }
/-- java/lang/Record -/
def k2 : Class := { plain "java/lang/Record" (some 0) with
  accessFlags := 1057
  interfaces := #[]
  cf := some (fileOf pool2 7 #[] #[{ accessFlags := 4, nameIndex := 5, descriptorIndex := 6, attributes := #[] }] 1057 2 #[] #[])
  fields := #[]
  methods := #[k2m0]
  instanceTypes := #[]
  staticTypes := #[]
  resolved := Array.replicate 22 none
  statics := none }

def pool3 : Array CpInfo := pool [(1, .methodref 2 3), (0, .class_ 4), (0, .nameAndType 5 6), (0, u "java/lang/Record"), (0, u "<init>"), (0, u "()V"), (0, .fieldref 8 9), (0, .class_ 10), (0, .nameAndType 11 12), (0, u "com/example/evenkeel/evenkeel/cli/PickCost"), (0, u "picks"), (0, u "J"), (0, .fieldref 8 14), (0, .nameAndType 15 12), (0, u "nanos"), (0, .fieldref 8 17), (0, .nameAndType 18 12), (0, u "bytes"), (33, .class_ 53), (0, u "com/example/evenkeel/evenkeel/cli/PickCost$Picker"), (21, u "(JJJ)V"), (12, u "BATCH_NANOS"), (3, u "MAX_BATCH"), (0, u "I"), (5, u "()D"), (0, u "bytesPerPick")] 32

def k3c0 : Code := { maxStack := 3, maxLocals := 7, code := prog_22_method_1_code, exceptionTable := #[], attributes := #[] }
def k3m0 : Method := { name := "<init>", desc := "(JJJ)V", sig := { parameters := [.long, .long, .long], returnType := none }, accessFlags := 0, code := some k3c0 }
def k3c1 : Code := { maxStack := 4, maxLocals := 1, code := prog_22_method_3_code, exceptionTable := #[], attributes := #[] }
def k3m1 : Method := { name := "bytesPerPick", desc := "()D", sig := { parameters := [], returnType := some .double }, accessFlags := 0, code := some k3c1 }
/-- com/example/evenkeel/evenkeel/cli/PickCost -/
def k3 : Class := { plain "com/example/evenkeel/evenkeel/cli/PickCost" (some 2) with
  accessFlags := 48
  interfaces := #[]
  cf := some (fileOf pool3 8 #[.nestMembers #[52]] #[{ accessFlags := 0, nameIndex := 5, descriptorIndex := 75, attributes := #[] }, { accessFlags := 0, nameIndex := 100, descriptorIndex := 99, attributes := #[] }] 48 2 #[] #[{ accessFlags := 18, nameIndex := 11, descriptorIndex := 12, attributes := #[] }, { accessFlags := 18, nameIndex := 15, descriptorIndex := 12, attributes := #[] }, { accessFlags := 18, nameIndex := 18, descriptorIndex := 12, attributes := #[] }, { accessFlags := 26, nameIndex := 88, descriptorIndex := 12, attributes := #[] }, { accessFlags := 26, nameIndex := 92, descriptorIndex := 93, attributes := #[] }])
  fields := #[{ name := "picks", type := .long, accessFlags := 18, slot := 0, constantValue := 0 }, { name := "nanos", type := .long, accessFlags := 18, slot := 1, constantValue := 0 }, { name := "bytes", type := .long, accessFlags := 18, slot := 2, constantValue := 0 }, { name := "BATCH_NANOS", type := .long, accessFlags := 26, slot := 0, constantValue := 0 }, { name := "MAX_BATCH", type := .int, accessFlags := 26, slot := 1, constantValue := 0 }]
  methods := #[k3m0, k3m1]
  instanceTypes := #[.long, .long, .long]
  staticTypes := #[.long, .int]
  resolved := Array.replicate 133 none
  statics := none }

def pool4 : Array CpInfo := pool [(1, u "java/lang/Cloneable"), (0, .class_ 1), (0, u "java/lang/Object"), (0, .class_ 3)] 3

/-- java/lang/Cloneable -/
def k4 : Class := { plain "java/lang/Cloneable" (some 0) with
  accessFlags := 1537
  interfaces := #[]
  cf := some (fileOf pool4 2 #[] #[] 1537 4 #[] #[])
  fields := #[]
  methods := #[]
  instanceTypes := #[]
  staticTypes := #[]
  resolved := Array.replicate 8 none
  statics := none }

def pool5 : Array CpInfo := pool [(1, u "java/io/Serializable"), (0, .class_ 1), (0, u "java/lang/Object"), (0, .class_ 3)] 3

/-- java/io/Serializable -/
def k5 : Class := { plain "java/io/Serializable" (some 0) with
  accessFlags := 1537
  interfaces := #[]
  cf := some (fileOf pool5 2 #[] #[] 1537 4 #[] #[])
  fields := #[]
  methods := #[]
  instanceTypes := #[]
  staticTypes := #[]
  resolved := Array.replicate 8 none
  statics := none }

/-- the primitive byte -/
def k6 : Class := { plain "byte" none with kind := .primitive 'B', accessFlags := 0x411 }
/-- [B -/
def k7 : Class := { plain "[B" (some 0) with kind := .array 6 .byte, interfaces := #[4, 5], accessFlags := 1041 }

/-- the primitive int -/
def k8 : Class := { plain "int" none with kind := .primitive 'I', accessFlags := 0x411 }
/-- [I -/
def k9 : Class := { plain "[I" (some 0) with kind := .array 8 .int, interfaces := #[4, 5], accessFlags := 1041 }

def heap : Heap := #[]
def classes : Array Class := #[k0, k1, k2, k3, k4, k5, k6, k7, k8, k9]
def interned : List (Array UInt16 × Addr) := []
def slotsUsed : Nat := 0
def theMethod : MethodId := ⟨1, 1⟩
def args0 : Array Value := #[.long 5, .long 5, .long 5, .long 5, .int 5]
def aboutOver (below : List Frame) : State where
  vm := { classes := classes, interned := interned.toArray }
  heap := heap
  slotsUsed := slotsUsed
  threads := #[{ frames := .invoking theMethod args0 :: below }]
def below0 : List Frame := [.native { method := ⟨0, 0⟩, args := #[] }]
def about1 : State := aboutOver below0
def p0 : Program := .bare "" "" ""
def e0 : Env := launch0.env 0 0 0
theorem w_frames : about1.frames = Frame.invoking theMethod args0 :: below0 := rfl
set_option maxRecDepth 65536 in
theorem w_args : argsFit about1.vm theMethod args0 = true := by decide +kernel
set_option maxRecDepth 65536 in
theorem w_heap : heapFits about1 = true := by decide +kernel
set_option maxRecDepth 65536 in
theorem w_runnable : about1.curStatus? = some .runnable := by decide +kernel
set_option maxRecDepth 65536 in
theorem w_alone : about1.alone = true := by decide +kernel
set_option maxRecDepth 65536 in
theorem w_named : about1.methodNamed? x = some theMethod := by decide +kernel
set_option maxRecDepth 65536 in
theorem w_hears : about1.hears theMethod below0 = true := by decide +kernel
set_option maxRecDepth 65536 in
theorem w_ripe : about1.ripe theMethod args0 below0 = true := by decide +kernel
theorem w_running : about1.status = .running := rfl
set_option maxRecDepth 65536 in
theorem w_room : about1.hasRoom e0.platform room_1 = true :=
  launch0.hasRoom_least _ room_1 (by decide +kernel) (by decide +kernel) (by decide +kernel) (by decide +kernel) (by decide +kernel) (by decide +kernel)
theorem allAtoms_all (ts : List Jvm.Cond) (a : Array Jvm.Value) (st : Jvm.State) : (allAtoms ts).before a st = ts.all (fun c => c.before a st) := by
  induction ts with
  | nil => rfl
  | cons c t ih =>
    show (Jvm.Cond.and c (allAtoms t)).before a st = _
    rw [Jvm.Cond.before_and, ih, List.all_cons]
def words1 : List Jvm.Cond := Jvm.Cond.code x code maxLocals ret :: tables_1
/-- a 'code' word, met by the world's own term for the bytes: nothing is compared byte by byte -/
theorem code_word {y : MethodName} {bytes : ByteArray} {mx : Nat} {rt : Option FieldType} {a : Array Value} {s : State} {m : MethodId} {meth : Method} {c : Code} (h1 : s.methodNamed? y = some m) (h2 : s.vm.method? m = some meth) (h3 : meth.code = some c) (h4 : c.code = bytes)
    (h5 : (c.maxLocals == mx && c.exceptionTable.isEmpty && decide (c.maxStack ≤ mostOperands) && decide (meth.sig.returnType = rt) && !meth.locks && decide (parseMethodDescriptor y.desc = some meth.sig)) = true) : (Jvm.Cond.code y bytes mx rt).before a s = true := by
  simp only [Bool.and_eq_true, beq_iff_eq, Bool.not_eq_true', decide_eq_true_eq] at h5
  obtain ⟨⟨⟨⟨⟨g1, g2⟩, g3⟩, g4⟩, g5⟩, g6⟩ := h5
  simp [Cond.before, Cond.holds, Cond.value, h1, h2, h3, h4, g1, g2, g3, g4, g5, g6]
def isCode : Jvm.Cond → Bool
  | .code _ _ _ _ => true
  | _ => false
theorem all_split {L : List Jvm.Cond} {P : Jvm.Cond → Bool} (h1 : L.all (fun c => isCode c || P c) = true) (h2 : ∀ c ∈ L.filter isCode, P c = true) : L.all P = true := by
  refine List.all_eq_true.mpr fun c hc => ?_
  have h := List.all_eq_true.mp h1 c hc
  rcases Bool.eq_false_or_eq_true (isCode c) with hi | hi
  · exact h2 c (List.mem_filter.mpr ⟨hc, hi⟩)
  · simpa [hi] using h
set_option maxRecDepth 65536 in
theorem w_c0 : (Jvm.Cond.code x code maxLocals ret).before args0 about1 = true := code_word (m := ⟨1, 1⟩) (meth := k1m1) (c := k1c1) (by decide +kernel) rfl rfl rfl (by decide +kernel)
set_option maxRecDepth 65536 in
theorem w_c1 : (Jvm.Cond.code ({ cls := "com/example/evenkeel/evenkeel/cli/PickCost", name := "<init>", desc := "(JJJ)V" } : Jvm.MethodName) prog_22_method_1_code (7 : Nat) (Option.none : Option Jvm.ClassFile.FieldType)).before args0 about1 = true := code_word (m := ⟨3, 0⟩) (meth := k3m0) (c := k3c0) (by decide +kernel) rfl rfl rfl (by decide +kernel)
set_option maxRecDepth 65536 in
theorem w_c2 : (Jvm.Cond.code ({ cls := "java/lang/Record", name := "<init>", desc := "()V" } : Jvm.MethodName) jdk_30_method_1_code (1 : Nat) (Option.none : Option Jvm.ClassFile.FieldType)).before args0 about1 = true := code_word (m := ⟨2, 0⟩) (meth := k2m0) (c := k2c0) (by decide +kernel) rfl rfl rfl (by decide +kernel)
set_option maxRecDepth 65536 in
theorem w_c3 : (Jvm.Cond.code ({ cls := "java/lang/Object", name := "<init>", desc := "()V" } : Jvm.MethodName) object_method_1_code (1 : Nat) (Option.none : Option Jvm.ClassFile.FieldType)).before args0 about1 = true := code_word (m := ⟨0, 0⟩) (meth := k0m0) (c := k0c0) (by decide +kernel) rfl rfl rfl (by decide +kernel)
set_option maxRecDepth 65536 in
theorem w_c4 : (Jvm.Cond.code ({ cls := "com/example/evenkeel/evenkeel/cli/PickCost", name := "bytesPerPick", desc := "()D" } : Jvm.MethodName) prog_22_method_3_code (1 : Nat) (Option.some Jvm.ClassFile.FieldType.double)).before args0 about1 = true := code_word (m := ⟨3, 1⟩) (meth := k3m1) (c := k3c1) (by decide +kernel) rfl rfl rfl (by decide +kernel)
def codes1 : List Jvm.Cond := [Jvm.Cond.code x code maxLocals ret, Jvm.Cond.code ({ cls := "com/example/evenkeel/evenkeel/cli/PickCost", name := "<init>", desc := "(JJJ)V" } : Jvm.MethodName) prog_22_method_1_code (7 : Nat) (Option.none : Option Jvm.ClassFile.FieldType), Jvm.Cond.code ({ cls := "java/lang/Record", name := "<init>", desc := "()V" } : Jvm.MethodName) jdk_30_method_1_code (1 : Nat) (Option.none : Option Jvm.ClassFile.FieldType), Jvm.Cond.code ({ cls := "java/lang/Object", name := "<init>", desc := "()V" } : Jvm.MethodName) object_method_1_code (1 : Nat) (Option.none : Option Jvm.ClassFile.FieldType), Jvm.Cond.code ({ cls := "com/example/evenkeel/evenkeel/cli/PickCost", name := "bytesPerPick", desc := "()D" } : Jvm.MethodName) prog_22_method_3_code (1 : Nat) (Option.some Jvm.ClassFile.FieldType.double)]
set_option maxRecDepth 65536 in
theorem codes_eq : words1.filter isCode = codes1 := rfl
theorem w_codes : ∀ c ∈ words1.filter isCode, c.before args0 about1 = true := by
  rw [codes_eq]
  intro c hc
  simp only [codes1, List.mem_cons, List.not_mem_nil, or_false] at hc
  rcases hc with rfl | rfl | rfl | rfl | rfl
  · exact w_c0
  · exact w_c1
  · exact w_c2
  · exact w_c3
  · exact w_c4
set_option maxRecDepth 65536 in
theorem w_t1 : (words1.take 24).all (fun c => isCode c || c.before args0 about1) = true := by decide +kernel
set_option maxRecDepth 65536 in
theorem w_t2 : (words1.drop 24).all (fun c => isCode c || c.before args0 about1) = true := by decide +kernel
theorem w_tables : (allAtoms (Jvm.Cond.code x code maxLocals ret :: tables_1)).before args0 about1 = true := by
  rw [allAtoms_all]
  show words1.all (fun c => c.before args0 about1) = true
  refine all_split ?_ w_codes
  rw [← List.take_append_drop 24 words1, List.all_append, w_t1, w_t2]
  rfl
set_option maxRecDepth 65536 in
theorem w_case : (Jvm.Cond.and given_1 narrow_1).before args0 about1 = true := by decide +kernel
theorem w_applies : (headSpec (Jvm.Cond.code x code maxLocals ret :: tables_1) room_1).applies x e0.platform about1 = true :=
  (Spec.applies_iff w_frames).mpr ⟨w_running, w_runnable, w_alone, w_named, w_hears, w_ripe, w_room, w_tables⟩
theorem atStart : AtStart classFile x code maxLocals ret World_1 tables_1 room_1 Calls_1 rest_1 Pre_1 launch0 p0 e0 about1 theMethod args0 below0 :=
  ⟨lists_1, trivial, launch0.admits_env _ _ _, launch0.least_env, fairChoices_fair.cas, fairChoices_fair.clock, w_frames, w_args, w_heap, w_applies, trivial, trivial, w_case⟩
end start1
theorem witness_1 : WitnessClaimed_1 := ⟨start1.p0, start1.e0, start1.about1, start1.theMethod, start1.args0, start1.below0, start1.atStart⟩
end Jvm.Pilot.@@N@@
